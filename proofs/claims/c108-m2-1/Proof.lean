import JvmDerived
import JvmDerived.Pilot.@@N@@Statement
import JvmDerived.Pilot.@@N@@Code
set_option linter.unusedVariables false
set_option linter.unusedSimpArgs false
namespace Jvm.RoadKit
open Sem ClassFile Op Lib Jvm.Stand Jvm.Free Jvm.LawKit
section New
variable {p : Program} {l : Launch} {e : Env} {R : Room} {s : State} {m : MethodId} {args : Array Value} {below : List Frame} {meth : Method} {c : Code} {T : State} {locs : List Loc} {cells slots : Nat}
theorem retI (X : Stand p l e R s m args below meth c T locs cells slots) (hx : p.tables.exec = Jvm.exec) {pc : Nat} {Ls : Array Slot} {z : Int32} {rest : List Value} (hret : meth.sig.returnType = some .int) (hd : decode c.code pc = .ok (.ireturn, 1)) {fs : List Frame}
    (hl : ∀ (f : JFrame) (acts : List Action), f.method = m → f.locked = none → f.entered = [] → (doReturn e (T.setTop f) acts (some (.int z))).1 = T.setFrames fs) : Steps p.tables e below (T.setTop (mkF m pc Ls (.int z :: rest))) (T.setFrames fs) :=
  retOut X hx hret rfl (Or.inl ⟨rfl, Or.inl rfl, _, rfl⟩) hd hl
theorem own_retL (X : Stand p l e R s m args below meth c T locs cells slots) (hx : p.tables.exec = Jvm.exec) {pc : Nat} {Ls : Array Slot} {z : Int64} {rest : List Value} (hret : meth.sig.returnType = some .long) (hd : decode c.code pc = .ok (.lreturn, 1)) {fs : List Frame}
    (hl : ∀ (f : JFrame) (acts : List Action), f.method = m → f.locked = none → f.entered = [] → (doReturn e (T.setTop f) acts (some (.long z))).1 = T.setFrames fs) : Steps p.tables e below (T.setTop (mkF m pc Ls (.long z :: rest))) (T.setFrames fs) :=
  retOut X hx hret rfl (Or.inr (Or.inl ⟨rfl, rfl, _, rfl⟩)) hd hl
theorem own_retA (X : Stand p l e R s m args below meth c T locs cells slots) (hx : p.tables.exec = Jvm.exec) {pc : Nat} {Ls : Array Slot} {z : Addr} {rest : List Value} {t : FieldType} (hret : meth.sig.returnType = some t) (ht : t.isReference = true) (hd : decode c.code pc = .ok (.areturn, 1)) {fs : List Frame}
    (hl : ∀ (f : JFrame) (acts : List Action), f.method = m → f.locked = none → f.entered = [] → (doReturn e (T.setTop f) acts (some (.ref z))).1 = T.setFrames fs) : Steps p.tables e below (T.setTop (mkF m pc Ls (.ref z :: rest))) (T.setFrames fs) :=
  retOut X hx hret (by cases t <;> first | rfl | (cases ht; done)) (Or.inr (Or.inr (Or.inr (Or.inr ⟨rfl, ht, rfl⟩)))) hd hl
theorem own_lrem {g : JFrame} {target : State} (X : Stand p l e R s m args below meth c T locs cells slots) (hx : p.tables.exec = Jvm.exec) (hg : g.method = m) {x y : Int64} {rest : List Value} (hd : decode c.code g.pc = .ok (.lrem, 1)) (hs : g.stack = .long y :: .long x :: rest) (hy : y ≠ 0)
    (hr : Steps p.tables e below (T.setTop { g with pc := g.pc + 1, stack := .long (x % y) :: rest }) target) : Steps p.tables e below (T.setTop g) target :=
  XS.lrem X.here hx hg hd hs hy (by rw [lrem_mod]; exact hr)
end New
/-- one step of a walk whose end is still to be found -/
theorem own_by {tb : Tables} {e : Env} {below : List Frame} {A A' : State} {P : State → Outcome → Prop} (k : ∀ t, Steps tb e below A' t → Steps tb e below A t) (h : ∃ s₂ o, Steps tb e below A' s₂ ∧ P s₂ o) : ∃ s₂ o, Steps tb e below A s₂ ∧ P s₂ o := by
  obtain ⟨s₂, o, h1, h2⟩ := h; exact ⟨s₂, o, k _ h1, h2⟩
theorem own_st {tb : Tables} {e : Env} {below : List Frame} {A A' t : State} (k : ∀ t, Steps tb e below A' t → Steps tb e below A t) (h : Steps tb e below A' t) : Steps tb e below A t := k _ h
/-- all roads that meet again -/
theorem own_cut {tb : Tables} {e : Env} {below : List Frame} {A : State} {P : State → Outcome → Prop} {Φ : State → Prop} (h1 : (∀ A', Φ A' → ∃ s₂ o, Steps tb e below A' s₂ ∧ P s₂ o) → ∃ s₂ o, Steps tb e below A s₂ ∧ P s₂ o) (h2 : ∀ A', Φ A' → ∃ s₂ o, Steps tb e below A' s₂ ∧ P s₂ o) : ∃ s₂ o, Steps tb e below A s₂ ∧ P s₂ o := h1 h2
/-- an array: its kind, its length, and what each place holds -/
def AF (Z : State) (h : Heap) (a : Addr) (ty : FieldType) (n : Int32) (f : Nat → Value) : Prop := ∃ c : Cell, Arr Z h a c ty ∧ c.slots.size = n.toNatClampNeg ∧ ¬ n < 0 ∧ ∀ i, i < c.slots.size → c.slots[i]? = some (f i)
section AFs
variable {Z : State} {h h' : Heap} {a b : Addr} {ty : FieldType} {n : Int32} {f f' : Nat → Value} {v : Value} {sl : Nat} {ws : List Addr}
theorem AF.lt (F : AF Z h a ty n f) : a < h.size := by obtain ⟨c, A, -⟩ := F; exact A.lt
theorem AF.ext (F : AF Z h a ty n f) (E : Ext h h') : AF Z h' a ty n f := by obtain ⟨c, A, r⟩ := F; exact ⟨c, A.ext E, r⟩
theorem AF.other (F : AF Z h b ty n f) (W : Wr h h' a sl v) (q : b ≠ a) : AF Z h' b ty n f := by obtain ⟨c, A, r⟩ := F; exact ⟨c, A.other W q, r⟩
theorem AF.keep (F : AF Z h a ty n f) (K : Keep h h' ws) (q : a ∉ ws) : AF Z h' a ty n f := by obtain ⟨c, A, r⟩ := F; exact ⟨c, ⟨K.2.1 a c A.1 q, A.2⟩, r⟩
theorem AF.to (F : AF Z h a ty n f) (q : ∀ i, i < n.toNatClampNeg → f i = f' i) : AF Z h a ty n f' := by
  obtain ⟨c, A, S, M, H⟩ := F; exact ⟨c, A, S, M, fun i hi => by rw [← q i (S ▸ hi)]; exact H i hi⟩
theorem AF.new {k : ClassId} (A : Arr Z h a (newA k ty n) ty) (q : ¬ n < 0) : AF Z h a ty n (fun _ => defaultValue ty) := ⟨_, A, sz_new _ _ _, q, fun i hi => by rw [sz_new] at hi; simp [newA, hi]⟩
theorem AF.set {c : Cell} {j : Int32} (A : Arr Z h a c ty) (S : c.slots.size = n.toNatClampNeg) (M : ¬ n < 0) (H : ∀ i, i < c.slots.size → c.slots[i]? = some (f i)) (hj : ¬ (j < 0 ∨ c.slots.size ≤ j.toNatClampNeg)) (W : Wr h h' a j.toNatClampNeg v) :
    AF Z h' a ty n (fun i => if i = j.toNatClampNeg then v else f i) := by
  refine ⟨_, A.same W, by rw [sz_set]; exact S, M, fun i hi => ?_⟩
  rw [sz_set] at hi
  have hj' : j.toNatClampNeg < c.slots.size := Nat.lt_of_not_le fun q => hj (Or.inr q)
  by_cases u : i = j.toNatClampNeg
  · subst u; simp [Cell.setSlot, hj']
  · have := H i hi; simp only [Cell.setSlot, if_neg u]
    rw [Array.getElem?_setIfInBounds_ne (Ne.symm u)]; exact this
end AFs
end Jvm.RoadKit
namespace Jvm.Pilot.@@N@@
open Jvm Jvm.ClassFile Sem Op Lib Jvm.Free Jvm.Stand Jvm.LawKit Jvm.RoadKit Bundle Jvm.Pilot.@@N@@.Jvm.D
def own_f10 (q0 : Int64) (p1 : Int32) : Int32 := (nar .byte ((((q0.toUInt64 >>> (((8 : Int32) * p1) &&& 0x3f).toInt64.toUInt64).toInt64).toInt32).toInt8.toInt32))
theorem pn_0 : plainName "com/example/honeyguide/honeyguide/index/KeyHashCodePinLaw" = true := by first | (simp [plainName, overriddenIn]; done) | decide +kernel
theorem d10_0 : decode method_3_code 0 = .ok (.lload_n 0, 1) := by decide +kernel
theorem d10_1 : decode method_3_code 1 = .ok (.bipush 8, 2) := by decide +kernel
theorem d10_3 : decode method_3_code 3 = .ok (.iload_n 2, 1) := by decide +kernel
theorem d10_4 : decode method_3_code 4 = .ok (.imul, 1) := by decide +kernel
theorem d10_5 : decode method_3_code 5 = .ok (.lushr, 1) := by decide +kernel
theorem d10_6 : decode method_3_code 6 = .ok (.l2i, 1) := by decide +kernel
theorem d10_7 : decode method_3_code 7 = .ok (.i2b, 1) := by decide +kernel
theorem d10_8 : decode method_3_code 8 = .ok (.ireturn, 1) := by decide +kernel
theorem ef_rm10 (m : MethodId) (q0 : Int64) (p1 : Int32) : entryFrame m #[(.long q0), (.int p1)] 3 = mkF m 0 #[.val (.long q0), .second, .val (.int p1)] [] := by first | (simp [entryFrame, mkF, argsToLocals, Value.category]; done) | rfl
def Q10 (Z : State) (q0 : Int64) (p1 : Int32) (h0 : Heap) (n0 : Nat) (v : Option Value) (h : Heap) (L : List Loc) : Prop := v = some (.int (own_f10 q0 p1)) ∧ Fr n0 L ∧ h = h0
set_option maxRecDepth 65536 in
set_option maxHeartbeats 40000000 in
theorem rm10 (l : Launch) (Z : State) (aw : Array Value) (hw : ∀ d ∈ tables_1, d.before aw Z = true) (ws : List Jvm.Cond) (q0 : Int64) (p1 : Int32) (h0 : Heap) (n0 : Nat) (Z0 : n0 ≤ h0.size) :
    MetFree l (⟨"com/example/honeyguide/honeyguide/index/KeyHashCodePinLaw", "at", "(JI)B"⟩ : MethodName) (head1 (Jvm.Cond.code (⟨"com/example/honeyguide/honeyguide/index/KeyHashCodePinLaw", "at", "(JI)B"⟩ : MethodName) method_3_code 3 (some .byte) :: ws) ({ frames := 0, cells := 0, slots := 0, locals := 0 } : Room)) (fun a U => a = #[(.long q0), (.int p1)] ∧ Z.Warmed39 U.vm ∧ U.heap = h0) (fun _ _ _ _ _ => True) (fun _ U o U' => ∃ v L, o = .returned v ∧ Q10 Z q0 p1 h0 n0 v U'.heap L ∧ FrameEnd U o U' L ({ frames := 0, cells := 0, slots := 0, locals := 0 } : Room).cells ({ frames := 0, cells := 0, slots := 0, locals := 0 } : Room).slots) := by
  refine MetFree.of_bodySF (plainFor_of_name pn_0) hisR ?_
  intro p e s m args below meth c s₁ Bd hml0 hP hK
  obtain ⟨rfl, hZ, hh⟩ := hP
  have hx := Bd.exec
  have hby := Bd.bytes
  have hml : c.maxLocals = 3 := hml0
  have hown : s.vm.findClass "com/example/honeyguide/honeyguide/index/KeyHashCodePinLaw" = some m.cls := findClass_of_methodNamed Bd.named
  have hnm := (name_of_methodNamed Bd.named Bd.method).1
  have X0 : Stand p l e ({ frames := 0, cells := 0, slots := 0, locals := 0 } : Room) s m #[(.long q0), (.int p1)] below meth c s₁ [] 0 0 := Stand.of_body Bd
  have e0 : s₁.heap = h0 := by rw [← hh, Bd.state]; rfl
  have N0 := Fr.nil n0
  have K0 : Keep h0 h0 [] := Keep.refl _ _
  refine own_by (A' := s₁.setTop (mkF m 0 #[.val (.long q0), .second, .val (.int p1)] [])) (fun t k => castTop (ef_rm10 m q0 p1) k) ?_
  refine own_by (A' := s₁.setTop (mkF m 8 #[.val (.long q0), .second, .val (.int p1)] [(.int ((((q0.toUInt64 >>> (((8 : Int32) * p1) &&& 0x3f).toInt64.toUInt64).toInt64).toInt32).toInt8.toInt32))])) (fun t kt => ?_) ?_
  · show Steps p.tables e below (s₁.setTop (mkF m 0 #[.val (.long q0), .second, .val (.int p1)] [])) t
    refine XS.lloadN X0.here hx rfl (hb hby d10_0) rfl ?_
    show Steps p.tables e below (s₁.setTop (mkF m 1 #[.val (.long q0), .second, .val (.int p1)] [(.long q0)])) t
    refine XS.bipush X0.here hx rfl (hb hby d10_1) ?_
    show Steps p.tables e below (s₁.setTop (mkF m 3 #[.val (.long q0), .second, .val (.int p1)] [(.int (8 : Int32)), (.long q0)])) t
    refine XS.iloadN X0.here hx rfl (hb hby d10_3) rfl ?_
    show Steps p.tables e below (s₁.setTop (mkF m 4 #[.val (.long q0), .second, .val (.int p1)] [(.int p1), (.int (8 : Int32)), (.long q0)])) t
    refine XS.imul X0.here hx rfl (hb hby d10_4) rfl ?_
    show Steps p.tables e below (s₁.setTop (mkF m 5 #[.val (.long q0), .second, .val (.int p1)] [(.int ((8 : Int32) * p1)), (.long q0)])) t
    refine XS.lushr X0.here hx rfl (hb hby d10_5) rfl ?_
    show Steps p.tables e below (s₁.setTop (mkF m 6 #[.val (.long q0), .second, .val (.int p1)] [(.long ((q0.toUInt64 >>> (((8 : Int32) * p1) &&& 0x3f).toInt64.toUInt64).toInt64))])) t
    refine XS.l2i X0.here hx rfl (hb hby d10_6) rfl ?_
    show Steps p.tables e below (s₁.setTop (mkF m 7 #[.val (.long q0), .second, .val (.int p1)] [(.int (((q0.toUInt64 >>> (((8 : Int32) * p1) &&& 0x3f).toInt64.toUInt64).toInt64).toInt32))])) t
    refine XS.i2b X0.here hx rfl (hb hby d10_7) rfl ?_
    exact kt
  obtain ⟨fs, hr, hrun, hended, hW, hsame⟩ := X0.leave (v := some (.int (nar .byte ((((q0.toUInt64 >>> (((8 : Int32) * p1) &&& 0x3f).toInt64.toUInt64).toInt64).toInt32).toInt8.toInt32)))) (fun h => by rw [Bd.returns] at h; cases h)
  refine ⟨_, _, ?_, hrun, hended, _, _, rfl, ?_, ⟨_, rfl⟩, hW, hsame.mono (by decide) (by decide)⟩
  · exact retN X0 hx (t := .byte) Bd.returns (by simp) (hb hby d10_8) hr
  · show Q10 Z q0 p1 h0 n0 _ s₁.heap _
    rw [e0]
    exact ⟨rfl, N0, rfl⟩
def own_f11 (q0 : Int64) (p1 : Int32) : Int32 := ((((q0.toUInt64 >>> (((8 : Int32) * p1) &&& 0x3f).toInt64.toUInt64).toInt64) &&& (255 : Int64)).toInt32)
theorem d11_0 : decode method_5_code 0 = .ok (.lload_n 0, 1) := by decide +kernel
theorem d11_1 : decode method_5_code 1 = .ok (.bipush 8, 2) := by decide +kernel
theorem d11_3 : decode method_5_code 3 = .ok (.iload_n 2, 1) := by decide +kernel
theorem d11_4 : decode method_5_code 4 = .ok (.imul, 1) := by decide +kernel
theorem d11_5 : decode method_5_code 5 = .ok (.lushr, 1) := by decide +kernel
theorem d11_6 : decode method_5_code 6 = .ok (.ldc2_w 38, 3) := by decide +kernel
theorem d11_9 : decode method_5_code 9 = .ok (.land, 1) := by decide +kernel
theorem d11_10 : decode method_5_code 10 = .ok (.l2i, 1) := by decide +kernel
theorem d11_11 : decode method_5_code 11 = .ok (.ireturn, 1) := by decide +kernel
theorem ef_rm11 (m : MethodId) (q0 : Int64) (p1 : Int32) : entryFrame m #[(.long q0), (.int p1)] 3 = mkF m 0 #[.val (.long q0), .second, .val (.int p1)] [] := by first | (simp [entryFrame, mkF, argsToLocals, Value.category]; done) | rfl
def Q11 (Z : State) (q0 : Int64) (p1 : Int32) (h0 : Heap) (n0 : Nat) (v : Option Value) (h : Heap) (L : List Loc) : Prop := v = some (.int (own_f11 q0 p1)) ∧ Fr n0 L ∧ h = h0
set_option maxRecDepth 65536 in
set_option maxHeartbeats 40000000 in
theorem rm11 (l : Launch) (Z : State) (aw : Array Value) (hw : ∀ d ∈ tables_1, d.before aw Z = true) (ws : List Jvm.Cond) (q0 : Int64) (p1 : Int32) (h0 : Heap) (n0 : Nat) (Z0 : n0 ≤ h0.size) :
    MetFree l (⟨"com/example/honeyguide/honeyguide/index/KeyHashCodePinLaw", "octet", "(JI)I"⟩ : MethodName) (head1 (Jvm.Cond.code (⟨"com/example/honeyguide/honeyguide/index/KeyHashCodePinLaw", "octet", "(JI)I"⟩ : MethodName) method_5_code 3 (some .int) :: ws) ({ frames := 0, cells := 0, slots := 0, locals := 0 } : Room)) (fun a U => a = #[(.long q0), (.int p1)] ∧ Z.Warmed39 U.vm ∧ U.heap = h0) (fun _ _ _ _ _ => True) (fun _ U o U' => ∃ v L, o = .returned v ∧ Q11 Z q0 p1 h0 n0 v U'.heap L ∧ FrameEnd U o U' L ({ frames := 0, cells := 0, slots := 0, locals := 0 } : Room).cells ({ frames := 0, cells := 0, slots := 0, locals := 0 } : Room).slots) := by
  refine MetFree.of_bodySF (plainFor_of_name pn_0) hisR ?_
  intro p e s m args below meth c s₁ Bd hml0 hP hK
  obtain ⟨rfl, hZ, hh⟩ := hP
  have hx := Bd.exec
  have hby := Bd.bytes
  have hml : c.maxLocals = 3 := hml0
  have hown : s.vm.findClass "com/example/honeyguide/honeyguide/index/KeyHashCodePinLaw" = some m.cls := findClass_of_methodNamed Bd.named
  have hnm := (name_of_methodNamed Bd.named Bd.method).1
  have X0 : Stand p l e ({ frames := 0, cells := 0, slots := 0, locals := 0 } : Room) s m #[(.long q0), (.int p1)] below meth c s₁ [] 0 0 := Stand.of_body Bd
  have e0 : s₁.heap = h0 := by rw [← hh, Bd.state]; rfl
  have N0 := Fr.nil n0
  have K0 : Keep h0 h0 [] := Keep.refl _ _
  refine own_by (A' := s₁.setTop (mkF m 0 #[.val (.long q0), .second, .val (.int p1)] [])) (fun t k => castTop (ef_rm11 m q0 p1) k) ?_
  refine own_by (A' := s₁.setTop (mkF m 11 #[.val (.long q0), .second, .val (.int p1)] [(.int ((((q0.toUInt64 >>> (((8 : Int32) * p1) &&& 0x3f).toInt64.toUInt64).toInt64) &&& (255 : Int64)).toInt32))])) (fun t kt => ?_) ?_
  · show Steps p.tables e below (s₁.setTop (mkF m 0 #[.val (.long q0), .second, .val (.int p1)] [])) t
    refine XS.lloadN X0.here hx rfl (hb hby d11_0) rfl ?_
    show Steps p.tables e below (s₁.setTop (mkF m 1 #[.val (.long q0), .second, .val (.int p1)] [(.long q0)])) t
    refine XS.bipush X0.here hx rfl (hb hby d11_1) ?_
    show Steps p.tables e below (s₁.setTop (mkF m 3 #[.val (.long q0), .second, .val (.int p1)] [(.int (8 : Int32)), (.long q0)])) t
    refine XS.iloadN X0.here hx rfl (hb hby d11_3) rfl ?_
    show Steps p.tables e below (s₁.setTop (mkF m 4 #[.val (.long q0), .second, .val (.int p1)] [(.int p1), (.int (8 : Int32)), (.long q0)])) t
    refine XS.imul X0.here hx rfl (hb hby d11_4) rfl ?_
    show Steps p.tables e below (s₁.setTop (mkF m 5 #[.val (.long q0), .second, .val (.int p1)] [(.int ((8 : Int32) * p1)), (.long q0)])) t
    refine XS.lushr X0.here hx rfl (hb hby d11_5) rfl ?_
    show Steps p.tables e below (s₁.setTop (mkF m 6 #[.val (.long q0), .second, .val (.int p1)] [(.long ((q0.toUInt64 >>> (((8 : Int32) * p1) &&& 0x3f).toInt64.toUInt64).toInt64))])) t
    refine X0.ldc2Long hx hown (mvT hZ (hw _ (List.mem_of_getElem? (i := 52) rfl))) (g := (mkF m 6 #[.val (.long q0), .second, .val (.int p1)] [(.long ((q0.toUInt64 >>> (((8 : Int32) * p1) &&& 0x3f).toInt64.toUInt64).toInt64))])) rfl (hb hby d11_6) _ ?_
    show Steps p.tables e below (s₁.setTop (mkF m 9 #[.val (.long q0), .second, .val (.int p1)] [(.long (255 : Int64)), (.long ((q0.toUInt64 >>> (((8 : Int32) * p1) &&& 0x3f).toInt64.toUInt64).toInt64))])) t
    refine XS.land X0.here hx rfl (hb hby d11_9) rfl ?_
    show Steps p.tables e below (s₁.setTop (mkF m 10 #[.val (.long q0), .second, .val (.int p1)] [(.long (((q0.toUInt64 >>> (((8 : Int32) * p1) &&& 0x3f).toInt64.toUInt64).toInt64) &&& (255 : Int64)))])) t
    refine XS.l2i X0.here hx rfl (hb hby d11_10) rfl ?_
    exact kt
  obtain ⟨fs, hr, hrun, hended, hW, hsame⟩ := X0.leave (v := some (.int ((((q0.toUInt64 >>> (((8 : Int32) * p1) &&& 0x3f).toInt64.toUInt64).toInt64) &&& (255 : Int64)).toInt32))) (fun h => by rw [Bd.returns] at h; cases h)
  refine ⟨_, _, ?_, hrun, hended, _, _, rfl, ?_, ⟨_, rfl⟩, hW, hsame.mono (by decide) (by decide)⟩
  · exact retI X0 hx Bd.returns (hb hby d11_11) hr
  · show Q11 Z q0 p1 h0 n0 _ s₁.heap _
    rw [e0]
    exact ⟨rfl, N0, rfl⟩
def own_f12 (q0 : Int64) (p1 : Int32) : Int64 := ((q0 ^^^ (p1.toInt64)) * (1099511628211 : Int64))
theorem d12_0 : decode method_6_code 0 = .ok (.lload_n 0, 1) := by decide +kernel
theorem d12_1 : decode method_6_code 1 = .ok (.iload_n 2, 1) := by decide +kernel
theorem d12_2 : decode method_6_code 2 = .ok (.i2l, 1) := by decide +kernel
theorem d12_3 : decode method_6_code 3 = .ok (.lxor, 1) := by decide +kernel
theorem d12_4 : decode method_6_code 4 = .ok (.ldc2_w 40, 3) := by decide +kernel
theorem d12_7 : decode method_6_code 7 = .ok (.lmul, 1) := by decide +kernel
theorem d12_8 : decode method_6_code 8 = .ok (.lreturn, 1) := by decide +kernel
theorem ef_rm12 (m : MethodId) (q0 : Int64) (p1 : Int32) : entryFrame m #[(.long q0), (.int p1)] 3 = mkF m 0 #[.val (.long q0), .second, .val (.int p1)] [] := by first | (simp [entryFrame, mkF, argsToLocals, Value.category]; done) | rfl
def Q12 (Z : State) (q0 : Int64) (p1 : Int32) (h0 : Heap) (n0 : Nat) (v : Option Value) (h : Heap) (L : List Loc) : Prop := v = some (.long (own_f12 q0 p1)) ∧ Fr n0 L ∧ h = h0
set_option maxRecDepth 65536 in
set_option maxHeartbeats 40000000 in
theorem rm12 (l : Launch) (Z : State) (aw : Array Value) (hw : ∀ d ∈ tables_1, d.before aw Z = true) (ws : List Jvm.Cond) (q0 : Int64) (p1 : Int32) (h0 : Heap) (n0 : Nat) (Z0 : n0 ≤ h0.size) :
    MetFree l (⟨"com/example/honeyguide/honeyguide/index/KeyHashCodePinLaw", "step", "(JI)J"⟩ : MethodName) (head1 (Jvm.Cond.code (⟨"com/example/honeyguide/honeyguide/index/KeyHashCodePinLaw", "step", "(JI)J"⟩ : MethodName) method_6_code 3 (some .long) :: ws) ({ frames := 0, cells := 0, slots := 0, locals := 0 } : Room)) (fun a U => a = #[(.long q0), (.int p1)] ∧ Z.Warmed39 U.vm ∧ U.heap = h0) (fun _ _ _ _ _ => True) (fun _ U o U' => ∃ v L, o = .returned v ∧ Q12 Z q0 p1 h0 n0 v U'.heap L ∧ FrameEnd U o U' L ({ frames := 0, cells := 0, slots := 0, locals := 0 } : Room).cells ({ frames := 0, cells := 0, slots := 0, locals := 0 } : Room).slots) := by
  refine MetFree.of_bodySF (plainFor_of_name pn_0) hisR ?_
  intro p e s m args below meth c s₁ Bd hml0 hP hK
  obtain ⟨rfl, hZ, hh⟩ := hP
  have hx := Bd.exec
  have hby := Bd.bytes
  have hml : c.maxLocals = 3 := hml0
  have hown : s.vm.findClass "com/example/honeyguide/honeyguide/index/KeyHashCodePinLaw" = some m.cls := findClass_of_methodNamed Bd.named
  have hnm := (name_of_methodNamed Bd.named Bd.method).1
  have X0 : Stand p l e ({ frames := 0, cells := 0, slots := 0, locals := 0 } : Room) s m #[(.long q0), (.int p1)] below meth c s₁ [] 0 0 := Stand.of_body Bd
  have e0 : s₁.heap = h0 := by rw [← hh, Bd.state]; rfl
  have N0 := Fr.nil n0
  have K0 : Keep h0 h0 [] := Keep.refl _ _
  refine own_by (A' := s₁.setTop (mkF m 0 #[.val (.long q0), .second, .val (.int p1)] [])) (fun t k => castTop (ef_rm12 m q0 p1) k) ?_
  refine own_by (A' := s₁.setTop (mkF m 8 #[.val (.long q0), .second, .val (.int p1)] [(.long ((q0 ^^^ (p1.toInt64)) * (1099511628211 : Int64)))])) (fun t kt => ?_) ?_
  · show Steps p.tables e below (s₁.setTop (mkF m 0 #[.val (.long q0), .second, .val (.int p1)] [])) t
    refine XS.lloadN X0.here hx rfl (hb hby d12_0) rfl ?_
    show Steps p.tables e below (s₁.setTop (mkF m 1 #[.val (.long q0), .second, .val (.int p1)] [(.long q0)])) t
    refine XS.iloadN X0.here hx rfl (hb hby d12_1) rfl ?_
    show Steps p.tables e below (s₁.setTop (mkF m 2 #[.val (.long q0), .second, .val (.int p1)] [(.int p1), (.long q0)])) t
    refine XS.i2l X0.here hx rfl (hb hby d12_2) rfl ?_
    show Steps p.tables e below (s₁.setTop (mkF m 3 #[.val (.long q0), .second, .val (.int p1)] [(.long (p1.toInt64)), (.long q0)])) t
    refine XS.lxor X0.here hx rfl (hb hby d12_3) rfl ?_
    show Steps p.tables e below (s₁.setTop (mkF m 4 #[.val (.long q0), .second, .val (.int p1)] [(.long (q0 ^^^ (p1.toInt64)))])) t
    refine X0.ldc2Long hx hown (mvT hZ (hw _ (List.mem_of_getElem? (i := 56) rfl))) (g := (mkF m 4 #[.val (.long q0), .second, .val (.int p1)] [(.long (q0 ^^^ (p1.toInt64)))])) rfl (hb hby d12_4) _ ?_
    show Steps p.tables e below (s₁.setTop (mkF m 7 #[.val (.long q0), .second, .val (.int p1)] [(.long (1099511628211 : Int64)), (.long (q0 ^^^ (p1.toInt64)))])) t
    refine XS.lmul X0.here hx rfl (hb hby d12_7) rfl ?_
    exact kt
  obtain ⟨fs, hr, hrun, hended, hW, hsame⟩ := X0.leave (v := some (.long ((q0 ^^^ (p1.toInt64)) * (1099511628211 : Int64)))) (fun h => by rw [Bd.returns] at h; cases h)
  refine ⟨_, _, ?_, hrun, hended, _, _, rfl, ?_, ⟨_, rfl⟩, hW, hsame.mono (by decide) (by decide)⟩
  · exact own_retL X0 hx Bd.returns (hb hby d12_8) hr
  · show Q12 Z q0 p1 h0 n0 _ s₁.heap _
    rw [e0]
    exact ⟨rfl, N0, rfl⟩
def own_f6 (q0 : Int64) : Int64 := (((((q0 ^^^ ((q0.toUInt64 >>> ((33 : Int32) &&& 0x3f).toInt64.toUInt64).toInt64)) * (-49064778989728563 : Int64)) ^^^ ((((q0 ^^^ ((q0.toUInt64 >>> ((33 : Int32) &&& 0x3f).toInt64.toUInt64).toInt64)) * (-49064778989728563 : Int64)).toUInt64 >>> ((33 : Int32) &&& 0x3f).toInt64.toUInt64).toInt64)) * (-4265267296055464877 : Int64)) ^^^ ((((((q0 ^^^ ((q0.toUInt64 >>> ((33 : Int32) &&& 0x3f).toInt64.toUInt64).toInt64)) * (-49064778989728563 : Int64)) ^^^ ((((q0 ^^^ ((q0.toUInt64 >>> ((33 : Int32) &&& 0x3f).toInt64.toUInt64).toInt64)) * (-49064778989728563 : Int64)).toUInt64 >>> ((33 : Int32) &&& 0x3f).toInt64.toUInt64).toInt64)) * (-4265267296055464877 : Int64)).toUInt64 >>> ((33 : Int32) &&& 0x3f).toInt64.toUInt64).toInt64))
theorem d6_0 : decode method_8_code 0 = .ok (.lload_n 0, 1) := by decide +kernel
theorem d6_1 : decode method_8_code 1 = .ok (.lstore_n 2, 1) := by decide +kernel
theorem d6_2 : decode method_8_code 2 = .ok (.lload_n 2, 1) := by decide +kernel
theorem d6_3 : decode method_8_code 3 = .ok (.lload_n 2, 1) := by decide +kernel
theorem d6_4 : decode method_8_code 4 = .ok (.bipush 33, 2) := by decide +kernel
theorem d6_6 : decode method_8_code 6 = .ok (.lushr, 1) := by decide +kernel
theorem d6_7 : decode method_8_code 7 = .ok (.lxor, 1) := by decide +kernel
theorem d6_8 : decode method_8_code 8 = .ok (.ldc2_w 52, 3) := by decide +kernel
theorem d6_11 : decode method_8_code 11 = .ok (.lmul, 1) := by decide +kernel
theorem d6_12 : decode method_8_code 12 = .ok (.lstore_n 2, 1) := by decide +kernel
theorem d6_13 : decode method_8_code 13 = .ok (.lload_n 2, 1) := by decide +kernel
theorem d6_14 : decode method_8_code 14 = .ok (.lload_n 2, 1) := by decide +kernel
theorem d6_15 : decode method_8_code 15 = .ok (.bipush 33, 2) := by decide +kernel
theorem d6_17 : decode method_8_code 17 = .ok (.lushr, 1) := by decide +kernel
theorem d6_18 : decode method_8_code 18 = .ok (.lxor, 1) := by decide +kernel
theorem d6_19 : decode method_8_code 19 = .ok (.ldc2_w 54, 3) := by decide +kernel
theorem d6_22 : decode method_8_code 22 = .ok (.lmul, 1) := by decide +kernel
theorem d6_23 : decode method_8_code 23 = .ok (.lstore_n 2, 1) := by decide +kernel
theorem d6_24 : decode method_8_code 24 = .ok (.lload_n 2, 1) := by decide +kernel
theorem d6_25 : decode method_8_code 25 = .ok (.lload_n 2, 1) := by decide +kernel
theorem d6_26 : decode method_8_code 26 = .ok (.bipush 33, 2) := by decide +kernel
theorem d6_28 : decode method_8_code 28 = .ok (.lushr, 1) := by decide +kernel
theorem d6_29 : decode method_8_code 29 = .ok (.lxor, 1) := by decide +kernel
theorem d6_30 : decode method_8_code 30 = .ok (.lreturn, 1) := by decide +kernel
theorem ef_rm6 (m : MethodId) (q0 : Int64) : entryFrame m #[(.long q0)] 4 = mkF m 0 #[.val (.long q0), .second, .unset, .unset] [] := by first | (simp [entryFrame, mkF, argsToLocals, Value.category]; done) | rfl
def Q6 (Z : State) (q0 : Int64) (h0 : Heap) (n0 : Nat) (v : Option Value) (h : Heap) (L : List Loc) : Prop := v = some (.long (own_f6 q0)) ∧ Fr n0 L ∧ h = h0
set_option maxRecDepth 65536 in
set_option maxHeartbeats 40000000 in
theorem rm6 (l : Launch) (Z : State) (aw : Array Value) (hw : ∀ d ∈ tables_1, d.before aw Z = true) (ws : List Jvm.Cond) (q0 : Int64) (h0 : Heap) (n0 : Nat) (Z0 : n0 ≤ h0.size) :
    MetFree l (⟨"com/example/honeyguide/honeyguide/index/KeyHashCodePinLaw", "mix", "(J)J"⟩ : MethodName) (head1 (Jvm.Cond.code (⟨"com/example/honeyguide/honeyguide/index/KeyHashCodePinLaw", "mix", "(J)J"⟩ : MethodName) method_8_code 4 (some .long) :: ws) ({ frames := 0, cells := 0, slots := 0, locals := 0 } : Room)) (fun a U => a = #[(.long q0)] ∧ Z.Warmed39 U.vm ∧ U.heap = h0) (fun _ _ _ _ _ => True) (fun _ U o U' => ∃ v L, o = .returned v ∧ Q6 Z q0 h0 n0 v U'.heap L ∧ FrameEnd U o U' L ({ frames := 0, cells := 0, slots := 0, locals := 0 } : Room).cells ({ frames := 0, cells := 0, slots := 0, locals := 0 } : Room).slots) := by
  refine MetFree.of_bodySF (plainFor_of_name pn_0) hisR ?_
  intro p e s m args below meth c s₁ Bd hml0 hP hK
  obtain ⟨rfl, hZ, hh⟩ := hP
  have hx := Bd.exec
  have hby := Bd.bytes
  have hml : c.maxLocals = 4 := hml0
  have hown : s.vm.findClass "com/example/honeyguide/honeyguide/index/KeyHashCodePinLaw" = some m.cls := findClass_of_methodNamed Bd.named
  have hnm := (name_of_methodNamed Bd.named Bd.method).1
  have X0 : Stand p l e ({ frames := 0, cells := 0, slots := 0, locals := 0 } : Room) s m #[(.long q0)] below meth c s₁ [] 0 0 := Stand.of_body Bd
  have e0 : s₁.heap = h0 := by rw [← hh, Bd.state]; rfl
  have N0 := Fr.nil n0
  have K0 : Keep h0 h0 [] := Keep.refl _ _
  refine own_by (A' := s₁.setTop (mkF m 0 #[.val (.long q0), .second, .unset, .unset] [])) (fun t k => castTop (ef_rm6 m q0) k) ?_
  refine own_by (A' := s₁.setTop (mkF m 30 #[.val (.long q0), .second, .val (.long ((((q0 ^^^ ((q0.toUInt64 >>> ((33 : Int32) &&& 0x3f).toInt64.toUInt64).toInt64)) * (-49064778989728563 : Int64)) ^^^ ((((q0 ^^^ ((q0.toUInt64 >>> ((33 : Int32) &&& 0x3f).toInt64.toUInt64).toInt64)) * (-49064778989728563 : Int64)).toUInt64 >>> ((33 : Int32) &&& 0x3f).toInt64.toUInt64).toInt64)) * (-4265267296055464877 : Int64))), .second] [(.long (((((q0 ^^^ ((q0.toUInt64 >>> ((33 : Int32) &&& 0x3f).toInt64.toUInt64).toInt64)) * (-49064778989728563 : Int64)) ^^^ ((((q0 ^^^ ((q0.toUInt64 >>> ((33 : Int32) &&& 0x3f).toInt64.toUInt64).toInt64)) * (-49064778989728563 : Int64)).toUInt64 >>> ((33 : Int32) &&& 0x3f).toInt64.toUInt64).toInt64)) * (-4265267296055464877 : Int64)) ^^^ ((((((q0 ^^^ ((q0.toUInt64 >>> ((33 : Int32) &&& 0x3f).toInt64.toUInt64).toInt64)) * (-49064778989728563 : Int64)) ^^^ ((((q0 ^^^ ((q0.toUInt64 >>> ((33 : Int32) &&& 0x3f).toInt64.toUInt64).toInt64)) * (-49064778989728563 : Int64)).toUInt64 >>> ((33 : Int32) &&& 0x3f).toInt64.toUInt64).toInt64)) * (-4265267296055464877 : Int64)).toUInt64 >>> ((33 : Int32) &&& 0x3f).toInt64.toUInt64).toInt64)))])) (fun t kt => ?_) ?_
  · show Steps p.tables e below (s₁.setTop (mkF m 0 #[.val (.long q0), .second, .unset, .unset] [])) t
    refine XS.lloadN X0.here hx rfl (hb hby d6_0) rfl ?_
    show Steps p.tables e below (s₁.setTop (mkF m 1 #[.val (.long q0), .second, .unset, .unset] [(.long q0)])) t
    refine XS.lstoreN X0.here hx rfl (hb hby d6_1) rfl (l' := #[.val (.long q0), .second, .val (.long q0), .second]) rfl ?_
    show Steps p.tables e below (s₁.setTop (mkF m 2 #[.val (.long q0), .second, .val (.long q0), .second] [])) t
    refine XS.lloadN X0.here hx rfl (hb hby d6_2) rfl ?_
    show Steps p.tables e below (s₁.setTop (mkF m 3 #[.val (.long q0), .second, .val (.long q0), .second] [(.long q0)])) t
    refine XS.lloadN X0.here hx rfl (hb hby d6_3) rfl ?_
    show Steps p.tables e below (s₁.setTop (mkF m 4 #[.val (.long q0), .second, .val (.long q0), .second] [(.long q0), (.long q0)])) t
    refine XS.bipush X0.here hx rfl (hb hby d6_4) ?_
    show Steps p.tables e below (s₁.setTop (mkF m 6 #[.val (.long q0), .second, .val (.long q0), .second] [(.int (33 : Int32)), (.long q0), (.long q0)])) t
    refine XS.lushr X0.here hx rfl (hb hby d6_6) rfl ?_
    show Steps p.tables e below (s₁.setTop (mkF m 7 #[.val (.long q0), .second, .val (.long q0), .second] [(.long ((q0.toUInt64 >>> ((33 : Int32) &&& 0x3f).toInt64.toUInt64).toInt64)), (.long q0)])) t
    refine XS.lxor X0.here hx rfl (hb hby d6_7) rfl ?_
    show Steps p.tables e below (s₁.setTop (mkF m 8 #[.val (.long q0), .second, .val (.long q0), .second] [(.long (q0 ^^^ ((q0.toUInt64 >>> ((33 : Int32) &&& 0x3f).toInt64.toUInt64).toInt64)))])) t
    refine X0.ldc2Long hx hown (mvT hZ (hw _ (List.mem_of_getElem? (i := 28) rfl))) (g := (mkF m 8 #[.val (.long q0), .second, .val (.long q0), .second] [(.long (q0 ^^^ ((q0.toUInt64 >>> ((33 : Int32) &&& 0x3f).toInt64.toUInt64).toInt64)))])) rfl (hb hby d6_8) _ ?_
    show Steps p.tables e below (s₁.setTop (mkF m 11 #[.val (.long q0), .second, .val (.long q0), .second] [(.long (-49064778989728563 : Int64)), (.long (q0 ^^^ ((q0.toUInt64 >>> ((33 : Int32) &&& 0x3f).toInt64.toUInt64).toInt64)))])) t
    refine XS.lmul X0.here hx rfl (hb hby d6_11) rfl ?_
    show Steps p.tables e below (s₁.setTop (mkF m 12 #[.val (.long q0), .second, .val (.long q0), .second] [(.long ((q0 ^^^ ((q0.toUInt64 >>> ((33 : Int32) &&& 0x3f).toInt64.toUInt64).toInt64)) * (-49064778989728563 : Int64)))])) t
    refine XS.lstoreN X0.here hx rfl (hb hby d6_12) rfl (l' := #[.val (.long q0), .second, .val (.long ((q0 ^^^ ((q0.toUInt64 >>> ((33 : Int32) &&& 0x3f).toInt64.toUInt64).toInt64)) * (-49064778989728563 : Int64))), .second]) rfl ?_
    show Steps p.tables e below (s₁.setTop (mkF m 13 #[.val (.long q0), .second, .val (.long ((q0 ^^^ ((q0.toUInt64 >>> ((33 : Int32) &&& 0x3f).toInt64.toUInt64).toInt64)) * (-49064778989728563 : Int64))), .second] [])) t
    refine XS.lloadN X0.here hx rfl (hb hby d6_13) rfl ?_
    show Steps p.tables e below (s₁.setTop (mkF m 14 #[.val (.long q0), .second, .val (.long ((q0 ^^^ ((q0.toUInt64 >>> ((33 : Int32) &&& 0x3f).toInt64.toUInt64).toInt64)) * (-49064778989728563 : Int64))), .second] [(.long ((q0 ^^^ ((q0.toUInt64 >>> ((33 : Int32) &&& 0x3f).toInt64.toUInt64).toInt64)) * (-49064778989728563 : Int64)))])) t
    refine XS.lloadN X0.here hx rfl (hb hby d6_14) rfl ?_
    show Steps p.tables e below (s₁.setTop (mkF m 15 #[.val (.long q0), .second, .val (.long ((q0 ^^^ ((q0.toUInt64 >>> ((33 : Int32) &&& 0x3f).toInt64.toUInt64).toInt64)) * (-49064778989728563 : Int64))), .second] [(.long ((q0 ^^^ ((q0.toUInt64 >>> ((33 : Int32) &&& 0x3f).toInt64.toUInt64).toInt64)) * (-49064778989728563 : Int64))), (.long ((q0 ^^^ ((q0.toUInt64 >>> ((33 : Int32) &&& 0x3f).toInt64.toUInt64).toInt64)) * (-49064778989728563 : Int64)))])) t
    refine XS.bipush X0.here hx rfl (hb hby d6_15) ?_
    show Steps p.tables e below (s₁.setTop (mkF m 17 #[.val (.long q0), .second, .val (.long ((q0 ^^^ ((q0.toUInt64 >>> ((33 : Int32) &&& 0x3f).toInt64.toUInt64).toInt64)) * (-49064778989728563 : Int64))), .second] [(.int (33 : Int32)), (.long ((q0 ^^^ ((q0.toUInt64 >>> ((33 : Int32) &&& 0x3f).toInt64.toUInt64).toInt64)) * (-49064778989728563 : Int64))), (.long ((q0 ^^^ ((q0.toUInt64 >>> ((33 : Int32) &&& 0x3f).toInt64.toUInt64).toInt64)) * (-49064778989728563 : Int64)))])) t
    refine XS.lushr X0.here hx rfl (hb hby d6_17) rfl ?_
    show Steps p.tables e below (s₁.setTop (mkF m 18 #[.val (.long q0), .second, .val (.long ((q0 ^^^ ((q0.toUInt64 >>> ((33 : Int32) &&& 0x3f).toInt64.toUInt64).toInt64)) * (-49064778989728563 : Int64))), .second] [(.long ((((q0 ^^^ ((q0.toUInt64 >>> ((33 : Int32) &&& 0x3f).toInt64.toUInt64).toInt64)) * (-49064778989728563 : Int64)).toUInt64 >>> ((33 : Int32) &&& 0x3f).toInt64.toUInt64).toInt64)), (.long ((q0 ^^^ ((q0.toUInt64 >>> ((33 : Int32) &&& 0x3f).toInt64.toUInt64).toInt64)) * (-49064778989728563 : Int64)))])) t
    refine XS.lxor X0.here hx rfl (hb hby d6_18) rfl ?_
    show Steps p.tables e below (s₁.setTop (mkF m 19 #[.val (.long q0), .second, .val (.long ((q0 ^^^ ((q0.toUInt64 >>> ((33 : Int32) &&& 0x3f).toInt64.toUInt64).toInt64)) * (-49064778989728563 : Int64))), .second] [(.long (((q0 ^^^ ((q0.toUInt64 >>> ((33 : Int32) &&& 0x3f).toInt64.toUInt64).toInt64)) * (-49064778989728563 : Int64)) ^^^ ((((q0 ^^^ ((q0.toUInt64 >>> ((33 : Int32) &&& 0x3f).toInt64.toUInt64).toInt64)) * (-49064778989728563 : Int64)).toUInt64 >>> ((33 : Int32) &&& 0x3f).toInt64.toUInt64).toInt64)))])) t
    refine X0.ldc2Long hx hown (mvT hZ (hw _ (List.mem_of_getElem? (i := 29) rfl))) (g := (mkF m 19 #[.val (.long q0), .second, .val (.long ((q0 ^^^ ((q0.toUInt64 >>> ((33 : Int32) &&& 0x3f).toInt64.toUInt64).toInt64)) * (-49064778989728563 : Int64))), .second] [(.long (((q0 ^^^ ((q0.toUInt64 >>> ((33 : Int32) &&& 0x3f).toInt64.toUInt64).toInt64)) * (-49064778989728563 : Int64)) ^^^ ((((q0 ^^^ ((q0.toUInt64 >>> ((33 : Int32) &&& 0x3f).toInt64.toUInt64).toInt64)) * (-49064778989728563 : Int64)).toUInt64 >>> ((33 : Int32) &&& 0x3f).toInt64.toUInt64).toInt64)))])) rfl (hb hby d6_19) _ ?_
    show Steps p.tables e below (s₁.setTop (mkF m 22 #[.val (.long q0), .second, .val (.long ((q0 ^^^ ((q0.toUInt64 >>> ((33 : Int32) &&& 0x3f).toInt64.toUInt64).toInt64)) * (-49064778989728563 : Int64))), .second] [(.long (-4265267296055464877 : Int64)), (.long (((q0 ^^^ ((q0.toUInt64 >>> ((33 : Int32) &&& 0x3f).toInt64.toUInt64).toInt64)) * (-49064778989728563 : Int64)) ^^^ ((((q0 ^^^ ((q0.toUInt64 >>> ((33 : Int32) &&& 0x3f).toInt64.toUInt64).toInt64)) * (-49064778989728563 : Int64)).toUInt64 >>> ((33 : Int32) &&& 0x3f).toInt64.toUInt64).toInt64)))])) t
    refine XS.lmul X0.here hx rfl (hb hby d6_22) rfl ?_
    show Steps p.tables e below (s₁.setTop (mkF m 23 #[.val (.long q0), .second, .val (.long ((q0 ^^^ ((q0.toUInt64 >>> ((33 : Int32) &&& 0x3f).toInt64.toUInt64).toInt64)) * (-49064778989728563 : Int64))), .second] [(.long ((((q0 ^^^ ((q0.toUInt64 >>> ((33 : Int32) &&& 0x3f).toInt64.toUInt64).toInt64)) * (-49064778989728563 : Int64)) ^^^ ((((q0 ^^^ ((q0.toUInt64 >>> ((33 : Int32) &&& 0x3f).toInt64.toUInt64).toInt64)) * (-49064778989728563 : Int64)).toUInt64 >>> ((33 : Int32) &&& 0x3f).toInt64.toUInt64).toInt64)) * (-4265267296055464877 : Int64)))])) t
    refine XS.lstoreN X0.here hx rfl (hb hby d6_23) rfl (l' := #[.val (.long q0), .second, .val (.long ((((q0 ^^^ ((q0.toUInt64 >>> ((33 : Int32) &&& 0x3f).toInt64.toUInt64).toInt64)) * (-49064778989728563 : Int64)) ^^^ ((((q0 ^^^ ((q0.toUInt64 >>> ((33 : Int32) &&& 0x3f).toInt64.toUInt64).toInt64)) * (-49064778989728563 : Int64)).toUInt64 >>> ((33 : Int32) &&& 0x3f).toInt64.toUInt64).toInt64)) * (-4265267296055464877 : Int64))), .second]) rfl ?_
    show Steps p.tables e below (s₁.setTop (mkF m 24 #[.val (.long q0), .second, .val (.long ((((q0 ^^^ ((q0.toUInt64 >>> ((33 : Int32) &&& 0x3f).toInt64.toUInt64).toInt64)) * (-49064778989728563 : Int64)) ^^^ ((((q0 ^^^ ((q0.toUInt64 >>> ((33 : Int32) &&& 0x3f).toInt64.toUInt64).toInt64)) * (-49064778989728563 : Int64)).toUInt64 >>> ((33 : Int32) &&& 0x3f).toInt64.toUInt64).toInt64)) * (-4265267296055464877 : Int64))), .second] [])) t
    refine XS.lloadN X0.here hx rfl (hb hby d6_24) rfl ?_
    show Steps p.tables e below (s₁.setTop (mkF m 25 #[.val (.long q0), .second, .val (.long ((((q0 ^^^ ((q0.toUInt64 >>> ((33 : Int32) &&& 0x3f).toInt64.toUInt64).toInt64)) * (-49064778989728563 : Int64)) ^^^ ((((q0 ^^^ ((q0.toUInt64 >>> ((33 : Int32) &&& 0x3f).toInt64.toUInt64).toInt64)) * (-49064778989728563 : Int64)).toUInt64 >>> ((33 : Int32) &&& 0x3f).toInt64.toUInt64).toInt64)) * (-4265267296055464877 : Int64))), .second] [(.long ((((q0 ^^^ ((q0.toUInt64 >>> ((33 : Int32) &&& 0x3f).toInt64.toUInt64).toInt64)) * (-49064778989728563 : Int64)) ^^^ ((((q0 ^^^ ((q0.toUInt64 >>> ((33 : Int32) &&& 0x3f).toInt64.toUInt64).toInt64)) * (-49064778989728563 : Int64)).toUInt64 >>> ((33 : Int32) &&& 0x3f).toInt64.toUInt64).toInt64)) * (-4265267296055464877 : Int64)))])) t
    refine XS.lloadN X0.here hx rfl (hb hby d6_25) rfl ?_
    show Steps p.tables e below (s₁.setTop (mkF m 26 #[.val (.long q0), .second, .val (.long ((((q0 ^^^ ((q0.toUInt64 >>> ((33 : Int32) &&& 0x3f).toInt64.toUInt64).toInt64)) * (-49064778989728563 : Int64)) ^^^ ((((q0 ^^^ ((q0.toUInt64 >>> ((33 : Int32) &&& 0x3f).toInt64.toUInt64).toInt64)) * (-49064778989728563 : Int64)).toUInt64 >>> ((33 : Int32) &&& 0x3f).toInt64.toUInt64).toInt64)) * (-4265267296055464877 : Int64))), .second] [(.long ((((q0 ^^^ ((q0.toUInt64 >>> ((33 : Int32) &&& 0x3f).toInt64.toUInt64).toInt64)) * (-49064778989728563 : Int64)) ^^^ ((((q0 ^^^ ((q0.toUInt64 >>> ((33 : Int32) &&& 0x3f).toInt64.toUInt64).toInt64)) * (-49064778989728563 : Int64)).toUInt64 >>> ((33 : Int32) &&& 0x3f).toInt64.toUInt64).toInt64)) * (-4265267296055464877 : Int64))), (.long ((((q0 ^^^ ((q0.toUInt64 >>> ((33 : Int32) &&& 0x3f).toInt64.toUInt64).toInt64)) * (-49064778989728563 : Int64)) ^^^ ((((q0 ^^^ ((q0.toUInt64 >>> ((33 : Int32) &&& 0x3f).toInt64.toUInt64).toInt64)) * (-49064778989728563 : Int64)).toUInt64 >>> ((33 : Int32) &&& 0x3f).toInt64.toUInt64).toInt64)) * (-4265267296055464877 : Int64)))])) t
    refine XS.bipush X0.here hx rfl (hb hby d6_26) ?_
    show Steps p.tables e below (s₁.setTop (mkF m 28 #[.val (.long q0), .second, .val (.long ((((q0 ^^^ ((q0.toUInt64 >>> ((33 : Int32) &&& 0x3f).toInt64.toUInt64).toInt64)) * (-49064778989728563 : Int64)) ^^^ ((((q0 ^^^ ((q0.toUInt64 >>> ((33 : Int32) &&& 0x3f).toInt64.toUInt64).toInt64)) * (-49064778989728563 : Int64)).toUInt64 >>> ((33 : Int32) &&& 0x3f).toInt64.toUInt64).toInt64)) * (-4265267296055464877 : Int64))), .second] [(.int (33 : Int32)), (.long ((((q0 ^^^ ((q0.toUInt64 >>> ((33 : Int32) &&& 0x3f).toInt64.toUInt64).toInt64)) * (-49064778989728563 : Int64)) ^^^ ((((q0 ^^^ ((q0.toUInt64 >>> ((33 : Int32) &&& 0x3f).toInt64.toUInt64).toInt64)) * (-49064778989728563 : Int64)).toUInt64 >>> ((33 : Int32) &&& 0x3f).toInt64.toUInt64).toInt64)) * (-4265267296055464877 : Int64))), (.long ((((q0 ^^^ ((q0.toUInt64 >>> ((33 : Int32) &&& 0x3f).toInt64.toUInt64).toInt64)) * (-49064778989728563 : Int64)) ^^^ ((((q0 ^^^ ((q0.toUInt64 >>> ((33 : Int32) &&& 0x3f).toInt64.toUInt64).toInt64)) * (-49064778989728563 : Int64)).toUInt64 >>> ((33 : Int32) &&& 0x3f).toInt64.toUInt64).toInt64)) * (-4265267296055464877 : Int64)))])) t
    refine XS.lushr X0.here hx rfl (hb hby d6_28) rfl ?_
    show Steps p.tables e below (s₁.setTop (mkF m 29 #[.val (.long q0), .second, .val (.long ((((q0 ^^^ ((q0.toUInt64 >>> ((33 : Int32) &&& 0x3f).toInt64.toUInt64).toInt64)) * (-49064778989728563 : Int64)) ^^^ ((((q0 ^^^ ((q0.toUInt64 >>> ((33 : Int32) &&& 0x3f).toInt64.toUInt64).toInt64)) * (-49064778989728563 : Int64)).toUInt64 >>> ((33 : Int32) &&& 0x3f).toInt64.toUInt64).toInt64)) * (-4265267296055464877 : Int64))), .second] [(.long ((((((q0 ^^^ ((q0.toUInt64 >>> ((33 : Int32) &&& 0x3f).toInt64.toUInt64).toInt64)) * (-49064778989728563 : Int64)) ^^^ ((((q0 ^^^ ((q0.toUInt64 >>> ((33 : Int32) &&& 0x3f).toInt64.toUInt64).toInt64)) * (-49064778989728563 : Int64)).toUInt64 >>> ((33 : Int32) &&& 0x3f).toInt64.toUInt64).toInt64)) * (-4265267296055464877 : Int64)).toUInt64 >>> ((33 : Int32) &&& 0x3f).toInt64.toUInt64).toInt64)), (.long ((((q0 ^^^ ((q0.toUInt64 >>> ((33 : Int32) &&& 0x3f).toInt64.toUInt64).toInt64)) * (-49064778989728563 : Int64)) ^^^ ((((q0 ^^^ ((q0.toUInt64 >>> ((33 : Int32) &&& 0x3f).toInt64.toUInt64).toInt64)) * (-49064778989728563 : Int64)).toUInt64 >>> ((33 : Int32) &&& 0x3f).toInt64.toUInt64).toInt64)) * (-4265267296055464877 : Int64)))])) t
    refine XS.lxor X0.here hx rfl (hb hby d6_29) rfl ?_
    exact kt
  obtain ⟨fs, hr, hrun, hended, hW, hsame⟩ := X0.leave (v := some (.long (((((q0 ^^^ ((q0.toUInt64 >>> ((33 : Int32) &&& 0x3f).toInt64.toUInt64).toInt64)) * (-49064778989728563 : Int64)) ^^^ ((((q0 ^^^ ((q0.toUInt64 >>> ((33 : Int32) &&& 0x3f).toInt64.toUInt64).toInt64)) * (-49064778989728563 : Int64)).toUInt64 >>> ((33 : Int32) &&& 0x3f).toInt64.toUInt64).toInt64)) * (-4265267296055464877 : Int64)) ^^^ ((((((q0 ^^^ ((q0.toUInt64 >>> ((33 : Int32) &&& 0x3f).toInt64.toUInt64).toInt64)) * (-49064778989728563 : Int64)) ^^^ ((((q0 ^^^ ((q0.toUInt64 >>> ((33 : Int32) &&& 0x3f).toInt64.toUInt64).toInt64)) * (-49064778989728563 : Int64)).toUInt64 >>> ((33 : Int32) &&& 0x3f).toInt64.toUInt64).toInt64)) * (-4265267296055464877 : Int64)).toUInt64 >>> ((33 : Int32) &&& 0x3f).toInt64.toUInt64).toInt64)))) (fun h => by rw [Bd.returns] at h; cases h)
  refine ⟨_, _, ?_, hrun, hended, _, _, rfl, ?_, ⟨_, rfl⟩, hW, hsame.mono (by decide) (by decide)⟩
  · exact own_retL X0 hx Bd.returns (hb hby d6_30) hr
  · show Q6 Z q0 h0 n0 _ s₁.heap _
    rw [e0]
    exact ⟨rfl, N0, rfl⟩
def own_f7 (q0 : Int64) : Int32 := ((q0 ^^^ ((q0.toUInt64 >>> ((32 : Int32) &&& 0x3f).toInt64.toUInt64).toInt64)).toInt32)
theorem d7_0 : decode method_9_code 0 = .ok (.lload_n 0, 1) := by decide +kernel
theorem d7_1 : decode method_9_code 1 = .ok (.lload_n 0, 1) := by decide +kernel
theorem d7_2 : decode method_9_code 2 = .ok (.bipush 32, 2) := by decide +kernel
theorem d7_4 : decode method_9_code 4 = .ok (.lushr, 1) := by decide +kernel
theorem d7_5 : decode method_9_code 5 = .ok (.lxor, 1) := by decide +kernel
theorem d7_6 : decode method_9_code 6 = .ok (.l2i, 1) := by decide +kernel
theorem d7_7 : decode method_9_code 7 = .ok (.ireturn, 1) := by decide +kernel
theorem ef_rm7 (m : MethodId) (q0 : Int64) : entryFrame m #[(.long q0)] 2 = mkF m 0 #[.val (.long q0), .second] [] := by first | (simp [entryFrame, mkF, argsToLocals, Value.category]; done) | rfl
def Q7 (Z : State) (q0 : Int64) (h0 : Heap) (n0 : Nat) (v : Option Value) (h : Heap) (L : List Loc) : Prop := v = some (.int (own_f7 q0)) ∧ Fr n0 L ∧ h = h0
set_option maxRecDepth 65536 in
set_option maxHeartbeats 40000000 in
theorem rm7 (l : Launch) (Z : State) (aw : Array Value) (hw : ∀ d ∈ tables_1, d.before aw Z = true) (ws : List Jvm.Cond) (q0 : Int64) (h0 : Heap) (n0 : Nat) (Z0 : n0 ≤ h0.size) :
    MetFree l (⟨"com/example/honeyguide/honeyguide/index/KeyHashCodePinLaw", "fold", "(J)I"⟩ : MethodName) (head1 (Jvm.Cond.code (⟨"com/example/honeyguide/honeyguide/index/KeyHashCodePinLaw", "fold", "(J)I"⟩ : MethodName) method_9_code 2 (some .int) :: ws) ({ frames := 0, cells := 0, slots := 0, locals := 0 } : Room)) (fun a U => a = #[(.long q0)] ∧ Z.Warmed39 U.vm ∧ U.heap = h0) (fun _ _ _ _ _ => True) (fun _ U o U' => ∃ v L, o = .returned v ∧ Q7 Z q0 h0 n0 v U'.heap L ∧ FrameEnd U o U' L ({ frames := 0, cells := 0, slots := 0, locals := 0 } : Room).cells ({ frames := 0, cells := 0, slots := 0, locals := 0 } : Room).slots) := by
  refine MetFree.of_bodySF (plainFor_of_name pn_0) hisR ?_
  intro p e s m args below meth c s₁ Bd hml0 hP hK
  obtain ⟨rfl, hZ, hh⟩ := hP
  have hx := Bd.exec
  have hby := Bd.bytes
  have hml : c.maxLocals = 2 := hml0
  have hown : s.vm.findClass "com/example/honeyguide/honeyguide/index/KeyHashCodePinLaw" = some m.cls := findClass_of_methodNamed Bd.named
  have hnm := (name_of_methodNamed Bd.named Bd.method).1
  have X0 : Stand p l e ({ frames := 0, cells := 0, slots := 0, locals := 0 } : Room) s m #[(.long q0)] below meth c s₁ [] 0 0 := Stand.of_body Bd
  have e0 : s₁.heap = h0 := by rw [← hh, Bd.state]; rfl
  have N0 := Fr.nil n0
  have K0 : Keep h0 h0 [] := Keep.refl _ _
  refine own_by (A' := s₁.setTop (mkF m 0 #[.val (.long q0), .second] [])) (fun t k => castTop (ef_rm7 m q0) k) ?_
  refine own_by (A' := s₁.setTop (mkF m 7 #[.val (.long q0), .second] [(.int ((q0 ^^^ ((q0.toUInt64 >>> ((32 : Int32) &&& 0x3f).toInt64.toUInt64).toInt64)).toInt32))])) (fun t kt => ?_) ?_
  · show Steps p.tables e below (s₁.setTop (mkF m 0 #[.val (.long q0), .second] [])) t
    refine XS.lloadN X0.here hx rfl (hb hby d7_0) rfl ?_
    show Steps p.tables e below (s₁.setTop (mkF m 1 #[.val (.long q0), .second] [(.long q0)])) t
    refine XS.lloadN X0.here hx rfl (hb hby d7_1) rfl ?_
    show Steps p.tables e below (s₁.setTop (mkF m 2 #[.val (.long q0), .second] [(.long q0), (.long q0)])) t
    refine XS.bipush X0.here hx rfl (hb hby d7_2) ?_
    show Steps p.tables e below (s₁.setTop (mkF m 4 #[.val (.long q0), .second] [(.int (32 : Int32)), (.long q0), (.long q0)])) t
    refine XS.lushr X0.here hx rfl (hb hby d7_4) rfl ?_
    show Steps p.tables e below (s₁.setTop (mkF m 5 #[.val (.long q0), .second] [(.long ((q0.toUInt64 >>> ((32 : Int32) &&& 0x3f).toInt64.toUInt64).toInt64)), (.long q0)])) t
    refine XS.lxor X0.here hx rfl (hb hby d7_5) rfl ?_
    show Steps p.tables e below (s₁.setTop (mkF m 6 #[.val (.long q0), .second] [(.long (q0 ^^^ ((q0.toUInt64 >>> ((32 : Int32) &&& 0x3f).toInt64.toUInt64).toInt64)))])) t
    refine XS.l2i X0.here hx rfl (hb hby d7_6) rfl ?_
    exact kt
  obtain ⟨fs, hr, hrun, hended, hW, hsame⟩ := X0.leave (v := some (.int ((q0 ^^^ ((q0.toUInt64 >>> ((32 : Int32) &&& 0x3f).toInt64.toUInt64).toInt64)).toInt32))) (fun h => by rw [Bd.returns] at h; cases h)
  refine ⟨_, _, ?_, hrun, hended, _, _, rfl, ?_, ⟨_, rfl⟩, hW, hsame.mono (by decide) (by decide)⟩
  · exact retI X0 hx Bd.returns (hb hby d7_7) hr
  · show Q7 Z q0 h0 n0 _ s₁.heap _
    rw [e0]
    exact ⟨rfl, N0, rfl⟩
theorem pn_1 : plainName "java/lang/Record" = true := by first | (simp [plainName, overriddenIn]; done) | decide +kernel
theorem d3_0 : decode jdk_30_method_1_code 0 = .ok (.aload_n 0, 1) := by decide +kernel
theorem d3_1 : decode jdk_30_method_1_code 1 = .ok (.invokespecial 1, 3) := by decide +kernel
theorem d3_4 : decode jdk_30_method_1_code 4 = .ok (.return_, 1) := by decide +kernel
theorem ef_rm3 (m : MethodId) (a0 : Addr) : entryFrame m #[(.ref a0)] 1 = mkF m 0 #[.val (.ref a0)] [] := by first | (simp [entryFrame, mkF, argsToLocals, Value.category]; done) | rfl
def Q3 (Z : State) (a0 : Addr) (h0 : Heap) (n0 : Nat) (v : Option Value) (h : Heap) (L : List Loc) : Prop := v = none ∧ Fr n0 L ∧ h = h0
set_option maxRecDepth 65536 in
set_option maxHeartbeats 40000000 in
theorem rm3 (l : Launch) (Z : State) (aw : Array Value) (hw : ∀ d ∈ tables_1, d.before aw Z = true) (ws : List Jvm.Cond) (a0 : Addr) (h0 : Heap) (n0 : Nat) (Z0 : n0 ≤ h0.size) :
    MetFree l (⟨"java/lang/Record", "<init>", "()V"⟩ : MethodName) (head1 (Jvm.Cond.code (⟨"java/lang/Record", "<init>", "()V"⟩ : MethodName) jdk_30_method_1_code 1 none :: ws) ({ frames := 1, cells := 0, slots := 0, locals := 12 } : Room)) (fun a U => a = #[(.ref a0)] ∧ Z.Warmed39 U.vm ∧ U.heap = h0) (fun _ _ _ _ _ => True) (fun _ U o U' => ∃ v L, o = .returned v ∧ Q3 Z a0 h0 n0 v U'.heap L ∧ FrameEnd U o U' L ({ frames := 1, cells := 0, slots := 0, locals := 12 } : Room).cells ({ frames := 1, cells := 0, slots := 0, locals := 12 } : Room).slots) := by
  refine MetFree.of_bodySF (plainFor_of_name pn_1) hisR ?_
  intro p e s m args below meth c s₁ Bd hml0 hP hK
  obtain ⟨rfl, hZ, hh⟩ := hP
  have hx := Bd.exec
  have hby := Bd.bytes
  have hml : c.maxLocals = 1 := hml0
  have hown : s.vm.findClass "java/lang/Record" = some m.cls := findClass_of_methodNamed Bd.named
  have hnm := (name_of_methodNamed Bd.named Bd.method).1
  have X0 : Stand p l e ({ frames := 1, cells := 0, slots := 0, locals := 12 } : Room) s m #[(.ref a0)] below meth c s₁ [] 0 0 := Stand.of_body Bd
  have e0 : s₁.heap = h0 := by rw [← hh, Bd.state]; rfl
  have N0 := Fr.nil n0
  have K0 : Keep h0 h0 [] := Keep.refl _ _
  refine own_by (A' := s₁.setTop (mkF m 0 #[.val (.ref a0)] [])) (fun t k => castTop (ef_rm3 m a0) k) ?_
  refine own_by (A' := s₁.setTop (mkF m 1 #[.val (.ref a0)] [(.ref a0)])) (fun t kt => ?_) ?_
  · show Steps p.tables e below (s₁.setTop (mkF m 0 #[.val (.ref a0)] [])) t
    refine XS.aloadN X0.here hx rfl (hb hby d3_0) rfl rfl ?_
    exact kt
  obtain ⟨T1, X1, e1, st1⟩ := initO X0 hx hZ hown (hw _ (List.mem_of_getElem? (i := 16) rfl)) (hw _ (List.mem_of_getElem? (i := 17) rfl)) (hw _ (List.mem_of_getElem? (i := 18) rfl)) e0 (g := (mkF m 1 #[.val (.ref a0)] [(.ref a0)])) rfl (by rw [hml]; rfl) rfl (hb hby d3_1) (by decide) (W := 0) (by show 2 * 0 + _ ≤ _; exact Nat.le_of_eq rfl) (by decide)
  refine own_by (A' := T1.setTop (mkF m 4 #[.val (.ref a0)] [])) (fun t kt => st1 t kt) ?_
  obtain ⟨fs, hr, hrun, hended, hW, hsame⟩ := X1.leave (v := none) (fun _ => rfl)
  refine ⟨_, _, ?_, hrun, hended, _, _, rfl, ?_, ⟨_, rfl⟩, hW, hsame.mono (by decide) (by decide)⟩
  · exact X1.returnOut hx Bd.returns (hb hby d3_4) hr
  · show Q3 Z a0 h0 n0 _ T1.heap _
    rw [e1]
    exact ⟨rfl, N0, rfl⟩
def own_f5 (p0 : Int32) (q1 : Int64) : Int64 := (if (0 : Int32) < p0 then (if (1 : Int32) < p0 then (if (2 : Int32) < p0 then (if (3 : Int32) < p0 then (if (4 : Int32) < p0 then (if (5 : Int32) < p0 then (if (6 : Int32) < p0 then (if (7 : Int32) < p0 then (own_f12 (own_f12 (own_f12 (own_f12 (own_f12 (own_f12 (own_f12 (own_f12 (-3750763034362895579 : Int64) (own_f11 q1 (0 : Int32))) (own_f11 q1 (1 : Int32))) (own_f11 q1 (2 : Int32))) (own_f11 q1 (3 : Int32))) (own_f11 q1 (4 : Int32))) (own_f11 q1 (5 : Int32))) (own_f11 q1 (6 : Int32))) (own_f11 q1 (7 : Int32))) else (own_f12 (own_f12 (own_f12 (own_f12 (own_f12 (own_f12 (own_f12 (-3750763034362895579 : Int64) (own_f11 q1 (0 : Int32))) (own_f11 q1 (1 : Int32))) (own_f11 q1 (2 : Int32))) (own_f11 q1 (3 : Int32))) (own_f11 q1 (4 : Int32))) (own_f11 q1 (5 : Int32))) (own_f11 q1 (6 : Int32)))) else (own_f12 (own_f12 (own_f12 (own_f12 (own_f12 (own_f12 (-3750763034362895579 : Int64) (own_f11 q1 (0 : Int32))) (own_f11 q1 (1 : Int32))) (own_f11 q1 (2 : Int32))) (own_f11 q1 (3 : Int32))) (own_f11 q1 (4 : Int32))) (own_f11 q1 (5 : Int32)))) else (own_f12 (own_f12 (own_f12 (own_f12 (own_f12 (-3750763034362895579 : Int64) (own_f11 q1 (0 : Int32))) (own_f11 q1 (1 : Int32))) (own_f11 q1 (2 : Int32))) (own_f11 q1 (3 : Int32))) (own_f11 q1 (4 : Int32)))) else (own_f12 (own_f12 (own_f12 (own_f12 (-3750763034362895579 : Int64) (own_f11 q1 (0 : Int32))) (own_f11 q1 (1 : Int32))) (own_f11 q1 (2 : Int32))) (own_f11 q1 (3 : Int32)))) else (own_f12 (own_f12 (own_f12 (-3750763034362895579 : Int64) (own_f11 q1 (0 : Int32))) (own_f11 q1 (1 : Int32))) (own_f11 q1 (2 : Int32)))) else (own_f12 (own_f12 (-3750763034362895579 : Int64) (own_f11 q1 (0 : Int32))) (own_f11 q1 (1 : Int32)))) else (own_f12 (-3750763034362895579 : Int64) (own_f11 q1 (0 : Int32)))) else (-3750763034362895579 : Int64))
theorem pd_2 : parseMethodDescriptor "(JI)I" = some ⟨[.long, .int], some .int⟩ := by decide +kernel
theorem pd_3 : parseMethodDescriptor "(JI)J" = some ⟨[.long, .int], some .long⟩ := by decide +kernel
theorem d5_0 : decode method_7_code 0 = .ok (.ldc2_w 42, 3) := by decide +kernel
theorem d5_3 : decode method_7_code 3 = .ok (.lstore_n 3, 1) := by decide +kernel
theorem d5_4 : decode method_7_code 4 = .ok (.iload_n 0, 1) := by decide +kernel
theorem d5_5 : decode method_7_code 5 = .ok (.ifCond .le 13, 3) := by decide +kernel
theorem d5_8 : decode method_7_code 8 = .ok (.lload_n 3, 1) := by decide +kernel
theorem d5_9 : decode method_7_code 9 = .ok (.lload_n 1, 1) := by decide +kernel
theorem d5_10 : decode method_7_code 10 = .ok (.iconst 0, 1) := by decide +kernel
theorem d5_11 : decode method_7_code 11 = .ok (.invokestatic 44, 3) := by decide +kernel
theorem d5_14 : decode method_7_code 14 = .ok (.invokestatic 48, 3) := by decide +kernel
theorem d5_17 : decode method_7_code 17 = .ok (.lstore_n 3, 1) := by decide +kernel
theorem d5_18 : decode method_7_code 18 = .ok (.iload_n 0, 1) := by decide +kernel
theorem d5_19 : decode method_7_code 19 = .ok (.iconst 1, 1) := by decide +kernel
theorem d5_20 : decode method_7_code 20 = .ok (.if_icmp .le 13, 3) := by decide +kernel
theorem d5_23 : decode method_7_code 23 = .ok (.lload_n 3, 1) := by decide +kernel
theorem d5_24 : decode method_7_code 24 = .ok (.lload_n 1, 1) := by decide +kernel
theorem d5_25 : decode method_7_code 25 = .ok (.iconst 1, 1) := by decide +kernel
theorem d5_26 : decode method_7_code 26 = .ok (.invokestatic 44, 3) := by decide +kernel
theorem d5_29 : decode method_7_code 29 = .ok (.invokestatic 48, 3) := by decide +kernel
theorem d5_32 : decode method_7_code 32 = .ok (.lstore_n 3, 1) := by decide +kernel
theorem d5_33 : decode method_7_code 33 = .ok (.iload_n 0, 1) := by decide +kernel
theorem d5_34 : decode method_7_code 34 = .ok (.iconst 2, 1) := by decide +kernel
theorem d5_35 : decode method_7_code 35 = .ok (.if_icmp .le 13, 3) := by decide +kernel
theorem d5_38 : decode method_7_code 38 = .ok (.lload_n 3, 1) := by decide +kernel
theorem d5_39 : decode method_7_code 39 = .ok (.lload_n 1, 1) := by decide +kernel
theorem d5_40 : decode method_7_code 40 = .ok (.iconst 2, 1) := by decide +kernel
theorem d5_41 : decode method_7_code 41 = .ok (.invokestatic 44, 3) := by decide +kernel
theorem d5_44 : decode method_7_code 44 = .ok (.invokestatic 48, 3) := by decide +kernel
theorem d5_47 : decode method_7_code 47 = .ok (.lstore_n 3, 1) := by decide +kernel
theorem d5_48 : decode method_7_code 48 = .ok (.iload_n 0, 1) := by decide +kernel
theorem d5_49 : decode method_7_code 49 = .ok (.iconst 3, 1) := by decide +kernel
theorem d5_50 : decode method_7_code 50 = .ok (.if_icmp .le 13, 3) := by decide +kernel
theorem d5_53 : decode method_7_code 53 = .ok (.lload_n 3, 1) := by decide +kernel
theorem d5_54 : decode method_7_code 54 = .ok (.lload_n 1, 1) := by decide +kernel
theorem d5_55 : decode method_7_code 55 = .ok (.iconst 3, 1) := by decide +kernel
theorem d5_56 : decode method_7_code 56 = .ok (.invokestatic 44, 3) := by decide +kernel
theorem d5_59 : decode method_7_code 59 = .ok (.invokestatic 48, 3) := by decide +kernel
theorem d5_62 : decode method_7_code 62 = .ok (.lstore_n 3, 1) := by decide +kernel
theorem d5_63 : decode method_7_code 63 = .ok (.iload_n 0, 1) := by decide +kernel
theorem d5_64 : decode method_7_code 64 = .ok (.iconst 4, 1) := by decide +kernel
theorem d5_65 : decode method_7_code 65 = .ok (.if_icmp .le 13, 3) := by decide +kernel
theorem d5_68 : decode method_7_code 68 = .ok (.lload_n 3, 1) := by decide +kernel
theorem d5_69 : decode method_7_code 69 = .ok (.lload_n 1, 1) := by decide +kernel
theorem d5_70 : decode method_7_code 70 = .ok (.iconst 4, 1) := by decide +kernel
theorem d5_71 : decode method_7_code 71 = .ok (.invokestatic 44, 3) := by decide +kernel
theorem d5_74 : decode method_7_code 74 = .ok (.invokestatic 48, 3) := by decide +kernel
theorem d5_77 : decode method_7_code 77 = .ok (.lstore_n 3, 1) := by decide +kernel
theorem d5_78 : decode method_7_code 78 = .ok (.iload_n 0, 1) := by decide +kernel
theorem d5_79 : decode method_7_code 79 = .ok (.iconst 5, 1) := by decide +kernel
theorem d5_80 : decode method_7_code 80 = .ok (.if_icmp .le 13, 3) := by decide +kernel
theorem d5_83 : decode method_7_code 83 = .ok (.lload_n 3, 1) := by decide +kernel
theorem d5_84 : decode method_7_code 84 = .ok (.lload_n 1, 1) := by decide +kernel
theorem d5_85 : decode method_7_code 85 = .ok (.iconst 5, 1) := by decide +kernel
theorem d5_86 : decode method_7_code 86 = .ok (.invokestatic 44, 3) := by decide +kernel
theorem d5_89 : decode method_7_code 89 = .ok (.invokestatic 48, 3) := by decide +kernel
theorem d5_92 : decode method_7_code 92 = .ok (.lstore_n 3, 1) := by decide +kernel
theorem d5_93 : decode method_7_code 93 = .ok (.iload_n 0, 1) := by decide +kernel
theorem d5_94 : decode method_7_code 94 = .ok (.bipush 6, 2) := by decide +kernel
theorem d5_96 : decode method_7_code 96 = .ok (.if_icmp .le 14, 3) := by decide +kernel
theorem d5_99 : decode method_7_code 99 = .ok (.lload_n 3, 1) := by decide +kernel
theorem d5_100 : decode method_7_code 100 = .ok (.lload_n 1, 1) := by decide +kernel
theorem d5_101 : decode method_7_code 101 = .ok (.bipush 6, 2) := by decide +kernel
theorem d5_103 : decode method_7_code 103 = .ok (.invokestatic 44, 3) := by decide +kernel
theorem d5_106 : decode method_7_code 106 = .ok (.invokestatic 48, 3) := by decide +kernel
theorem d5_109 : decode method_7_code 109 = .ok (.lstore_n 3, 1) := by decide +kernel
theorem d5_110 : decode method_7_code 110 = .ok (.iload_n 0, 1) := by decide +kernel
theorem d5_111 : decode method_7_code 111 = .ok (.bipush 7, 2) := by decide +kernel
theorem d5_113 : decode method_7_code 113 = .ok (.if_icmp .le 14, 3) := by decide +kernel
theorem d5_116 : decode method_7_code 116 = .ok (.lload_n 3, 1) := by decide +kernel
theorem d5_117 : decode method_7_code 117 = .ok (.lload_n 1, 1) := by decide +kernel
theorem d5_118 : decode method_7_code 118 = .ok (.bipush 7, 2) := by decide +kernel
theorem d5_120 : decode method_7_code 120 = .ok (.invokestatic 44, 3) := by decide +kernel
theorem d5_123 : decode method_7_code 123 = .ok (.invokestatic 48, 3) := by decide +kernel
theorem d5_126 : decode method_7_code 126 = .ok (.lstore_n 3, 1) := by decide +kernel
theorem d5_127 : decode method_7_code 127 = .ok (.lload_n 3, 1) := by decide +kernel
theorem d5_128 : decode method_7_code 128 = .ok (.lreturn, 1) := by decide +kernel
theorem ef_rm5 (m : MethodId) (p0 : Int32) (q1 : Int64) : entryFrame m #[(.int p0), (.long q1)] 5 = mkF m 0 #[.val (.int p0), .val (.long q1), .second, .unset, .unset] [] := by first | (simp [entryFrame, mkF, argsToLocals, Value.category]; done) | rfl
def Q5 (Z : State) (p0 : Int32) (q1 : Int64) (h0 : Heap) (n0 : Nat) (v : Option Value) (h : Heap) (L : List Loc) : Prop := v = some (.long (own_f5 p0 q1)) ∧ Fr n0 L ∧ h = h0
set_option maxRecDepth 65536 in
set_option maxHeartbeats 40000000 in
theorem rm5 (l : Launch) (Z : State) (aw : Array Value) (hw : ∀ d ∈ tables_1, d.before aw Z = true) (ws : List Jvm.Cond) (p0 : Int32) (q1 : Int64) (h0 : Heap) (n0 : Nat) (Z0 : n0 ≤ h0.size) :
    MetFree l (⟨"com/example/honeyguide/honeyguide/index/KeyHashCodePinLaw", "fnv", "(IJ)J"⟩ : MethodName) (head1 (Jvm.Cond.code (⟨"com/example/honeyguide/honeyguide/index/KeyHashCodePinLaw", "fnv", "(IJ)J"⟩ : MethodName) method_7_code 5 (some .long) :: ws) ({ frames := 1, cells := 0, slots := 0, locals := 16 } : Room)) (fun a U => a = #[(.int p0), (.long q1)] ∧ Z.Warmed39 U.vm ∧ U.heap = h0) (fun _ _ _ _ _ => True) (fun _ U o U' => ∃ v L, o = .returned v ∧ Q5 Z p0 q1 h0 n0 v U'.heap L ∧ FrameEnd U o U' L ({ frames := 1, cells := 0, slots := 0, locals := 16 } : Room).cells ({ frames := 1, cells := 0, slots := 0, locals := 16 } : Room).slots) := by
  refine MetFree.of_bodySF (plainFor_of_name pn_0) hisR ?_
  intro p e s m args below meth c s₁ Bd hml0 hP hK
  obtain ⟨rfl, hZ, hh⟩ := hP
  have hx := Bd.exec
  have hby := Bd.bytes
  have hml : c.maxLocals = 5 := hml0
  have hown : s.vm.findClass "com/example/honeyguide/honeyguide/index/KeyHashCodePinLaw" = some m.cls := findClass_of_methodNamed Bd.named
  have hnm := (name_of_methodNamed Bd.named Bd.method).1
  have X0 : Stand p l e ({ frames := 1, cells := 0, slots := 0, locals := 16 } : Room) s m #[(.int p0), (.long q1)] below meth c s₁ [] 0 0 := Stand.of_body Bd
  have e0 : s₁.heap = h0 := by rw [← hh, Bd.state]; rfl
  have N0 := Fr.nil n0
  have K0 : Keep h0 h0 [] := Keep.refl _ _
  refine own_by (A' := s₁.setTop (mkF m 0 #[.val (.int p0), .val (.long q1), .second, .unset, .unset] [])) (fun t k => castTop (ef_rm5 m p0 q1) k) ?_
  refine own_by (A' := s₁.setTop (mkF m 5 #[.val (.int p0), .val (.long q1), .second, .val (.long (-3750763034362895579 : Int64)), .second] [(.int p0)])) (fun t kt => ?_) ?_
  · show Steps p.tables e below (s₁.setTop (mkF m 0 #[.val (.int p0), .val (.long q1), .second, .unset, .unset] [])) t
    refine X0.ldc2Long hx hown (mvT hZ (hw _ (List.mem_of_getElem? (i := 24) rfl))) (g := (mkF m 0 #[.val (.int p0), .val (.long q1), .second, .unset, .unset] [])) rfl (hb hby d5_0) _ ?_
    show Steps p.tables e below (s₁.setTop (mkF m 3 #[.val (.int p0), .val (.long q1), .second, .unset, .unset] [(.long (-3750763034362895579 : Int64))])) t
    refine XS.lstoreN X0.here hx rfl (hb hby d5_3) rfl (l' := #[.val (.int p0), .val (.long q1), .second, .val (.long (-3750763034362895579 : Int64)), .second]) rfl ?_
    show Steps p.tables e below (s₁.setTop (mkF m 4 #[.val (.int p0), .val (.long q1), .second, .val (.long (-3750763034362895579 : Int64)), .second] [])) t
    refine XS.iloadN X0.here hx rfl (hb hby d5_4) rfl ?_
    exact kt
  by_cases hc5_1 : (0 : Int32) < p0
  · refine own_by (A' := s₁.setTop (mkF m 11 #[.val (.int p0), .val (.long q1), .second, .val (.long (-3750763034362895579 : Int64)), .second] [(.int (0 : Int32)), (.long q1), (.long (-3750763034362895579 : Int64))])) (fun t kt => ?_) ?_
    · show Steps p.tables e below (s₁.setTop (mkF m 5 #[.val (.int p0), .val (.long q1), .second, .val (.long (-3750763034362895579 : Int64)), .second] [(.int p0)])) t
      refine XS.ifNo X0.here hx rfl (hb hby d5_5) rfl ((if0 _ _).trans (tlt hc5_1).2.2.2) ?_
      show Steps p.tables e below (s₁.setTop (mkF m 8 #[.val (.int p0), .val (.long q1), .second, .val (.long (-3750763034362895579 : Int64)), .second] [])) t
      refine XS.lloadN X0.here hx rfl (hb hby d5_8) rfl ?_
      show Steps p.tables e below (s₁.setTop (mkF m 9 #[.val (.int p0), .val (.long q1), .second, .val (.long (-3750763034362895579 : Int64)), .second] [(.long (-3750763034362895579 : Int64))])) t
      refine XS.lloadN X0.here hx rfl (hb hby d5_9) rfl ?_
      show Steps p.tables e below (s₁.setTop (mkF m 10 #[.val (.int p0), .val (.long q1), .second, .val (.long (-3750763034362895579 : Int64)), .second] [(.long q1), (.long (-3750763034362895579 : Int64))])) t
      refine XS.iconst X0.here hx rfl (hb hby d5_10) ?_
      exact kt
    obtain ⟨_, _, ⟨T2, L2, k2, n2⟩, -, X2, ⟨Lc2, hQ2, l2, y2, z2⟩, st2⟩ := Jvm.LawKit.callS X0 hx (y := (⟨"com/example/honeyguide/honeyguide/index/KeyHashCodePinLaw", "octet", "(JI)I"⟩ : MethodName)) hown (mvT hZ (hw _ (List.mem_of_getElem? (i := 49) rfl))) (mvT hZ (hw _ (List.mem_of_getElem? (i := 50) rfl))) (mvT hZ (hw _ (List.mem_of_getElem? (i := 2) rfl))) (mvT hZ (hw _ (List.mem_of_getElem? (i := 51) rfl))) (by decide) (backOf (W := 2) (rm11 l Z aw hw [] q1 (0 : Int32) h0 n0 (Nat.le_trans Z0 K0.1) ) hZ (hw _ (List.mem_of_getElem? (i := 51) rfl)) (hw _ (List.mem_of_getElem? (i := 2) rfl)) (by decide) (by decide)) (g := (mkF m 11 #[.val (.int p0), .val (.long q1), .second, .val (.long (-3750763034362895579 : Int64)), .second] [(.int (0 : Int32)), (.long q1), (.long (-3750763034362895579 : Int64))])) rfl (by rw [hml]; rfl) (argsL := [(.long q1), (.int (0 : Int32))]) (rest := [(.long (-3750763034362895579 : Int64))]) (lenOf pd_2 rfl) rfl (by show 2 * 0 + _ ≤ _; exact Nat.le_of_eq rfl) (hb hby d5_11) (fun _ _ => ⟨rfl, e0, (by decide : 0 + 0 ≤ _), (by decide : 0 + 0 ≤ _)⟩)
    dsimp only [Pt.U, Pt.locs, Pt.cells, Pt.slots] at X2 l2 y2 z2 st2 hQ2
    subst l2 y2 z2
    obtain ⟨rfl, N2q, e2⟩ := hQ2
    have N2 := Fr.app N0 N2q
    refine own_by (A' := T2.setTop (mkF m 14 #[.val (.int p0), .val (.long q1), .second, .val (.long (-3750763034362895579 : Int64)), .second] [(.int (own_f11 q1 (0 : Int32))), (.long (-3750763034362895579 : Int64))])) (fun t kt => st2 t kt) ?_
    obtain ⟨_, _, ⟨T3, L3, k3, n3⟩, -, X3, ⟨Lc3, hQ3, l3, y3, z3⟩, st3⟩ := Jvm.LawKit.callS X2 hx (y := (⟨"com/example/honeyguide/honeyguide/index/KeyHashCodePinLaw", "step", "(JI)J"⟩ : MethodName)) hown (mvT hZ (hw _ (List.mem_of_getElem? (i := 53) rfl))) (mvT hZ (hw _ (List.mem_of_getElem? (i := 54) rfl))) (mvT hZ (hw _ (List.mem_of_getElem? (i := 2) rfl))) (mvT hZ (hw _ (List.mem_of_getElem? (i := 55) rfl))) (by decide) (backOf (W := 0) (rm12 l Z aw hw [] (-3750763034362895579 : Int64) (own_f11 q1 (0 : Int32)) h0 n0 (Nat.le_trans Z0 K0.1) ) hZ (hw _ (List.mem_of_getElem? (i := 55) rfl)) (hw _ (List.mem_of_getElem? (i := 2) rfl)) (by decide) (by decide)) (g := (mkF m 14 #[.val (.int p0), .val (.long q1), .second, .val (.long (-3750763034362895579 : Int64)), .second] [(.int (own_f11 q1 (0 : Int32))), (.long (-3750763034362895579 : Int64))])) rfl (by rw [hml]; rfl) (argsL := [(.long (-3750763034362895579 : Int64)), (.int (own_f11 q1 (0 : Int32)))]) (rest := []) (lenOf pd_3 rfl) rfl (by show 2 * 0 + _ ≤ _; exact Nat.le_of_eq rfl) (hb hby d5_14) (fun _ _ => ⟨rfl, e2, (by decide : 0 + 0 ≤ _), (by decide : 0 + 0 ≤ _)⟩)
    dsimp only [Pt.U, Pt.locs, Pt.cells, Pt.slots] at X3 l3 y3 z3 st3 hQ3
    subst l3 y3 z3
    obtain ⟨rfl, N3q, e3⟩ := hQ3
    have N3 := Fr.app N2 N3q
    refine own_by (A' := T3.setTop (mkF m 17 #[.val (.int p0), .val (.long q1), .second, .val (.long (-3750763034362895579 : Int64)), .second] [(.long (own_f12 (-3750763034362895579 : Int64) (own_f11 q1 (0 : Int32))))])) (fun t kt => st3 t kt) ?_
    refine own_by (A' := T3.setTop (mkF m 20 #[.val (.int p0), .val (.long q1), .second, .val (.long (own_f12 (-3750763034362895579 : Int64) (own_f11 q1 (0 : Int32)))), .second] [(.int (1 : Int32)), (.int p0)])) (fun t kt => ?_) ?_
    · show Steps p.tables e below (T3.setTop (mkF m 17 #[.val (.int p0), .val (.long q1), .second, .val (.long (-3750763034362895579 : Int64)), .second] [(.long (own_f12 (-3750763034362895579 : Int64) (own_f11 q1 (0 : Int32))))])) t
      refine XS.lstoreN X3.here hx rfl (hb hby d5_17) rfl (l' := #[.val (.int p0), .val (.long q1), .second, .val (.long (own_f12 (-3750763034362895579 : Int64) (own_f11 q1 (0 : Int32)))), .second]) rfl ?_
      show Steps p.tables e below (T3.setTop (mkF m 18 #[.val (.int p0), .val (.long q1), .second, .val (.long (own_f12 (-3750763034362895579 : Int64) (own_f11 q1 (0 : Int32)))), .second] [])) t
      refine XS.iloadN X3.here hx rfl (hb hby d5_18) rfl ?_
      show Steps p.tables e below (T3.setTop (mkF m 19 #[.val (.int p0), .val (.long q1), .second, .val (.long (own_f12 (-3750763034362895579 : Int64) (own_f11 q1 (0 : Int32)))), .second] [(.int p0)])) t
      refine XS.iconst X3.here hx rfl (hb hby d5_19) ?_
      exact kt
    by_cases hc20_4 : (1 : Int32) < p0
    · refine own_by (A' := T3.setTop (mkF m 26 #[.val (.int p0), .val (.long q1), .second, .val (.long (own_f12 (-3750763034362895579 : Int64) (own_f11 q1 (0 : Int32)))), .second] [(.int (1 : Int32)), (.long q1), (.long (own_f12 (-3750763034362895579 : Int64) (own_f11 q1 (0 : Int32))))])) (fun t kt => ?_) ?_
      · show Steps p.tables e below (T3.setTop (mkF m 20 #[.val (.int p0), .val (.long q1), .second, .val (.long (own_f12 (-3750763034362895579 : Int64) (own_f11 q1 (0 : Int32)))), .second] [(.int (1 : Int32)), (.int p0)])) t
        refine XS.icmpNo X3.here hx rfl (hb hby d5_20) rfl (tlt hc20_4).2.2.2 ?_
        show Steps p.tables e below (T3.setTop (mkF m 23 #[.val (.int p0), .val (.long q1), .second, .val (.long (own_f12 (-3750763034362895579 : Int64) (own_f11 q1 (0 : Int32)))), .second] [])) t
        refine XS.lloadN X3.here hx rfl (hb hby d5_23) rfl ?_
        show Steps p.tables e below (T3.setTop (mkF m 24 #[.val (.int p0), .val (.long q1), .second, .val (.long (own_f12 (-3750763034362895579 : Int64) (own_f11 q1 (0 : Int32)))), .second] [(.long (own_f12 (-3750763034362895579 : Int64) (own_f11 q1 (0 : Int32))))])) t
        refine XS.lloadN X3.here hx rfl (hb hby d5_24) rfl ?_
        show Steps p.tables e below (T3.setTop (mkF m 25 #[.val (.int p0), .val (.long q1), .second, .val (.long (own_f12 (-3750763034362895579 : Int64) (own_f11 q1 (0 : Int32)))), .second] [(.long q1), (.long (own_f12 (-3750763034362895579 : Int64) (own_f11 q1 (0 : Int32))))])) t
        refine XS.iconst X3.here hx rfl (hb hby d5_25) ?_
        exact kt
      obtain ⟨_, _, ⟨T5, L5, k5, n5⟩, -, X5, ⟨Lc5, hQ5, l5, y5, z5⟩, st5⟩ := Jvm.LawKit.callS X3 hx (y := (⟨"com/example/honeyguide/honeyguide/index/KeyHashCodePinLaw", "octet", "(JI)I"⟩ : MethodName)) hown (mvT hZ (hw _ (List.mem_of_getElem? (i := 49) rfl))) (mvT hZ (hw _ (List.mem_of_getElem? (i := 50) rfl))) (mvT hZ (hw _ (List.mem_of_getElem? (i := 2) rfl))) (mvT hZ (hw _ (List.mem_of_getElem? (i := 51) rfl))) (by decide) (backOf (W := 2) (rm11 l Z aw hw [] q1 (1 : Int32) h0 n0 (Nat.le_trans Z0 K0.1) ) hZ (hw _ (List.mem_of_getElem? (i := 51) rfl)) (hw _ (List.mem_of_getElem? (i := 2) rfl)) (by decide) (by decide)) (g := (mkF m 26 #[.val (.int p0), .val (.long q1), .second, .val (.long (own_f12 (-3750763034362895579 : Int64) (own_f11 q1 (0 : Int32)))), .second] [(.int (1 : Int32)), (.long q1), (.long (own_f12 (-3750763034362895579 : Int64) (own_f11 q1 (0 : Int32))))])) rfl (by rw [hml]; rfl) (argsL := [(.long q1), (.int (1 : Int32))]) (rest := [(.long (own_f12 (-3750763034362895579 : Int64) (own_f11 q1 (0 : Int32))))]) (lenOf pd_2 rfl) rfl (by show 2 * 0 + _ ≤ _; exact Nat.le_of_eq rfl) (hb hby d5_26) (fun _ _ => ⟨rfl, e3, (by decide : 0 + 0 ≤ _), (by decide : 0 + 0 ≤ _)⟩)
      dsimp only [Pt.U, Pt.locs, Pt.cells, Pt.slots] at X5 l5 y5 z5 st5 hQ5
      subst l5 y5 z5
      obtain ⟨rfl, N5q, e5⟩ := hQ5
      have N5 := Fr.app N3 N5q
      refine own_by (A' := T5.setTop (mkF m 29 #[.val (.int p0), .val (.long q1), .second, .val (.long (own_f12 (-3750763034362895579 : Int64) (own_f11 q1 (0 : Int32)))), .second] [(.int (own_f11 q1 (1 : Int32))), (.long (own_f12 (-3750763034362895579 : Int64) (own_f11 q1 (0 : Int32))))])) (fun t kt => st5 t kt) ?_
      obtain ⟨_, _, ⟨T6, L6, k6, n6⟩, -, X6, ⟨Lc6, hQ6, l6, y6, z6⟩, st6⟩ := Jvm.LawKit.callS X5 hx (y := (⟨"com/example/honeyguide/honeyguide/index/KeyHashCodePinLaw", "step", "(JI)J"⟩ : MethodName)) hown (mvT hZ (hw _ (List.mem_of_getElem? (i := 53) rfl))) (mvT hZ (hw _ (List.mem_of_getElem? (i := 54) rfl))) (mvT hZ (hw _ (List.mem_of_getElem? (i := 2) rfl))) (mvT hZ (hw _ (List.mem_of_getElem? (i := 55) rfl))) (by decide) (backOf (W := 0) (rm12 l Z aw hw [] (own_f12 (-3750763034362895579 : Int64) (own_f11 q1 (0 : Int32))) (own_f11 q1 (1 : Int32)) h0 n0 (Nat.le_trans Z0 K0.1) ) hZ (hw _ (List.mem_of_getElem? (i := 55) rfl)) (hw _ (List.mem_of_getElem? (i := 2) rfl)) (by decide) (by decide)) (g := (mkF m 29 #[.val (.int p0), .val (.long q1), .second, .val (.long (own_f12 (-3750763034362895579 : Int64) (own_f11 q1 (0 : Int32)))), .second] [(.int (own_f11 q1 (1 : Int32))), (.long (own_f12 (-3750763034362895579 : Int64) (own_f11 q1 (0 : Int32))))])) rfl (by rw [hml]; rfl) (argsL := [(.long (own_f12 (-3750763034362895579 : Int64) (own_f11 q1 (0 : Int32)))), (.int (own_f11 q1 (1 : Int32)))]) (rest := []) (lenOf pd_3 rfl) rfl (by show 2 * 0 + _ ≤ _; exact Nat.le_of_eq rfl) (hb hby d5_29) (fun _ _ => ⟨rfl, e5, (by decide : 0 + 0 ≤ _), (by decide : 0 + 0 ≤ _)⟩)
      dsimp only [Pt.U, Pt.locs, Pt.cells, Pt.slots] at X6 l6 y6 z6 st6 hQ6
      subst l6 y6 z6
      obtain ⟨rfl, N6q, e6⟩ := hQ6
      have N6 := Fr.app N5 N6q
      refine own_by (A' := T6.setTop (mkF m 32 #[.val (.int p0), .val (.long q1), .second, .val (.long (own_f12 (-3750763034362895579 : Int64) (own_f11 q1 (0 : Int32)))), .second] [(.long (own_f12 (own_f12 (-3750763034362895579 : Int64) (own_f11 q1 (0 : Int32))) (own_f11 q1 (1 : Int32))))])) (fun t kt => st6 t kt) ?_
      refine own_by (A' := T6.setTop (mkF m 35 #[.val (.int p0), .val (.long q1), .second, .val (.long (own_f12 (own_f12 (-3750763034362895579 : Int64) (own_f11 q1 (0 : Int32))) (own_f11 q1 (1 : Int32)))), .second] [(.int (2 : Int32)), (.int p0)])) (fun t kt => ?_) ?_
      · show Steps p.tables e below (T6.setTop (mkF m 32 #[.val (.int p0), .val (.long q1), .second, .val (.long (own_f12 (-3750763034362895579 : Int64) (own_f11 q1 (0 : Int32)))), .second] [(.long (own_f12 (own_f12 (-3750763034362895579 : Int64) (own_f11 q1 (0 : Int32))) (own_f11 q1 (1 : Int32))))])) t
        refine XS.lstoreN X6.here hx rfl (hb hby d5_32) rfl (l' := #[.val (.int p0), .val (.long q1), .second, .val (.long (own_f12 (own_f12 (-3750763034362895579 : Int64) (own_f11 q1 (0 : Int32))) (own_f11 q1 (1 : Int32)))), .second]) rfl ?_
        show Steps p.tables e below (T6.setTop (mkF m 33 #[.val (.int p0), .val (.long q1), .second, .val (.long (own_f12 (own_f12 (-3750763034362895579 : Int64) (own_f11 q1 (0 : Int32))) (own_f11 q1 (1 : Int32)))), .second] [])) t
        refine XS.iloadN X6.here hx rfl (hb hby d5_33) rfl ?_
        show Steps p.tables e below (T6.setTop (mkF m 34 #[.val (.int p0), .val (.long q1), .second, .val (.long (own_f12 (own_f12 (-3750763034362895579 : Int64) (own_f11 q1 (0 : Int32))) (own_f11 q1 (1 : Int32)))), .second] [(.int p0)])) t
        refine XS.iconst X6.here hx rfl (hb hby d5_34) ?_
        exact kt
      by_cases hc35_7 : (2 : Int32) < p0
      · refine own_by (A' := T6.setTop (mkF m 41 #[.val (.int p0), .val (.long q1), .second, .val (.long (own_f12 (own_f12 (-3750763034362895579 : Int64) (own_f11 q1 (0 : Int32))) (own_f11 q1 (1 : Int32)))), .second] [(.int (2 : Int32)), (.long q1), (.long (own_f12 (own_f12 (-3750763034362895579 : Int64) (own_f11 q1 (0 : Int32))) (own_f11 q1 (1 : Int32))))])) (fun t kt => ?_) ?_
        · show Steps p.tables e below (T6.setTop (mkF m 35 #[.val (.int p0), .val (.long q1), .second, .val (.long (own_f12 (own_f12 (-3750763034362895579 : Int64) (own_f11 q1 (0 : Int32))) (own_f11 q1 (1 : Int32)))), .second] [(.int (2 : Int32)), (.int p0)])) t
          refine XS.icmpNo X6.here hx rfl (hb hby d5_35) rfl (tlt hc35_7).2.2.2 ?_
          show Steps p.tables e below (T6.setTop (mkF m 38 #[.val (.int p0), .val (.long q1), .second, .val (.long (own_f12 (own_f12 (-3750763034362895579 : Int64) (own_f11 q1 (0 : Int32))) (own_f11 q1 (1 : Int32)))), .second] [])) t
          refine XS.lloadN X6.here hx rfl (hb hby d5_38) rfl ?_
          show Steps p.tables e below (T6.setTop (mkF m 39 #[.val (.int p0), .val (.long q1), .second, .val (.long (own_f12 (own_f12 (-3750763034362895579 : Int64) (own_f11 q1 (0 : Int32))) (own_f11 q1 (1 : Int32)))), .second] [(.long (own_f12 (own_f12 (-3750763034362895579 : Int64) (own_f11 q1 (0 : Int32))) (own_f11 q1 (1 : Int32))))])) t
          refine XS.lloadN X6.here hx rfl (hb hby d5_39) rfl ?_
          show Steps p.tables e below (T6.setTop (mkF m 40 #[.val (.int p0), .val (.long q1), .second, .val (.long (own_f12 (own_f12 (-3750763034362895579 : Int64) (own_f11 q1 (0 : Int32))) (own_f11 q1 (1 : Int32)))), .second] [(.long q1), (.long (own_f12 (own_f12 (-3750763034362895579 : Int64) (own_f11 q1 (0 : Int32))) (own_f11 q1 (1 : Int32))))])) t
          refine XS.iconst X6.here hx rfl (hb hby d5_40) ?_
          exact kt
        obtain ⟨_, _, ⟨T8, L8, k8, n8⟩, -, X8, ⟨Lc8, hQ8, l8, y8, z8⟩, st8⟩ := Jvm.LawKit.callS X6 hx (y := (⟨"com/example/honeyguide/honeyguide/index/KeyHashCodePinLaw", "octet", "(JI)I"⟩ : MethodName)) hown (mvT hZ (hw _ (List.mem_of_getElem? (i := 49) rfl))) (mvT hZ (hw _ (List.mem_of_getElem? (i := 50) rfl))) (mvT hZ (hw _ (List.mem_of_getElem? (i := 2) rfl))) (mvT hZ (hw _ (List.mem_of_getElem? (i := 51) rfl))) (by decide) (backOf (W := 2) (rm11 l Z aw hw [] q1 (2 : Int32) h0 n0 (Nat.le_trans Z0 K0.1) ) hZ (hw _ (List.mem_of_getElem? (i := 51) rfl)) (hw _ (List.mem_of_getElem? (i := 2) rfl)) (by decide) (by decide)) (g := (mkF m 41 #[.val (.int p0), .val (.long q1), .second, .val (.long (own_f12 (own_f12 (-3750763034362895579 : Int64) (own_f11 q1 (0 : Int32))) (own_f11 q1 (1 : Int32)))), .second] [(.int (2 : Int32)), (.long q1), (.long (own_f12 (own_f12 (-3750763034362895579 : Int64) (own_f11 q1 (0 : Int32))) (own_f11 q1 (1 : Int32))))])) rfl (by rw [hml]; rfl) (argsL := [(.long q1), (.int (2 : Int32))]) (rest := [(.long (own_f12 (own_f12 (-3750763034362895579 : Int64) (own_f11 q1 (0 : Int32))) (own_f11 q1 (1 : Int32))))]) (lenOf pd_2 rfl) rfl (by show 2 * 0 + _ ≤ _; exact Nat.le_of_eq rfl) (hb hby d5_41) (fun _ _ => ⟨rfl, e6, (by decide : 0 + 0 ≤ _), (by decide : 0 + 0 ≤ _)⟩)
        dsimp only [Pt.U, Pt.locs, Pt.cells, Pt.slots] at X8 l8 y8 z8 st8 hQ8
        subst l8 y8 z8
        obtain ⟨rfl, N8q, e8⟩ := hQ8
        have N8 := Fr.app N6 N8q
        refine own_by (A' := T8.setTop (mkF m 44 #[.val (.int p0), .val (.long q1), .second, .val (.long (own_f12 (own_f12 (-3750763034362895579 : Int64) (own_f11 q1 (0 : Int32))) (own_f11 q1 (1 : Int32)))), .second] [(.int (own_f11 q1 (2 : Int32))), (.long (own_f12 (own_f12 (-3750763034362895579 : Int64) (own_f11 q1 (0 : Int32))) (own_f11 q1 (1 : Int32))))])) (fun t kt => st8 t kt) ?_
        obtain ⟨_, _, ⟨T9, L9, k9, n9⟩, -, X9, ⟨Lc9, hQ9, l9, y9, z9⟩, st9⟩ := Jvm.LawKit.callS X8 hx (y := (⟨"com/example/honeyguide/honeyguide/index/KeyHashCodePinLaw", "step", "(JI)J"⟩ : MethodName)) hown (mvT hZ (hw _ (List.mem_of_getElem? (i := 53) rfl))) (mvT hZ (hw _ (List.mem_of_getElem? (i := 54) rfl))) (mvT hZ (hw _ (List.mem_of_getElem? (i := 2) rfl))) (mvT hZ (hw _ (List.mem_of_getElem? (i := 55) rfl))) (by decide) (backOf (W := 0) (rm12 l Z aw hw [] (own_f12 (own_f12 (-3750763034362895579 : Int64) (own_f11 q1 (0 : Int32))) (own_f11 q1 (1 : Int32))) (own_f11 q1 (2 : Int32)) h0 n0 (Nat.le_trans Z0 K0.1) ) hZ (hw _ (List.mem_of_getElem? (i := 55) rfl)) (hw _ (List.mem_of_getElem? (i := 2) rfl)) (by decide) (by decide)) (g := (mkF m 44 #[.val (.int p0), .val (.long q1), .second, .val (.long (own_f12 (own_f12 (-3750763034362895579 : Int64) (own_f11 q1 (0 : Int32))) (own_f11 q1 (1 : Int32)))), .second] [(.int (own_f11 q1 (2 : Int32))), (.long (own_f12 (own_f12 (-3750763034362895579 : Int64) (own_f11 q1 (0 : Int32))) (own_f11 q1 (1 : Int32))))])) rfl (by rw [hml]; rfl) (argsL := [(.long (own_f12 (own_f12 (-3750763034362895579 : Int64) (own_f11 q1 (0 : Int32))) (own_f11 q1 (1 : Int32)))), (.int (own_f11 q1 (2 : Int32)))]) (rest := []) (lenOf pd_3 rfl) rfl (by show 2 * 0 + _ ≤ _; exact Nat.le_of_eq rfl) (hb hby d5_44) (fun _ _ => ⟨rfl, e8, (by decide : 0 + 0 ≤ _), (by decide : 0 + 0 ≤ _)⟩)
        dsimp only [Pt.U, Pt.locs, Pt.cells, Pt.slots] at X9 l9 y9 z9 st9 hQ9
        subst l9 y9 z9
        obtain ⟨rfl, N9q, e9⟩ := hQ9
        have N9 := Fr.app N8 N9q
        refine own_by (A' := T9.setTop (mkF m 47 #[.val (.int p0), .val (.long q1), .second, .val (.long (own_f12 (own_f12 (-3750763034362895579 : Int64) (own_f11 q1 (0 : Int32))) (own_f11 q1 (1 : Int32)))), .second] [(.long (own_f12 (own_f12 (own_f12 (-3750763034362895579 : Int64) (own_f11 q1 (0 : Int32))) (own_f11 q1 (1 : Int32))) (own_f11 q1 (2 : Int32))))])) (fun t kt => st9 t kt) ?_
        refine own_by (A' := T9.setTop (mkF m 50 #[.val (.int p0), .val (.long q1), .second, .val (.long (own_f12 (own_f12 (own_f12 (-3750763034362895579 : Int64) (own_f11 q1 (0 : Int32))) (own_f11 q1 (1 : Int32))) (own_f11 q1 (2 : Int32)))), .second] [(.int (3 : Int32)), (.int p0)])) (fun t kt => ?_) ?_
        · show Steps p.tables e below (T9.setTop (mkF m 47 #[.val (.int p0), .val (.long q1), .second, .val (.long (own_f12 (own_f12 (-3750763034362895579 : Int64) (own_f11 q1 (0 : Int32))) (own_f11 q1 (1 : Int32)))), .second] [(.long (own_f12 (own_f12 (own_f12 (-3750763034362895579 : Int64) (own_f11 q1 (0 : Int32))) (own_f11 q1 (1 : Int32))) (own_f11 q1 (2 : Int32))))])) t
          refine XS.lstoreN X9.here hx rfl (hb hby d5_47) rfl (l' := #[.val (.int p0), .val (.long q1), .second, .val (.long (own_f12 (own_f12 (own_f12 (-3750763034362895579 : Int64) (own_f11 q1 (0 : Int32))) (own_f11 q1 (1 : Int32))) (own_f11 q1 (2 : Int32)))), .second]) rfl ?_
          show Steps p.tables e below (T9.setTop (mkF m 48 #[.val (.int p0), .val (.long q1), .second, .val (.long (own_f12 (own_f12 (own_f12 (-3750763034362895579 : Int64) (own_f11 q1 (0 : Int32))) (own_f11 q1 (1 : Int32))) (own_f11 q1 (2 : Int32)))), .second] [])) t
          refine XS.iloadN X9.here hx rfl (hb hby d5_48) rfl ?_
          show Steps p.tables e below (T9.setTop (mkF m 49 #[.val (.int p0), .val (.long q1), .second, .val (.long (own_f12 (own_f12 (own_f12 (-3750763034362895579 : Int64) (own_f11 q1 (0 : Int32))) (own_f11 q1 (1 : Int32))) (own_f11 q1 (2 : Int32)))), .second] [(.int p0)])) t
          refine XS.iconst X9.here hx rfl (hb hby d5_49) ?_
          exact kt
        by_cases hc50_10 : (3 : Int32) < p0
        · refine own_by (A' := T9.setTop (mkF m 56 #[.val (.int p0), .val (.long q1), .second, .val (.long (own_f12 (own_f12 (own_f12 (-3750763034362895579 : Int64) (own_f11 q1 (0 : Int32))) (own_f11 q1 (1 : Int32))) (own_f11 q1 (2 : Int32)))), .second] [(.int (3 : Int32)), (.long q1), (.long (own_f12 (own_f12 (own_f12 (-3750763034362895579 : Int64) (own_f11 q1 (0 : Int32))) (own_f11 q1 (1 : Int32))) (own_f11 q1 (2 : Int32))))])) (fun t kt => ?_) ?_
          · show Steps p.tables e below (T9.setTop (mkF m 50 #[.val (.int p0), .val (.long q1), .second, .val (.long (own_f12 (own_f12 (own_f12 (-3750763034362895579 : Int64) (own_f11 q1 (0 : Int32))) (own_f11 q1 (1 : Int32))) (own_f11 q1 (2 : Int32)))), .second] [(.int (3 : Int32)), (.int p0)])) t
            refine XS.icmpNo X9.here hx rfl (hb hby d5_50) rfl (tlt hc50_10).2.2.2 ?_
            show Steps p.tables e below (T9.setTop (mkF m 53 #[.val (.int p0), .val (.long q1), .second, .val (.long (own_f12 (own_f12 (own_f12 (-3750763034362895579 : Int64) (own_f11 q1 (0 : Int32))) (own_f11 q1 (1 : Int32))) (own_f11 q1 (2 : Int32)))), .second] [])) t
            refine XS.lloadN X9.here hx rfl (hb hby d5_53) rfl ?_
            show Steps p.tables e below (T9.setTop (mkF m 54 #[.val (.int p0), .val (.long q1), .second, .val (.long (own_f12 (own_f12 (own_f12 (-3750763034362895579 : Int64) (own_f11 q1 (0 : Int32))) (own_f11 q1 (1 : Int32))) (own_f11 q1 (2 : Int32)))), .second] [(.long (own_f12 (own_f12 (own_f12 (-3750763034362895579 : Int64) (own_f11 q1 (0 : Int32))) (own_f11 q1 (1 : Int32))) (own_f11 q1 (2 : Int32))))])) t
            refine XS.lloadN X9.here hx rfl (hb hby d5_54) rfl ?_
            show Steps p.tables e below (T9.setTop (mkF m 55 #[.val (.int p0), .val (.long q1), .second, .val (.long (own_f12 (own_f12 (own_f12 (-3750763034362895579 : Int64) (own_f11 q1 (0 : Int32))) (own_f11 q1 (1 : Int32))) (own_f11 q1 (2 : Int32)))), .second] [(.long q1), (.long (own_f12 (own_f12 (own_f12 (-3750763034362895579 : Int64) (own_f11 q1 (0 : Int32))) (own_f11 q1 (1 : Int32))) (own_f11 q1 (2 : Int32))))])) t
            refine XS.iconst X9.here hx rfl (hb hby d5_55) ?_
            exact kt
          obtain ⟨_, _, ⟨T11, L11, k11, n11⟩, -, X11, ⟨Lc11, hQ11, l11, y11, z11⟩, st11⟩ := Jvm.LawKit.callS X9 hx (y := (⟨"com/example/honeyguide/honeyguide/index/KeyHashCodePinLaw", "octet", "(JI)I"⟩ : MethodName)) hown (mvT hZ (hw _ (List.mem_of_getElem? (i := 49) rfl))) (mvT hZ (hw _ (List.mem_of_getElem? (i := 50) rfl))) (mvT hZ (hw _ (List.mem_of_getElem? (i := 2) rfl))) (mvT hZ (hw _ (List.mem_of_getElem? (i := 51) rfl))) (by decide) (backOf (W := 2) (rm11 l Z aw hw [] q1 (3 : Int32) h0 n0 (Nat.le_trans Z0 K0.1) ) hZ (hw _ (List.mem_of_getElem? (i := 51) rfl)) (hw _ (List.mem_of_getElem? (i := 2) rfl)) (by decide) (by decide)) (g := (mkF m 56 #[.val (.int p0), .val (.long q1), .second, .val (.long (own_f12 (own_f12 (own_f12 (-3750763034362895579 : Int64) (own_f11 q1 (0 : Int32))) (own_f11 q1 (1 : Int32))) (own_f11 q1 (2 : Int32)))), .second] [(.int (3 : Int32)), (.long q1), (.long (own_f12 (own_f12 (own_f12 (-3750763034362895579 : Int64) (own_f11 q1 (0 : Int32))) (own_f11 q1 (1 : Int32))) (own_f11 q1 (2 : Int32))))])) rfl (by rw [hml]; rfl) (argsL := [(.long q1), (.int (3 : Int32))]) (rest := [(.long (own_f12 (own_f12 (own_f12 (-3750763034362895579 : Int64) (own_f11 q1 (0 : Int32))) (own_f11 q1 (1 : Int32))) (own_f11 q1 (2 : Int32))))]) (lenOf pd_2 rfl) rfl (by show 2 * 0 + _ ≤ _; exact Nat.le_of_eq rfl) (hb hby d5_56) (fun _ _ => ⟨rfl, e9, (by decide : 0 + 0 ≤ _), (by decide : 0 + 0 ≤ _)⟩)
          dsimp only [Pt.U, Pt.locs, Pt.cells, Pt.slots] at X11 l11 y11 z11 st11 hQ11
          subst l11 y11 z11
          obtain ⟨rfl, N11q, e11⟩ := hQ11
          have N11 := Fr.app N9 N11q
          refine own_by (A' := T11.setTop (mkF m 59 #[.val (.int p0), .val (.long q1), .second, .val (.long (own_f12 (own_f12 (own_f12 (-3750763034362895579 : Int64) (own_f11 q1 (0 : Int32))) (own_f11 q1 (1 : Int32))) (own_f11 q1 (2 : Int32)))), .second] [(.int (own_f11 q1 (3 : Int32))), (.long (own_f12 (own_f12 (own_f12 (-3750763034362895579 : Int64) (own_f11 q1 (0 : Int32))) (own_f11 q1 (1 : Int32))) (own_f11 q1 (2 : Int32))))])) (fun t kt => st11 t kt) ?_
          obtain ⟨_, _, ⟨T12, L12, k12, n12⟩, -, X12, ⟨Lc12, hQ12, l12, y12, z12⟩, st12⟩ := Jvm.LawKit.callS X11 hx (y := (⟨"com/example/honeyguide/honeyguide/index/KeyHashCodePinLaw", "step", "(JI)J"⟩ : MethodName)) hown (mvT hZ (hw _ (List.mem_of_getElem? (i := 53) rfl))) (mvT hZ (hw _ (List.mem_of_getElem? (i := 54) rfl))) (mvT hZ (hw _ (List.mem_of_getElem? (i := 2) rfl))) (mvT hZ (hw _ (List.mem_of_getElem? (i := 55) rfl))) (by decide) (backOf (W := 0) (rm12 l Z aw hw [] (own_f12 (own_f12 (own_f12 (-3750763034362895579 : Int64) (own_f11 q1 (0 : Int32))) (own_f11 q1 (1 : Int32))) (own_f11 q1 (2 : Int32))) (own_f11 q1 (3 : Int32)) h0 n0 (Nat.le_trans Z0 K0.1) ) hZ (hw _ (List.mem_of_getElem? (i := 55) rfl)) (hw _ (List.mem_of_getElem? (i := 2) rfl)) (by decide) (by decide)) (g := (mkF m 59 #[.val (.int p0), .val (.long q1), .second, .val (.long (own_f12 (own_f12 (own_f12 (-3750763034362895579 : Int64) (own_f11 q1 (0 : Int32))) (own_f11 q1 (1 : Int32))) (own_f11 q1 (2 : Int32)))), .second] [(.int (own_f11 q1 (3 : Int32))), (.long (own_f12 (own_f12 (own_f12 (-3750763034362895579 : Int64) (own_f11 q1 (0 : Int32))) (own_f11 q1 (1 : Int32))) (own_f11 q1 (2 : Int32))))])) rfl (by rw [hml]; rfl) (argsL := [(.long (own_f12 (own_f12 (own_f12 (-3750763034362895579 : Int64) (own_f11 q1 (0 : Int32))) (own_f11 q1 (1 : Int32))) (own_f11 q1 (2 : Int32)))), (.int (own_f11 q1 (3 : Int32)))]) (rest := []) (lenOf pd_3 rfl) rfl (by show 2 * 0 + _ ≤ _; exact Nat.le_of_eq rfl) (hb hby d5_59) (fun _ _ => ⟨rfl, e11, (by decide : 0 + 0 ≤ _), (by decide : 0 + 0 ≤ _)⟩)
          dsimp only [Pt.U, Pt.locs, Pt.cells, Pt.slots] at X12 l12 y12 z12 st12 hQ12
          subst l12 y12 z12
          obtain ⟨rfl, N12q, e12⟩ := hQ12
          have N12 := Fr.app N11 N12q
          refine own_by (A' := T12.setTop (mkF m 62 #[.val (.int p0), .val (.long q1), .second, .val (.long (own_f12 (own_f12 (own_f12 (-3750763034362895579 : Int64) (own_f11 q1 (0 : Int32))) (own_f11 q1 (1 : Int32))) (own_f11 q1 (2 : Int32)))), .second] [(.long (own_f12 (own_f12 (own_f12 (own_f12 (-3750763034362895579 : Int64) (own_f11 q1 (0 : Int32))) (own_f11 q1 (1 : Int32))) (own_f11 q1 (2 : Int32))) (own_f11 q1 (3 : Int32))))])) (fun t kt => st12 t kt) ?_
          refine own_by (A' := T12.setTop (mkF m 65 #[.val (.int p0), .val (.long q1), .second, .val (.long (own_f12 (own_f12 (own_f12 (own_f12 (-3750763034362895579 : Int64) (own_f11 q1 (0 : Int32))) (own_f11 q1 (1 : Int32))) (own_f11 q1 (2 : Int32))) (own_f11 q1 (3 : Int32)))), .second] [(.int (4 : Int32)), (.int p0)])) (fun t kt => ?_) ?_
          · show Steps p.tables e below (T12.setTop (mkF m 62 #[.val (.int p0), .val (.long q1), .second, .val (.long (own_f12 (own_f12 (own_f12 (-3750763034362895579 : Int64) (own_f11 q1 (0 : Int32))) (own_f11 q1 (1 : Int32))) (own_f11 q1 (2 : Int32)))), .second] [(.long (own_f12 (own_f12 (own_f12 (own_f12 (-3750763034362895579 : Int64) (own_f11 q1 (0 : Int32))) (own_f11 q1 (1 : Int32))) (own_f11 q1 (2 : Int32))) (own_f11 q1 (3 : Int32))))])) t
            refine XS.lstoreN X12.here hx rfl (hb hby d5_62) rfl (l' := #[.val (.int p0), .val (.long q1), .second, .val (.long (own_f12 (own_f12 (own_f12 (own_f12 (-3750763034362895579 : Int64) (own_f11 q1 (0 : Int32))) (own_f11 q1 (1 : Int32))) (own_f11 q1 (2 : Int32))) (own_f11 q1 (3 : Int32)))), .second]) rfl ?_
            show Steps p.tables e below (T12.setTop (mkF m 63 #[.val (.int p0), .val (.long q1), .second, .val (.long (own_f12 (own_f12 (own_f12 (own_f12 (-3750763034362895579 : Int64) (own_f11 q1 (0 : Int32))) (own_f11 q1 (1 : Int32))) (own_f11 q1 (2 : Int32))) (own_f11 q1 (3 : Int32)))), .second] [])) t
            refine XS.iloadN X12.here hx rfl (hb hby d5_63) rfl ?_
            show Steps p.tables e below (T12.setTop (mkF m 64 #[.val (.int p0), .val (.long q1), .second, .val (.long (own_f12 (own_f12 (own_f12 (own_f12 (-3750763034362895579 : Int64) (own_f11 q1 (0 : Int32))) (own_f11 q1 (1 : Int32))) (own_f11 q1 (2 : Int32))) (own_f11 q1 (3 : Int32)))), .second] [(.int p0)])) t
            refine XS.iconst X12.here hx rfl (hb hby d5_64) ?_
            exact kt
          by_cases hc65_13 : (4 : Int32) < p0
          · refine own_by (A' := T12.setTop (mkF m 71 #[.val (.int p0), .val (.long q1), .second, .val (.long (own_f12 (own_f12 (own_f12 (own_f12 (-3750763034362895579 : Int64) (own_f11 q1 (0 : Int32))) (own_f11 q1 (1 : Int32))) (own_f11 q1 (2 : Int32))) (own_f11 q1 (3 : Int32)))), .second] [(.int (4 : Int32)), (.long q1), (.long (own_f12 (own_f12 (own_f12 (own_f12 (-3750763034362895579 : Int64) (own_f11 q1 (0 : Int32))) (own_f11 q1 (1 : Int32))) (own_f11 q1 (2 : Int32))) (own_f11 q1 (3 : Int32))))])) (fun t kt => ?_) ?_
            · show Steps p.tables e below (T12.setTop (mkF m 65 #[.val (.int p0), .val (.long q1), .second, .val (.long (own_f12 (own_f12 (own_f12 (own_f12 (-3750763034362895579 : Int64) (own_f11 q1 (0 : Int32))) (own_f11 q1 (1 : Int32))) (own_f11 q1 (2 : Int32))) (own_f11 q1 (3 : Int32)))), .second] [(.int (4 : Int32)), (.int p0)])) t
              refine XS.icmpNo X12.here hx rfl (hb hby d5_65) rfl (tlt hc65_13).2.2.2 ?_
              show Steps p.tables e below (T12.setTop (mkF m 68 #[.val (.int p0), .val (.long q1), .second, .val (.long (own_f12 (own_f12 (own_f12 (own_f12 (-3750763034362895579 : Int64) (own_f11 q1 (0 : Int32))) (own_f11 q1 (1 : Int32))) (own_f11 q1 (2 : Int32))) (own_f11 q1 (3 : Int32)))), .second] [])) t
              refine XS.lloadN X12.here hx rfl (hb hby d5_68) rfl ?_
              show Steps p.tables e below (T12.setTop (mkF m 69 #[.val (.int p0), .val (.long q1), .second, .val (.long (own_f12 (own_f12 (own_f12 (own_f12 (-3750763034362895579 : Int64) (own_f11 q1 (0 : Int32))) (own_f11 q1 (1 : Int32))) (own_f11 q1 (2 : Int32))) (own_f11 q1 (3 : Int32)))), .second] [(.long (own_f12 (own_f12 (own_f12 (own_f12 (-3750763034362895579 : Int64) (own_f11 q1 (0 : Int32))) (own_f11 q1 (1 : Int32))) (own_f11 q1 (2 : Int32))) (own_f11 q1 (3 : Int32))))])) t
              refine XS.lloadN X12.here hx rfl (hb hby d5_69) rfl ?_
              show Steps p.tables e below (T12.setTop (mkF m 70 #[.val (.int p0), .val (.long q1), .second, .val (.long (own_f12 (own_f12 (own_f12 (own_f12 (-3750763034362895579 : Int64) (own_f11 q1 (0 : Int32))) (own_f11 q1 (1 : Int32))) (own_f11 q1 (2 : Int32))) (own_f11 q1 (3 : Int32)))), .second] [(.long q1), (.long (own_f12 (own_f12 (own_f12 (own_f12 (-3750763034362895579 : Int64) (own_f11 q1 (0 : Int32))) (own_f11 q1 (1 : Int32))) (own_f11 q1 (2 : Int32))) (own_f11 q1 (3 : Int32))))])) t
              refine XS.iconst X12.here hx rfl (hb hby d5_70) ?_
              exact kt
            obtain ⟨_, _, ⟨T14, L14, k14, n14⟩, -, X14, ⟨Lc14, hQ14, l14, y14, z14⟩, st14⟩ := Jvm.LawKit.callS X12 hx (y := (⟨"com/example/honeyguide/honeyguide/index/KeyHashCodePinLaw", "octet", "(JI)I"⟩ : MethodName)) hown (mvT hZ (hw _ (List.mem_of_getElem? (i := 49) rfl))) (mvT hZ (hw _ (List.mem_of_getElem? (i := 50) rfl))) (mvT hZ (hw _ (List.mem_of_getElem? (i := 2) rfl))) (mvT hZ (hw _ (List.mem_of_getElem? (i := 51) rfl))) (by decide) (backOf (W := 2) (rm11 l Z aw hw [] q1 (4 : Int32) h0 n0 (Nat.le_trans Z0 K0.1) ) hZ (hw _ (List.mem_of_getElem? (i := 51) rfl)) (hw _ (List.mem_of_getElem? (i := 2) rfl)) (by decide) (by decide)) (g := (mkF m 71 #[.val (.int p0), .val (.long q1), .second, .val (.long (own_f12 (own_f12 (own_f12 (own_f12 (-3750763034362895579 : Int64) (own_f11 q1 (0 : Int32))) (own_f11 q1 (1 : Int32))) (own_f11 q1 (2 : Int32))) (own_f11 q1 (3 : Int32)))), .second] [(.int (4 : Int32)), (.long q1), (.long (own_f12 (own_f12 (own_f12 (own_f12 (-3750763034362895579 : Int64) (own_f11 q1 (0 : Int32))) (own_f11 q1 (1 : Int32))) (own_f11 q1 (2 : Int32))) (own_f11 q1 (3 : Int32))))])) rfl (by rw [hml]; rfl) (argsL := [(.long q1), (.int (4 : Int32))]) (rest := [(.long (own_f12 (own_f12 (own_f12 (own_f12 (-3750763034362895579 : Int64) (own_f11 q1 (0 : Int32))) (own_f11 q1 (1 : Int32))) (own_f11 q1 (2 : Int32))) (own_f11 q1 (3 : Int32))))]) (lenOf pd_2 rfl) rfl (by show 2 * 0 + _ ≤ _; exact Nat.le_of_eq rfl) (hb hby d5_71) (fun _ _ => ⟨rfl, e12, (by decide : 0 + 0 ≤ _), (by decide : 0 + 0 ≤ _)⟩)
            dsimp only [Pt.U, Pt.locs, Pt.cells, Pt.slots] at X14 l14 y14 z14 st14 hQ14
            subst l14 y14 z14
            obtain ⟨rfl, N14q, e14⟩ := hQ14
            have N14 := Fr.app N12 N14q
            refine own_by (A' := T14.setTop (mkF m 74 #[.val (.int p0), .val (.long q1), .second, .val (.long (own_f12 (own_f12 (own_f12 (own_f12 (-3750763034362895579 : Int64) (own_f11 q1 (0 : Int32))) (own_f11 q1 (1 : Int32))) (own_f11 q1 (2 : Int32))) (own_f11 q1 (3 : Int32)))), .second] [(.int (own_f11 q1 (4 : Int32))), (.long (own_f12 (own_f12 (own_f12 (own_f12 (-3750763034362895579 : Int64) (own_f11 q1 (0 : Int32))) (own_f11 q1 (1 : Int32))) (own_f11 q1 (2 : Int32))) (own_f11 q1 (3 : Int32))))])) (fun t kt => st14 t kt) ?_
            obtain ⟨_, _, ⟨T15, L15, k15, n15⟩, -, X15, ⟨Lc15, hQ15, l15, y15, z15⟩, st15⟩ := Jvm.LawKit.callS X14 hx (y := (⟨"com/example/honeyguide/honeyguide/index/KeyHashCodePinLaw", "step", "(JI)J"⟩ : MethodName)) hown (mvT hZ (hw _ (List.mem_of_getElem? (i := 53) rfl))) (mvT hZ (hw _ (List.mem_of_getElem? (i := 54) rfl))) (mvT hZ (hw _ (List.mem_of_getElem? (i := 2) rfl))) (mvT hZ (hw _ (List.mem_of_getElem? (i := 55) rfl))) (by decide) (backOf (W := 0) (rm12 l Z aw hw [] (own_f12 (own_f12 (own_f12 (own_f12 (-3750763034362895579 : Int64) (own_f11 q1 (0 : Int32))) (own_f11 q1 (1 : Int32))) (own_f11 q1 (2 : Int32))) (own_f11 q1 (3 : Int32))) (own_f11 q1 (4 : Int32)) h0 n0 (Nat.le_trans Z0 K0.1) ) hZ (hw _ (List.mem_of_getElem? (i := 55) rfl)) (hw _ (List.mem_of_getElem? (i := 2) rfl)) (by decide) (by decide)) (g := (mkF m 74 #[.val (.int p0), .val (.long q1), .second, .val (.long (own_f12 (own_f12 (own_f12 (own_f12 (-3750763034362895579 : Int64) (own_f11 q1 (0 : Int32))) (own_f11 q1 (1 : Int32))) (own_f11 q1 (2 : Int32))) (own_f11 q1 (3 : Int32)))), .second] [(.int (own_f11 q1 (4 : Int32))), (.long (own_f12 (own_f12 (own_f12 (own_f12 (-3750763034362895579 : Int64) (own_f11 q1 (0 : Int32))) (own_f11 q1 (1 : Int32))) (own_f11 q1 (2 : Int32))) (own_f11 q1 (3 : Int32))))])) rfl (by rw [hml]; rfl) (argsL := [(.long (own_f12 (own_f12 (own_f12 (own_f12 (-3750763034362895579 : Int64) (own_f11 q1 (0 : Int32))) (own_f11 q1 (1 : Int32))) (own_f11 q1 (2 : Int32))) (own_f11 q1 (3 : Int32)))), (.int (own_f11 q1 (4 : Int32)))]) (rest := []) (lenOf pd_3 rfl) rfl (by show 2 * 0 + _ ≤ _; exact Nat.le_of_eq rfl) (hb hby d5_74) (fun _ _ => ⟨rfl, e14, (by decide : 0 + 0 ≤ _), (by decide : 0 + 0 ≤ _)⟩)
            dsimp only [Pt.U, Pt.locs, Pt.cells, Pt.slots] at X15 l15 y15 z15 st15 hQ15
            subst l15 y15 z15
            obtain ⟨rfl, N15q, e15⟩ := hQ15
            have N15 := Fr.app N14 N15q
            refine own_by (A' := T15.setTop (mkF m 77 #[.val (.int p0), .val (.long q1), .second, .val (.long (own_f12 (own_f12 (own_f12 (own_f12 (-3750763034362895579 : Int64) (own_f11 q1 (0 : Int32))) (own_f11 q1 (1 : Int32))) (own_f11 q1 (2 : Int32))) (own_f11 q1 (3 : Int32)))), .second] [(.long (own_f12 (own_f12 (own_f12 (own_f12 (own_f12 (-3750763034362895579 : Int64) (own_f11 q1 (0 : Int32))) (own_f11 q1 (1 : Int32))) (own_f11 q1 (2 : Int32))) (own_f11 q1 (3 : Int32))) (own_f11 q1 (4 : Int32))))])) (fun t kt => st15 t kt) ?_
            refine own_by (A' := T15.setTop (mkF m 80 #[.val (.int p0), .val (.long q1), .second, .val (.long (own_f12 (own_f12 (own_f12 (own_f12 (own_f12 (-3750763034362895579 : Int64) (own_f11 q1 (0 : Int32))) (own_f11 q1 (1 : Int32))) (own_f11 q1 (2 : Int32))) (own_f11 q1 (3 : Int32))) (own_f11 q1 (4 : Int32)))), .second] [(.int (5 : Int32)), (.int p0)])) (fun t kt => ?_) ?_
            · show Steps p.tables e below (T15.setTop (mkF m 77 #[.val (.int p0), .val (.long q1), .second, .val (.long (own_f12 (own_f12 (own_f12 (own_f12 (-3750763034362895579 : Int64) (own_f11 q1 (0 : Int32))) (own_f11 q1 (1 : Int32))) (own_f11 q1 (2 : Int32))) (own_f11 q1 (3 : Int32)))), .second] [(.long (own_f12 (own_f12 (own_f12 (own_f12 (own_f12 (-3750763034362895579 : Int64) (own_f11 q1 (0 : Int32))) (own_f11 q1 (1 : Int32))) (own_f11 q1 (2 : Int32))) (own_f11 q1 (3 : Int32))) (own_f11 q1 (4 : Int32))))])) t
              refine XS.lstoreN X15.here hx rfl (hb hby d5_77) rfl (l' := #[.val (.int p0), .val (.long q1), .second, .val (.long (own_f12 (own_f12 (own_f12 (own_f12 (own_f12 (-3750763034362895579 : Int64) (own_f11 q1 (0 : Int32))) (own_f11 q1 (1 : Int32))) (own_f11 q1 (2 : Int32))) (own_f11 q1 (3 : Int32))) (own_f11 q1 (4 : Int32)))), .second]) rfl ?_
              show Steps p.tables e below (T15.setTop (mkF m 78 #[.val (.int p0), .val (.long q1), .second, .val (.long (own_f12 (own_f12 (own_f12 (own_f12 (own_f12 (-3750763034362895579 : Int64) (own_f11 q1 (0 : Int32))) (own_f11 q1 (1 : Int32))) (own_f11 q1 (2 : Int32))) (own_f11 q1 (3 : Int32))) (own_f11 q1 (4 : Int32)))), .second] [])) t
              refine XS.iloadN X15.here hx rfl (hb hby d5_78) rfl ?_
              show Steps p.tables e below (T15.setTop (mkF m 79 #[.val (.int p0), .val (.long q1), .second, .val (.long (own_f12 (own_f12 (own_f12 (own_f12 (own_f12 (-3750763034362895579 : Int64) (own_f11 q1 (0 : Int32))) (own_f11 q1 (1 : Int32))) (own_f11 q1 (2 : Int32))) (own_f11 q1 (3 : Int32))) (own_f11 q1 (4 : Int32)))), .second] [(.int p0)])) t
              refine XS.iconst X15.here hx rfl (hb hby d5_79) ?_
              exact kt
            by_cases hc80_16 : (5 : Int32) < p0
            · refine own_by (A' := T15.setTop (mkF m 86 #[.val (.int p0), .val (.long q1), .second, .val (.long (own_f12 (own_f12 (own_f12 (own_f12 (own_f12 (-3750763034362895579 : Int64) (own_f11 q1 (0 : Int32))) (own_f11 q1 (1 : Int32))) (own_f11 q1 (2 : Int32))) (own_f11 q1 (3 : Int32))) (own_f11 q1 (4 : Int32)))), .second] [(.int (5 : Int32)), (.long q1), (.long (own_f12 (own_f12 (own_f12 (own_f12 (own_f12 (-3750763034362895579 : Int64) (own_f11 q1 (0 : Int32))) (own_f11 q1 (1 : Int32))) (own_f11 q1 (2 : Int32))) (own_f11 q1 (3 : Int32))) (own_f11 q1 (4 : Int32))))])) (fun t kt => ?_) ?_
              · show Steps p.tables e below (T15.setTop (mkF m 80 #[.val (.int p0), .val (.long q1), .second, .val (.long (own_f12 (own_f12 (own_f12 (own_f12 (own_f12 (-3750763034362895579 : Int64) (own_f11 q1 (0 : Int32))) (own_f11 q1 (1 : Int32))) (own_f11 q1 (2 : Int32))) (own_f11 q1 (3 : Int32))) (own_f11 q1 (4 : Int32)))), .second] [(.int (5 : Int32)), (.int p0)])) t
                refine XS.icmpNo X15.here hx rfl (hb hby d5_80) rfl (tlt hc80_16).2.2.2 ?_
                show Steps p.tables e below (T15.setTop (mkF m 83 #[.val (.int p0), .val (.long q1), .second, .val (.long (own_f12 (own_f12 (own_f12 (own_f12 (own_f12 (-3750763034362895579 : Int64) (own_f11 q1 (0 : Int32))) (own_f11 q1 (1 : Int32))) (own_f11 q1 (2 : Int32))) (own_f11 q1 (3 : Int32))) (own_f11 q1 (4 : Int32)))), .second] [])) t
                refine XS.lloadN X15.here hx rfl (hb hby d5_83) rfl ?_
                show Steps p.tables e below (T15.setTop (mkF m 84 #[.val (.int p0), .val (.long q1), .second, .val (.long (own_f12 (own_f12 (own_f12 (own_f12 (own_f12 (-3750763034362895579 : Int64) (own_f11 q1 (0 : Int32))) (own_f11 q1 (1 : Int32))) (own_f11 q1 (2 : Int32))) (own_f11 q1 (3 : Int32))) (own_f11 q1 (4 : Int32)))), .second] [(.long (own_f12 (own_f12 (own_f12 (own_f12 (own_f12 (-3750763034362895579 : Int64) (own_f11 q1 (0 : Int32))) (own_f11 q1 (1 : Int32))) (own_f11 q1 (2 : Int32))) (own_f11 q1 (3 : Int32))) (own_f11 q1 (4 : Int32))))])) t
                refine XS.lloadN X15.here hx rfl (hb hby d5_84) rfl ?_
                show Steps p.tables e below (T15.setTop (mkF m 85 #[.val (.int p0), .val (.long q1), .second, .val (.long (own_f12 (own_f12 (own_f12 (own_f12 (own_f12 (-3750763034362895579 : Int64) (own_f11 q1 (0 : Int32))) (own_f11 q1 (1 : Int32))) (own_f11 q1 (2 : Int32))) (own_f11 q1 (3 : Int32))) (own_f11 q1 (4 : Int32)))), .second] [(.long q1), (.long (own_f12 (own_f12 (own_f12 (own_f12 (own_f12 (-3750763034362895579 : Int64) (own_f11 q1 (0 : Int32))) (own_f11 q1 (1 : Int32))) (own_f11 q1 (2 : Int32))) (own_f11 q1 (3 : Int32))) (own_f11 q1 (4 : Int32))))])) t
                refine XS.iconst X15.here hx rfl (hb hby d5_85) ?_
                exact kt
              obtain ⟨_, _, ⟨T17, L17, k17, n17⟩, -, X17, ⟨Lc17, hQ17, l17, y17, z17⟩, st17⟩ := Jvm.LawKit.callS X15 hx (y := (⟨"com/example/honeyguide/honeyguide/index/KeyHashCodePinLaw", "octet", "(JI)I"⟩ : MethodName)) hown (mvT hZ (hw _ (List.mem_of_getElem? (i := 49) rfl))) (mvT hZ (hw _ (List.mem_of_getElem? (i := 50) rfl))) (mvT hZ (hw _ (List.mem_of_getElem? (i := 2) rfl))) (mvT hZ (hw _ (List.mem_of_getElem? (i := 51) rfl))) (by decide) (backOf (W := 2) (rm11 l Z aw hw [] q1 (5 : Int32) h0 n0 (Nat.le_trans Z0 K0.1) ) hZ (hw _ (List.mem_of_getElem? (i := 51) rfl)) (hw _ (List.mem_of_getElem? (i := 2) rfl)) (by decide) (by decide)) (g := (mkF m 86 #[.val (.int p0), .val (.long q1), .second, .val (.long (own_f12 (own_f12 (own_f12 (own_f12 (own_f12 (-3750763034362895579 : Int64) (own_f11 q1 (0 : Int32))) (own_f11 q1 (1 : Int32))) (own_f11 q1 (2 : Int32))) (own_f11 q1 (3 : Int32))) (own_f11 q1 (4 : Int32)))), .second] [(.int (5 : Int32)), (.long q1), (.long (own_f12 (own_f12 (own_f12 (own_f12 (own_f12 (-3750763034362895579 : Int64) (own_f11 q1 (0 : Int32))) (own_f11 q1 (1 : Int32))) (own_f11 q1 (2 : Int32))) (own_f11 q1 (3 : Int32))) (own_f11 q1 (4 : Int32))))])) rfl (by rw [hml]; rfl) (argsL := [(.long q1), (.int (5 : Int32))]) (rest := [(.long (own_f12 (own_f12 (own_f12 (own_f12 (own_f12 (-3750763034362895579 : Int64) (own_f11 q1 (0 : Int32))) (own_f11 q1 (1 : Int32))) (own_f11 q1 (2 : Int32))) (own_f11 q1 (3 : Int32))) (own_f11 q1 (4 : Int32))))]) (lenOf pd_2 rfl) rfl (by show 2 * 0 + _ ≤ _; exact Nat.le_of_eq rfl) (hb hby d5_86) (fun _ _ => ⟨rfl, e15, (by decide : 0 + 0 ≤ _), (by decide : 0 + 0 ≤ _)⟩)
              dsimp only [Pt.U, Pt.locs, Pt.cells, Pt.slots] at X17 l17 y17 z17 st17 hQ17
              subst l17 y17 z17
              obtain ⟨rfl, N17q, e17⟩ := hQ17
              have N17 := Fr.app N15 N17q
              refine own_by (A' := T17.setTop (mkF m 89 #[.val (.int p0), .val (.long q1), .second, .val (.long (own_f12 (own_f12 (own_f12 (own_f12 (own_f12 (-3750763034362895579 : Int64) (own_f11 q1 (0 : Int32))) (own_f11 q1 (1 : Int32))) (own_f11 q1 (2 : Int32))) (own_f11 q1 (3 : Int32))) (own_f11 q1 (4 : Int32)))), .second] [(.int (own_f11 q1 (5 : Int32))), (.long (own_f12 (own_f12 (own_f12 (own_f12 (own_f12 (-3750763034362895579 : Int64) (own_f11 q1 (0 : Int32))) (own_f11 q1 (1 : Int32))) (own_f11 q1 (2 : Int32))) (own_f11 q1 (3 : Int32))) (own_f11 q1 (4 : Int32))))])) (fun t kt => st17 t kt) ?_
              obtain ⟨_, _, ⟨T18, L18, k18, n18⟩, -, X18, ⟨Lc18, hQ18, l18, y18, z18⟩, st18⟩ := Jvm.LawKit.callS X17 hx (y := (⟨"com/example/honeyguide/honeyguide/index/KeyHashCodePinLaw", "step", "(JI)J"⟩ : MethodName)) hown (mvT hZ (hw _ (List.mem_of_getElem? (i := 53) rfl))) (mvT hZ (hw _ (List.mem_of_getElem? (i := 54) rfl))) (mvT hZ (hw _ (List.mem_of_getElem? (i := 2) rfl))) (mvT hZ (hw _ (List.mem_of_getElem? (i := 55) rfl))) (by decide) (backOf (W := 0) (rm12 l Z aw hw [] (own_f12 (own_f12 (own_f12 (own_f12 (own_f12 (-3750763034362895579 : Int64) (own_f11 q1 (0 : Int32))) (own_f11 q1 (1 : Int32))) (own_f11 q1 (2 : Int32))) (own_f11 q1 (3 : Int32))) (own_f11 q1 (4 : Int32))) (own_f11 q1 (5 : Int32)) h0 n0 (Nat.le_trans Z0 K0.1) ) hZ (hw _ (List.mem_of_getElem? (i := 55) rfl)) (hw _ (List.mem_of_getElem? (i := 2) rfl)) (by decide) (by decide)) (g := (mkF m 89 #[.val (.int p0), .val (.long q1), .second, .val (.long (own_f12 (own_f12 (own_f12 (own_f12 (own_f12 (-3750763034362895579 : Int64) (own_f11 q1 (0 : Int32))) (own_f11 q1 (1 : Int32))) (own_f11 q1 (2 : Int32))) (own_f11 q1 (3 : Int32))) (own_f11 q1 (4 : Int32)))), .second] [(.int (own_f11 q1 (5 : Int32))), (.long (own_f12 (own_f12 (own_f12 (own_f12 (own_f12 (-3750763034362895579 : Int64) (own_f11 q1 (0 : Int32))) (own_f11 q1 (1 : Int32))) (own_f11 q1 (2 : Int32))) (own_f11 q1 (3 : Int32))) (own_f11 q1 (4 : Int32))))])) rfl (by rw [hml]; rfl) (argsL := [(.long (own_f12 (own_f12 (own_f12 (own_f12 (own_f12 (-3750763034362895579 : Int64) (own_f11 q1 (0 : Int32))) (own_f11 q1 (1 : Int32))) (own_f11 q1 (2 : Int32))) (own_f11 q1 (3 : Int32))) (own_f11 q1 (4 : Int32)))), (.int (own_f11 q1 (5 : Int32)))]) (rest := []) (lenOf pd_3 rfl) rfl (by show 2 * 0 + _ ≤ _; exact Nat.le_of_eq rfl) (hb hby d5_89) (fun _ _ => ⟨rfl, e17, (by decide : 0 + 0 ≤ _), (by decide : 0 + 0 ≤ _)⟩)
              dsimp only [Pt.U, Pt.locs, Pt.cells, Pt.slots] at X18 l18 y18 z18 st18 hQ18
              subst l18 y18 z18
              obtain ⟨rfl, N18q, e18⟩ := hQ18
              have N18 := Fr.app N17 N18q
              refine own_by (A' := T18.setTop (mkF m 92 #[.val (.int p0), .val (.long q1), .second, .val (.long (own_f12 (own_f12 (own_f12 (own_f12 (own_f12 (-3750763034362895579 : Int64) (own_f11 q1 (0 : Int32))) (own_f11 q1 (1 : Int32))) (own_f11 q1 (2 : Int32))) (own_f11 q1 (3 : Int32))) (own_f11 q1 (4 : Int32)))), .second] [(.long (own_f12 (own_f12 (own_f12 (own_f12 (own_f12 (own_f12 (-3750763034362895579 : Int64) (own_f11 q1 (0 : Int32))) (own_f11 q1 (1 : Int32))) (own_f11 q1 (2 : Int32))) (own_f11 q1 (3 : Int32))) (own_f11 q1 (4 : Int32))) (own_f11 q1 (5 : Int32))))])) (fun t kt => st18 t kt) ?_
              refine own_by (A' := T18.setTop (mkF m 96 #[.val (.int p0), .val (.long q1), .second, .val (.long (own_f12 (own_f12 (own_f12 (own_f12 (own_f12 (own_f12 (-3750763034362895579 : Int64) (own_f11 q1 (0 : Int32))) (own_f11 q1 (1 : Int32))) (own_f11 q1 (2 : Int32))) (own_f11 q1 (3 : Int32))) (own_f11 q1 (4 : Int32))) (own_f11 q1 (5 : Int32)))), .second] [(.int (6 : Int32)), (.int p0)])) (fun t kt => ?_) ?_
              · show Steps p.tables e below (T18.setTop (mkF m 92 #[.val (.int p0), .val (.long q1), .second, .val (.long (own_f12 (own_f12 (own_f12 (own_f12 (own_f12 (-3750763034362895579 : Int64) (own_f11 q1 (0 : Int32))) (own_f11 q1 (1 : Int32))) (own_f11 q1 (2 : Int32))) (own_f11 q1 (3 : Int32))) (own_f11 q1 (4 : Int32)))), .second] [(.long (own_f12 (own_f12 (own_f12 (own_f12 (own_f12 (own_f12 (-3750763034362895579 : Int64) (own_f11 q1 (0 : Int32))) (own_f11 q1 (1 : Int32))) (own_f11 q1 (2 : Int32))) (own_f11 q1 (3 : Int32))) (own_f11 q1 (4 : Int32))) (own_f11 q1 (5 : Int32))))])) t
                refine XS.lstoreN X18.here hx rfl (hb hby d5_92) rfl (l' := #[.val (.int p0), .val (.long q1), .second, .val (.long (own_f12 (own_f12 (own_f12 (own_f12 (own_f12 (own_f12 (-3750763034362895579 : Int64) (own_f11 q1 (0 : Int32))) (own_f11 q1 (1 : Int32))) (own_f11 q1 (2 : Int32))) (own_f11 q1 (3 : Int32))) (own_f11 q1 (4 : Int32))) (own_f11 q1 (5 : Int32)))), .second]) rfl ?_
                show Steps p.tables e below (T18.setTop (mkF m 93 #[.val (.int p0), .val (.long q1), .second, .val (.long (own_f12 (own_f12 (own_f12 (own_f12 (own_f12 (own_f12 (-3750763034362895579 : Int64) (own_f11 q1 (0 : Int32))) (own_f11 q1 (1 : Int32))) (own_f11 q1 (2 : Int32))) (own_f11 q1 (3 : Int32))) (own_f11 q1 (4 : Int32))) (own_f11 q1 (5 : Int32)))), .second] [])) t
                refine XS.iloadN X18.here hx rfl (hb hby d5_93) rfl ?_
                show Steps p.tables e below (T18.setTop (mkF m 94 #[.val (.int p0), .val (.long q1), .second, .val (.long (own_f12 (own_f12 (own_f12 (own_f12 (own_f12 (own_f12 (-3750763034362895579 : Int64) (own_f11 q1 (0 : Int32))) (own_f11 q1 (1 : Int32))) (own_f11 q1 (2 : Int32))) (own_f11 q1 (3 : Int32))) (own_f11 q1 (4 : Int32))) (own_f11 q1 (5 : Int32)))), .second] [(.int p0)])) t
                refine XS.bipush X18.here hx rfl (hb hby d5_94) ?_
                exact kt
              by_cases hc96_19 : (6 : Int32) < p0
              · refine own_by (A' := T18.setTop (mkF m 103 #[.val (.int p0), .val (.long q1), .second, .val (.long (own_f12 (own_f12 (own_f12 (own_f12 (own_f12 (own_f12 (-3750763034362895579 : Int64) (own_f11 q1 (0 : Int32))) (own_f11 q1 (1 : Int32))) (own_f11 q1 (2 : Int32))) (own_f11 q1 (3 : Int32))) (own_f11 q1 (4 : Int32))) (own_f11 q1 (5 : Int32)))), .second] [(.int (6 : Int32)), (.long q1), (.long (own_f12 (own_f12 (own_f12 (own_f12 (own_f12 (own_f12 (-3750763034362895579 : Int64) (own_f11 q1 (0 : Int32))) (own_f11 q1 (1 : Int32))) (own_f11 q1 (2 : Int32))) (own_f11 q1 (3 : Int32))) (own_f11 q1 (4 : Int32))) (own_f11 q1 (5 : Int32))))])) (fun t kt => ?_) ?_
                · show Steps p.tables e below (T18.setTop (mkF m 96 #[.val (.int p0), .val (.long q1), .second, .val (.long (own_f12 (own_f12 (own_f12 (own_f12 (own_f12 (own_f12 (-3750763034362895579 : Int64) (own_f11 q1 (0 : Int32))) (own_f11 q1 (1 : Int32))) (own_f11 q1 (2 : Int32))) (own_f11 q1 (3 : Int32))) (own_f11 q1 (4 : Int32))) (own_f11 q1 (5 : Int32)))), .second] [(.int (6 : Int32)), (.int p0)])) t
                  refine XS.icmpNo X18.here hx rfl (hb hby d5_96) rfl (tlt hc96_19).2.2.2 ?_
                  show Steps p.tables e below (T18.setTop (mkF m 99 #[.val (.int p0), .val (.long q1), .second, .val (.long (own_f12 (own_f12 (own_f12 (own_f12 (own_f12 (own_f12 (-3750763034362895579 : Int64) (own_f11 q1 (0 : Int32))) (own_f11 q1 (1 : Int32))) (own_f11 q1 (2 : Int32))) (own_f11 q1 (3 : Int32))) (own_f11 q1 (4 : Int32))) (own_f11 q1 (5 : Int32)))), .second] [])) t
                  refine XS.lloadN X18.here hx rfl (hb hby d5_99) rfl ?_
                  show Steps p.tables e below (T18.setTop (mkF m 100 #[.val (.int p0), .val (.long q1), .second, .val (.long (own_f12 (own_f12 (own_f12 (own_f12 (own_f12 (own_f12 (-3750763034362895579 : Int64) (own_f11 q1 (0 : Int32))) (own_f11 q1 (1 : Int32))) (own_f11 q1 (2 : Int32))) (own_f11 q1 (3 : Int32))) (own_f11 q1 (4 : Int32))) (own_f11 q1 (5 : Int32)))), .second] [(.long (own_f12 (own_f12 (own_f12 (own_f12 (own_f12 (own_f12 (-3750763034362895579 : Int64) (own_f11 q1 (0 : Int32))) (own_f11 q1 (1 : Int32))) (own_f11 q1 (2 : Int32))) (own_f11 q1 (3 : Int32))) (own_f11 q1 (4 : Int32))) (own_f11 q1 (5 : Int32))))])) t
                  refine XS.lloadN X18.here hx rfl (hb hby d5_100) rfl ?_
                  show Steps p.tables e below (T18.setTop (mkF m 101 #[.val (.int p0), .val (.long q1), .second, .val (.long (own_f12 (own_f12 (own_f12 (own_f12 (own_f12 (own_f12 (-3750763034362895579 : Int64) (own_f11 q1 (0 : Int32))) (own_f11 q1 (1 : Int32))) (own_f11 q1 (2 : Int32))) (own_f11 q1 (3 : Int32))) (own_f11 q1 (4 : Int32))) (own_f11 q1 (5 : Int32)))), .second] [(.long q1), (.long (own_f12 (own_f12 (own_f12 (own_f12 (own_f12 (own_f12 (-3750763034362895579 : Int64) (own_f11 q1 (0 : Int32))) (own_f11 q1 (1 : Int32))) (own_f11 q1 (2 : Int32))) (own_f11 q1 (3 : Int32))) (own_f11 q1 (4 : Int32))) (own_f11 q1 (5 : Int32))))])) t
                  refine XS.bipush X18.here hx rfl (hb hby d5_101) ?_
                  exact kt
                obtain ⟨_, _, ⟨T20, L20, k20, n20⟩, -, X20, ⟨Lc20, hQ20, l20, y20, z20⟩, st20⟩ := Jvm.LawKit.callS X18 hx (y := (⟨"com/example/honeyguide/honeyguide/index/KeyHashCodePinLaw", "octet", "(JI)I"⟩ : MethodName)) hown (mvT hZ (hw _ (List.mem_of_getElem? (i := 49) rfl))) (mvT hZ (hw _ (List.mem_of_getElem? (i := 50) rfl))) (mvT hZ (hw _ (List.mem_of_getElem? (i := 2) rfl))) (mvT hZ (hw _ (List.mem_of_getElem? (i := 51) rfl))) (by decide) (backOf (W := 2) (rm11 l Z aw hw [] q1 (6 : Int32) h0 n0 (Nat.le_trans Z0 K0.1) ) hZ (hw _ (List.mem_of_getElem? (i := 51) rfl)) (hw _ (List.mem_of_getElem? (i := 2) rfl)) (by decide) (by decide)) (g := (mkF m 103 #[.val (.int p0), .val (.long q1), .second, .val (.long (own_f12 (own_f12 (own_f12 (own_f12 (own_f12 (own_f12 (-3750763034362895579 : Int64) (own_f11 q1 (0 : Int32))) (own_f11 q1 (1 : Int32))) (own_f11 q1 (2 : Int32))) (own_f11 q1 (3 : Int32))) (own_f11 q1 (4 : Int32))) (own_f11 q1 (5 : Int32)))), .second] [(.int (6 : Int32)), (.long q1), (.long (own_f12 (own_f12 (own_f12 (own_f12 (own_f12 (own_f12 (-3750763034362895579 : Int64) (own_f11 q1 (0 : Int32))) (own_f11 q1 (1 : Int32))) (own_f11 q1 (2 : Int32))) (own_f11 q1 (3 : Int32))) (own_f11 q1 (4 : Int32))) (own_f11 q1 (5 : Int32))))])) rfl (by rw [hml]; rfl) (argsL := [(.long q1), (.int (6 : Int32))]) (rest := [(.long (own_f12 (own_f12 (own_f12 (own_f12 (own_f12 (own_f12 (-3750763034362895579 : Int64) (own_f11 q1 (0 : Int32))) (own_f11 q1 (1 : Int32))) (own_f11 q1 (2 : Int32))) (own_f11 q1 (3 : Int32))) (own_f11 q1 (4 : Int32))) (own_f11 q1 (5 : Int32))))]) (lenOf pd_2 rfl) rfl (by show 2 * 0 + _ ≤ _; exact Nat.le_of_eq rfl) (hb hby d5_103) (fun _ _ => ⟨rfl, e18, (by decide : 0 + 0 ≤ _), (by decide : 0 + 0 ≤ _)⟩)
                dsimp only [Pt.U, Pt.locs, Pt.cells, Pt.slots] at X20 l20 y20 z20 st20 hQ20
                subst l20 y20 z20
                obtain ⟨rfl, N20q, e20⟩ := hQ20
                have N20 := Fr.app N18 N20q
                refine own_by (A' := T20.setTop (mkF m 106 #[.val (.int p0), .val (.long q1), .second, .val (.long (own_f12 (own_f12 (own_f12 (own_f12 (own_f12 (own_f12 (-3750763034362895579 : Int64) (own_f11 q1 (0 : Int32))) (own_f11 q1 (1 : Int32))) (own_f11 q1 (2 : Int32))) (own_f11 q1 (3 : Int32))) (own_f11 q1 (4 : Int32))) (own_f11 q1 (5 : Int32)))), .second] [(.int (own_f11 q1 (6 : Int32))), (.long (own_f12 (own_f12 (own_f12 (own_f12 (own_f12 (own_f12 (-3750763034362895579 : Int64) (own_f11 q1 (0 : Int32))) (own_f11 q1 (1 : Int32))) (own_f11 q1 (2 : Int32))) (own_f11 q1 (3 : Int32))) (own_f11 q1 (4 : Int32))) (own_f11 q1 (5 : Int32))))])) (fun t kt => st20 t kt) ?_
                obtain ⟨_, _, ⟨T21, L21, k21, n21⟩, -, X21, ⟨Lc21, hQ21, l21, y21, z21⟩, st21⟩ := Jvm.LawKit.callS X20 hx (y := (⟨"com/example/honeyguide/honeyguide/index/KeyHashCodePinLaw", "step", "(JI)J"⟩ : MethodName)) hown (mvT hZ (hw _ (List.mem_of_getElem? (i := 53) rfl))) (mvT hZ (hw _ (List.mem_of_getElem? (i := 54) rfl))) (mvT hZ (hw _ (List.mem_of_getElem? (i := 2) rfl))) (mvT hZ (hw _ (List.mem_of_getElem? (i := 55) rfl))) (by decide) (backOf (W := 0) (rm12 l Z aw hw [] (own_f12 (own_f12 (own_f12 (own_f12 (own_f12 (own_f12 (-3750763034362895579 : Int64) (own_f11 q1 (0 : Int32))) (own_f11 q1 (1 : Int32))) (own_f11 q1 (2 : Int32))) (own_f11 q1 (3 : Int32))) (own_f11 q1 (4 : Int32))) (own_f11 q1 (5 : Int32))) (own_f11 q1 (6 : Int32)) h0 n0 (Nat.le_trans Z0 K0.1) ) hZ (hw _ (List.mem_of_getElem? (i := 55) rfl)) (hw _ (List.mem_of_getElem? (i := 2) rfl)) (by decide) (by decide)) (g := (mkF m 106 #[.val (.int p0), .val (.long q1), .second, .val (.long (own_f12 (own_f12 (own_f12 (own_f12 (own_f12 (own_f12 (-3750763034362895579 : Int64) (own_f11 q1 (0 : Int32))) (own_f11 q1 (1 : Int32))) (own_f11 q1 (2 : Int32))) (own_f11 q1 (3 : Int32))) (own_f11 q1 (4 : Int32))) (own_f11 q1 (5 : Int32)))), .second] [(.int (own_f11 q1 (6 : Int32))), (.long (own_f12 (own_f12 (own_f12 (own_f12 (own_f12 (own_f12 (-3750763034362895579 : Int64) (own_f11 q1 (0 : Int32))) (own_f11 q1 (1 : Int32))) (own_f11 q1 (2 : Int32))) (own_f11 q1 (3 : Int32))) (own_f11 q1 (4 : Int32))) (own_f11 q1 (5 : Int32))))])) rfl (by rw [hml]; rfl) (argsL := [(.long (own_f12 (own_f12 (own_f12 (own_f12 (own_f12 (own_f12 (-3750763034362895579 : Int64) (own_f11 q1 (0 : Int32))) (own_f11 q1 (1 : Int32))) (own_f11 q1 (2 : Int32))) (own_f11 q1 (3 : Int32))) (own_f11 q1 (4 : Int32))) (own_f11 q1 (5 : Int32)))), (.int (own_f11 q1 (6 : Int32)))]) (rest := []) (lenOf pd_3 rfl) rfl (by show 2 * 0 + _ ≤ _; exact Nat.le_of_eq rfl) (hb hby d5_106) (fun _ _ => ⟨rfl, e20, (by decide : 0 + 0 ≤ _), (by decide : 0 + 0 ≤ _)⟩)
                dsimp only [Pt.U, Pt.locs, Pt.cells, Pt.slots] at X21 l21 y21 z21 st21 hQ21
                subst l21 y21 z21
                obtain ⟨rfl, N21q, e21⟩ := hQ21
                have N21 := Fr.app N20 N21q
                refine own_by (A' := T21.setTop (mkF m 109 #[.val (.int p0), .val (.long q1), .second, .val (.long (own_f12 (own_f12 (own_f12 (own_f12 (own_f12 (own_f12 (-3750763034362895579 : Int64) (own_f11 q1 (0 : Int32))) (own_f11 q1 (1 : Int32))) (own_f11 q1 (2 : Int32))) (own_f11 q1 (3 : Int32))) (own_f11 q1 (4 : Int32))) (own_f11 q1 (5 : Int32)))), .second] [(.long (own_f12 (own_f12 (own_f12 (own_f12 (own_f12 (own_f12 (own_f12 (-3750763034362895579 : Int64) (own_f11 q1 (0 : Int32))) (own_f11 q1 (1 : Int32))) (own_f11 q1 (2 : Int32))) (own_f11 q1 (3 : Int32))) (own_f11 q1 (4 : Int32))) (own_f11 q1 (5 : Int32))) (own_f11 q1 (6 : Int32))))])) (fun t kt => st21 t kt) ?_
                refine own_by (A' := T21.setTop (mkF m 113 #[.val (.int p0), .val (.long q1), .second, .val (.long (own_f12 (own_f12 (own_f12 (own_f12 (own_f12 (own_f12 (own_f12 (-3750763034362895579 : Int64) (own_f11 q1 (0 : Int32))) (own_f11 q1 (1 : Int32))) (own_f11 q1 (2 : Int32))) (own_f11 q1 (3 : Int32))) (own_f11 q1 (4 : Int32))) (own_f11 q1 (5 : Int32))) (own_f11 q1 (6 : Int32)))), .second] [(.int (7 : Int32)), (.int p0)])) (fun t kt => ?_) ?_
                · show Steps p.tables e below (T21.setTop (mkF m 109 #[.val (.int p0), .val (.long q1), .second, .val (.long (own_f12 (own_f12 (own_f12 (own_f12 (own_f12 (own_f12 (-3750763034362895579 : Int64) (own_f11 q1 (0 : Int32))) (own_f11 q1 (1 : Int32))) (own_f11 q1 (2 : Int32))) (own_f11 q1 (3 : Int32))) (own_f11 q1 (4 : Int32))) (own_f11 q1 (5 : Int32)))), .second] [(.long (own_f12 (own_f12 (own_f12 (own_f12 (own_f12 (own_f12 (own_f12 (-3750763034362895579 : Int64) (own_f11 q1 (0 : Int32))) (own_f11 q1 (1 : Int32))) (own_f11 q1 (2 : Int32))) (own_f11 q1 (3 : Int32))) (own_f11 q1 (4 : Int32))) (own_f11 q1 (5 : Int32))) (own_f11 q1 (6 : Int32))))])) t
                  refine XS.lstoreN X21.here hx rfl (hb hby d5_109) rfl (l' := #[.val (.int p0), .val (.long q1), .second, .val (.long (own_f12 (own_f12 (own_f12 (own_f12 (own_f12 (own_f12 (own_f12 (-3750763034362895579 : Int64) (own_f11 q1 (0 : Int32))) (own_f11 q1 (1 : Int32))) (own_f11 q1 (2 : Int32))) (own_f11 q1 (3 : Int32))) (own_f11 q1 (4 : Int32))) (own_f11 q1 (5 : Int32))) (own_f11 q1 (6 : Int32)))), .second]) rfl ?_
                  show Steps p.tables e below (T21.setTop (mkF m 110 #[.val (.int p0), .val (.long q1), .second, .val (.long (own_f12 (own_f12 (own_f12 (own_f12 (own_f12 (own_f12 (own_f12 (-3750763034362895579 : Int64) (own_f11 q1 (0 : Int32))) (own_f11 q1 (1 : Int32))) (own_f11 q1 (2 : Int32))) (own_f11 q1 (3 : Int32))) (own_f11 q1 (4 : Int32))) (own_f11 q1 (5 : Int32))) (own_f11 q1 (6 : Int32)))), .second] [])) t
                  refine XS.iloadN X21.here hx rfl (hb hby d5_110) rfl ?_
                  show Steps p.tables e below (T21.setTop (mkF m 111 #[.val (.int p0), .val (.long q1), .second, .val (.long (own_f12 (own_f12 (own_f12 (own_f12 (own_f12 (own_f12 (own_f12 (-3750763034362895579 : Int64) (own_f11 q1 (0 : Int32))) (own_f11 q1 (1 : Int32))) (own_f11 q1 (2 : Int32))) (own_f11 q1 (3 : Int32))) (own_f11 q1 (4 : Int32))) (own_f11 q1 (5 : Int32))) (own_f11 q1 (6 : Int32)))), .second] [(.int p0)])) t
                  refine XS.bipush X21.here hx rfl (hb hby d5_111) ?_
                  exact kt
                by_cases hc113_22 : (7 : Int32) < p0
                · refine own_by (A' := T21.setTop (mkF m 120 #[.val (.int p0), .val (.long q1), .second, .val (.long (own_f12 (own_f12 (own_f12 (own_f12 (own_f12 (own_f12 (own_f12 (-3750763034362895579 : Int64) (own_f11 q1 (0 : Int32))) (own_f11 q1 (1 : Int32))) (own_f11 q1 (2 : Int32))) (own_f11 q1 (3 : Int32))) (own_f11 q1 (4 : Int32))) (own_f11 q1 (5 : Int32))) (own_f11 q1 (6 : Int32)))), .second] [(.int (7 : Int32)), (.long q1), (.long (own_f12 (own_f12 (own_f12 (own_f12 (own_f12 (own_f12 (own_f12 (-3750763034362895579 : Int64) (own_f11 q1 (0 : Int32))) (own_f11 q1 (1 : Int32))) (own_f11 q1 (2 : Int32))) (own_f11 q1 (3 : Int32))) (own_f11 q1 (4 : Int32))) (own_f11 q1 (5 : Int32))) (own_f11 q1 (6 : Int32))))])) (fun t kt => ?_) ?_
                  · show Steps p.tables e below (T21.setTop (mkF m 113 #[.val (.int p0), .val (.long q1), .second, .val (.long (own_f12 (own_f12 (own_f12 (own_f12 (own_f12 (own_f12 (own_f12 (-3750763034362895579 : Int64) (own_f11 q1 (0 : Int32))) (own_f11 q1 (1 : Int32))) (own_f11 q1 (2 : Int32))) (own_f11 q1 (3 : Int32))) (own_f11 q1 (4 : Int32))) (own_f11 q1 (5 : Int32))) (own_f11 q1 (6 : Int32)))), .second] [(.int (7 : Int32)), (.int p0)])) t
                    refine XS.icmpNo X21.here hx rfl (hb hby d5_113) rfl (tlt hc113_22).2.2.2 ?_
                    show Steps p.tables e below (T21.setTop (mkF m 116 #[.val (.int p0), .val (.long q1), .second, .val (.long (own_f12 (own_f12 (own_f12 (own_f12 (own_f12 (own_f12 (own_f12 (-3750763034362895579 : Int64) (own_f11 q1 (0 : Int32))) (own_f11 q1 (1 : Int32))) (own_f11 q1 (2 : Int32))) (own_f11 q1 (3 : Int32))) (own_f11 q1 (4 : Int32))) (own_f11 q1 (5 : Int32))) (own_f11 q1 (6 : Int32)))), .second] [])) t
                    refine XS.lloadN X21.here hx rfl (hb hby d5_116) rfl ?_
                    show Steps p.tables e below (T21.setTop (mkF m 117 #[.val (.int p0), .val (.long q1), .second, .val (.long (own_f12 (own_f12 (own_f12 (own_f12 (own_f12 (own_f12 (own_f12 (-3750763034362895579 : Int64) (own_f11 q1 (0 : Int32))) (own_f11 q1 (1 : Int32))) (own_f11 q1 (2 : Int32))) (own_f11 q1 (3 : Int32))) (own_f11 q1 (4 : Int32))) (own_f11 q1 (5 : Int32))) (own_f11 q1 (6 : Int32)))), .second] [(.long (own_f12 (own_f12 (own_f12 (own_f12 (own_f12 (own_f12 (own_f12 (-3750763034362895579 : Int64) (own_f11 q1 (0 : Int32))) (own_f11 q1 (1 : Int32))) (own_f11 q1 (2 : Int32))) (own_f11 q1 (3 : Int32))) (own_f11 q1 (4 : Int32))) (own_f11 q1 (5 : Int32))) (own_f11 q1 (6 : Int32))))])) t
                    refine XS.lloadN X21.here hx rfl (hb hby d5_117) rfl ?_
                    show Steps p.tables e below (T21.setTop (mkF m 118 #[.val (.int p0), .val (.long q1), .second, .val (.long (own_f12 (own_f12 (own_f12 (own_f12 (own_f12 (own_f12 (own_f12 (-3750763034362895579 : Int64) (own_f11 q1 (0 : Int32))) (own_f11 q1 (1 : Int32))) (own_f11 q1 (2 : Int32))) (own_f11 q1 (3 : Int32))) (own_f11 q1 (4 : Int32))) (own_f11 q1 (5 : Int32))) (own_f11 q1 (6 : Int32)))), .second] [(.long q1), (.long (own_f12 (own_f12 (own_f12 (own_f12 (own_f12 (own_f12 (own_f12 (-3750763034362895579 : Int64) (own_f11 q1 (0 : Int32))) (own_f11 q1 (1 : Int32))) (own_f11 q1 (2 : Int32))) (own_f11 q1 (3 : Int32))) (own_f11 q1 (4 : Int32))) (own_f11 q1 (5 : Int32))) (own_f11 q1 (6 : Int32))))])) t
                    refine XS.bipush X21.here hx rfl (hb hby d5_118) ?_
                    exact kt
                  obtain ⟨_, _, ⟨T23, L23, k23, n23⟩, -, X23, ⟨Lc23, hQ23, l23, y23, z23⟩, st23⟩ := Jvm.LawKit.callS X21 hx (y := (⟨"com/example/honeyguide/honeyguide/index/KeyHashCodePinLaw", "octet", "(JI)I"⟩ : MethodName)) hown (mvT hZ (hw _ (List.mem_of_getElem? (i := 49) rfl))) (mvT hZ (hw _ (List.mem_of_getElem? (i := 50) rfl))) (mvT hZ (hw _ (List.mem_of_getElem? (i := 2) rfl))) (mvT hZ (hw _ (List.mem_of_getElem? (i := 51) rfl))) (by decide) (backOf (W := 2) (rm11 l Z aw hw [] q1 (7 : Int32) h0 n0 (Nat.le_trans Z0 K0.1) ) hZ (hw _ (List.mem_of_getElem? (i := 51) rfl)) (hw _ (List.mem_of_getElem? (i := 2) rfl)) (by decide) (by decide)) (g := (mkF m 120 #[.val (.int p0), .val (.long q1), .second, .val (.long (own_f12 (own_f12 (own_f12 (own_f12 (own_f12 (own_f12 (own_f12 (-3750763034362895579 : Int64) (own_f11 q1 (0 : Int32))) (own_f11 q1 (1 : Int32))) (own_f11 q1 (2 : Int32))) (own_f11 q1 (3 : Int32))) (own_f11 q1 (4 : Int32))) (own_f11 q1 (5 : Int32))) (own_f11 q1 (6 : Int32)))), .second] [(.int (7 : Int32)), (.long q1), (.long (own_f12 (own_f12 (own_f12 (own_f12 (own_f12 (own_f12 (own_f12 (-3750763034362895579 : Int64) (own_f11 q1 (0 : Int32))) (own_f11 q1 (1 : Int32))) (own_f11 q1 (2 : Int32))) (own_f11 q1 (3 : Int32))) (own_f11 q1 (4 : Int32))) (own_f11 q1 (5 : Int32))) (own_f11 q1 (6 : Int32))))])) rfl (by rw [hml]; rfl) (argsL := [(.long q1), (.int (7 : Int32))]) (rest := [(.long (own_f12 (own_f12 (own_f12 (own_f12 (own_f12 (own_f12 (own_f12 (-3750763034362895579 : Int64) (own_f11 q1 (0 : Int32))) (own_f11 q1 (1 : Int32))) (own_f11 q1 (2 : Int32))) (own_f11 q1 (3 : Int32))) (own_f11 q1 (4 : Int32))) (own_f11 q1 (5 : Int32))) (own_f11 q1 (6 : Int32))))]) (lenOf pd_2 rfl) rfl (by show 2 * 0 + _ ≤ _; exact Nat.le_of_eq rfl) (hb hby d5_120) (fun _ _ => ⟨rfl, e21, (by decide : 0 + 0 ≤ _), (by decide : 0 + 0 ≤ _)⟩)
                  dsimp only [Pt.U, Pt.locs, Pt.cells, Pt.slots] at X23 l23 y23 z23 st23 hQ23
                  subst l23 y23 z23
                  obtain ⟨rfl, N23q, e23⟩ := hQ23
                  have N23 := Fr.app N21 N23q
                  refine own_by (A' := T23.setTop (mkF m 123 #[.val (.int p0), .val (.long q1), .second, .val (.long (own_f12 (own_f12 (own_f12 (own_f12 (own_f12 (own_f12 (own_f12 (-3750763034362895579 : Int64) (own_f11 q1 (0 : Int32))) (own_f11 q1 (1 : Int32))) (own_f11 q1 (2 : Int32))) (own_f11 q1 (3 : Int32))) (own_f11 q1 (4 : Int32))) (own_f11 q1 (5 : Int32))) (own_f11 q1 (6 : Int32)))), .second] [(.int (own_f11 q1 (7 : Int32))), (.long (own_f12 (own_f12 (own_f12 (own_f12 (own_f12 (own_f12 (own_f12 (-3750763034362895579 : Int64) (own_f11 q1 (0 : Int32))) (own_f11 q1 (1 : Int32))) (own_f11 q1 (2 : Int32))) (own_f11 q1 (3 : Int32))) (own_f11 q1 (4 : Int32))) (own_f11 q1 (5 : Int32))) (own_f11 q1 (6 : Int32))))])) (fun t kt => st23 t kt) ?_
                  obtain ⟨_, _, ⟨T24, L24, k24, n24⟩, -, X24, ⟨Lc24, hQ24, l24, y24, z24⟩, st24⟩ := Jvm.LawKit.callS X23 hx (y := (⟨"com/example/honeyguide/honeyguide/index/KeyHashCodePinLaw", "step", "(JI)J"⟩ : MethodName)) hown (mvT hZ (hw _ (List.mem_of_getElem? (i := 53) rfl))) (mvT hZ (hw _ (List.mem_of_getElem? (i := 54) rfl))) (mvT hZ (hw _ (List.mem_of_getElem? (i := 2) rfl))) (mvT hZ (hw _ (List.mem_of_getElem? (i := 55) rfl))) (by decide) (backOf (W := 0) (rm12 l Z aw hw [] (own_f12 (own_f12 (own_f12 (own_f12 (own_f12 (own_f12 (own_f12 (-3750763034362895579 : Int64) (own_f11 q1 (0 : Int32))) (own_f11 q1 (1 : Int32))) (own_f11 q1 (2 : Int32))) (own_f11 q1 (3 : Int32))) (own_f11 q1 (4 : Int32))) (own_f11 q1 (5 : Int32))) (own_f11 q1 (6 : Int32))) (own_f11 q1 (7 : Int32)) h0 n0 (Nat.le_trans Z0 K0.1) ) hZ (hw _ (List.mem_of_getElem? (i := 55) rfl)) (hw _ (List.mem_of_getElem? (i := 2) rfl)) (by decide) (by decide)) (g := (mkF m 123 #[.val (.int p0), .val (.long q1), .second, .val (.long (own_f12 (own_f12 (own_f12 (own_f12 (own_f12 (own_f12 (own_f12 (-3750763034362895579 : Int64) (own_f11 q1 (0 : Int32))) (own_f11 q1 (1 : Int32))) (own_f11 q1 (2 : Int32))) (own_f11 q1 (3 : Int32))) (own_f11 q1 (4 : Int32))) (own_f11 q1 (5 : Int32))) (own_f11 q1 (6 : Int32)))), .second] [(.int (own_f11 q1 (7 : Int32))), (.long (own_f12 (own_f12 (own_f12 (own_f12 (own_f12 (own_f12 (own_f12 (-3750763034362895579 : Int64) (own_f11 q1 (0 : Int32))) (own_f11 q1 (1 : Int32))) (own_f11 q1 (2 : Int32))) (own_f11 q1 (3 : Int32))) (own_f11 q1 (4 : Int32))) (own_f11 q1 (5 : Int32))) (own_f11 q1 (6 : Int32))))])) rfl (by rw [hml]; rfl) (argsL := [(.long (own_f12 (own_f12 (own_f12 (own_f12 (own_f12 (own_f12 (own_f12 (-3750763034362895579 : Int64) (own_f11 q1 (0 : Int32))) (own_f11 q1 (1 : Int32))) (own_f11 q1 (2 : Int32))) (own_f11 q1 (3 : Int32))) (own_f11 q1 (4 : Int32))) (own_f11 q1 (5 : Int32))) (own_f11 q1 (6 : Int32)))), (.int (own_f11 q1 (7 : Int32)))]) (rest := []) (lenOf pd_3 rfl) rfl (by show 2 * 0 + _ ≤ _; exact Nat.le_of_eq rfl) (hb hby d5_123) (fun _ _ => ⟨rfl, e23, (by decide : 0 + 0 ≤ _), (by decide : 0 + 0 ≤ _)⟩)
                  dsimp only [Pt.U, Pt.locs, Pt.cells, Pt.slots] at X24 l24 y24 z24 st24 hQ24
                  subst l24 y24 z24
                  obtain ⟨rfl, N24q, e24⟩ := hQ24
                  have N24 := Fr.app N23 N24q
                  refine own_by (A' := T24.setTop (mkF m 126 #[.val (.int p0), .val (.long q1), .second, .val (.long (own_f12 (own_f12 (own_f12 (own_f12 (own_f12 (own_f12 (own_f12 (-3750763034362895579 : Int64) (own_f11 q1 (0 : Int32))) (own_f11 q1 (1 : Int32))) (own_f11 q1 (2 : Int32))) (own_f11 q1 (3 : Int32))) (own_f11 q1 (4 : Int32))) (own_f11 q1 (5 : Int32))) (own_f11 q1 (6 : Int32)))), .second] [(.long (own_f12 (own_f12 (own_f12 (own_f12 (own_f12 (own_f12 (own_f12 (own_f12 (-3750763034362895579 : Int64) (own_f11 q1 (0 : Int32))) (own_f11 q1 (1 : Int32))) (own_f11 q1 (2 : Int32))) (own_f11 q1 (3 : Int32))) (own_f11 q1 (4 : Int32))) (own_f11 q1 (5 : Int32))) (own_f11 q1 (6 : Int32))) (own_f11 q1 (7 : Int32))))])) (fun t kt => st24 t kt) ?_
                  refine own_by (A' := T24.setTop (mkF m 128 #[.val (.int p0), .val (.long q1), .second, .val (.long (own_f12 (own_f12 (own_f12 (own_f12 (own_f12 (own_f12 (own_f12 (own_f12 (-3750763034362895579 : Int64) (own_f11 q1 (0 : Int32))) (own_f11 q1 (1 : Int32))) (own_f11 q1 (2 : Int32))) (own_f11 q1 (3 : Int32))) (own_f11 q1 (4 : Int32))) (own_f11 q1 (5 : Int32))) (own_f11 q1 (6 : Int32))) (own_f11 q1 (7 : Int32)))), .second] [(.long (own_f12 (own_f12 (own_f12 (own_f12 (own_f12 (own_f12 (own_f12 (own_f12 (-3750763034362895579 : Int64) (own_f11 q1 (0 : Int32))) (own_f11 q1 (1 : Int32))) (own_f11 q1 (2 : Int32))) (own_f11 q1 (3 : Int32))) (own_f11 q1 (4 : Int32))) (own_f11 q1 (5 : Int32))) (own_f11 q1 (6 : Int32))) (own_f11 q1 (7 : Int32))))])) (fun t kt => ?_) ?_
                  · show Steps p.tables e below (T24.setTop (mkF m 126 #[.val (.int p0), .val (.long q1), .second, .val (.long (own_f12 (own_f12 (own_f12 (own_f12 (own_f12 (own_f12 (own_f12 (-3750763034362895579 : Int64) (own_f11 q1 (0 : Int32))) (own_f11 q1 (1 : Int32))) (own_f11 q1 (2 : Int32))) (own_f11 q1 (3 : Int32))) (own_f11 q1 (4 : Int32))) (own_f11 q1 (5 : Int32))) (own_f11 q1 (6 : Int32)))), .second] [(.long (own_f12 (own_f12 (own_f12 (own_f12 (own_f12 (own_f12 (own_f12 (own_f12 (-3750763034362895579 : Int64) (own_f11 q1 (0 : Int32))) (own_f11 q1 (1 : Int32))) (own_f11 q1 (2 : Int32))) (own_f11 q1 (3 : Int32))) (own_f11 q1 (4 : Int32))) (own_f11 q1 (5 : Int32))) (own_f11 q1 (6 : Int32))) (own_f11 q1 (7 : Int32))))])) t
                    refine XS.lstoreN X24.here hx rfl (hb hby d5_126) rfl (l' := #[.val (.int p0), .val (.long q1), .second, .val (.long (own_f12 (own_f12 (own_f12 (own_f12 (own_f12 (own_f12 (own_f12 (own_f12 (-3750763034362895579 : Int64) (own_f11 q1 (0 : Int32))) (own_f11 q1 (1 : Int32))) (own_f11 q1 (2 : Int32))) (own_f11 q1 (3 : Int32))) (own_f11 q1 (4 : Int32))) (own_f11 q1 (5 : Int32))) (own_f11 q1 (6 : Int32))) (own_f11 q1 (7 : Int32)))), .second]) rfl ?_
                    show Steps p.tables e below (T24.setTop (mkF m 127 #[.val (.int p0), .val (.long q1), .second, .val (.long (own_f12 (own_f12 (own_f12 (own_f12 (own_f12 (own_f12 (own_f12 (own_f12 (-3750763034362895579 : Int64) (own_f11 q1 (0 : Int32))) (own_f11 q1 (1 : Int32))) (own_f11 q1 (2 : Int32))) (own_f11 q1 (3 : Int32))) (own_f11 q1 (4 : Int32))) (own_f11 q1 (5 : Int32))) (own_f11 q1 (6 : Int32))) (own_f11 q1 (7 : Int32)))), .second] [])) t
                    refine XS.lloadN X24.here hx rfl (hb hby d5_127) rfl ?_
                    exact kt
                  obtain ⟨fs, hr, hrun, hended, hW, hsame⟩ := X24.leave (v := some (.long (own_f12 (own_f12 (own_f12 (own_f12 (own_f12 (own_f12 (own_f12 (own_f12 (-3750763034362895579 : Int64) (own_f11 q1 (0 : Int32))) (own_f11 q1 (1 : Int32))) (own_f11 q1 (2 : Int32))) (own_f11 q1 (3 : Int32))) (own_f11 q1 (4 : Int32))) (own_f11 q1 (5 : Int32))) (own_f11 q1 (6 : Int32))) (own_f11 q1 (7 : Int32))))) (fun h => by rw [Bd.returns] at h; cases h)
                  refine ⟨_, _, ?_, hrun, hended, _, _, rfl, ?_, ⟨_, rfl⟩, hW, hsame.mono (by decide) (by decide)⟩
                  · exact own_retL X24 hx Bd.returns (hb hby d5_128) hr
                  · show Q5 Z p0 q1 h0 n0 _ T24.heap _
                    rw [e24]
                    exact ⟨(by rw [own_f5, if_pos hc5_1, if_pos hc20_4, if_pos hc35_7, if_pos hc50_10, if_pos hc65_13, if_pos hc80_16, if_pos hc96_19, if_pos hc113_22]), N24, rfl⟩
                · refine own_by (A' := T21.setTop (mkF m 128 #[.val (.int p0), .val (.long q1), .second, .val (.long (own_f12 (own_f12 (own_f12 (own_f12 (own_f12 (own_f12 (own_f12 (-3750763034362895579 : Int64) (own_f11 q1 (0 : Int32))) (own_f11 q1 (1 : Int32))) (own_f11 q1 (2 : Int32))) (own_f11 q1 (3 : Int32))) (own_f11 q1 (4 : Int32))) (own_f11 q1 (5 : Int32))) (own_f11 q1 (6 : Int32)))), .second] [(.long (own_f12 (own_f12 (own_f12 (own_f12 (own_f12 (own_f12 (own_f12 (-3750763034362895579 : Int64) (own_f11 q1 (0 : Int32))) (own_f11 q1 (1 : Int32))) (own_f11 q1 (2 : Int32))) (own_f11 q1 (3 : Int32))) (own_f11 q1 (4 : Int32))) (own_f11 q1 (5 : Int32))) (own_f11 q1 (6 : Int32))))])) (fun t kt => ?_) ?_
                  · show Steps p.tables e below (T21.setTop (mkF m 113 #[.val (.int p0), .val (.long q1), .second, .val (.long (own_f12 (own_f12 (own_f12 (own_f12 (own_f12 (own_f12 (own_f12 (-3750763034362895579 : Int64) (own_f11 q1 (0 : Int32))) (own_f11 q1 (1 : Int32))) (own_f11 q1 (2 : Int32))) (own_f11 q1 (3 : Int32))) (own_f11 q1 (4 : Int32))) (own_f11 q1 (5 : Int32))) (own_f11 q1 (6 : Int32)))), .second] [(.int (7 : Int32)), (.int p0)])) t
                    refine XS.icmpYes X21.here hx rfl (pc0 := 113) (pc' := 127) rfl (hb hby d5_113) rfl (flt hc113_22).2.2.2 (by decide) (by decide) ?_
                    show Steps p.tables e below (T21.setTop (mkF m 127 #[.val (.int p0), .val (.long q1), .second, .val (.long (own_f12 (own_f12 (own_f12 (own_f12 (own_f12 (own_f12 (own_f12 (-3750763034362895579 : Int64) (own_f11 q1 (0 : Int32))) (own_f11 q1 (1 : Int32))) (own_f11 q1 (2 : Int32))) (own_f11 q1 (3 : Int32))) (own_f11 q1 (4 : Int32))) (own_f11 q1 (5 : Int32))) (own_f11 q1 (6 : Int32)))), .second] [])) t
                    refine XS.lloadN X21.here hx rfl (hb hby d5_127) rfl ?_
                    exact kt
                  obtain ⟨fs, hr, hrun, hended, hW, hsame⟩ := X21.leave (v := some (.long (own_f12 (own_f12 (own_f12 (own_f12 (own_f12 (own_f12 (own_f12 (-3750763034362895579 : Int64) (own_f11 q1 (0 : Int32))) (own_f11 q1 (1 : Int32))) (own_f11 q1 (2 : Int32))) (own_f11 q1 (3 : Int32))) (own_f11 q1 (4 : Int32))) (own_f11 q1 (5 : Int32))) (own_f11 q1 (6 : Int32))))) (fun h => by rw [Bd.returns] at h; cases h)
                  refine ⟨_, _, ?_, hrun, hended, _, _, rfl, ?_, ⟨_, rfl⟩, hW, hsame.mono (by decide) (by decide)⟩
                  · exact own_retL X21 hx Bd.returns (hb hby d5_128) hr
                  · show Q5 Z p0 q1 h0 n0 _ T21.heap _
                    rw [e21]
                    exact ⟨(by rw [own_f5, if_pos hc5_1, if_pos hc20_4, if_pos hc35_7, if_pos hc50_10, if_pos hc65_13, if_pos hc80_16, if_pos hc96_19, if_neg hc113_22]), N21, rfl⟩
              · refine own_by (A' := T18.setTop (mkF m 113 #[.val (.int p0), .val (.long q1), .second, .val (.long (own_f12 (own_f12 (own_f12 (own_f12 (own_f12 (own_f12 (-3750763034362895579 : Int64) (own_f11 q1 (0 : Int32))) (own_f11 q1 (1 : Int32))) (own_f11 q1 (2 : Int32))) (own_f11 q1 (3 : Int32))) (own_f11 q1 (4 : Int32))) (own_f11 q1 (5 : Int32)))), .second] [(.int (7 : Int32)), (.int p0)])) (fun t kt => ?_) ?_
                · show Steps p.tables e below (T18.setTop (mkF m 96 #[.val (.int p0), .val (.long q1), .second, .val (.long (own_f12 (own_f12 (own_f12 (own_f12 (own_f12 (own_f12 (-3750763034362895579 : Int64) (own_f11 q1 (0 : Int32))) (own_f11 q1 (1 : Int32))) (own_f11 q1 (2 : Int32))) (own_f11 q1 (3 : Int32))) (own_f11 q1 (4 : Int32))) (own_f11 q1 (5 : Int32)))), .second] [(.int (6 : Int32)), (.int p0)])) t
                  refine XS.icmpYes X18.here hx rfl (pc0 := 96) (pc' := 110) rfl (hb hby d5_96) rfl (flt hc96_19).2.2.2 (by decide) (by decide) ?_
                  show Steps p.tables e below (T18.setTop (mkF m 110 #[.val (.int p0), .val (.long q1), .second, .val (.long (own_f12 (own_f12 (own_f12 (own_f12 (own_f12 (own_f12 (-3750763034362895579 : Int64) (own_f11 q1 (0 : Int32))) (own_f11 q1 (1 : Int32))) (own_f11 q1 (2 : Int32))) (own_f11 q1 (3 : Int32))) (own_f11 q1 (4 : Int32))) (own_f11 q1 (5 : Int32)))), .second] [])) t
                  refine XS.iloadN X18.here hx rfl (hb hby d5_110) rfl ?_
                  show Steps p.tables e below (T18.setTop (mkF m 111 #[.val (.int p0), .val (.long q1), .second, .val (.long (own_f12 (own_f12 (own_f12 (own_f12 (own_f12 (own_f12 (-3750763034362895579 : Int64) (own_f11 q1 (0 : Int32))) (own_f11 q1 (1 : Int32))) (own_f11 q1 (2 : Int32))) (own_f11 q1 (3 : Int32))) (own_f11 q1 (4 : Int32))) (own_f11 q1 (5 : Int32)))), .second] [(.int p0)])) t
                  refine XS.bipush X18.here hx rfl (hb hby d5_111) ?_
                  exact kt
                have hc113_25 : ¬ ((7 : Int32) < p0) := fun q => hc96_19 (Int32.lt_trans (by decide) q)
                refine own_by (A' := T18.setTop (mkF m 128 #[.val (.int p0), .val (.long q1), .second, .val (.long (own_f12 (own_f12 (own_f12 (own_f12 (own_f12 (own_f12 (-3750763034362895579 : Int64) (own_f11 q1 (0 : Int32))) (own_f11 q1 (1 : Int32))) (own_f11 q1 (2 : Int32))) (own_f11 q1 (3 : Int32))) (own_f11 q1 (4 : Int32))) (own_f11 q1 (5 : Int32)))), .second] [(.long (own_f12 (own_f12 (own_f12 (own_f12 (own_f12 (own_f12 (-3750763034362895579 : Int64) (own_f11 q1 (0 : Int32))) (own_f11 q1 (1 : Int32))) (own_f11 q1 (2 : Int32))) (own_f11 q1 (3 : Int32))) (own_f11 q1 (4 : Int32))) (own_f11 q1 (5 : Int32))))])) (fun t kt => ?_) ?_
                · show Steps p.tables e below (T18.setTop (mkF m 113 #[.val (.int p0), .val (.long q1), .second, .val (.long (own_f12 (own_f12 (own_f12 (own_f12 (own_f12 (own_f12 (-3750763034362895579 : Int64) (own_f11 q1 (0 : Int32))) (own_f11 q1 (1 : Int32))) (own_f11 q1 (2 : Int32))) (own_f11 q1 (3 : Int32))) (own_f11 q1 (4 : Int32))) (own_f11 q1 (5 : Int32)))), .second] [(.int (7 : Int32)), (.int p0)])) t
                  refine XS.icmpYes X18.here hx rfl (pc0 := 113) (pc' := 127) rfl (hb hby d5_113) rfl (flt hc113_25).2.2.2 (by decide) (by decide) ?_
                  show Steps p.tables e below (T18.setTop (mkF m 127 #[.val (.int p0), .val (.long q1), .second, .val (.long (own_f12 (own_f12 (own_f12 (own_f12 (own_f12 (own_f12 (-3750763034362895579 : Int64) (own_f11 q1 (0 : Int32))) (own_f11 q1 (1 : Int32))) (own_f11 q1 (2 : Int32))) (own_f11 q1 (3 : Int32))) (own_f11 q1 (4 : Int32))) (own_f11 q1 (5 : Int32)))), .second] [])) t
                  refine XS.lloadN X18.here hx rfl (hb hby d5_127) rfl ?_
                  exact kt
                obtain ⟨fs, hr, hrun, hended, hW, hsame⟩ := X18.leave (v := some (.long (own_f12 (own_f12 (own_f12 (own_f12 (own_f12 (own_f12 (-3750763034362895579 : Int64) (own_f11 q1 (0 : Int32))) (own_f11 q1 (1 : Int32))) (own_f11 q1 (2 : Int32))) (own_f11 q1 (3 : Int32))) (own_f11 q1 (4 : Int32))) (own_f11 q1 (5 : Int32))))) (fun h => by rw [Bd.returns] at h; cases h)
                refine ⟨_, _, ?_, hrun, hended, _, _, rfl, ?_, ⟨_, rfl⟩, hW, hsame.mono (by decide) (by decide)⟩
                · exact own_retL X18 hx Bd.returns (hb hby d5_128) hr
                · show Q5 Z p0 q1 h0 n0 _ T18.heap _
                  rw [e18]
                  exact ⟨(by rw [own_f5, if_pos hc5_1, if_pos hc20_4, if_pos hc35_7, if_pos hc50_10, if_pos hc65_13, if_pos hc80_16, if_neg hc96_19]), N18, rfl⟩
            · refine own_by (A' := T15.setTop (mkF m 96 #[.val (.int p0), .val (.long q1), .second, .val (.long (own_f12 (own_f12 (own_f12 (own_f12 (own_f12 (-3750763034362895579 : Int64) (own_f11 q1 (0 : Int32))) (own_f11 q1 (1 : Int32))) (own_f11 q1 (2 : Int32))) (own_f11 q1 (3 : Int32))) (own_f11 q1 (4 : Int32)))), .second] [(.int (6 : Int32)), (.int p0)])) (fun t kt => ?_) ?_
              · show Steps p.tables e below (T15.setTop (mkF m 80 #[.val (.int p0), .val (.long q1), .second, .val (.long (own_f12 (own_f12 (own_f12 (own_f12 (own_f12 (-3750763034362895579 : Int64) (own_f11 q1 (0 : Int32))) (own_f11 q1 (1 : Int32))) (own_f11 q1 (2 : Int32))) (own_f11 q1 (3 : Int32))) (own_f11 q1 (4 : Int32)))), .second] [(.int (5 : Int32)), (.int p0)])) t
                refine XS.icmpYes X15.here hx rfl (pc0 := 80) (pc' := 93) rfl (hb hby d5_80) rfl (flt hc80_16).2.2.2 (by decide) (by decide) ?_
                show Steps p.tables e below (T15.setTop (mkF m 93 #[.val (.int p0), .val (.long q1), .second, .val (.long (own_f12 (own_f12 (own_f12 (own_f12 (own_f12 (-3750763034362895579 : Int64) (own_f11 q1 (0 : Int32))) (own_f11 q1 (1 : Int32))) (own_f11 q1 (2 : Int32))) (own_f11 q1 (3 : Int32))) (own_f11 q1 (4 : Int32)))), .second] [])) t
                refine XS.iloadN X15.here hx rfl (hb hby d5_93) rfl ?_
                show Steps p.tables e below (T15.setTop (mkF m 94 #[.val (.int p0), .val (.long q1), .second, .val (.long (own_f12 (own_f12 (own_f12 (own_f12 (own_f12 (-3750763034362895579 : Int64) (own_f11 q1 (0 : Int32))) (own_f11 q1 (1 : Int32))) (own_f11 q1 (2 : Int32))) (own_f11 q1 (3 : Int32))) (own_f11 q1 (4 : Int32)))), .second] [(.int p0)])) t
                refine XS.bipush X15.here hx rfl (hb hby d5_94) ?_
                exact kt
              have hc96_26 : ¬ ((6 : Int32) < p0) := fun q => hc80_16 (Int32.lt_trans (by decide) q)
              refine own_by (A' := T15.setTop (mkF m 113 #[.val (.int p0), .val (.long q1), .second, .val (.long (own_f12 (own_f12 (own_f12 (own_f12 (own_f12 (-3750763034362895579 : Int64) (own_f11 q1 (0 : Int32))) (own_f11 q1 (1 : Int32))) (own_f11 q1 (2 : Int32))) (own_f11 q1 (3 : Int32))) (own_f11 q1 (4 : Int32)))), .second] [(.int (7 : Int32)), (.int p0)])) (fun t kt => ?_) ?_
              · show Steps p.tables e below (T15.setTop (mkF m 96 #[.val (.int p0), .val (.long q1), .second, .val (.long (own_f12 (own_f12 (own_f12 (own_f12 (own_f12 (-3750763034362895579 : Int64) (own_f11 q1 (0 : Int32))) (own_f11 q1 (1 : Int32))) (own_f11 q1 (2 : Int32))) (own_f11 q1 (3 : Int32))) (own_f11 q1 (4 : Int32)))), .second] [(.int (6 : Int32)), (.int p0)])) t
                refine XS.icmpYes X15.here hx rfl (pc0 := 96) (pc' := 110) rfl (hb hby d5_96) rfl (flt hc96_26).2.2.2 (by decide) (by decide) ?_
                show Steps p.tables e below (T15.setTop (mkF m 110 #[.val (.int p0), .val (.long q1), .second, .val (.long (own_f12 (own_f12 (own_f12 (own_f12 (own_f12 (-3750763034362895579 : Int64) (own_f11 q1 (0 : Int32))) (own_f11 q1 (1 : Int32))) (own_f11 q1 (2 : Int32))) (own_f11 q1 (3 : Int32))) (own_f11 q1 (4 : Int32)))), .second] [])) t
                refine XS.iloadN X15.here hx rfl (hb hby d5_110) rfl ?_
                show Steps p.tables e below (T15.setTop (mkF m 111 #[.val (.int p0), .val (.long q1), .second, .val (.long (own_f12 (own_f12 (own_f12 (own_f12 (own_f12 (-3750763034362895579 : Int64) (own_f11 q1 (0 : Int32))) (own_f11 q1 (1 : Int32))) (own_f11 q1 (2 : Int32))) (own_f11 q1 (3 : Int32))) (own_f11 q1 (4 : Int32)))), .second] [(.int p0)])) t
                refine XS.bipush X15.here hx rfl (hb hby d5_111) ?_
                exact kt
              have hc113_27 : ¬ ((7 : Int32) < p0) := fun q => hc80_16 (Int32.lt_trans (by decide) q)
              refine own_by (A' := T15.setTop (mkF m 128 #[.val (.int p0), .val (.long q1), .second, .val (.long (own_f12 (own_f12 (own_f12 (own_f12 (own_f12 (-3750763034362895579 : Int64) (own_f11 q1 (0 : Int32))) (own_f11 q1 (1 : Int32))) (own_f11 q1 (2 : Int32))) (own_f11 q1 (3 : Int32))) (own_f11 q1 (4 : Int32)))), .second] [(.long (own_f12 (own_f12 (own_f12 (own_f12 (own_f12 (-3750763034362895579 : Int64) (own_f11 q1 (0 : Int32))) (own_f11 q1 (1 : Int32))) (own_f11 q1 (2 : Int32))) (own_f11 q1 (3 : Int32))) (own_f11 q1 (4 : Int32))))])) (fun t kt => ?_) ?_
              · show Steps p.tables e below (T15.setTop (mkF m 113 #[.val (.int p0), .val (.long q1), .second, .val (.long (own_f12 (own_f12 (own_f12 (own_f12 (own_f12 (-3750763034362895579 : Int64) (own_f11 q1 (0 : Int32))) (own_f11 q1 (1 : Int32))) (own_f11 q1 (2 : Int32))) (own_f11 q1 (3 : Int32))) (own_f11 q1 (4 : Int32)))), .second] [(.int (7 : Int32)), (.int p0)])) t
                refine XS.icmpYes X15.here hx rfl (pc0 := 113) (pc' := 127) rfl (hb hby d5_113) rfl (flt hc113_27).2.2.2 (by decide) (by decide) ?_
                show Steps p.tables e below (T15.setTop (mkF m 127 #[.val (.int p0), .val (.long q1), .second, .val (.long (own_f12 (own_f12 (own_f12 (own_f12 (own_f12 (-3750763034362895579 : Int64) (own_f11 q1 (0 : Int32))) (own_f11 q1 (1 : Int32))) (own_f11 q1 (2 : Int32))) (own_f11 q1 (3 : Int32))) (own_f11 q1 (4 : Int32)))), .second] [])) t
                refine XS.lloadN X15.here hx rfl (hb hby d5_127) rfl ?_
                exact kt
              obtain ⟨fs, hr, hrun, hended, hW, hsame⟩ := X15.leave (v := some (.long (own_f12 (own_f12 (own_f12 (own_f12 (own_f12 (-3750763034362895579 : Int64) (own_f11 q1 (0 : Int32))) (own_f11 q1 (1 : Int32))) (own_f11 q1 (2 : Int32))) (own_f11 q1 (3 : Int32))) (own_f11 q1 (4 : Int32))))) (fun h => by rw [Bd.returns] at h; cases h)
              refine ⟨_, _, ?_, hrun, hended, _, _, rfl, ?_, ⟨_, rfl⟩, hW, hsame.mono (by decide) (by decide)⟩
              · exact own_retL X15 hx Bd.returns (hb hby d5_128) hr
              · show Q5 Z p0 q1 h0 n0 _ T15.heap _
                rw [e15]
                exact ⟨(by rw [own_f5, if_pos hc5_1, if_pos hc20_4, if_pos hc35_7, if_pos hc50_10, if_pos hc65_13, if_neg hc80_16]), N15, rfl⟩
          · refine own_by (A' := T12.setTop (mkF m 80 #[.val (.int p0), .val (.long q1), .second, .val (.long (own_f12 (own_f12 (own_f12 (own_f12 (-3750763034362895579 : Int64) (own_f11 q1 (0 : Int32))) (own_f11 q1 (1 : Int32))) (own_f11 q1 (2 : Int32))) (own_f11 q1 (3 : Int32)))), .second] [(.int (5 : Int32)), (.int p0)])) (fun t kt => ?_) ?_
            · show Steps p.tables e below (T12.setTop (mkF m 65 #[.val (.int p0), .val (.long q1), .second, .val (.long (own_f12 (own_f12 (own_f12 (own_f12 (-3750763034362895579 : Int64) (own_f11 q1 (0 : Int32))) (own_f11 q1 (1 : Int32))) (own_f11 q1 (2 : Int32))) (own_f11 q1 (3 : Int32)))), .second] [(.int (4 : Int32)), (.int p0)])) t
              refine XS.icmpYes X12.here hx rfl (pc0 := 65) (pc' := 78) rfl (hb hby d5_65) rfl (flt hc65_13).2.2.2 (by decide) (by decide) ?_
              show Steps p.tables e below (T12.setTop (mkF m 78 #[.val (.int p0), .val (.long q1), .second, .val (.long (own_f12 (own_f12 (own_f12 (own_f12 (-3750763034362895579 : Int64) (own_f11 q1 (0 : Int32))) (own_f11 q1 (1 : Int32))) (own_f11 q1 (2 : Int32))) (own_f11 q1 (3 : Int32)))), .second] [])) t
              refine XS.iloadN X12.here hx rfl (hb hby d5_78) rfl ?_
              show Steps p.tables e below (T12.setTop (mkF m 79 #[.val (.int p0), .val (.long q1), .second, .val (.long (own_f12 (own_f12 (own_f12 (own_f12 (-3750763034362895579 : Int64) (own_f11 q1 (0 : Int32))) (own_f11 q1 (1 : Int32))) (own_f11 q1 (2 : Int32))) (own_f11 q1 (3 : Int32)))), .second] [(.int p0)])) t
              refine XS.iconst X12.here hx rfl (hb hby d5_79) ?_
              exact kt
            have hc80_28 : ¬ ((5 : Int32) < p0) := fun q => hc65_13 (Int32.lt_trans (by decide) q)
            refine own_by (A' := T12.setTop (mkF m 96 #[.val (.int p0), .val (.long q1), .second, .val (.long (own_f12 (own_f12 (own_f12 (own_f12 (-3750763034362895579 : Int64) (own_f11 q1 (0 : Int32))) (own_f11 q1 (1 : Int32))) (own_f11 q1 (2 : Int32))) (own_f11 q1 (3 : Int32)))), .second] [(.int (6 : Int32)), (.int p0)])) (fun t kt => ?_) ?_
            · show Steps p.tables e below (T12.setTop (mkF m 80 #[.val (.int p0), .val (.long q1), .second, .val (.long (own_f12 (own_f12 (own_f12 (own_f12 (-3750763034362895579 : Int64) (own_f11 q1 (0 : Int32))) (own_f11 q1 (1 : Int32))) (own_f11 q1 (2 : Int32))) (own_f11 q1 (3 : Int32)))), .second] [(.int (5 : Int32)), (.int p0)])) t
              refine XS.icmpYes X12.here hx rfl (pc0 := 80) (pc' := 93) rfl (hb hby d5_80) rfl (flt hc80_28).2.2.2 (by decide) (by decide) ?_
              show Steps p.tables e below (T12.setTop (mkF m 93 #[.val (.int p0), .val (.long q1), .second, .val (.long (own_f12 (own_f12 (own_f12 (own_f12 (-3750763034362895579 : Int64) (own_f11 q1 (0 : Int32))) (own_f11 q1 (1 : Int32))) (own_f11 q1 (2 : Int32))) (own_f11 q1 (3 : Int32)))), .second] [])) t
              refine XS.iloadN X12.here hx rfl (hb hby d5_93) rfl ?_
              show Steps p.tables e below (T12.setTop (mkF m 94 #[.val (.int p0), .val (.long q1), .second, .val (.long (own_f12 (own_f12 (own_f12 (own_f12 (-3750763034362895579 : Int64) (own_f11 q1 (0 : Int32))) (own_f11 q1 (1 : Int32))) (own_f11 q1 (2 : Int32))) (own_f11 q1 (3 : Int32)))), .second] [(.int p0)])) t
              refine XS.bipush X12.here hx rfl (hb hby d5_94) ?_
              exact kt
            have hc96_29 : ¬ ((6 : Int32) < p0) := fun q => hc65_13 (Int32.lt_trans (by decide) q)
            refine own_by (A' := T12.setTop (mkF m 113 #[.val (.int p0), .val (.long q1), .second, .val (.long (own_f12 (own_f12 (own_f12 (own_f12 (-3750763034362895579 : Int64) (own_f11 q1 (0 : Int32))) (own_f11 q1 (1 : Int32))) (own_f11 q1 (2 : Int32))) (own_f11 q1 (3 : Int32)))), .second] [(.int (7 : Int32)), (.int p0)])) (fun t kt => ?_) ?_
            · show Steps p.tables e below (T12.setTop (mkF m 96 #[.val (.int p0), .val (.long q1), .second, .val (.long (own_f12 (own_f12 (own_f12 (own_f12 (-3750763034362895579 : Int64) (own_f11 q1 (0 : Int32))) (own_f11 q1 (1 : Int32))) (own_f11 q1 (2 : Int32))) (own_f11 q1 (3 : Int32)))), .second] [(.int (6 : Int32)), (.int p0)])) t
              refine XS.icmpYes X12.here hx rfl (pc0 := 96) (pc' := 110) rfl (hb hby d5_96) rfl (flt hc96_29).2.2.2 (by decide) (by decide) ?_
              show Steps p.tables e below (T12.setTop (mkF m 110 #[.val (.int p0), .val (.long q1), .second, .val (.long (own_f12 (own_f12 (own_f12 (own_f12 (-3750763034362895579 : Int64) (own_f11 q1 (0 : Int32))) (own_f11 q1 (1 : Int32))) (own_f11 q1 (2 : Int32))) (own_f11 q1 (3 : Int32)))), .second] [])) t
              refine XS.iloadN X12.here hx rfl (hb hby d5_110) rfl ?_
              show Steps p.tables e below (T12.setTop (mkF m 111 #[.val (.int p0), .val (.long q1), .second, .val (.long (own_f12 (own_f12 (own_f12 (own_f12 (-3750763034362895579 : Int64) (own_f11 q1 (0 : Int32))) (own_f11 q1 (1 : Int32))) (own_f11 q1 (2 : Int32))) (own_f11 q1 (3 : Int32)))), .second] [(.int p0)])) t
              refine XS.bipush X12.here hx rfl (hb hby d5_111) ?_
              exact kt
            have hc113_30 : ¬ ((7 : Int32) < p0) := fun q => hc65_13 (Int32.lt_trans (by decide) q)
            refine own_by (A' := T12.setTop (mkF m 128 #[.val (.int p0), .val (.long q1), .second, .val (.long (own_f12 (own_f12 (own_f12 (own_f12 (-3750763034362895579 : Int64) (own_f11 q1 (0 : Int32))) (own_f11 q1 (1 : Int32))) (own_f11 q1 (2 : Int32))) (own_f11 q1 (3 : Int32)))), .second] [(.long (own_f12 (own_f12 (own_f12 (own_f12 (-3750763034362895579 : Int64) (own_f11 q1 (0 : Int32))) (own_f11 q1 (1 : Int32))) (own_f11 q1 (2 : Int32))) (own_f11 q1 (3 : Int32))))])) (fun t kt => ?_) ?_
            · show Steps p.tables e below (T12.setTop (mkF m 113 #[.val (.int p0), .val (.long q1), .second, .val (.long (own_f12 (own_f12 (own_f12 (own_f12 (-3750763034362895579 : Int64) (own_f11 q1 (0 : Int32))) (own_f11 q1 (1 : Int32))) (own_f11 q1 (2 : Int32))) (own_f11 q1 (3 : Int32)))), .second] [(.int (7 : Int32)), (.int p0)])) t
              refine XS.icmpYes X12.here hx rfl (pc0 := 113) (pc' := 127) rfl (hb hby d5_113) rfl (flt hc113_30).2.2.2 (by decide) (by decide) ?_
              show Steps p.tables e below (T12.setTop (mkF m 127 #[.val (.int p0), .val (.long q1), .second, .val (.long (own_f12 (own_f12 (own_f12 (own_f12 (-3750763034362895579 : Int64) (own_f11 q1 (0 : Int32))) (own_f11 q1 (1 : Int32))) (own_f11 q1 (2 : Int32))) (own_f11 q1 (3 : Int32)))), .second] [])) t
              refine XS.lloadN X12.here hx rfl (hb hby d5_127) rfl ?_
              exact kt
            obtain ⟨fs, hr, hrun, hended, hW, hsame⟩ := X12.leave (v := some (.long (own_f12 (own_f12 (own_f12 (own_f12 (-3750763034362895579 : Int64) (own_f11 q1 (0 : Int32))) (own_f11 q1 (1 : Int32))) (own_f11 q1 (2 : Int32))) (own_f11 q1 (3 : Int32))))) (fun h => by rw [Bd.returns] at h; cases h)
            refine ⟨_, _, ?_, hrun, hended, _, _, rfl, ?_, ⟨_, rfl⟩, hW, hsame.mono (by decide) (by decide)⟩
            · exact own_retL X12 hx Bd.returns (hb hby d5_128) hr
            · show Q5 Z p0 q1 h0 n0 _ T12.heap _
              rw [e12]
              exact ⟨(by rw [own_f5, if_pos hc5_1, if_pos hc20_4, if_pos hc35_7, if_pos hc50_10, if_neg hc65_13]), N12, rfl⟩
        · refine own_by (A' := T9.setTop (mkF m 65 #[.val (.int p0), .val (.long q1), .second, .val (.long (own_f12 (own_f12 (own_f12 (-3750763034362895579 : Int64) (own_f11 q1 (0 : Int32))) (own_f11 q1 (1 : Int32))) (own_f11 q1 (2 : Int32)))), .second] [(.int (4 : Int32)), (.int p0)])) (fun t kt => ?_) ?_
          · show Steps p.tables e below (T9.setTop (mkF m 50 #[.val (.int p0), .val (.long q1), .second, .val (.long (own_f12 (own_f12 (own_f12 (-3750763034362895579 : Int64) (own_f11 q1 (0 : Int32))) (own_f11 q1 (1 : Int32))) (own_f11 q1 (2 : Int32)))), .second] [(.int (3 : Int32)), (.int p0)])) t
            refine XS.icmpYes X9.here hx rfl (pc0 := 50) (pc' := 63) rfl (hb hby d5_50) rfl (flt hc50_10).2.2.2 (by decide) (by decide) ?_
            show Steps p.tables e below (T9.setTop (mkF m 63 #[.val (.int p0), .val (.long q1), .second, .val (.long (own_f12 (own_f12 (own_f12 (-3750763034362895579 : Int64) (own_f11 q1 (0 : Int32))) (own_f11 q1 (1 : Int32))) (own_f11 q1 (2 : Int32)))), .second] [])) t
            refine XS.iloadN X9.here hx rfl (hb hby d5_63) rfl ?_
            show Steps p.tables e below (T9.setTop (mkF m 64 #[.val (.int p0), .val (.long q1), .second, .val (.long (own_f12 (own_f12 (own_f12 (-3750763034362895579 : Int64) (own_f11 q1 (0 : Int32))) (own_f11 q1 (1 : Int32))) (own_f11 q1 (2 : Int32)))), .second] [(.int p0)])) t
            refine XS.iconst X9.here hx rfl (hb hby d5_64) ?_
            exact kt
          have hc65_31 : ¬ ((4 : Int32) < p0) := fun q => hc50_10 (Int32.lt_trans (by decide) q)
          refine own_by (A' := T9.setTop (mkF m 80 #[.val (.int p0), .val (.long q1), .second, .val (.long (own_f12 (own_f12 (own_f12 (-3750763034362895579 : Int64) (own_f11 q1 (0 : Int32))) (own_f11 q1 (1 : Int32))) (own_f11 q1 (2 : Int32)))), .second] [(.int (5 : Int32)), (.int p0)])) (fun t kt => ?_) ?_
          · show Steps p.tables e below (T9.setTop (mkF m 65 #[.val (.int p0), .val (.long q1), .second, .val (.long (own_f12 (own_f12 (own_f12 (-3750763034362895579 : Int64) (own_f11 q1 (0 : Int32))) (own_f11 q1 (1 : Int32))) (own_f11 q1 (2 : Int32)))), .second] [(.int (4 : Int32)), (.int p0)])) t
            refine XS.icmpYes X9.here hx rfl (pc0 := 65) (pc' := 78) rfl (hb hby d5_65) rfl (flt hc65_31).2.2.2 (by decide) (by decide) ?_
            show Steps p.tables e below (T9.setTop (mkF m 78 #[.val (.int p0), .val (.long q1), .second, .val (.long (own_f12 (own_f12 (own_f12 (-3750763034362895579 : Int64) (own_f11 q1 (0 : Int32))) (own_f11 q1 (1 : Int32))) (own_f11 q1 (2 : Int32)))), .second] [])) t
            refine XS.iloadN X9.here hx rfl (hb hby d5_78) rfl ?_
            show Steps p.tables e below (T9.setTop (mkF m 79 #[.val (.int p0), .val (.long q1), .second, .val (.long (own_f12 (own_f12 (own_f12 (-3750763034362895579 : Int64) (own_f11 q1 (0 : Int32))) (own_f11 q1 (1 : Int32))) (own_f11 q1 (2 : Int32)))), .second] [(.int p0)])) t
            refine XS.iconst X9.here hx rfl (hb hby d5_79) ?_
            exact kt
          have hc80_32 : ¬ ((5 : Int32) < p0) := fun q => hc50_10 (Int32.lt_trans (by decide) q)
          refine own_by (A' := T9.setTop (mkF m 96 #[.val (.int p0), .val (.long q1), .second, .val (.long (own_f12 (own_f12 (own_f12 (-3750763034362895579 : Int64) (own_f11 q1 (0 : Int32))) (own_f11 q1 (1 : Int32))) (own_f11 q1 (2 : Int32)))), .second] [(.int (6 : Int32)), (.int p0)])) (fun t kt => ?_) ?_
          · show Steps p.tables e below (T9.setTop (mkF m 80 #[.val (.int p0), .val (.long q1), .second, .val (.long (own_f12 (own_f12 (own_f12 (-3750763034362895579 : Int64) (own_f11 q1 (0 : Int32))) (own_f11 q1 (1 : Int32))) (own_f11 q1 (2 : Int32)))), .second] [(.int (5 : Int32)), (.int p0)])) t
            refine XS.icmpYes X9.here hx rfl (pc0 := 80) (pc' := 93) rfl (hb hby d5_80) rfl (flt hc80_32).2.2.2 (by decide) (by decide) ?_
            show Steps p.tables e below (T9.setTop (mkF m 93 #[.val (.int p0), .val (.long q1), .second, .val (.long (own_f12 (own_f12 (own_f12 (-3750763034362895579 : Int64) (own_f11 q1 (0 : Int32))) (own_f11 q1 (1 : Int32))) (own_f11 q1 (2 : Int32)))), .second] [])) t
            refine XS.iloadN X9.here hx rfl (hb hby d5_93) rfl ?_
            show Steps p.tables e below (T9.setTop (mkF m 94 #[.val (.int p0), .val (.long q1), .second, .val (.long (own_f12 (own_f12 (own_f12 (-3750763034362895579 : Int64) (own_f11 q1 (0 : Int32))) (own_f11 q1 (1 : Int32))) (own_f11 q1 (2 : Int32)))), .second] [(.int p0)])) t
            refine XS.bipush X9.here hx rfl (hb hby d5_94) ?_
            exact kt
          have hc96_33 : ¬ ((6 : Int32) < p0) := fun q => hc50_10 (Int32.lt_trans (by decide) q)
          refine own_by (A' := T9.setTop (mkF m 113 #[.val (.int p0), .val (.long q1), .second, .val (.long (own_f12 (own_f12 (own_f12 (-3750763034362895579 : Int64) (own_f11 q1 (0 : Int32))) (own_f11 q1 (1 : Int32))) (own_f11 q1 (2 : Int32)))), .second] [(.int (7 : Int32)), (.int p0)])) (fun t kt => ?_) ?_
          · show Steps p.tables e below (T9.setTop (mkF m 96 #[.val (.int p0), .val (.long q1), .second, .val (.long (own_f12 (own_f12 (own_f12 (-3750763034362895579 : Int64) (own_f11 q1 (0 : Int32))) (own_f11 q1 (1 : Int32))) (own_f11 q1 (2 : Int32)))), .second] [(.int (6 : Int32)), (.int p0)])) t
            refine XS.icmpYes X9.here hx rfl (pc0 := 96) (pc' := 110) rfl (hb hby d5_96) rfl (flt hc96_33).2.2.2 (by decide) (by decide) ?_
            show Steps p.tables e below (T9.setTop (mkF m 110 #[.val (.int p0), .val (.long q1), .second, .val (.long (own_f12 (own_f12 (own_f12 (-3750763034362895579 : Int64) (own_f11 q1 (0 : Int32))) (own_f11 q1 (1 : Int32))) (own_f11 q1 (2 : Int32)))), .second] [])) t
            refine XS.iloadN X9.here hx rfl (hb hby d5_110) rfl ?_
            show Steps p.tables e below (T9.setTop (mkF m 111 #[.val (.int p0), .val (.long q1), .second, .val (.long (own_f12 (own_f12 (own_f12 (-3750763034362895579 : Int64) (own_f11 q1 (0 : Int32))) (own_f11 q1 (1 : Int32))) (own_f11 q1 (2 : Int32)))), .second] [(.int p0)])) t
            refine XS.bipush X9.here hx rfl (hb hby d5_111) ?_
            exact kt
          have hc113_34 : ¬ ((7 : Int32) < p0) := fun q => hc50_10 (Int32.lt_trans (by decide) q)
          refine own_by (A' := T9.setTop (mkF m 128 #[.val (.int p0), .val (.long q1), .second, .val (.long (own_f12 (own_f12 (own_f12 (-3750763034362895579 : Int64) (own_f11 q1 (0 : Int32))) (own_f11 q1 (1 : Int32))) (own_f11 q1 (2 : Int32)))), .second] [(.long (own_f12 (own_f12 (own_f12 (-3750763034362895579 : Int64) (own_f11 q1 (0 : Int32))) (own_f11 q1 (1 : Int32))) (own_f11 q1 (2 : Int32))))])) (fun t kt => ?_) ?_
          · show Steps p.tables e below (T9.setTop (mkF m 113 #[.val (.int p0), .val (.long q1), .second, .val (.long (own_f12 (own_f12 (own_f12 (-3750763034362895579 : Int64) (own_f11 q1 (0 : Int32))) (own_f11 q1 (1 : Int32))) (own_f11 q1 (2 : Int32)))), .second] [(.int (7 : Int32)), (.int p0)])) t
            refine XS.icmpYes X9.here hx rfl (pc0 := 113) (pc' := 127) rfl (hb hby d5_113) rfl (flt hc113_34).2.2.2 (by decide) (by decide) ?_
            show Steps p.tables e below (T9.setTop (mkF m 127 #[.val (.int p0), .val (.long q1), .second, .val (.long (own_f12 (own_f12 (own_f12 (-3750763034362895579 : Int64) (own_f11 q1 (0 : Int32))) (own_f11 q1 (1 : Int32))) (own_f11 q1 (2 : Int32)))), .second] [])) t
            refine XS.lloadN X9.here hx rfl (hb hby d5_127) rfl ?_
            exact kt
          obtain ⟨fs, hr, hrun, hended, hW, hsame⟩ := X9.leave (v := some (.long (own_f12 (own_f12 (own_f12 (-3750763034362895579 : Int64) (own_f11 q1 (0 : Int32))) (own_f11 q1 (1 : Int32))) (own_f11 q1 (2 : Int32))))) (fun h => by rw [Bd.returns] at h; cases h)
          refine ⟨_, _, ?_, hrun, hended, _, _, rfl, ?_, ⟨_, rfl⟩, hW, hsame.mono (by decide) (by decide)⟩
          · exact own_retL X9 hx Bd.returns (hb hby d5_128) hr
          · show Q5 Z p0 q1 h0 n0 _ T9.heap _
            rw [e9]
            exact ⟨(by rw [own_f5, if_pos hc5_1, if_pos hc20_4, if_pos hc35_7, if_neg hc50_10]), N9, rfl⟩
      · refine own_by (A' := T6.setTop (mkF m 50 #[.val (.int p0), .val (.long q1), .second, .val (.long (own_f12 (own_f12 (-3750763034362895579 : Int64) (own_f11 q1 (0 : Int32))) (own_f11 q1 (1 : Int32)))), .second] [(.int (3 : Int32)), (.int p0)])) (fun t kt => ?_) ?_
        · show Steps p.tables e below (T6.setTop (mkF m 35 #[.val (.int p0), .val (.long q1), .second, .val (.long (own_f12 (own_f12 (-3750763034362895579 : Int64) (own_f11 q1 (0 : Int32))) (own_f11 q1 (1 : Int32)))), .second] [(.int (2 : Int32)), (.int p0)])) t
          refine XS.icmpYes X6.here hx rfl (pc0 := 35) (pc' := 48) rfl (hb hby d5_35) rfl (flt hc35_7).2.2.2 (by decide) (by decide) ?_
          show Steps p.tables e below (T6.setTop (mkF m 48 #[.val (.int p0), .val (.long q1), .second, .val (.long (own_f12 (own_f12 (-3750763034362895579 : Int64) (own_f11 q1 (0 : Int32))) (own_f11 q1 (1 : Int32)))), .second] [])) t
          refine XS.iloadN X6.here hx rfl (hb hby d5_48) rfl ?_
          show Steps p.tables e below (T6.setTop (mkF m 49 #[.val (.int p0), .val (.long q1), .second, .val (.long (own_f12 (own_f12 (-3750763034362895579 : Int64) (own_f11 q1 (0 : Int32))) (own_f11 q1 (1 : Int32)))), .second] [(.int p0)])) t
          refine XS.iconst X6.here hx rfl (hb hby d5_49) ?_
          exact kt
        have hc50_35 : ¬ ((3 : Int32) < p0) := fun q => hc35_7 (Int32.lt_trans (by decide) q)
        refine own_by (A' := T6.setTop (mkF m 65 #[.val (.int p0), .val (.long q1), .second, .val (.long (own_f12 (own_f12 (-3750763034362895579 : Int64) (own_f11 q1 (0 : Int32))) (own_f11 q1 (1 : Int32)))), .second] [(.int (4 : Int32)), (.int p0)])) (fun t kt => ?_) ?_
        · show Steps p.tables e below (T6.setTop (mkF m 50 #[.val (.int p0), .val (.long q1), .second, .val (.long (own_f12 (own_f12 (-3750763034362895579 : Int64) (own_f11 q1 (0 : Int32))) (own_f11 q1 (1 : Int32)))), .second] [(.int (3 : Int32)), (.int p0)])) t
          refine XS.icmpYes X6.here hx rfl (pc0 := 50) (pc' := 63) rfl (hb hby d5_50) rfl (flt hc50_35).2.2.2 (by decide) (by decide) ?_
          show Steps p.tables e below (T6.setTop (mkF m 63 #[.val (.int p0), .val (.long q1), .second, .val (.long (own_f12 (own_f12 (-3750763034362895579 : Int64) (own_f11 q1 (0 : Int32))) (own_f11 q1 (1 : Int32)))), .second] [])) t
          refine XS.iloadN X6.here hx rfl (hb hby d5_63) rfl ?_
          show Steps p.tables e below (T6.setTop (mkF m 64 #[.val (.int p0), .val (.long q1), .second, .val (.long (own_f12 (own_f12 (-3750763034362895579 : Int64) (own_f11 q1 (0 : Int32))) (own_f11 q1 (1 : Int32)))), .second] [(.int p0)])) t
          refine XS.iconst X6.here hx rfl (hb hby d5_64) ?_
          exact kt
        have hc65_36 : ¬ ((4 : Int32) < p0) := fun q => hc35_7 (Int32.lt_trans (by decide) q)
        refine own_by (A' := T6.setTop (mkF m 80 #[.val (.int p0), .val (.long q1), .second, .val (.long (own_f12 (own_f12 (-3750763034362895579 : Int64) (own_f11 q1 (0 : Int32))) (own_f11 q1 (1 : Int32)))), .second] [(.int (5 : Int32)), (.int p0)])) (fun t kt => ?_) ?_
        · show Steps p.tables e below (T6.setTop (mkF m 65 #[.val (.int p0), .val (.long q1), .second, .val (.long (own_f12 (own_f12 (-3750763034362895579 : Int64) (own_f11 q1 (0 : Int32))) (own_f11 q1 (1 : Int32)))), .second] [(.int (4 : Int32)), (.int p0)])) t
          refine XS.icmpYes X6.here hx rfl (pc0 := 65) (pc' := 78) rfl (hb hby d5_65) rfl (flt hc65_36).2.2.2 (by decide) (by decide) ?_
          show Steps p.tables e below (T6.setTop (mkF m 78 #[.val (.int p0), .val (.long q1), .second, .val (.long (own_f12 (own_f12 (-3750763034362895579 : Int64) (own_f11 q1 (0 : Int32))) (own_f11 q1 (1 : Int32)))), .second] [])) t
          refine XS.iloadN X6.here hx rfl (hb hby d5_78) rfl ?_
          show Steps p.tables e below (T6.setTop (mkF m 79 #[.val (.int p0), .val (.long q1), .second, .val (.long (own_f12 (own_f12 (-3750763034362895579 : Int64) (own_f11 q1 (0 : Int32))) (own_f11 q1 (1 : Int32)))), .second] [(.int p0)])) t
          refine XS.iconst X6.here hx rfl (hb hby d5_79) ?_
          exact kt
        have hc80_37 : ¬ ((5 : Int32) < p0) := fun q => hc35_7 (Int32.lt_trans (by decide) q)
        refine own_by (A' := T6.setTop (mkF m 96 #[.val (.int p0), .val (.long q1), .second, .val (.long (own_f12 (own_f12 (-3750763034362895579 : Int64) (own_f11 q1 (0 : Int32))) (own_f11 q1 (1 : Int32)))), .second] [(.int (6 : Int32)), (.int p0)])) (fun t kt => ?_) ?_
        · show Steps p.tables e below (T6.setTop (mkF m 80 #[.val (.int p0), .val (.long q1), .second, .val (.long (own_f12 (own_f12 (-3750763034362895579 : Int64) (own_f11 q1 (0 : Int32))) (own_f11 q1 (1 : Int32)))), .second] [(.int (5 : Int32)), (.int p0)])) t
          refine XS.icmpYes X6.here hx rfl (pc0 := 80) (pc' := 93) rfl (hb hby d5_80) rfl (flt hc80_37).2.2.2 (by decide) (by decide) ?_
          show Steps p.tables e below (T6.setTop (mkF m 93 #[.val (.int p0), .val (.long q1), .second, .val (.long (own_f12 (own_f12 (-3750763034362895579 : Int64) (own_f11 q1 (0 : Int32))) (own_f11 q1 (1 : Int32)))), .second] [])) t
          refine XS.iloadN X6.here hx rfl (hb hby d5_93) rfl ?_
          show Steps p.tables e below (T6.setTop (mkF m 94 #[.val (.int p0), .val (.long q1), .second, .val (.long (own_f12 (own_f12 (-3750763034362895579 : Int64) (own_f11 q1 (0 : Int32))) (own_f11 q1 (1 : Int32)))), .second] [(.int p0)])) t
          refine XS.bipush X6.here hx rfl (hb hby d5_94) ?_
          exact kt
        have hc96_38 : ¬ ((6 : Int32) < p0) := fun q => hc35_7 (Int32.lt_trans (by decide) q)
        refine own_by (A' := T6.setTop (mkF m 113 #[.val (.int p0), .val (.long q1), .second, .val (.long (own_f12 (own_f12 (-3750763034362895579 : Int64) (own_f11 q1 (0 : Int32))) (own_f11 q1 (1 : Int32)))), .second] [(.int (7 : Int32)), (.int p0)])) (fun t kt => ?_) ?_
        · show Steps p.tables e below (T6.setTop (mkF m 96 #[.val (.int p0), .val (.long q1), .second, .val (.long (own_f12 (own_f12 (-3750763034362895579 : Int64) (own_f11 q1 (0 : Int32))) (own_f11 q1 (1 : Int32)))), .second] [(.int (6 : Int32)), (.int p0)])) t
          refine XS.icmpYes X6.here hx rfl (pc0 := 96) (pc' := 110) rfl (hb hby d5_96) rfl (flt hc96_38).2.2.2 (by decide) (by decide) ?_
          show Steps p.tables e below (T6.setTop (mkF m 110 #[.val (.int p0), .val (.long q1), .second, .val (.long (own_f12 (own_f12 (-3750763034362895579 : Int64) (own_f11 q1 (0 : Int32))) (own_f11 q1 (1 : Int32)))), .second] [])) t
          refine XS.iloadN X6.here hx rfl (hb hby d5_110) rfl ?_
          show Steps p.tables e below (T6.setTop (mkF m 111 #[.val (.int p0), .val (.long q1), .second, .val (.long (own_f12 (own_f12 (-3750763034362895579 : Int64) (own_f11 q1 (0 : Int32))) (own_f11 q1 (1 : Int32)))), .second] [(.int p0)])) t
          refine XS.bipush X6.here hx rfl (hb hby d5_111) ?_
          exact kt
        have hc113_39 : ¬ ((7 : Int32) < p0) := fun q => hc35_7 (Int32.lt_trans (by decide) q)
        refine own_by (A' := T6.setTop (mkF m 128 #[.val (.int p0), .val (.long q1), .second, .val (.long (own_f12 (own_f12 (-3750763034362895579 : Int64) (own_f11 q1 (0 : Int32))) (own_f11 q1 (1 : Int32)))), .second] [(.long (own_f12 (own_f12 (-3750763034362895579 : Int64) (own_f11 q1 (0 : Int32))) (own_f11 q1 (1 : Int32))))])) (fun t kt => ?_) ?_
        · show Steps p.tables e below (T6.setTop (mkF m 113 #[.val (.int p0), .val (.long q1), .second, .val (.long (own_f12 (own_f12 (-3750763034362895579 : Int64) (own_f11 q1 (0 : Int32))) (own_f11 q1 (1 : Int32)))), .second] [(.int (7 : Int32)), (.int p0)])) t
          refine XS.icmpYes X6.here hx rfl (pc0 := 113) (pc' := 127) rfl (hb hby d5_113) rfl (flt hc113_39).2.2.2 (by decide) (by decide) ?_
          show Steps p.tables e below (T6.setTop (mkF m 127 #[.val (.int p0), .val (.long q1), .second, .val (.long (own_f12 (own_f12 (-3750763034362895579 : Int64) (own_f11 q1 (0 : Int32))) (own_f11 q1 (1 : Int32)))), .second] [])) t
          refine XS.lloadN X6.here hx rfl (hb hby d5_127) rfl ?_
          exact kt
        obtain ⟨fs, hr, hrun, hended, hW, hsame⟩ := X6.leave (v := some (.long (own_f12 (own_f12 (-3750763034362895579 : Int64) (own_f11 q1 (0 : Int32))) (own_f11 q1 (1 : Int32))))) (fun h => by rw [Bd.returns] at h; cases h)
        refine ⟨_, _, ?_, hrun, hended, _, _, rfl, ?_, ⟨_, rfl⟩, hW, hsame.mono (by decide) (by decide)⟩
        · exact own_retL X6 hx Bd.returns (hb hby d5_128) hr
        · show Q5 Z p0 q1 h0 n0 _ T6.heap _
          rw [e6]
          exact ⟨(by rw [own_f5, if_pos hc5_1, if_pos hc20_4, if_neg hc35_7]), N6, rfl⟩
    · refine own_by (A' := T3.setTop (mkF m 35 #[.val (.int p0), .val (.long q1), .second, .val (.long (own_f12 (-3750763034362895579 : Int64) (own_f11 q1 (0 : Int32)))), .second] [(.int (2 : Int32)), (.int p0)])) (fun t kt => ?_) ?_
      · show Steps p.tables e below (T3.setTop (mkF m 20 #[.val (.int p0), .val (.long q1), .second, .val (.long (own_f12 (-3750763034362895579 : Int64) (own_f11 q1 (0 : Int32)))), .second] [(.int (1 : Int32)), (.int p0)])) t
        refine XS.icmpYes X3.here hx rfl (pc0 := 20) (pc' := 33) rfl (hb hby d5_20) rfl (flt hc20_4).2.2.2 (by decide) (by decide) ?_
        show Steps p.tables e below (T3.setTop (mkF m 33 #[.val (.int p0), .val (.long q1), .second, .val (.long (own_f12 (-3750763034362895579 : Int64) (own_f11 q1 (0 : Int32)))), .second] [])) t
        refine XS.iloadN X3.here hx rfl (hb hby d5_33) rfl ?_
        show Steps p.tables e below (T3.setTop (mkF m 34 #[.val (.int p0), .val (.long q1), .second, .val (.long (own_f12 (-3750763034362895579 : Int64) (own_f11 q1 (0 : Int32)))), .second] [(.int p0)])) t
        refine XS.iconst X3.here hx rfl (hb hby d5_34) ?_
        exact kt
      have hc35_40 : ¬ ((2 : Int32) < p0) := fun q => hc20_4 (Int32.lt_trans (by decide) q)
      refine own_by (A' := T3.setTop (mkF m 50 #[.val (.int p0), .val (.long q1), .second, .val (.long (own_f12 (-3750763034362895579 : Int64) (own_f11 q1 (0 : Int32)))), .second] [(.int (3 : Int32)), (.int p0)])) (fun t kt => ?_) ?_
      · show Steps p.tables e below (T3.setTop (mkF m 35 #[.val (.int p0), .val (.long q1), .second, .val (.long (own_f12 (-3750763034362895579 : Int64) (own_f11 q1 (0 : Int32)))), .second] [(.int (2 : Int32)), (.int p0)])) t
        refine XS.icmpYes X3.here hx rfl (pc0 := 35) (pc' := 48) rfl (hb hby d5_35) rfl (flt hc35_40).2.2.2 (by decide) (by decide) ?_
        show Steps p.tables e below (T3.setTop (mkF m 48 #[.val (.int p0), .val (.long q1), .second, .val (.long (own_f12 (-3750763034362895579 : Int64) (own_f11 q1 (0 : Int32)))), .second] [])) t
        refine XS.iloadN X3.here hx rfl (hb hby d5_48) rfl ?_
        show Steps p.tables e below (T3.setTop (mkF m 49 #[.val (.int p0), .val (.long q1), .second, .val (.long (own_f12 (-3750763034362895579 : Int64) (own_f11 q1 (0 : Int32)))), .second] [(.int p0)])) t
        refine XS.iconst X3.here hx rfl (hb hby d5_49) ?_
        exact kt
      have hc50_41 : ¬ ((3 : Int32) < p0) := fun q => hc20_4 (Int32.lt_trans (by decide) q)
      refine own_by (A' := T3.setTop (mkF m 65 #[.val (.int p0), .val (.long q1), .second, .val (.long (own_f12 (-3750763034362895579 : Int64) (own_f11 q1 (0 : Int32)))), .second] [(.int (4 : Int32)), (.int p0)])) (fun t kt => ?_) ?_
      · show Steps p.tables e below (T3.setTop (mkF m 50 #[.val (.int p0), .val (.long q1), .second, .val (.long (own_f12 (-3750763034362895579 : Int64) (own_f11 q1 (0 : Int32)))), .second] [(.int (3 : Int32)), (.int p0)])) t
        refine XS.icmpYes X3.here hx rfl (pc0 := 50) (pc' := 63) rfl (hb hby d5_50) rfl (flt hc50_41).2.2.2 (by decide) (by decide) ?_
        show Steps p.tables e below (T3.setTop (mkF m 63 #[.val (.int p0), .val (.long q1), .second, .val (.long (own_f12 (-3750763034362895579 : Int64) (own_f11 q1 (0 : Int32)))), .second] [])) t
        refine XS.iloadN X3.here hx rfl (hb hby d5_63) rfl ?_
        show Steps p.tables e below (T3.setTop (mkF m 64 #[.val (.int p0), .val (.long q1), .second, .val (.long (own_f12 (-3750763034362895579 : Int64) (own_f11 q1 (0 : Int32)))), .second] [(.int p0)])) t
        refine XS.iconst X3.here hx rfl (hb hby d5_64) ?_
        exact kt
      have hc65_42 : ¬ ((4 : Int32) < p0) := fun q => hc20_4 (Int32.lt_trans (by decide) q)
      refine own_by (A' := T3.setTop (mkF m 80 #[.val (.int p0), .val (.long q1), .second, .val (.long (own_f12 (-3750763034362895579 : Int64) (own_f11 q1 (0 : Int32)))), .second] [(.int (5 : Int32)), (.int p0)])) (fun t kt => ?_) ?_
      · show Steps p.tables e below (T3.setTop (mkF m 65 #[.val (.int p0), .val (.long q1), .second, .val (.long (own_f12 (-3750763034362895579 : Int64) (own_f11 q1 (0 : Int32)))), .second] [(.int (4 : Int32)), (.int p0)])) t
        refine XS.icmpYes X3.here hx rfl (pc0 := 65) (pc' := 78) rfl (hb hby d5_65) rfl (flt hc65_42).2.2.2 (by decide) (by decide) ?_
        show Steps p.tables e below (T3.setTop (mkF m 78 #[.val (.int p0), .val (.long q1), .second, .val (.long (own_f12 (-3750763034362895579 : Int64) (own_f11 q1 (0 : Int32)))), .second] [])) t
        refine XS.iloadN X3.here hx rfl (hb hby d5_78) rfl ?_
        show Steps p.tables e below (T3.setTop (mkF m 79 #[.val (.int p0), .val (.long q1), .second, .val (.long (own_f12 (-3750763034362895579 : Int64) (own_f11 q1 (0 : Int32)))), .second] [(.int p0)])) t
        refine XS.iconst X3.here hx rfl (hb hby d5_79) ?_
        exact kt
      have hc80_43 : ¬ ((5 : Int32) < p0) := fun q => hc20_4 (Int32.lt_trans (by decide) q)
      refine own_by (A' := T3.setTop (mkF m 96 #[.val (.int p0), .val (.long q1), .second, .val (.long (own_f12 (-3750763034362895579 : Int64) (own_f11 q1 (0 : Int32)))), .second] [(.int (6 : Int32)), (.int p0)])) (fun t kt => ?_) ?_
      · show Steps p.tables e below (T3.setTop (mkF m 80 #[.val (.int p0), .val (.long q1), .second, .val (.long (own_f12 (-3750763034362895579 : Int64) (own_f11 q1 (0 : Int32)))), .second] [(.int (5 : Int32)), (.int p0)])) t
        refine XS.icmpYes X3.here hx rfl (pc0 := 80) (pc' := 93) rfl (hb hby d5_80) rfl (flt hc80_43).2.2.2 (by decide) (by decide) ?_
        show Steps p.tables e below (T3.setTop (mkF m 93 #[.val (.int p0), .val (.long q1), .second, .val (.long (own_f12 (-3750763034362895579 : Int64) (own_f11 q1 (0 : Int32)))), .second] [])) t
        refine XS.iloadN X3.here hx rfl (hb hby d5_93) rfl ?_
        show Steps p.tables e below (T3.setTop (mkF m 94 #[.val (.int p0), .val (.long q1), .second, .val (.long (own_f12 (-3750763034362895579 : Int64) (own_f11 q1 (0 : Int32)))), .second] [(.int p0)])) t
        refine XS.bipush X3.here hx rfl (hb hby d5_94) ?_
        exact kt
      have hc96_44 : ¬ ((6 : Int32) < p0) := fun q => hc20_4 (Int32.lt_trans (by decide) q)
      refine own_by (A' := T3.setTop (mkF m 113 #[.val (.int p0), .val (.long q1), .second, .val (.long (own_f12 (-3750763034362895579 : Int64) (own_f11 q1 (0 : Int32)))), .second] [(.int (7 : Int32)), (.int p0)])) (fun t kt => ?_) ?_
      · show Steps p.tables e below (T3.setTop (mkF m 96 #[.val (.int p0), .val (.long q1), .second, .val (.long (own_f12 (-3750763034362895579 : Int64) (own_f11 q1 (0 : Int32)))), .second] [(.int (6 : Int32)), (.int p0)])) t
        refine XS.icmpYes X3.here hx rfl (pc0 := 96) (pc' := 110) rfl (hb hby d5_96) rfl (flt hc96_44).2.2.2 (by decide) (by decide) ?_
        show Steps p.tables e below (T3.setTop (mkF m 110 #[.val (.int p0), .val (.long q1), .second, .val (.long (own_f12 (-3750763034362895579 : Int64) (own_f11 q1 (0 : Int32)))), .second] [])) t
        refine XS.iloadN X3.here hx rfl (hb hby d5_110) rfl ?_
        show Steps p.tables e below (T3.setTop (mkF m 111 #[.val (.int p0), .val (.long q1), .second, .val (.long (own_f12 (-3750763034362895579 : Int64) (own_f11 q1 (0 : Int32)))), .second] [(.int p0)])) t
        refine XS.bipush X3.here hx rfl (hb hby d5_111) ?_
        exact kt
      have hc113_45 : ¬ ((7 : Int32) < p0) := fun q => hc20_4 (Int32.lt_trans (by decide) q)
      refine own_by (A' := T3.setTop (mkF m 128 #[.val (.int p0), .val (.long q1), .second, .val (.long (own_f12 (-3750763034362895579 : Int64) (own_f11 q1 (0 : Int32)))), .second] [(.long (own_f12 (-3750763034362895579 : Int64) (own_f11 q1 (0 : Int32))))])) (fun t kt => ?_) ?_
      · show Steps p.tables e below (T3.setTop (mkF m 113 #[.val (.int p0), .val (.long q1), .second, .val (.long (own_f12 (-3750763034362895579 : Int64) (own_f11 q1 (0 : Int32)))), .second] [(.int (7 : Int32)), (.int p0)])) t
        refine XS.icmpYes X3.here hx rfl (pc0 := 113) (pc' := 127) rfl (hb hby d5_113) rfl (flt hc113_45).2.2.2 (by decide) (by decide) ?_
        show Steps p.tables e below (T3.setTop (mkF m 127 #[.val (.int p0), .val (.long q1), .second, .val (.long (own_f12 (-3750763034362895579 : Int64) (own_f11 q1 (0 : Int32)))), .second] [])) t
        refine XS.lloadN X3.here hx rfl (hb hby d5_127) rfl ?_
        exact kt
      obtain ⟨fs, hr, hrun, hended, hW, hsame⟩ := X3.leave (v := some (.long (own_f12 (-3750763034362895579 : Int64) (own_f11 q1 (0 : Int32))))) (fun h => by rw [Bd.returns] at h; cases h)
      refine ⟨_, _, ?_, hrun, hended, _, _, rfl, ?_, ⟨_, rfl⟩, hW, hsame.mono (by decide) (by decide)⟩
      · exact own_retL X3 hx Bd.returns (hb hby d5_128) hr
      · show Q5 Z p0 q1 h0 n0 _ T3.heap _
        rw [e3]
        exact ⟨(by rw [own_f5, if_pos hc5_1, if_neg hc20_4]), N3, rfl⟩
  · refine own_by (A' := s₁.setTop (mkF m 20 #[.val (.int p0), .val (.long q1), .second, .val (.long (-3750763034362895579 : Int64)), .second] [(.int (1 : Int32)), (.int p0)])) (fun t kt => ?_) ?_
    · show Steps p.tables e below (s₁.setTop (mkF m 5 #[.val (.int p0), .val (.long q1), .second, .val (.long (-3750763034362895579 : Int64)), .second] [(.int p0)])) t
      refine XS.ifYes X0.here hx rfl (pc0 := 5) (pc' := 18) rfl (hb hby d5_5) rfl ((if0 _ _).trans (flt hc5_1).2.2.2) (by decide) (by decide) ?_
      show Steps p.tables e below (s₁.setTop (mkF m 18 #[.val (.int p0), .val (.long q1), .second, .val (.long (-3750763034362895579 : Int64)), .second] [])) t
      refine XS.iloadN X0.here hx rfl (hb hby d5_18) rfl ?_
      show Steps p.tables e below (s₁.setTop (mkF m 19 #[.val (.int p0), .val (.long q1), .second, .val (.long (-3750763034362895579 : Int64)), .second] [(.int p0)])) t
      refine XS.iconst X0.here hx rfl (hb hby d5_19) ?_
      exact kt
    have hc20_46 : ¬ ((1 : Int32) < p0) := fun q => hc5_1 (Int32.lt_trans (by decide) q)
    refine own_by (A' := s₁.setTop (mkF m 35 #[.val (.int p0), .val (.long q1), .second, .val (.long (-3750763034362895579 : Int64)), .second] [(.int (2 : Int32)), (.int p0)])) (fun t kt => ?_) ?_
    · show Steps p.tables e below (s₁.setTop (mkF m 20 #[.val (.int p0), .val (.long q1), .second, .val (.long (-3750763034362895579 : Int64)), .second] [(.int (1 : Int32)), (.int p0)])) t
      refine XS.icmpYes X0.here hx rfl (pc0 := 20) (pc' := 33) rfl (hb hby d5_20) rfl (flt hc20_46).2.2.2 (by decide) (by decide) ?_
      show Steps p.tables e below (s₁.setTop (mkF m 33 #[.val (.int p0), .val (.long q1), .second, .val (.long (-3750763034362895579 : Int64)), .second] [])) t
      refine XS.iloadN X0.here hx rfl (hb hby d5_33) rfl ?_
      show Steps p.tables e below (s₁.setTop (mkF m 34 #[.val (.int p0), .val (.long q1), .second, .val (.long (-3750763034362895579 : Int64)), .second] [(.int p0)])) t
      refine XS.iconst X0.here hx rfl (hb hby d5_34) ?_
      exact kt
    have hc35_47 : ¬ ((2 : Int32) < p0) := fun q => hc5_1 (Int32.lt_trans (by decide) q)
    refine own_by (A' := s₁.setTop (mkF m 50 #[.val (.int p0), .val (.long q1), .second, .val (.long (-3750763034362895579 : Int64)), .second] [(.int (3 : Int32)), (.int p0)])) (fun t kt => ?_) ?_
    · show Steps p.tables e below (s₁.setTop (mkF m 35 #[.val (.int p0), .val (.long q1), .second, .val (.long (-3750763034362895579 : Int64)), .second] [(.int (2 : Int32)), (.int p0)])) t
      refine XS.icmpYes X0.here hx rfl (pc0 := 35) (pc' := 48) rfl (hb hby d5_35) rfl (flt hc35_47).2.2.2 (by decide) (by decide) ?_
      show Steps p.tables e below (s₁.setTop (mkF m 48 #[.val (.int p0), .val (.long q1), .second, .val (.long (-3750763034362895579 : Int64)), .second] [])) t
      refine XS.iloadN X0.here hx rfl (hb hby d5_48) rfl ?_
      show Steps p.tables e below (s₁.setTop (mkF m 49 #[.val (.int p0), .val (.long q1), .second, .val (.long (-3750763034362895579 : Int64)), .second] [(.int p0)])) t
      refine XS.iconst X0.here hx rfl (hb hby d5_49) ?_
      exact kt
    have hc50_48 : ¬ ((3 : Int32) < p0) := fun q => hc5_1 (Int32.lt_trans (by decide) q)
    refine own_by (A' := s₁.setTop (mkF m 65 #[.val (.int p0), .val (.long q1), .second, .val (.long (-3750763034362895579 : Int64)), .second] [(.int (4 : Int32)), (.int p0)])) (fun t kt => ?_) ?_
    · show Steps p.tables e below (s₁.setTop (mkF m 50 #[.val (.int p0), .val (.long q1), .second, .val (.long (-3750763034362895579 : Int64)), .second] [(.int (3 : Int32)), (.int p0)])) t
      refine XS.icmpYes X0.here hx rfl (pc0 := 50) (pc' := 63) rfl (hb hby d5_50) rfl (flt hc50_48).2.2.2 (by decide) (by decide) ?_
      show Steps p.tables e below (s₁.setTop (mkF m 63 #[.val (.int p0), .val (.long q1), .second, .val (.long (-3750763034362895579 : Int64)), .second] [])) t
      refine XS.iloadN X0.here hx rfl (hb hby d5_63) rfl ?_
      show Steps p.tables e below (s₁.setTop (mkF m 64 #[.val (.int p0), .val (.long q1), .second, .val (.long (-3750763034362895579 : Int64)), .second] [(.int p0)])) t
      refine XS.iconst X0.here hx rfl (hb hby d5_64) ?_
      exact kt
    have hc65_49 : ¬ ((4 : Int32) < p0) := fun q => hc5_1 (Int32.lt_trans (by decide) q)
    refine own_by (A' := s₁.setTop (mkF m 80 #[.val (.int p0), .val (.long q1), .second, .val (.long (-3750763034362895579 : Int64)), .second] [(.int (5 : Int32)), (.int p0)])) (fun t kt => ?_) ?_
    · show Steps p.tables e below (s₁.setTop (mkF m 65 #[.val (.int p0), .val (.long q1), .second, .val (.long (-3750763034362895579 : Int64)), .second] [(.int (4 : Int32)), (.int p0)])) t
      refine XS.icmpYes X0.here hx rfl (pc0 := 65) (pc' := 78) rfl (hb hby d5_65) rfl (flt hc65_49).2.2.2 (by decide) (by decide) ?_
      show Steps p.tables e below (s₁.setTop (mkF m 78 #[.val (.int p0), .val (.long q1), .second, .val (.long (-3750763034362895579 : Int64)), .second] [])) t
      refine XS.iloadN X0.here hx rfl (hb hby d5_78) rfl ?_
      show Steps p.tables e below (s₁.setTop (mkF m 79 #[.val (.int p0), .val (.long q1), .second, .val (.long (-3750763034362895579 : Int64)), .second] [(.int p0)])) t
      refine XS.iconst X0.here hx rfl (hb hby d5_79) ?_
      exact kt
    have hc80_50 : ¬ ((5 : Int32) < p0) := fun q => hc5_1 (Int32.lt_trans (by decide) q)
    refine own_by (A' := s₁.setTop (mkF m 96 #[.val (.int p0), .val (.long q1), .second, .val (.long (-3750763034362895579 : Int64)), .second] [(.int (6 : Int32)), (.int p0)])) (fun t kt => ?_) ?_
    · show Steps p.tables e below (s₁.setTop (mkF m 80 #[.val (.int p0), .val (.long q1), .second, .val (.long (-3750763034362895579 : Int64)), .second] [(.int (5 : Int32)), (.int p0)])) t
      refine XS.icmpYes X0.here hx rfl (pc0 := 80) (pc' := 93) rfl (hb hby d5_80) rfl (flt hc80_50).2.2.2 (by decide) (by decide) ?_
      show Steps p.tables e below (s₁.setTop (mkF m 93 #[.val (.int p0), .val (.long q1), .second, .val (.long (-3750763034362895579 : Int64)), .second] [])) t
      refine XS.iloadN X0.here hx rfl (hb hby d5_93) rfl ?_
      show Steps p.tables e below (s₁.setTop (mkF m 94 #[.val (.int p0), .val (.long q1), .second, .val (.long (-3750763034362895579 : Int64)), .second] [(.int p0)])) t
      refine XS.bipush X0.here hx rfl (hb hby d5_94) ?_
      exact kt
    have hc96_51 : ¬ ((6 : Int32) < p0) := fun q => hc5_1 (Int32.lt_trans (by decide) q)
    refine own_by (A' := s₁.setTop (mkF m 113 #[.val (.int p0), .val (.long q1), .second, .val (.long (-3750763034362895579 : Int64)), .second] [(.int (7 : Int32)), (.int p0)])) (fun t kt => ?_) ?_
    · show Steps p.tables e below (s₁.setTop (mkF m 96 #[.val (.int p0), .val (.long q1), .second, .val (.long (-3750763034362895579 : Int64)), .second] [(.int (6 : Int32)), (.int p0)])) t
      refine XS.icmpYes X0.here hx rfl (pc0 := 96) (pc' := 110) rfl (hb hby d5_96) rfl (flt hc96_51).2.2.2 (by decide) (by decide) ?_
      show Steps p.tables e below (s₁.setTop (mkF m 110 #[.val (.int p0), .val (.long q1), .second, .val (.long (-3750763034362895579 : Int64)), .second] [])) t
      refine XS.iloadN X0.here hx rfl (hb hby d5_110) rfl ?_
      show Steps p.tables e below (s₁.setTop (mkF m 111 #[.val (.int p0), .val (.long q1), .second, .val (.long (-3750763034362895579 : Int64)), .second] [(.int p0)])) t
      refine XS.bipush X0.here hx rfl (hb hby d5_111) ?_
      exact kt
    have hc113_52 : ¬ ((7 : Int32) < p0) := fun q => hc5_1 (Int32.lt_trans (by decide) q)
    refine own_by (A' := s₁.setTop (mkF m 128 #[.val (.int p0), .val (.long q1), .second, .val (.long (-3750763034362895579 : Int64)), .second] [(.long (-3750763034362895579 : Int64))])) (fun t kt => ?_) ?_
    · show Steps p.tables e below (s₁.setTop (mkF m 113 #[.val (.int p0), .val (.long q1), .second, .val (.long (-3750763034362895579 : Int64)), .second] [(.int (7 : Int32)), (.int p0)])) t
      refine XS.icmpYes X0.here hx rfl (pc0 := 113) (pc' := 127) rfl (hb hby d5_113) rfl (flt hc113_52).2.2.2 (by decide) (by decide) ?_
      show Steps p.tables e below (s₁.setTop (mkF m 127 #[.val (.int p0), .val (.long q1), .second, .val (.long (-3750763034362895579 : Int64)), .second] [])) t
      refine XS.lloadN X0.here hx rfl (hb hby d5_127) rfl ?_
      exact kt
    obtain ⟨fs, hr, hrun, hended, hW, hsame⟩ := X0.leave (v := some (.long (-3750763034362895579 : Int64))) (fun h => by rw [Bd.returns] at h; cases h)
    refine ⟨_, _, ?_, hrun, hended, _, _, rfl, ?_, ⟨_, rfl⟩, hW, hsame.mono (by decide) (by decide)⟩
    · exact own_retL X0 hx Bd.returns (hb hby d5_128) hr
    · show Q5 Z p0 q1 h0 n0 _ s₁.heap _
      rw [e0]
      exact ⟨(by rw [own_f5, if_neg hc5_1]), N0, rfl⟩
theorem pn_4 : plainName "com/example/honeyguide/honeyguide/index/Runs$Key" = true := by first | (simp [plainName, overriddenIn]; done) | decide +kernel
theorem pd_5 : parseMethodDescriptor "()V" = some ⟨[], none⟩ := by decide +kernel
theorem d2_0 : decode prog_28_method_1_code 0 = .ok (.aload_n 0, 1) := by decide +kernel
theorem d2_1 : decode prog_28_method_1_code 1 = .ok (.invokespecial 1, 3) := by decide +kernel
theorem d2_4 : decode prog_28_method_1_code 4 = .ok (.aload_n 0, 1) := by decide +kernel
theorem d2_5 : decode prog_28_method_1_code 5 = .ok (.aload_n 1, 1) := by decide +kernel
theorem d2_6 : decode prog_28_method_1_code 6 = .ok (.putfield 7, 3) := by decide +kernel
theorem d2_9 : decode prog_28_method_1_code 9 = .ok (.return_, 1) := by decide +kernel
theorem ef_rm2 (m : MethodId) (a0 : Addr) (a1 : Addr) : entryFrame m #[(.ref a0), (.ref a1)] 2 = mkF m 0 #[.val (.ref a0), .val (.ref a1)] [] := by first | (simp [entryFrame, mkF, argsToLocals, Value.category]; done) | rfl
def Q2 (Z : State) (a0 : Addr) (a1 : Addr) (h0 : Heap) (n0 : Nat) (v : Option Value) (h : Heap) (L : List Loc) : Prop := v = none ∧ Fr n0 L ∧ Keep h0 h [a0] ∧ Exa Z h a0 "com/example/honeyguide/honeyguide/index/Runs$Key" ∧ Fld Z h a0 "com/example/honeyguide/honeyguide/index/Runs$Key" "bytes" "[B" (.ref a1)
set_option maxRecDepth 65536 in
set_option maxHeartbeats 40000000 in
theorem rm2 (l : Launch) (Z : State) (aw : Array Value) (hw : ∀ d ∈ tables_1, d.before aw Z = true) (ws : List Jvm.Cond) (a0 : Addr) (a1 : Addr) (h0 : Heap) (n0 : Nat) (Z0 : n0 ≤ h0.size) (E_a0 : Exa Z h0 a0 "com/example/honeyguide/honeyguide/index/Runs$Key") (F_a0 : Fld Z h0 a0 "com/example/honeyguide/honeyguide/index/Runs$Key" "bytes" "[B" .null) (g_a0 : n0 ≤ a0) :
    MetFree l (⟨"com/example/honeyguide/honeyguide/index/Runs$Key", "<init>", "([B)V"⟩ : MethodName) (head1 (Jvm.Cond.code (⟨"com/example/honeyguide/honeyguide/index/Runs$Key", "<init>", "([B)V"⟩ : MethodName) prog_28_method_1_code 2 none :: ws) ({ frames := 2, cells := 0, slots := 0, locals := 24 } : Room)) (fun a U => a = #[(.ref a0), (.ref a1)] ∧ Z.Warmed39 U.vm ∧ U.heap = h0) (fun _ _ _ _ _ => True) (fun _ U o U' => ∃ v L, o = .returned v ∧ Q2 Z a0 a1 h0 n0 v U'.heap L ∧ FrameEnd U o U' L ({ frames := 2, cells := 0, slots := 0, locals := 24 } : Room).cells ({ frames := 2, cells := 0, slots := 0, locals := 24 } : Room).slots) := by
  refine MetFree.of_bodySF (plainFor_of_name pn_4) hisR ?_
  intro p e s m args below meth c s₁ Bd hml0 hP hK
  obtain ⟨rfl, hZ, hh⟩ := hP
  have hx := Bd.exec
  have hby := Bd.bytes
  have hml : c.maxLocals = 2 := hml0
  have hown : s.vm.findClass "com/example/honeyguide/honeyguide/index/Runs$Key" = some m.cls := findClass_of_methodNamed Bd.named
  have hnm := (name_of_methodNamed Bd.named Bd.method).1
  have X0 : Stand p l e ({ frames := 2, cells := 0, slots := 0, locals := 24 } : Room) s m #[(.ref a0), (.ref a1)] below meth c s₁ [] 0 0 := Stand.of_body Bd
  have e0 : s₁.heap = h0 := by rw [← hh, Bd.state]; rfl
  have N0 := Fr.nil n0
  have K0 : Keep h0 h0 [a0] := Keep.refl _ _
  refine own_by (A' := s₁.setTop (mkF m 0 #[.val (.ref a0), .val (.ref a1)] [])) (fun t k => castTop (ef_rm2 m a0 a1) k) ?_
  refine own_by (A' := s₁.setTop (mkF m 1 #[.val (.ref a0), .val (.ref a1)] [(.ref a0)])) (fun t kt => ?_) ?_
  · show Steps p.tables e below (s₁.setTop (mkF m 0 #[.val (.ref a0), .val (.ref a1)] [])) t
    refine XS.aloadN X0.here hx rfl (hb hby d2_0) rfl rfl ?_
    exact kt
  obtain ⟨_, _, ⟨T1, L1, k1, n1⟩, -, X1, ⟨Lc1, hQ1, l1, y1, z1⟩, st1⟩ := X0.specialBack hx (y := (⟨"java/lang/Record", "<init>", "()V"⟩ : MethodName)) rfl hown (mvT hZ (hw _ (List.mem_of_getElem? (i := 11) rfl))) (mvT hZ (hw _ (List.mem_of_getElem? (i := 12) rfl))) (mvT hZ (hw _ (List.mem_of_getElem? (i := 15) rfl))) (by decide) (backOf (W := 0) (rm3 l Z aw hw [] a0 h0 n0 (Nat.le_trans Z0 K0.1) ) hZ (hw _ (List.mem_of_getElem? (i := 15) rfl)) (hw _ (List.mem_of_getElem? (i := 14) rfl)) (by decide) (by decide)) (g := (mkF m 1 #[.val (.ref a0), .val (.ref a1)] [(.ref a0)])) rfl (by rw [hml]; rfl) (Steps.refl _) (a := a0) (argsL := []) (rest := []) (lenOf pd_5 rfl) rfl (by show 2 * 0 + _ ≤ _; exact Nat.le_of_eq rfl) (hb hby d2_1) (fun _ _ => ⟨rfl, e0, (by decide : 0 + 0 ≤ _), (by decide : 0 + 0 ≤ _)⟩)
  dsimp only [Pt.U, Pt.locs, Pt.cells, Pt.slots] at X1 l1 y1 z1 st1 hQ1
  subst l1 y1 z1
  obtain ⟨rfl, N1q, e1⟩ := hQ1
  have N1 := Fr.app N0 N1q
  refine own_by (A' := T1.setTop (mkF m 4 #[.val (.ref a0), .val (.ref a1)] [])) (fun t kt => st1.trans kt) ?_
  refine own_by (A' := T1.setTop (mkF m 6 #[.val (.ref a0), .val (.ref a1)] [(.ref a1), (.ref a0)])) (fun t kt => ?_) ?_
  · show Steps p.tables e below (T1.setTop (mkF m 4 #[.val (.ref a0), .val (.ref a1)] [])) t
    refine XS.aloadN X1.here hx rfl (hb hby d2_4) rfl rfl ?_
    show Steps p.tables e below (T1.setTop (mkF m 5 #[.val (.ref a0), .val (.ref a1)] [(.ref a0)])) t
    refine XS.aloadN X1.here hx rfl (hb hby d2_5) rfl rfl ?_
    exact kt
  obtain ⟨T2, h2, X2, e2, W2, st2⟩ := putF X1 hx hZ hown (host := "") (Or.inl (hw _ (List.mem_of_getElem? (i := 19) rfl))) Via.refl e1 F_a0 E_a0 (Or.inr ⟨(hw _ (List.mem_of_getElem? (i := 20) rfl)), rfl, hnm⟩) (hw _ (List.mem_of_getElem? (i := 6) rfl)) (ty := (.array .byte)) (by decide) rfl rfl (g := (mkF m 6 #[.val (.ref a0), .val (.ref a1)] [(.ref a1), (.ref a0)])) rfl rfl (hb hby d2_6)
  have F2 := Fld.same W2 F_a0
  have N2 := Fr.snoc X2 N1 g_a0
  have K2 : Keep h0 h2 [a0] := K0.wr W2 (Or.inl (List.mem_of_getElem? (i := 0) rfl))
  refine own_by (A' := T2.setTop (mkF m 9 #[.val (.ref a0), .val (.ref a1)] [])) (fun t kt => st2 t kt) ?_
  obtain ⟨fs, hr, hrun, hended, hW, hsame⟩ := X2.leave (v := none) (fun _ => rfl)
  refine ⟨_, _, ?_, hrun, hended, _, _, rfl, ?_, ⟨_, rfl⟩, hW, hsame.mono (by decide) (by decide)⟩
  · exact X2.returnOut hx Bd.returns (hb hby d2_9) hr
  · show Q2 Z a0 a1 h0 n0 _ T2.heap _
    rw [e2]
    exact ⟨rfl, N2, K2, (E_a0.wr W2), F2⟩
def own_g (b : Int64) (i : Nat) : Int32 := nar .byte (own_f10 b (Int32.ofNat i))
theorem own_lt {n k : Int32} (h : ¬ k < n) : n.toNatClampNeg ≤ k.toNatClampNeg := by
  rw [Int32.lt_iff_toInt_lt] at h; simp only [Int32.toNatClampNeg]; omega
theorem pd_6 : parseMethodDescriptor "(JI)B" = some ⟨[.long, .int], some .byte⟩ := by decide +kernel
theorem d1_0 : decode method_4_code 0 = .ok (.iload_n 0, 1) := by decide +kernel
theorem d1_1 : decode method_4_code 1 = .ok (.newarray .byte, 2) := by decide +kernel
theorem d1_3 : decode method_4_code 3 = .ok (.astore_n 3, 1) := by decide +kernel
theorem d1_4 : decode method_4_code 4 = .ok (.iload_n 0, 1) := by decide +kernel
theorem d1_5 : decode method_4_code 5 = .ok (.ifCond .le 11, 3) := by decide +kernel
theorem d1_8 : decode method_4_code 8 = .ok (.aload_n 3, 1) := by decide +kernel
theorem d1_9 : decode method_4_code 9 = .ok (.iconst 0, 1) := by decide +kernel
theorem d1_10 : decode method_4_code 10 = .ok (.lload_n 1, 1) := by decide +kernel
theorem d1_11 : decode method_4_code 11 = .ok (.iconst 0, 1) := by decide +kernel
theorem d1_12 : decode method_4_code 12 = .ok (.invokestatic 34, 3) := by decide +kernel
theorem d1_15 : decode method_4_code 15 = .ok (.bastore, 1) := by decide +kernel
theorem d1_16 : decode method_4_code 16 = .ok (.iload_n 0, 1) := by decide +kernel
theorem d1_17 : decode method_4_code 17 = .ok (.iconst 1, 1) := by decide +kernel
theorem d1_18 : decode method_4_code 18 = .ok (.if_icmp .le 11, 3) := by decide +kernel
theorem d1_21 : decode method_4_code 21 = .ok (.aload_n 3, 1) := by decide +kernel
theorem d1_22 : decode method_4_code 22 = .ok (.iconst 1, 1) := by decide +kernel
theorem d1_23 : decode method_4_code 23 = .ok (.lload_n 1, 1) := by decide +kernel
theorem d1_24 : decode method_4_code 24 = .ok (.iconst 1, 1) := by decide +kernel
theorem d1_25 : decode method_4_code 25 = .ok (.invokestatic 34, 3) := by decide +kernel
theorem d1_28 : decode method_4_code 28 = .ok (.bastore, 1) := by decide +kernel
theorem d1_29 : decode method_4_code 29 = .ok (.iload_n 0, 1) := by decide +kernel
theorem d1_30 : decode method_4_code 30 = .ok (.iconst 2, 1) := by decide +kernel
theorem d1_31 : decode method_4_code 31 = .ok (.if_icmp .le 11, 3) := by decide +kernel
theorem d1_34 : decode method_4_code 34 = .ok (.aload_n 3, 1) := by decide +kernel
theorem d1_35 : decode method_4_code 35 = .ok (.iconst 2, 1) := by decide +kernel
theorem d1_36 : decode method_4_code 36 = .ok (.lload_n 1, 1) := by decide +kernel
theorem d1_37 : decode method_4_code 37 = .ok (.iconst 2, 1) := by decide +kernel
theorem d1_38 : decode method_4_code 38 = .ok (.invokestatic 34, 3) := by decide +kernel
theorem d1_41 : decode method_4_code 41 = .ok (.bastore, 1) := by decide +kernel
theorem d1_42 : decode method_4_code 42 = .ok (.iload_n 0, 1) := by decide +kernel
theorem d1_43 : decode method_4_code 43 = .ok (.iconst 3, 1) := by decide +kernel
theorem d1_44 : decode method_4_code 44 = .ok (.if_icmp .le 11, 3) := by decide +kernel
theorem d1_47 : decode method_4_code 47 = .ok (.aload_n 3, 1) := by decide +kernel
theorem d1_48 : decode method_4_code 48 = .ok (.iconst 3, 1) := by decide +kernel
theorem d1_49 : decode method_4_code 49 = .ok (.lload_n 1, 1) := by decide +kernel
theorem d1_50 : decode method_4_code 50 = .ok (.iconst 3, 1) := by decide +kernel
theorem d1_51 : decode method_4_code 51 = .ok (.invokestatic 34, 3) := by decide +kernel
theorem d1_54 : decode method_4_code 54 = .ok (.bastore, 1) := by decide +kernel
theorem d1_55 : decode method_4_code 55 = .ok (.iload_n 0, 1) := by decide +kernel
theorem d1_56 : decode method_4_code 56 = .ok (.iconst 4, 1) := by decide +kernel
theorem d1_57 : decode method_4_code 57 = .ok (.if_icmp .le 11, 3) := by decide +kernel
theorem d1_60 : decode method_4_code 60 = .ok (.aload_n 3, 1) := by decide +kernel
theorem d1_61 : decode method_4_code 61 = .ok (.iconst 4, 1) := by decide +kernel
theorem d1_62 : decode method_4_code 62 = .ok (.lload_n 1, 1) := by decide +kernel
theorem d1_63 : decode method_4_code 63 = .ok (.iconst 4, 1) := by decide +kernel
theorem d1_64 : decode method_4_code 64 = .ok (.invokestatic 34, 3) := by decide +kernel
theorem d1_67 : decode method_4_code 67 = .ok (.bastore, 1) := by decide +kernel
theorem d1_68 : decode method_4_code 68 = .ok (.iload_n 0, 1) := by decide +kernel
theorem d1_69 : decode method_4_code 69 = .ok (.iconst 5, 1) := by decide +kernel
theorem d1_70 : decode method_4_code 70 = .ok (.if_icmp .le 11, 3) := by decide +kernel
theorem d1_73 : decode method_4_code 73 = .ok (.aload_n 3, 1) := by decide +kernel
theorem d1_74 : decode method_4_code 74 = .ok (.iconst 5, 1) := by decide +kernel
theorem d1_75 : decode method_4_code 75 = .ok (.lload_n 1, 1) := by decide +kernel
theorem d1_76 : decode method_4_code 76 = .ok (.iconst 5, 1) := by decide +kernel
theorem d1_77 : decode method_4_code 77 = .ok (.invokestatic 34, 3) := by decide +kernel
theorem d1_80 : decode method_4_code 80 = .ok (.bastore, 1) := by decide +kernel
theorem d1_81 : decode method_4_code 81 = .ok (.iload_n 0, 1) := by decide +kernel
theorem d1_82 : decode method_4_code 82 = .ok (.bipush 6, 2) := by decide +kernel
theorem d1_84 : decode method_4_code 84 = .ok (.if_icmp .le 13, 3) := by decide +kernel
theorem d1_87 : decode method_4_code 87 = .ok (.aload_n 3, 1) := by decide +kernel
theorem d1_88 : decode method_4_code 88 = .ok (.bipush 6, 2) := by decide +kernel
theorem d1_90 : decode method_4_code 90 = .ok (.lload_n 1, 1) := by decide +kernel
theorem d1_91 : decode method_4_code 91 = .ok (.bipush 6, 2) := by decide +kernel
theorem d1_93 : decode method_4_code 93 = .ok (.invokestatic 34, 3) := by decide +kernel
theorem d1_96 : decode method_4_code 96 = .ok (.bastore, 1) := by decide +kernel
theorem d1_97 : decode method_4_code 97 = .ok (.iload_n 0, 1) := by decide +kernel
theorem d1_98 : decode method_4_code 98 = .ok (.bipush 7, 2) := by decide +kernel
theorem d1_100 : decode method_4_code 100 = .ok (.if_icmp .le 13, 3) := by decide +kernel
theorem d1_103 : decode method_4_code 103 = .ok (.aload_n 3, 1) := by decide +kernel
theorem d1_104 : decode method_4_code 104 = .ok (.bipush 7, 2) := by decide +kernel
theorem d1_106 : decode method_4_code 106 = .ok (.lload_n 1, 1) := by decide +kernel
theorem d1_107 : decode method_4_code 107 = .ok (.bipush 7, 2) := by decide +kernel
theorem d1_109 : decode method_4_code 109 = .ok (.invokestatic 34, 3) := by decide +kernel
theorem d1_112 : decode method_4_code 112 = .ok (.bastore, 1) := by decide +kernel
theorem d1_113 : decode method_4_code 113 = .ok (.aload_n 3, 1) := by decide +kernel
theorem d1_114 : decode method_4_code 114 = .ok (.areturn, 1) := by decide +kernel
theorem ef_rm1 (m : MethodId) (p0 : Int32) (q1 : Int64) : entryFrame m #[(.int p0), (.long q1)] 4 = mkF m 0 #[.val (.int p0), .val (.long q1), .second, .unset] [] := by first | (simp [entryFrame, mkF, argsToLocals, Value.category]; done) | rfl
def Q1 (Z : State) (p0 : Int32) (q1 : Int64) (h0 : Heap) (n0 : Nat) (v : Option Value) (h : Heap) (L : List Loc) : Prop := ∃ b : Addr, v = some (.ref b) ∧ Fr n0 L ∧ h0.size ≤ b ∧ Keep h0 h [] ∧ AF Z h b .byte p0 (fun i => .int (own_g q1 i))
set_option maxRecDepth 65536 in
set_option maxHeartbeats 40000000 in
theorem rm1 (l : Launch) (Z : State) (aw : Array Value) (hw : ∀ d ∈ tables_1, d.before aw Z = true) (ws : List Jvm.Cond) (p0 : Int32) (q1 : Int64) (h0 : Heap) (n0 : Nat) (Z0 : n0 ≤ h0.size) (hn0 : ¬ p0 < 0) (hn8 : p0.toNatClampNeg ≤ 8) :
    MetFree l (⟨"com/example/honeyguide/honeyguide/index/KeyHashCodePinLaw", "fill", "(IJ)[B"⟩ : MethodName) (head1 (Jvm.Cond.code (⟨"com/example/honeyguide/honeyguide/index/KeyHashCodePinLaw", "fill", "(IJ)[B"⟩ : MethodName) method_4_code 4 (some (.array .byte)) :: ws) ({ frames := 1, cells := 1, slots := 8, locals := 16 } : Room)) (fun a U => a = #[(.int p0), (.long q1)] ∧ Z.Warmed39 U.vm ∧ U.heap = h0) (fun _ _ _ _ _ => True) (fun _ U o U' => ∃ v L, o = .returned v ∧ Q1 Z p0 q1 h0 n0 v U'.heap L ∧ FrameEnd U o U' L ({ frames := 1, cells := 1, slots := 8, locals := 16 } : Room).cells ({ frames := 1, cells := 1, slots := 8, locals := 16 } : Room).slots) := by
  refine MetFree.of_bodySF (plainFor_of_name pn_0) hisR ?_
  intro p e s m args below meth c s₁ Bd hml0 hP hK
  obtain ⟨rfl, hZ, hh⟩ := hP
  have hx := Bd.exec
  have hby := Bd.bytes
  have hml : c.maxLocals = 4 := hml0
  have hown : s.vm.findClass "com/example/honeyguide/honeyguide/index/KeyHashCodePinLaw" = some m.cls := findClass_of_methodNamed Bd.named
  have hnm := (name_of_methodNamed Bd.named Bd.method).1
  have X0 : Stand p l e ({ frames := 1, cells := 1, slots := 8, locals := 16 } : Room) s m #[(.int p0), (.long q1)] below meth c s₁ [] 0 0 := Stand.of_body Bd
  have e0 : s₁.heap = h0 := by rw [← hh, Bd.state]; rfl
  have N0 := Fr.nil n0
  have K0 : Keep h0 h0 [] := Keep.refl _ _
  refine own_by (A' := s₁.setTop (mkF m 0 #[.val (.int p0), .val (.long q1), .second, .unset] [])) (fun t k => castTop (ef_rm1 m p0 q1) k) ?_
  refine own_by (A' := s₁.setTop (mkF m 1 #[.val (.int p0), .val (.long q1), .second, .unset] [(.int p0)])) (fun t kt => ?_) ?_
  · show Steps p.tables e below (s₁.setTop (mkF m 0 #[.val (.int p0), .val (.long q1), .second, .unset] [])) t
    refine XS.iloadN X0.here hx rfl (hb hby d1_0) rfl ?_
    exact kt
  obtain ⟨T1, h1, k1, X1, e1, E1, A1, st1⟩ := newP X0 hx hZ (hw _ (List.mem_of_getElem? (i := 4) rfl)) e0 (g := (mkF m 1 #[.val (.int p0), .val (.long q1), .second, .unset] [(.int p0)])) rfl (hb hby d1_1) rfl hn0 (cap := 8) hn8 (by decide) (by decide) (by decide)
  obtain ⟨b1, g1⟩ : ∃ z, z = h0.size := ⟨_, rfl⟩
  rw [← g1] at A1 st1
  have sz_b1 : h0.size ≤ b1 := Nat.le_trans K0.1 (Nat.le_of_eq g1.symm)
  have g_b1 : n0 ≤ b1 := Nat.le_trans Z0 sz_b1
  have K1 : Keep h0 h1 [] := K0.ext E1
  have V1 : AF Z h1 b1 .byte p0 (fun _ => .int (0 : Int32)) := AF.new A1 hn0
  refine own_by (A' := T1.setTop (mkF m 3 #[.val (.int p0), .val (.long q1), .second, .unset] [(.ref b1)])) (fun t kt => st1 t kt) ?_
  refine own_by (A' := T1.setTop (mkF m 5 #[.val (.int p0), .val (.long q1), .second, .val (.ref b1)] [(.int p0)])) (fun t kt => ?_) ?_
  · show Steps p.tables e below (T1.setTop (mkF m 3 #[.val (.int p0), .val (.long q1), .second, .unset] [(.ref b1)])) t
    refine XS.astoreN X1.here hx rfl (hb hby d1_3) rfl rfl (l' := #[.val (.int p0), .val (.long q1), .second, .val (.ref b1)]) rfl ?_
    show Steps p.tables e below (T1.setTop (mkF m 4 #[.val (.int p0), .val (.long q1), .second, .val (.ref b1)] [])) t
    refine XS.iloadN X1.here hx rfl (hb hby d1_4) rfl ?_
    exact kt
  by_cases hc5_2 : (0 : Int32) < p0
  · refine own_by (A' := T1.setTop (mkF m 12 #[.val (.int p0), .val (.long q1), .second, .val (.ref b1)] [(.int (0 : Int32)), (.long q1), (.int (0 : Int32)), (.ref b1)])) (fun t kt => ?_) ?_
    · show Steps p.tables e below (T1.setTop (mkF m 5 #[.val (.int p0), .val (.long q1), .second, .val (.ref b1)] [(.int p0)])) t
      refine XS.ifNo X1.here hx rfl (hb hby d1_5) rfl ((if0 _ _).trans (tlt hc5_2).2.2.2) ?_
      show Steps p.tables e below (T1.setTop (mkF m 8 #[.val (.int p0), .val (.long q1), .second, .val (.ref b1)] [])) t
      refine XS.aloadN X1.here hx rfl (hb hby d1_8) rfl rfl ?_
      show Steps p.tables e below (T1.setTop (mkF m 9 #[.val (.int p0), .val (.long q1), .second, .val (.ref b1)] [(.ref b1)])) t
      refine XS.iconst X1.here hx rfl (hb hby d1_9) ?_
      show Steps p.tables e below (T1.setTop (mkF m 10 #[.val (.int p0), .val (.long q1), .second, .val (.ref b1)] [(.int (0 : Int32)), (.ref b1)])) t
      refine XS.lloadN X1.here hx rfl (hb hby d1_10) rfl ?_
      show Steps p.tables e below (T1.setTop (mkF m 11 #[.val (.int p0), .val (.long q1), .second, .val (.ref b1)] [(.long q1), (.int (0 : Int32)), (.ref b1)])) t
      refine XS.iconst X1.here hx rfl (hb hby d1_11) ?_
      exact kt
    obtain ⟨_, _, ⟨T3, L3, k3, n3⟩, -, X3, ⟨Lc3, hQ3, l3, y3, z3⟩, st3⟩ := Jvm.LawKit.callS X1 hx (y := (⟨"com/example/honeyguide/honeyguide/index/KeyHashCodePinLaw", "at", "(JI)B"⟩ : MethodName)) hown (mvT hZ (hw _ (List.mem_of_getElem? (i := 46) rfl))) (mvT hZ (hw _ (List.mem_of_getElem? (i := 47) rfl))) (mvT hZ (hw _ (List.mem_of_getElem? (i := 2) rfl))) (mvT hZ (hw _ (List.mem_of_getElem? (i := 48) rfl))) (by decide) (backOf (W := 2) (rm10 l Z aw hw [] q1 (0 : Int32) h1 n0 (Nat.le_trans Z0 K1.1) ) hZ (hw _ (List.mem_of_getElem? (i := 48) rfl)) (hw _ (List.mem_of_getElem? (i := 2) rfl)) (by decide) (by decide)) (g := (mkF m 12 #[.val (.int p0), .val (.long q1), .second, .val (.ref b1)] [(.int (0 : Int32)), (.long q1), (.int (0 : Int32)), (.ref b1)])) rfl (by rw [hml]; rfl) (argsL := [(.long q1), (.int (0 : Int32))]) (rest := [(.int (0 : Int32)), (.ref b1)]) (lenOf pd_6 rfl) rfl (by show 2 * 0 + _ ≤ _; exact Nat.le_of_eq rfl) (hb hby d1_12) (fun _ _ => ⟨rfl, e1, (by decide : 1 + 0 ≤ _), (by decide : 8 + 0 ≤ _)⟩)
    dsimp only [Pt.U, Pt.locs, Pt.cells, Pt.slots] at X3 l3 y3 z3 st3 hQ3
    subst l3 y3 z3
    obtain ⟨rfl, N3q, e3⟩ := hQ3
    have N3 := Fr.app N0 N3q
    refine own_by (A' := T3.setTop (mkF m 15 #[.val (.int p0), .val (.long q1), .second, .val (.ref b1)] [(.int (own_f10 q1 (0 : Int32))), (.int (0 : Int32)), (.ref b1)])) (fun t kt => st3 t kt) ?_
    obtain ⟨cl4, Ar4, Sz4, Mn4, Ha4⟩ := id V1
    have hin4 := inb_of (j := (0 : Int32)) Sz4 ⟨by decide, hc5_2⟩
    obtain ⟨T4, h4, X4, e4, W4, st4⟩ := stB X3 hx hZ e3 Ar4 (j := (0 : Int32)) hin4 (g := (mkF m 15 #[.val (.int p0), .val (.long q1), .second, .val (.ref b1)] [(.int (own_f10 q1 (0 : Int32))), (.int (0 : Int32)), (.ref b1)])) rfl rfl (hb hby d1_15)
    have V4 : AF Z h4 b1 .byte p0 (fun i => if i = ((0 : Int32)).toNatClampNeg then (.int (nar .byte (own_f10 q1 (0 : Int32)))) else .int (0 : Int32)) := AF.set Ar4 Sz4 Mn4 Ha4 hin4 W4
    have N4 := Fr.snoc X4 N3 g_b1
    have K4 : Keep h0 h4 [] := K1.wr W4 (Or.inr sz_b1)
    refine own_by (A' := T4.setTop (mkF m 16 #[.val (.int p0), .val (.long q1), .second, .val (.ref b1)] [])) (fun t kt => st4 t kt) ?_
    refine own_by (A' := T4.setTop (mkF m 18 #[.val (.int p0), .val (.long q1), .second, .val (.ref b1)] [(.int (1 : Int32)), (.int p0)])) (fun t kt => ?_) ?_
    · show Steps p.tables e below (T4.setTop (mkF m 16 #[.val (.int p0), .val (.long q1), .second, .val (.ref b1)] [])) t
      refine XS.iloadN X4.here hx rfl (hb hby d1_16) rfl ?_
      show Steps p.tables e below (T4.setTop (mkF m 17 #[.val (.int p0), .val (.long q1), .second, .val (.ref b1)] [(.int p0)])) t
      refine XS.iconst X4.here hx rfl (hb hby d1_17) ?_
      exact kt
    by_cases hc18_5 : (1 : Int32) < p0
    · refine own_by (A' := T4.setTop (mkF m 25 #[.val (.int p0), .val (.long q1), .second, .val (.ref b1)] [(.int (1 : Int32)), (.long q1), (.int (1 : Int32)), (.ref b1)])) (fun t kt => ?_) ?_
      · show Steps p.tables e below (T4.setTop (mkF m 18 #[.val (.int p0), .val (.long q1), .second, .val (.ref b1)] [(.int (1 : Int32)), (.int p0)])) t
        refine XS.icmpNo X4.here hx rfl (hb hby d1_18) rfl (tlt hc18_5).2.2.2 ?_
        show Steps p.tables e below (T4.setTop (mkF m 21 #[.val (.int p0), .val (.long q1), .second, .val (.ref b1)] [])) t
        refine XS.aloadN X4.here hx rfl (hb hby d1_21) rfl rfl ?_
        show Steps p.tables e below (T4.setTop (mkF m 22 #[.val (.int p0), .val (.long q1), .second, .val (.ref b1)] [(.ref b1)])) t
        refine XS.iconst X4.here hx rfl (hb hby d1_22) ?_
        show Steps p.tables e below (T4.setTop (mkF m 23 #[.val (.int p0), .val (.long q1), .second, .val (.ref b1)] [(.int (1 : Int32)), (.ref b1)])) t
        refine XS.lloadN X4.here hx rfl (hb hby d1_23) rfl ?_
        show Steps p.tables e below (T4.setTop (mkF m 24 #[.val (.int p0), .val (.long q1), .second, .val (.ref b1)] [(.long q1), (.int (1 : Int32)), (.ref b1)])) t
        refine XS.iconst X4.here hx rfl (hb hby d1_24) ?_
        exact kt
      obtain ⟨_, _, ⟨T6, L6, k6, n6⟩, -, X6, ⟨Lc6, hQ6, l6, y6, z6⟩, st6⟩ := Jvm.LawKit.callS X4 hx (y := (⟨"com/example/honeyguide/honeyguide/index/KeyHashCodePinLaw", "at", "(JI)B"⟩ : MethodName)) hown (mvT hZ (hw _ (List.mem_of_getElem? (i := 46) rfl))) (mvT hZ (hw _ (List.mem_of_getElem? (i := 47) rfl))) (mvT hZ (hw _ (List.mem_of_getElem? (i := 2) rfl))) (mvT hZ (hw _ (List.mem_of_getElem? (i := 48) rfl))) (by decide) (backOf (W := 2) (rm10 l Z aw hw [] q1 (1 : Int32) h4 n0 (Nat.le_trans Z0 K4.1) ) hZ (hw _ (List.mem_of_getElem? (i := 48) rfl)) (hw _ (List.mem_of_getElem? (i := 2) rfl)) (by decide) (by decide)) (g := (mkF m 25 #[.val (.int p0), .val (.long q1), .second, .val (.ref b1)] [(.int (1 : Int32)), (.long q1), (.int (1 : Int32)), (.ref b1)])) rfl (by rw [hml]; rfl) (argsL := [(.long q1), (.int (1 : Int32))]) (rest := [(.int (1 : Int32)), (.ref b1)]) (lenOf pd_6 rfl) rfl (by show 2 * 0 + _ ≤ _; exact Nat.le_of_eq rfl) (hb hby d1_25) (fun _ _ => ⟨rfl, e4, (by decide : 1 + 0 ≤ _), (by decide : 8 + 0 ≤ _)⟩)
      dsimp only [Pt.U, Pt.locs, Pt.cells, Pt.slots] at X6 l6 y6 z6 st6 hQ6
      subst l6 y6 z6
      obtain ⟨rfl, N6q, e6⟩ := hQ6
      have N6 := Fr.app N4 N6q
      refine own_by (A' := T6.setTop (mkF m 28 #[.val (.int p0), .val (.long q1), .second, .val (.ref b1)] [(.int (own_f10 q1 (1 : Int32))), (.int (1 : Int32)), (.ref b1)])) (fun t kt => st6 t kt) ?_
      obtain ⟨cl7, Ar7, Sz7, Mn7, Ha7⟩ := id V4
      have hin7 := inb_of (j := (1 : Int32)) Sz7 ⟨by decide, hc18_5⟩
      obtain ⟨T7, h7, X7, e7, W7, st7⟩ := stB X6 hx hZ e6 Ar7 (j := (1 : Int32)) hin7 (g := (mkF m 28 #[.val (.int p0), .val (.long q1), .second, .val (.ref b1)] [(.int (own_f10 q1 (1 : Int32))), (.int (1 : Int32)), (.ref b1)])) rfl rfl (hb hby d1_28)
      have V7 : AF Z h7 b1 .byte p0 (fun i => if i = ((1 : Int32)).toNatClampNeg then (.int (nar .byte (own_f10 q1 (1 : Int32)))) else if i = ((0 : Int32)).toNatClampNeg then (.int (nar .byte (own_f10 q1 (0 : Int32)))) else .int (0 : Int32)) := AF.set Ar7 Sz7 Mn7 Ha7 hin7 W7
      have N7 := Fr.snoc X7 N6 g_b1
      have K7 : Keep h0 h7 [] := K4.wr W7 (Or.inr sz_b1)
      refine own_by (A' := T7.setTop (mkF m 29 #[.val (.int p0), .val (.long q1), .second, .val (.ref b1)] [])) (fun t kt => st7 t kt) ?_
      refine own_by (A' := T7.setTop (mkF m 31 #[.val (.int p0), .val (.long q1), .second, .val (.ref b1)] [(.int (2 : Int32)), (.int p0)])) (fun t kt => ?_) ?_
      · show Steps p.tables e below (T7.setTop (mkF m 29 #[.val (.int p0), .val (.long q1), .second, .val (.ref b1)] [])) t
        refine XS.iloadN X7.here hx rfl (hb hby d1_29) rfl ?_
        show Steps p.tables e below (T7.setTop (mkF m 30 #[.val (.int p0), .val (.long q1), .second, .val (.ref b1)] [(.int p0)])) t
        refine XS.iconst X7.here hx rfl (hb hby d1_30) ?_
        exact kt
      by_cases hc31_8 : (2 : Int32) < p0
      · refine own_by (A' := T7.setTop (mkF m 38 #[.val (.int p0), .val (.long q1), .second, .val (.ref b1)] [(.int (2 : Int32)), (.long q1), (.int (2 : Int32)), (.ref b1)])) (fun t kt => ?_) ?_
        · show Steps p.tables e below (T7.setTop (mkF m 31 #[.val (.int p0), .val (.long q1), .second, .val (.ref b1)] [(.int (2 : Int32)), (.int p0)])) t
          refine XS.icmpNo X7.here hx rfl (hb hby d1_31) rfl (tlt hc31_8).2.2.2 ?_
          show Steps p.tables e below (T7.setTop (mkF m 34 #[.val (.int p0), .val (.long q1), .second, .val (.ref b1)] [])) t
          refine XS.aloadN X7.here hx rfl (hb hby d1_34) rfl rfl ?_
          show Steps p.tables e below (T7.setTop (mkF m 35 #[.val (.int p0), .val (.long q1), .second, .val (.ref b1)] [(.ref b1)])) t
          refine XS.iconst X7.here hx rfl (hb hby d1_35) ?_
          show Steps p.tables e below (T7.setTop (mkF m 36 #[.val (.int p0), .val (.long q1), .second, .val (.ref b1)] [(.int (2 : Int32)), (.ref b1)])) t
          refine XS.lloadN X7.here hx rfl (hb hby d1_36) rfl ?_
          show Steps p.tables e below (T7.setTop (mkF m 37 #[.val (.int p0), .val (.long q1), .second, .val (.ref b1)] [(.long q1), (.int (2 : Int32)), (.ref b1)])) t
          refine XS.iconst X7.here hx rfl (hb hby d1_37) ?_
          exact kt
        obtain ⟨_, _, ⟨T9, L9, k9, n9⟩, -, X9, ⟨Lc9, hQ9, l9, y9, z9⟩, st9⟩ := Jvm.LawKit.callS X7 hx (y := (⟨"com/example/honeyguide/honeyguide/index/KeyHashCodePinLaw", "at", "(JI)B"⟩ : MethodName)) hown (mvT hZ (hw _ (List.mem_of_getElem? (i := 46) rfl))) (mvT hZ (hw _ (List.mem_of_getElem? (i := 47) rfl))) (mvT hZ (hw _ (List.mem_of_getElem? (i := 2) rfl))) (mvT hZ (hw _ (List.mem_of_getElem? (i := 48) rfl))) (by decide) (backOf (W := 2) (rm10 l Z aw hw [] q1 (2 : Int32) h7 n0 (Nat.le_trans Z0 K7.1) ) hZ (hw _ (List.mem_of_getElem? (i := 48) rfl)) (hw _ (List.mem_of_getElem? (i := 2) rfl)) (by decide) (by decide)) (g := (mkF m 38 #[.val (.int p0), .val (.long q1), .second, .val (.ref b1)] [(.int (2 : Int32)), (.long q1), (.int (2 : Int32)), (.ref b1)])) rfl (by rw [hml]; rfl) (argsL := [(.long q1), (.int (2 : Int32))]) (rest := [(.int (2 : Int32)), (.ref b1)]) (lenOf pd_6 rfl) rfl (by show 2 * 0 + _ ≤ _; exact Nat.le_of_eq rfl) (hb hby d1_38) (fun _ _ => ⟨rfl, e7, (by decide : 1 + 0 ≤ _), (by decide : 8 + 0 ≤ _)⟩)
        dsimp only [Pt.U, Pt.locs, Pt.cells, Pt.slots] at X9 l9 y9 z9 st9 hQ9
        subst l9 y9 z9
        obtain ⟨rfl, N9q, e9⟩ := hQ9
        have N9 := Fr.app N7 N9q
        refine own_by (A' := T9.setTop (mkF m 41 #[.val (.int p0), .val (.long q1), .second, .val (.ref b1)] [(.int (own_f10 q1 (2 : Int32))), (.int (2 : Int32)), (.ref b1)])) (fun t kt => st9 t kt) ?_
        obtain ⟨cl10, Ar10, Sz10, Mn10, Ha10⟩ := id V7
        have hin10 := inb_of (j := (2 : Int32)) Sz10 ⟨by decide, hc31_8⟩
        obtain ⟨T10, h10, X10, e10, W10, st10⟩ := stB X9 hx hZ e9 Ar10 (j := (2 : Int32)) hin10 (g := (mkF m 41 #[.val (.int p0), .val (.long q1), .second, .val (.ref b1)] [(.int (own_f10 q1 (2 : Int32))), (.int (2 : Int32)), (.ref b1)])) rfl rfl (hb hby d1_41)
        have V10 : AF Z h10 b1 .byte p0 (fun i => if i = ((2 : Int32)).toNatClampNeg then (.int (nar .byte (own_f10 q1 (2 : Int32)))) else if i = ((1 : Int32)).toNatClampNeg then (.int (nar .byte (own_f10 q1 (1 : Int32)))) else if i = ((0 : Int32)).toNatClampNeg then (.int (nar .byte (own_f10 q1 (0 : Int32)))) else .int (0 : Int32)) := AF.set Ar10 Sz10 Mn10 Ha10 hin10 W10
        have N10 := Fr.snoc X10 N9 g_b1
        have K10 : Keep h0 h10 [] := K7.wr W10 (Or.inr sz_b1)
        refine own_by (A' := T10.setTop (mkF m 42 #[.val (.int p0), .val (.long q1), .second, .val (.ref b1)] [])) (fun t kt => st10 t kt) ?_
        refine own_by (A' := T10.setTop (mkF m 44 #[.val (.int p0), .val (.long q1), .second, .val (.ref b1)] [(.int (3 : Int32)), (.int p0)])) (fun t kt => ?_) ?_
        · show Steps p.tables e below (T10.setTop (mkF m 42 #[.val (.int p0), .val (.long q1), .second, .val (.ref b1)] [])) t
          refine XS.iloadN X10.here hx rfl (hb hby d1_42) rfl ?_
          show Steps p.tables e below (T10.setTop (mkF m 43 #[.val (.int p0), .val (.long q1), .second, .val (.ref b1)] [(.int p0)])) t
          refine XS.iconst X10.here hx rfl (hb hby d1_43) ?_
          exact kt
        by_cases hc44_11 : (3 : Int32) < p0
        · refine own_by (A' := T10.setTop (mkF m 51 #[.val (.int p0), .val (.long q1), .second, .val (.ref b1)] [(.int (3 : Int32)), (.long q1), (.int (3 : Int32)), (.ref b1)])) (fun t kt => ?_) ?_
          · show Steps p.tables e below (T10.setTop (mkF m 44 #[.val (.int p0), .val (.long q1), .second, .val (.ref b1)] [(.int (3 : Int32)), (.int p0)])) t
            refine XS.icmpNo X10.here hx rfl (hb hby d1_44) rfl (tlt hc44_11).2.2.2 ?_
            show Steps p.tables e below (T10.setTop (mkF m 47 #[.val (.int p0), .val (.long q1), .second, .val (.ref b1)] [])) t
            refine XS.aloadN X10.here hx rfl (hb hby d1_47) rfl rfl ?_
            show Steps p.tables e below (T10.setTop (mkF m 48 #[.val (.int p0), .val (.long q1), .second, .val (.ref b1)] [(.ref b1)])) t
            refine XS.iconst X10.here hx rfl (hb hby d1_48) ?_
            show Steps p.tables e below (T10.setTop (mkF m 49 #[.val (.int p0), .val (.long q1), .second, .val (.ref b1)] [(.int (3 : Int32)), (.ref b1)])) t
            refine XS.lloadN X10.here hx rfl (hb hby d1_49) rfl ?_
            show Steps p.tables e below (T10.setTop (mkF m 50 #[.val (.int p0), .val (.long q1), .second, .val (.ref b1)] [(.long q1), (.int (3 : Int32)), (.ref b1)])) t
            refine XS.iconst X10.here hx rfl (hb hby d1_50) ?_
            exact kt
          obtain ⟨_, _, ⟨T12, L12, k12, n12⟩, -, X12, ⟨Lc12, hQ12, l12, y12, z12⟩, st12⟩ := Jvm.LawKit.callS X10 hx (y := (⟨"com/example/honeyguide/honeyguide/index/KeyHashCodePinLaw", "at", "(JI)B"⟩ : MethodName)) hown (mvT hZ (hw _ (List.mem_of_getElem? (i := 46) rfl))) (mvT hZ (hw _ (List.mem_of_getElem? (i := 47) rfl))) (mvT hZ (hw _ (List.mem_of_getElem? (i := 2) rfl))) (mvT hZ (hw _ (List.mem_of_getElem? (i := 48) rfl))) (by decide) (backOf (W := 2) (rm10 l Z aw hw [] q1 (3 : Int32) h10 n0 (Nat.le_trans Z0 K10.1) ) hZ (hw _ (List.mem_of_getElem? (i := 48) rfl)) (hw _ (List.mem_of_getElem? (i := 2) rfl)) (by decide) (by decide)) (g := (mkF m 51 #[.val (.int p0), .val (.long q1), .second, .val (.ref b1)] [(.int (3 : Int32)), (.long q1), (.int (3 : Int32)), (.ref b1)])) rfl (by rw [hml]; rfl) (argsL := [(.long q1), (.int (3 : Int32))]) (rest := [(.int (3 : Int32)), (.ref b1)]) (lenOf pd_6 rfl) rfl (by show 2 * 0 + _ ≤ _; exact Nat.le_of_eq rfl) (hb hby d1_51) (fun _ _ => ⟨rfl, e10, (by decide : 1 + 0 ≤ _), (by decide : 8 + 0 ≤ _)⟩)
          dsimp only [Pt.U, Pt.locs, Pt.cells, Pt.slots] at X12 l12 y12 z12 st12 hQ12
          subst l12 y12 z12
          obtain ⟨rfl, N12q, e12⟩ := hQ12
          have N12 := Fr.app N10 N12q
          refine own_by (A' := T12.setTop (mkF m 54 #[.val (.int p0), .val (.long q1), .second, .val (.ref b1)] [(.int (own_f10 q1 (3 : Int32))), (.int (3 : Int32)), (.ref b1)])) (fun t kt => st12 t kt) ?_
          obtain ⟨cl13, Ar13, Sz13, Mn13, Ha13⟩ := id V10
          have hin13 := inb_of (j := (3 : Int32)) Sz13 ⟨by decide, hc44_11⟩
          obtain ⟨T13, h13, X13, e13, W13, st13⟩ := stB X12 hx hZ e12 Ar13 (j := (3 : Int32)) hin13 (g := (mkF m 54 #[.val (.int p0), .val (.long q1), .second, .val (.ref b1)] [(.int (own_f10 q1 (3 : Int32))), (.int (3 : Int32)), (.ref b1)])) rfl rfl (hb hby d1_54)
          have V13 : AF Z h13 b1 .byte p0 (fun i => if i = ((3 : Int32)).toNatClampNeg then (.int (nar .byte (own_f10 q1 (3 : Int32)))) else if i = ((2 : Int32)).toNatClampNeg then (.int (nar .byte (own_f10 q1 (2 : Int32)))) else if i = ((1 : Int32)).toNatClampNeg then (.int (nar .byte (own_f10 q1 (1 : Int32)))) else if i = ((0 : Int32)).toNatClampNeg then (.int (nar .byte (own_f10 q1 (0 : Int32)))) else .int (0 : Int32)) := AF.set Ar13 Sz13 Mn13 Ha13 hin13 W13
          have N13 := Fr.snoc X13 N12 g_b1
          have K13 : Keep h0 h13 [] := K10.wr W13 (Or.inr sz_b1)
          refine own_by (A' := T13.setTop (mkF m 55 #[.val (.int p0), .val (.long q1), .second, .val (.ref b1)] [])) (fun t kt => st13 t kt) ?_
          refine own_by (A' := T13.setTop (mkF m 57 #[.val (.int p0), .val (.long q1), .second, .val (.ref b1)] [(.int (4 : Int32)), (.int p0)])) (fun t kt => ?_) ?_
          · show Steps p.tables e below (T13.setTop (mkF m 55 #[.val (.int p0), .val (.long q1), .second, .val (.ref b1)] [])) t
            refine XS.iloadN X13.here hx rfl (hb hby d1_55) rfl ?_
            show Steps p.tables e below (T13.setTop (mkF m 56 #[.val (.int p0), .val (.long q1), .second, .val (.ref b1)] [(.int p0)])) t
            refine XS.iconst X13.here hx rfl (hb hby d1_56) ?_
            exact kt
          by_cases hc57_14 : (4 : Int32) < p0
          · refine own_by (A' := T13.setTop (mkF m 64 #[.val (.int p0), .val (.long q1), .second, .val (.ref b1)] [(.int (4 : Int32)), (.long q1), (.int (4 : Int32)), (.ref b1)])) (fun t kt => ?_) ?_
            · show Steps p.tables e below (T13.setTop (mkF m 57 #[.val (.int p0), .val (.long q1), .second, .val (.ref b1)] [(.int (4 : Int32)), (.int p0)])) t
              refine XS.icmpNo X13.here hx rfl (hb hby d1_57) rfl (tlt hc57_14).2.2.2 ?_
              show Steps p.tables e below (T13.setTop (mkF m 60 #[.val (.int p0), .val (.long q1), .second, .val (.ref b1)] [])) t
              refine XS.aloadN X13.here hx rfl (hb hby d1_60) rfl rfl ?_
              show Steps p.tables e below (T13.setTop (mkF m 61 #[.val (.int p0), .val (.long q1), .second, .val (.ref b1)] [(.ref b1)])) t
              refine XS.iconst X13.here hx rfl (hb hby d1_61) ?_
              show Steps p.tables e below (T13.setTop (mkF m 62 #[.val (.int p0), .val (.long q1), .second, .val (.ref b1)] [(.int (4 : Int32)), (.ref b1)])) t
              refine XS.lloadN X13.here hx rfl (hb hby d1_62) rfl ?_
              show Steps p.tables e below (T13.setTop (mkF m 63 #[.val (.int p0), .val (.long q1), .second, .val (.ref b1)] [(.long q1), (.int (4 : Int32)), (.ref b1)])) t
              refine XS.iconst X13.here hx rfl (hb hby d1_63) ?_
              exact kt
            obtain ⟨_, _, ⟨T15, L15, k15, n15⟩, -, X15, ⟨Lc15, hQ15, l15, y15, z15⟩, st15⟩ := Jvm.LawKit.callS X13 hx (y := (⟨"com/example/honeyguide/honeyguide/index/KeyHashCodePinLaw", "at", "(JI)B"⟩ : MethodName)) hown (mvT hZ (hw _ (List.mem_of_getElem? (i := 46) rfl))) (mvT hZ (hw _ (List.mem_of_getElem? (i := 47) rfl))) (mvT hZ (hw _ (List.mem_of_getElem? (i := 2) rfl))) (mvT hZ (hw _ (List.mem_of_getElem? (i := 48) rfl))) (by decide) (backOf (W := 2) (rm10 l Z aw hw [] q1 (4 : Int32) h13 n0 (Nat.le_trans Z0 K13.1) ) hZ (hw _ (List.mem_of_getElem? (i := 48) rfl)) (hw _ (List.mem_of_getElem? (i := 2) rfl)) (by decide) (by decide)) (g := (mkF m 64 #[.val (.int p0), .val (.long q1), .second, .val (.ref b1)] [(.int (4 : Int32)), (.long q1), (.int (4 : Int32)), (.ref b1)])) rfl (by rw [hml]; rfl) (argsL := [(.long q1), (.int (4 : Int32))]) (rest := [(.int (4 : Int32)), (.ref b1)]) (lenOf pd_6 rfl) rfl (by show 2 * 0 + _ ≤ _; exact Nat.le_of_eq rfl) (hb hby d1_64) (fun _ _ => ⟨rfl, e13, (by decide : 1 + 0 ≤ _), (by decide : 8 + 0 ≤ _)⟩)
            dsimp only [Pt.U, Pt.locs, Pt.cells, Pt.slots] at X15 l15 y15 z15 st15 hQ15
            subst l15 y15 z15
            obtain ⟨rfl, N15q, e15⟩ := hQ15
            have N15 := Fr.app N13 N15q
            refine own_by (A' := T15.setTop (mkF m 67 #[.val (.int p0), .val (.long q1), .second, .val (.ref b1)] [(.int (own_f10 q1 (4 : Int32))), (.int (4 : Int32)), (.ref b1)])) (fun t kt => st15 t kt) ?_
            obtain ⟨cl16, Ar16, Sz16, Mn16, Ha16⟩ := id V13
            have hin16 := inb_of (j := (4 : Int32)) Sz16 ⟨by decide, hc57_14⟩
            obtain ⟨T16, h16, X16, e16, W16, st16⟩ := stB X15 hx hZ e15 Ar16 (j := (4 : Int32)) hin16 (g := (mkF m 67 #[.val (.int p0), .val (.long q1), .second, .val (.ref b1)] [(.int (own_f10 q1 (4 : Int32))), (.int (4 : Int32)), (.ref b1)])) rfl rfl (hb hby d1_67)
            have V16 : AF Z h16 b1 .byte p0 (fun i => if i = ((4 : Int32)).toNatClampNeg then (.int (nar .byte (own_f10 q1 (4 : Int32)))) else if i = ((3 : Int32)).toNatClampNeg then (.int (nar .byte (own_f10 q1 (3 : Int32)))) else if i = ((2 : Int32)).toNatClampNeg then (.int (nar .byte (own_f10 q1 (2 : Int32)))) else if i = ((1 : Int32)).toNatClampNeg then (.int (nar .byte (own_f10 q1 (1 : Int32)))) else if i = ((0 : Int32)).toNatClampNeg then (.int (nar .byte (own_f10 q1 (0 : Int32)))) else .int (0 : Int32)) := AF.set Ar16 Sz16 Mn16 Ha16 hin16 W16
            have N16 := Fr.snoc X16 N15 g_b1
            have K16 : Keep h0 h16 [] := K13.wr W16 (Or.inr sz_b1)
            refine own_by (A' := T16.setTop (mkF m 68 #[.val (.int p0), .val (.long q1), .second, .val (.ref b1)] [])) (fun t kt => st16 t kt) ?_
            refine own_by (A' := T16.setTop (mkF m 70 #[.val (.int p0), .val (.long q1), .second, .val (.ref b1)] [(.int (5 : Int32)), (.int p0)])) (fun t kt => ?_) ?_
            · show Steps p.tables e below (T16.setTop (mkF m 68 #[.val (.int p0), .val (.long q1), .second, .val (.ref b1)] [])) t
              refine XS.iloadN X16.here hx rfl (hb hby d1_68) rfl ?_
              show Steps p.tables e below (T16.setTop (mkF m 69 #[.val (.int p0), .val (.long q1), .second, .val (.ref b1)] [(.int p0)])) t
              refine XS.iconst X16.here hx rfl (hb hby d1_69) ?_
              exact kt
            by_cases hc70_17 : (5 : Int32) < p0
            · refine own_by (A' := T16.setTop (mkF m 77 #[.val (.int p0), .val (.long q1), .second, .val (.ref b1)] [(.int (5 : Int32)), (.long q1), (.int (5 : Int32)), (.ref b1)])) (fun t kt => ?_) ?_
              · show Steps p.tables e below (T16.setTop (mkF m 70 #[.val (.int p0), .val (.long q1), .second, .val (.ref b1)] [(.int (5 : Int32)), (.int p0)])) t
                refine XS.icmpNo X16.here hx rfl (hb hby d1_70) rfl (tlt hc70_17).2.2.2 ?_
                show Steps p.tables e below (T16.setTop (mkF m 73 #[.val (.int p0), .val (.long q1), .second, .val (.ref b1)] [])) t
                refine XS.aloadN X16.here hx rfl (hb hby d1_73) rfl rfl ?_
                show Steps p.tables e below (T16.setTop (mkF m 74 #[.val (.int p0), .val (.long q1), .second, .val (.ref b1)] [(.ref b1)])) t
                refine XS.iconst X16.here hx rfl (hb hby d1_74) ?_
                show Steps p.tables e below (T16.setTop (mkF m 75 #[.val (.int p0), .val (.long q1), .second, .val (.ref b1)] [(.int (5 : Int32)), (.ref b1)])) t
                refine XS.lloadN X16.here hx rfl (hb hby d1_75) rfl ?_
                show Steps p.tables e below (T16.setTop (mkF m 76 #[.val (.int p0), .val (.long q1), .second, .val (.ref b1)] [(.long q1), (.int (5 : Int32)), (.ref b1)])) t
                refine XS.iconst X16.here hx rfl (hb hby d1_76) ?_
                exact kt
              obtain ⟨_, _, ⟨T18, L18, k18, n18⟩, -, X18, ⟨Lc18, hQ18, l18, y18, z18⟩, st18⟩ := Jvm.LawKit.callS X16 hx (y := (⟨"com/example/honeyguide/honeyguide/index/KeyHashCodePinLaw", "at", "(JI)B"⟩ : MethodName)) hown (mvT hZ (hw _ (List.mem_of_getElem? (i := 46) rfl))) (mvT hZ (hw _ (List.mem_of_getElem? (i := 47) rfl))) (mvT hZ (hw _ (List.mem_of_getElem? (i := 2) rfl))) (mvT hZ (hw _ (List.mem_of_getElem? (i := 48) rfl))) (by decide) (backOf (W := 2) (rm10 l Z aw hw [] q1 (5 : Int32) h16 n0 (Nat.le_trans Z0 K16.1) ) hZ (hw _ (List.mem_of_getElem? (i := 48) rfl)) (hw _ (List.mem_of_getElem? (i := 2) rfl)) (by decide) (by decide)) (g := (mkF m 77 #[.val (.int p0), .val (.long q1), .second, .val (.ref b1)] [(.int (5 : Int32)), (.long q1), (.int (5 : Int32)), (.ref b1)])) rfl (by rw [hml]; rfl) (argsL := [(.long q1), (.int (5 : Int32))]) (rest := [(.int (5 : Int32)), (.ref b1)]) (lenOf pd_6 rfl) rfl (by show 2 * 0 + _ ≤ _; exact Nat.le_of_eq rfl) (hb hby d1_77) (fun _ _ => ⟨rfl, e16, (by decide : 1 + 0 ≤ _), (by decide : 8 + 0 ≤ _)⟩)
              dsimp only [Pt.U, Pt.locs, Pt.cells, Pt.slots] at X18 l18 y18 z18 st18 hQ18
              subst l18 y18 z18
              obtain ⟨rfl, N18q, e18⟩ := hQ18
              have N18 := Fr.app N16 N18q
              refine own_by (A' := T18.setTop (mkF m 80 #[.val (.int p0), .val (.long q1), .second, .val (.ref b1)] [(.int (own_f10 q1 (5 : Int32))), (.int (5 : Int32)), (.ref b1)])) (fun t kt => st18 t kt) ?_
              obtain ⟨cl19, Ar19, Sz19, Mn19, Ha19⟩ := id V16
              have hin19 := inb_of (j := (5 : Int32)) Sz19 ⟨by decide, hc70_17⟩
              obtain ⟨T19, h19, X19, e19, W19, st19⟩ := stB X18 hx hZ e18 Ar19 (j := (5 : Int32)) hin19 (g := (mkF m 80 #[.val (.int p0), .val (.long q1), .second, .val (.ref b1)] [(.int (own_f10 q1 (5 : Int32))), (.int (5 : Int32)), (.ref b1)])) rfl rfl (hb hby d1_80)
              have V19 : AF Z h19 b1 .byte p0 (fun i => if i = ((5 : Int32)).toNatClampNeg then (.int (nar .byte (own_f10 q1 (5 : Int32)))) else if i = ((4 : Int32)).toNatClampNeg then (.int (nar .byte (own_f10 q1 (4 : Int32)))) else if i = ((3 : Int32)).toNatClampNeg then (.int (nar .byte (own_f10 q1 (3 : Int32)))) else if i = ((2 : Int32)).toNatClampNeg then (.int (nar .byte (own_f10 q1 (2 : Int32)))) else if i = ((1 : Int32)).toNatClampNeg then (.int (nar .byte (own_f10 q1 (1 : Int32)))) else if i = ((0 : Int32)).toNatClampNeg then (.int (nar .byte (own_f10 q1 (0 : Int32)))) else .int (0 : Int32)) := AF.set Ar19 Sz19 Mn19 Ha19 hin19 W19
              have N19 := Fr.snoc X19 N18 g_b1
              have K19 : Keep h0 h19 [] := K16.wr W19 (Or.inr sz_b1)
              refine own_by (A' := T19.setTop (mkF m 81 #[.val (.int p0), .val (.long q1), .second, .val (.ref b1)] [])) (fun t kt => st19 t kt) ?_
              refine own_by (A' := T19.setTop (mkF m 84 #[.val (.int p0), .val (.long q1), .second, .val (.ref b1)] [(.int (6 : Int32)), (.int p0)])) (fun t kt => ?_) ?_
              · show Steps p.tables e below (T19.setTop (mkF m 81 #[.val (.int p0), .val (.long q1), .second, .val (.ref b1)] [])) t
                refine XS.iloadN X19.here hx rfl (hb hby d1_81) rfl ?_
                show Steps p.tables e below (T19.setTop (mkF m 82 #[.val (.int p0), .val (.long q1), .second, .val (.ref b1)] [(.int p0)])) t
                refine XS.bipush X19.here hx rfl (hb hby d1_82) ?_
                exact kt
              by_cases hc84_20 : (6 : Int32) < p0
              · refine own_by (A' := T19.setTop (mkF m 93 #[.val (.int p0), .val (.long q1), .second, .val (.ref b1)] [(.int (6 : Int32)), (.long q1), (.int (6 : Int32)), (.ref b1)])) (fun t kt => ?_) ?_
                · show Steps p.tables e below (T19.setTop (mkF m 84 #[.val (.int p0), .val (.long q1), .second, .val (.ref b1)] [(.int (6 : Int32)), (.int p0)])) t
                  refine XS.icmpNo X19.here hx rfl (hb hby d1_84) rfl (tlt hc84_20).2.2.2 ?_
                  show Steps p.tables e below (T19.setTop (mkF m 87 #[.val (.int p0), .val (.long q1), .second, .val (.ref b1)] [])) t
                  refine XS.aloadN X19.here hx rfl (hb hby d1_87) rfl rfl ?_
                  show Steps p.tables e below (T19.setTop (mkF m 88 #[.val (.int p0), .val (.long q1), .second, .val (.ref b1)] [(.ref b1)])) t
                  refine XS.bipush X19.here hx rfl (hb hby d1_88) ?_
                  show Steps p.tables e below (T19.setTop (mkF m 90 #[.val (.int p0), .val (.long q1), .second, .val (.ref b1)] [(.int (6 : Int32)), (.ref b1)])) t
                  refine XS.lloadN X19.here hx rfl (hb hby d1_90) rfl ?_
                  show Steps p.tables e below (T19.setTop (mkF m 91 #[.val (.int p0), .val (.long q1), .second, .val (.ref b1)] [(.long q1), (.int (6 : Int32)), (.ref b1)])) t
                  refine XS.bipush X19.here hx rfl (hb hby d1_91) ?_
                  exact kt
                obtain ⟨_, _, ⟨T21, L21, k21, n21⟩, -, X21, ⟨Lc21, hQ21, l21, y21, z21⟩, st21⟩ := Jvm.LawKit.callS X19 hx (y := (⟨"com/example/honeyguide/honeyguide/index/KeyHashCodePinLaw", "at", "(JI)B"⟩ : MethodName)) hown (mvT hZ (hw _ (List.mem_of_getElem? (i := 46) rfl))) (mvT hZ (hw _ (List.mem_of_getElem? (i := 47) rfl))) (mvT hZ (hw _ (List.mem_of_getElem? (i := 2) rfl))) (mvT hZ (hw _ (List.mem_of_getElem? (i := 48) rfl))) (by decide) (backOf (W := 2) (rm10 l Z aw hw [] q1 (6 : Int32) h19 n0 (Nat.le_trans Z0 K19.1) ) hZ (hw _ (List.mem_of_getElem? (i := 48) rfl)) (hw _ (List.mem_of_getElem? (i := 2) rfl)) (by decide) (by decide)) (g := (mkF m 93 #[.val (.int p0), .val (.long q1), .second, .val (.ref b1)] [(.int (6 : Int32)), (.long q1), (.int (6 : Int32)), (.ref b1)])) rfl (by rw [hml]; rfl) (argsL := [(.long q1), (.int (6 : Int32))]) (rest := [(.int (6 : Int32)), (.ref b1)]) (lenOf pd_6 rfl) rfl (by show 2 * 0 + _ ≤ _; exact Nat.le_of_eq rfl) (hb hby d1_93) (fun _ _ => ⟨rfl, e19, (by decide : 1 + 0 ≤ _), (by decide : 8 + 0 ≤ _)⟩)
                dsimp only [Pt.U, Pt.locs, Pt.cells, Pt.slots] at X21 l21 y21 z21 st21 hQ21
                subst l21 y21 z21
                obtain ⟨rfl, N21q, e21⟩ := hQ21
                have N21 := Fr.app N19 N21q
                refine own_by (A' := T21.setTop (mkF m 96 #[.val (.int p0), .val (.long q1), .second, .val (.ref b1)] [(.int (own_f10 q1 (6 : Int32))), (.int (6 : Int32)), (.ref b1)])) (fun t kt => st21 t kt) ?_
                obtain ⟨cl22, Ar22, Sz22, Mn22, Ha22⟩ := id V19
                have hin22 := inb_of (j := (6 : Int32)) Sz22 ⟨by decide, hc84_20⟩
                obtain ⟨T22, h22, X22, e22, W22, st22⟩ := stB X21 hx hZ e21 Ar22 (j := (6 : Int32)) hin22 (g := (mkF m 96 #[.val (.int p0), .val (.long q1), .second, .val (.ref b1)] [(.int (own_f10 q1 (6 : Int32))), (.int (6 : Int32)), (.ref b1)])) rfl rfl (hb hby d1_96)
                have V22 : AF Z h22 b1 .byte p0 (fun i => if i = ((6 : Int32)).toNatClampNeg then (.int (nar .byte (own_f10 q1 (6 : Int32)))) else if i = ((5 : Int32)).toNatClampNeg then (.int (nar .byte (own_f10 q1 (5 : Int32)))) else if i = ((4 : Int32)).toNatClampNeg then (.int (nar .byte (own_f10 q1 (4 : Int32)))) else if i = ((3 : Int32)).toNatClampNeg then (.int (nar .byte (own_f10 q1 (3 : Int32)))) else if i = ((2 : Int32)).toNatClampNeg then (.int (nar .byte (own_f10 q1 (2 : Int32)))) else if i = ((1 : Int32)).toNatClampNeg then (.int (nar .byte (own_f10 q1 (1 : Int32)))) else if i = ((0 : Int32)).toNatClampNeg then (.int (nar .byte (own_f10 q1 (0 : Int32)))) else .int (0 : Int32)) := AF.set Ar22 Sz22 Mn22 Ha22 hin22 W22
                have N22 := Fr.snoc X22 N21 g_b1
                have K22 : Keep h0 h22 [] := K19.wr W22 (Or.inr sz_b1)
                refine own_by (A' := T22.setTop (mkF m 97 #[.val (.int p0), .val (.long q1), .second, .val (.ref b1)] [])) (fun t kt => st22 t kt) ?_
                refine own_by (A' := T22.setTop (mkF m 100 #[.val (.int p0), .val (.long q1), .second, .val (.ref b1)] [(.int (7 : Int32)), (.int p0)])) (fun t kt => ?_) ?_
                · show Steps p.tables e below (T22.setTop (mkF m 97 #[.val (.int p0), .val (.long q1), .second, .val (.ref b1)] [])) t
                  refine XS.iloadN X22.here hx rfl (hb hby d1_97) rfl ?_
                  show Steps p.tables e below (T22.setTop (mkF m 98 #[.val (.int p0), .val (.long q1), .second, .val (.ref b1)] [(.int p0)])) t
                  refine XS.bipush X22.here hx rfl (hb hby d1_98) ?_
                  exact kt
                by_cases hc100_23 : (7 : Int32) < p0
                · refine own_by (A' := T22.setTop (mkF m 109 #[.val (.int p0), .val (.long q1), .second, .val (.ref b1)] [(.int (7 : Int32)), (.long q1), (.int (7 : Int32)), (.ref b1)])) (fun t kt => ?_) ?_
                  · show Steps p.tables e below (T22.setTop (mkF m 100 #[.val (.int p0), .val (.long q1), .second, .val (.ref b1)] [(.int (7 : Int32)), (.int p0)])) t
                    refine XS.icmpNo X22.here hx rfl (hb hby d1_100) rfl (tlt hc100_23).2.2.2 ?_
                    show Steps p.tables e below (T22.setTop (mkF m 103 #[.val (.int p0), .val (.long q1), .second, .val (.ref b1)] [])) t
                    refine XS.aloadN X22.here hx rfl (hb hby d1_103) rfl rfl ?_
                    show Steps p.tables e below (T22.setTop (mkF m 104 #[.val (.int p0), .val (.long q1), .second, .val (.ref b1)] [(.ref b1)])) t
                    refine XS.bipush X22.here hx rfl (hb hby d1_104) ?_
                    show Steps p.tables e below (T22.setTop (mkF m 106 #[.val (.int p0), .val (.long q1), .second, .val (.ref b1)] [(.int (7 : Int32)), (.ref b1)])) t
                    refine XS.lloadN X22.here hx rfl (hb hby d1_106) rfl ?_
                    show Steps p.tables e below (T22.setTop (mkF m 107 #[.val (.int p0), .val (.long q1), .second, .val (.ref b1)] [(.long q1), (.int (7 : Int32)), (.ref b1)])) t
                    refine XS.bipush X22.here hx rfl (hb hby d1_107) ?_
                    exact kt
                  obtain ⟨_, _, ⟨T24, L24, k24, n24⟩, -, X24, ⟨Lc24, hQ24, l24, y24, z24⟩, st24⟩ := Jvm.LawKit.callS X22 hx (y := (⟨"com/example/honeyguide/honeyguide/index/KeyHashCodePinLaw", "at", "(JI)B"⟩ : MethodName)) hown (mvT hZ (hw _ (List.mem_of_getElem? (i := 46) rfl))) (mvT hZ (hw _ (List.mem_of_getElem? (i := 47) rfl))) (mvT hZ (hw _ (List.mem_of_getElem? (i := 2) rfl))) (mvT hZ (hw _ (List.mem_of_getElem? (i := 48) rfl))) (by decide) (backOf (W := 2) (rm10 l Z aw hw [] q1 (7 : Int32) h22 n0 (Nat.le_trans Z0 K22.1) ) hZ (hw _ (List.mem_of_getElem? (i := 48) rfl)) (hw _ (List.mem_of_getElem? (i := 2) rfl)) (by decide) (by decide)) (g := (mkF m 109 #[.val (.int p0), .val (.long q1), .second, .val (.ref b1)] [(.int (7 : Int32)), (.long q1), (.int (7 : Int32)), (.ref b1)])) rfl (by rw [hml]; rfl) (argsL := [(.long q1), (.int (7 : Int32))]) (rest := [(.int (7 : Int32)), (.ref b1)]) (lenOf pd_6 rfl) rfl (by show 2 * 0 + _ ≤ _; exact Nat.le_of_eq rfl) (hb hby d1_109) (fun _ _ => ⟨rfl, e22, (by decide : 1 + 0 ≤ _), (by decide : 8 + 0 ≤ _)⟩)
                  dsimp only [Pt.U, Pt.locs, Pt.cells, Pt.slots] at X24 l24 y24 z24 st24 hQ24
                  subst l24 y24 z24
                  obtain ⟨rfl, N24q, e24⟩ := hQ24
                  have N24 := Fr.app N22 N24q
                  refine own_by (A' := T24.setTop (mkF m 112 #[.val (.int p0), .val (.long q1), .second, .val (.ref b1)] [(.int (own_f10 q1 (7 : Int32))), (.int (7 : Int32)), (.ref b1)])) (fun t kt => st24 t kt) ?_
                  obtain ⟨cl25, Ar25, Sz25, Mn25, Ha25⟩ := id V22
                  have hin25 := inb_of (j := (7 : Int32)) Sz25 ⟨by decide, hc100_23⟩
                  obtain ⟨T25, h25, X25, e25, W25, st25⟩ := stB X24 hx hZ e24 Ar25 (j := (7 : Int32)) hin25 (g := (mkF m 112 #[.val (.int p0), .val (.long q1), .second, .val (.ref b1)] [(.int (own_f10 q1 (7 : Int32))), (.int (7 : Int32)), (.ref b1)])) rfl rfl (hb hby d1_112)
                  have V25 : AF Z h25 b1 .byte p0 (fun i => if i = ((7 : Int32)).toNatClampNeg then (.int (nar .byte (own_f10 q1 (7 : Int32)))) else if i = ((6 : Int32)).toNatClampNeg then (.int (nar .byte (own_f10 q1 (6 : Int32)))) else if i = ((5 : Int32)).toNatClampNeg then (.int (nar .byte (own_f10 q1 (5 : Int32)))) else if i = ((4 : Int32)).toNatClampNeg then (.int (nar .byte (own_f10 q1 (4 : Int32)))) else if i = ((3 : Int32)).toNatClampNeg then (.int (nar .byte (own_f10 q1 (3 : Int32)))) else if i = ((2 : Int32)).toNatClampNeg then (.int (nar .byte (own_f10 q1 (2 : Int32)))) else if i = ((1 : Int32)).toNatClampNeg then (.int (nar .byte (own_f10 q1 (1 : Int32)))) else if i = ((0 : Int32)).toNatClampNeg then (.int (nar .byte (own_f10 q1 (0 : Int32)))) else .int (0 : Int32)) := AF.set Ar25 Sz25 Mn25 Ha25 hin25 W25
                  have N25 := Fr.snoc X25 N24 g_b1
                  have K25 : Keep h0 h25 [] := K22.wr W25 (Or.inr sz_b1)
                  refine own_by (A' := T25.setTop (mkF m 113 #[.val (.int p0), .val (.long q1), .second, .val (.ref b1)] [])) (fun t kt => st25 t kt) ?_
                  refine own_by (A' := T25.setTop (mkF m 114 #[.val (.int p0), .val (.long q1), .second, .val (.ref b1)] [(.ref b1)])) (fun t kt => ?_) ?_
                  · show Steps p.tables e below (T25.setTop (mkF m 113 #[.val (.int p0), .val (.long q1), .second, .val (.ref b1)] [])) t
                    refine XS.aloadN X25.here hx rfl (hb hby d1_113) rfl rfl ?_
                    exact kt
                  obtain ⟨fs, hr, hrun, hended, hW, hsame⟩ := X25.leave (v := some (.ref b1)) (fun h => by rw [Bd.returns] at h; cases h)
                  refine ⟨_, _, ?_, hrun, hended, _, _, rfl, ?_, ⟨_, rfl⟩, hW, hsame.mono (by decide) (by decide)⟩
                  · exact own_retA X25 hx Bd.returns rfl (hb hby d1_114) hr
                  · show Q1 Z p0 q1 h0 n0 _ T25.heap _
                    rw [e25]
                    exact ⟨_, rfl, N25, sz_b1, K25, AF.to V25 (fun i hi => by
                        have hi' : i < 8 := Nat.lt_of_lt_of_le hi hn8
                        match i, hi' with
                        | 0, _ => rfl
                        | 1, _ => rfl
                        | 2, _ => rfl
                        | 3, _ => rfl
                        | 4, _ => rfl
                        | 5, _ => rfl
                        | 6, _ => rfl
                        | 7, _ => rfl)⟩
                · refine own_by (A' := T22.setTop (mkF m 114 #[.val (.int p0), .val (.long q1), .second, .val (.ref b1)] [(.ref b1)])) (fun t kt => ?_) ?_
                  · show Steps p.tables e below (T22.setTop (mkF m 100 #[.val (.int p0), .val (.long q1), .second, .val (.ref b1)] [(.int (7 : Int32)), (.int p0)])) t
                    refine XS.icmpYes X22.here hx rfl (pc0 := 100) (pc' := 113) rfl (hb hby d1_100) rfl (flt hc100_23).2.2.2 (by decide) (by decide) ?_
                    show Steps p.tables e below (T22.setTop (mkF m 113 #[.val (.int p0), .val (.long q1), .second, .val (.ref b1)] [])) t
                    refine XS.aloadN X22.here hx rfl (hb hby d1_113) rfl rfl ?_
                    exact kt
                  obtain ⟨fs, hr, hrun, hended, hW, hsame⟩ := X22.leave (v := some (.ref b1)) (fun h => by rw [Bd.returns] at h; cases h)
                  refine ⟨_, _, ?_, hrun, hended, _, _, rfl, ?_, ⟨_, rfl⟩, hW, hsame.mono (by decide) (by decide)⟩
                  · exact own_retA X22 hx Bd.returns rfl (hb hby d1_114) hr
                  · show Q1 Z p0 q1 h0 n0 _ T22.heap _
                    rw [e22]
                    exact ⟨_, rfl, N22, sz_b1, K22, AF.to V22 (fun i hi => by
                        have hi' : i < 7 := Nat.lt_of_lt_of_le hi (own_lt hc100_23)
                        match i, hi' with
                        | 0, _ => rfl
                        | 1, _ => rfl
                        | 2, _ => rfl
                        | 3, _ => rfl
                        | 4, _ => rfl
                        | 5, _ => rfl
                        | 6, _ => rfl)⟩
              · refine own_by (A' := T19.setTop (mkF m 100 #[.val (.int p0), .val (.long q1), .second, .val (.ref b1)] [(.int (7 : Int32)), (.int p0)])) (fun t kt => ?_) ?_
                · show Steps p.tables e below (T19.setTop (mkF m 84 #[.val (.int p0), .val (.long q1), .second, .val (.ref b1)] [(.int (6 : Int32)), (.int p0)])) t
                  refine XS.icmpYes X19.here hx rfl (pc0 := 84) (pc' := 97) rfl (hb hby d1_84) rfl (flt hc84_20).2.2.2 (by decide) (by decide) ?_
                  show Steps p.tables e below (T19.setTop (mkF m 97 #[.val (.int p0), .val (.long q1), .second, .val (.ref b1)] [])) t
                  refine XS.iloadN X19.here hx rfl (hb hby d1_97) rfl ?_
                  show Steps p.tables e below (T19.setTop (mkF m 98 #[.val (.int p0), .val (.long q1), .second, .val (.ref b1)] [(.int p0)])) t
                  refine XS.bipush X19.here hx rfl (hb hby d1_98) ?_
                  exact kt
                have hc100_26 : ¬ ((7 : Int32) < p0) := fun q => hc84_20 (Int32.lt_trans (by decide) q)
                refine own_by (A' := T19.setTop (mkF m 114 #[.val (.int p0), .val (.long q1), .second, .val (.ref b1)] [(.ref b1)])) (fun t kt => ?_) ?_
                · show Steps p.tables e below (T19.setTop (mkF m 100 #[.val (.int p0), .val (.long q1), .second, .val (.ref b1)] [(.int (7 : Int32)), (.int p0)])) t
                  refine XS.icmpYes X19.here hx rfl (pc0 := 100) (pc' := 113) rfl (hb hby d1_100) rfl (flt hc100_26).2.2.2 (by decide) (by decide) ?_
                  show Steps p.tables e below (T19.setTop (mkF m 113 #[.val (.int p0), .val (.long q1), .second, .val (.ref b1)] [])) t
                  refine XS.aloadN X19.here hx rfl (hb hby d1_113) rfl rfl ?_
                  exact kt
                obtain ⟨fs, hr, hrun, hended, hW, hsame⟩ := X19.leave (v := some (.ref b1)) (fun h => by rw [Bd.returns] at h; cases h)
                refine ⟨_, _, ?_, hrun, hended, _, _, rfl, ?_, ⟨_, rfl⟩, hW, hsame.mono (by decide) (by decide)⟩
                · exact own_retA X19 hx Bd.returns rfl (hb hby d1_114) hr
                · show Q1 Z p0 q1 h0 n0 _ T19.heap _
                  rw [e19]
                  exact ⟨_, rfl, N19, sz_b1, K19, AF.to V19 (fun i hi => by
                      have hi' : i < 6 := Nat.lt_of_lt_of_le hi (own_lt hc84_20)
                      match i, hi' with
                      | 0, _ => rfl
                      | 1, _ => rfl
                      | 2, _ => rfl
                      | 3, _ => rfl
                      | 4, _ => rfl
                      | 5, _ => rfl)⟩
            · refine own_by (A' := T16.setTop (mkF m 84 #[.val (.int p0), .val (.long q1), .second, .val (.ref b1)] [(.int (6 : Int32)), (.int p0)])) (fun t kt => ?_) ?_
              · show Steps p.tables e below (T16.setTop (mkF m 70 #[.val (.int p0), .val (.long q1), .second, .val (.ref b1)] [(.int (5 : Int32)), (.int p0)])) t
                refine XS.icmpYes X16.here hx rfl (pc0 := 70) (pc' := 81) rfl (hb hby d1_70) rfl (flt hc70_17).2.2.2 (by decide) (by decide) ?_
                show Steps p.tables e below (T16.setTop (mkF m 81 #[.val (.int p0), .val (.long q1), .second, .val (.ref b1)] [])) t
                refine XS.iloadN X16.here hx rfl (hb hby d1_81) rfl ?_
                show Steps p.tables e below (T16.setTop (mkF m 82 #[.val (.int p0), .val (.long q1), .second, .val (.ref b1)] [(.int p0)])) t
                refine XS.bipush X16.here hx rfl (hb hby d1_82) ?_
                exact kt
              have hc84_27 : ¬ ((6 : Int32) < p0) := fun q => hc70_17 (Int32.lt_trans (by decide) q)
              refine own_by (A' := T16.setTop (mkF m 100 #[.val (.int p0), .val (.long q1), .second, .val (.ref b1)] [(.int (7 : Int32)), (.int p0)])) (fun t kt => ?_) ?_
              · show Steps p.tables e below (T16.setTop (mkF m 84 #[.val (.int p0), .val (.long q1), .second, .val (.ref b1)] [(.int (6 : Int32)), (.int p0)])) t
                refine XS.icmpYes X16.here hx rfl (pc0 := 84) (pc' := 97) rfl (hb hby d1_84) rfl (flt hc84_27).2.2.2 (by decide) (by decide) ?_
                show Steps p.tables e below (T16.setTop (mkF m 97 #[.val (.int p0), .val (.long q1), .second, .val (.ref b1)] [])) t
                refine XS.iloadN X16.here hx rfl (hb hby d1_97) rfl ?_
                show Steps p.tables e below (T16.setTop (mkF m 98 #[.val (.int p0), .val (.long q1), .second, .val (.ref b1)] [(.int p0)])) t
                refine XS.bipush X16.here hx rfl (hb hby d1_98) ?_
                exact kt
              have hc100_28 : ¬ ((7 : Int32) < p0) := fun q => hc70_17 (Int32.lt_trans (by decide) q)
              refine own_by (A' := T16.setTop (mkF m 114 #[.val (.int p0), .val (.long q1), .second, .val (.ref b1)] [(.ref b1)])) (fun t kt => ?_) ?_
              · show Steps p.tables e below (T16.setTop (mkF m 100 #[.val (.int p0), .val (.long q1), .second, .val (.ref b1)] [(.int (7 : Int32)), (.int p0)])) t
                refine XS.icmpYes X16.here hx rfl (pc0 := 100) (pc' := 113) rfl (hb hby d1_100) rfl (flt hc100_28).2.2.2 (by decide) (by decide) ?_
                show Steps p.tables e below (T16.setTop (mkF m 113 #[.val (.int p0), .val (.long q1), .second, .val (.ref b1)] [])) t
                refine XS.aloadN X16.here hx rfl (hb hby d1_113) rfl rfl ?_
                exact kt
              obtain ⟨fs, hr, hrun, hended, hW, hsame⟩ := X16.leave (v := some (.ref b1)) (fun h => by rw [Bd.returns] at h; cases h)
              refine ⟨_, _, ?_, hrun, hended, _, _, rfl, ?_, ⟨_, rfl⟩, hW, hsame.mono (by decide) (by decide)⟩
              · exact own_retA X16 hx Bd.returns rfl (hb hby d1_114) hr
              · show Q1 Z p0 q1 h0 n0 _ T16.heap _
                rw [e16]
                exact ⟨_, rfl, N16, sz_b1, K16, AF.to V16 (fun i hi => by
                    have hi' : i < 5 := Nat.lt_of_lt_of_le hi (own_lt hc70_17)
                    match i, hi' with
                    | 0, _ => rfl
                    | 1, _ => rfl
                    | 2, _ => rfl
                    | 3, _ => rfl
                    | 4, _ => rfl)⟩
          · refine own_by (A' := T13.setTop (mkF m 70 #[.val (.int p0), .val (.long q1), .second, .val (.ref b1)] [(.int (5 : Int32)), (.int p0)])) (fun t kt => ?_) ?_
            · show Steps p.tables e below (T13.setTop (mkF m 57 #[.val (.int p0), .val (.long q1), .second, .val (.ref b1)] [(.int (4 : Int32)), (.int p0)])) t
              refine XS.icmpYes X13.here hx rfl (pc0 := 57) (pc' := 68) rfl (hb hby d1_57) rfl (flt hc57_14).2.2.2 (by decide) (by decide) ?_
              show Steps p.tables e below (T13.setTop (mkF m 68 #[.val (.int p0), .val (.long q1), .second, .val (.ref b1)] [])) t
              refine XS.iloadN X13.here hx rfl (hb hby d1_68) rfl ?_
              show Steps p.tables e below (T13.setTop (mkF m 69 #[.val (.int p0), .val (.long q1), .second, .val (.ref b1)] [(.int p0)])) t
              refine XS.iconst X13.here hx rfl (hb hby d1_69) ?_
              exact kt
            have hc70_29 : ¬ ((5 : Int32) < p0) := fun q => hc57_14 (Int32.lt_trans (by decide) q)
            refine own_by (A' := T13.setTop (mkF m 84 #[.val (.int p0), .val (.long q1), .second, .val (.ref b1)] [(.int (6 : Int32)), (.int p0)])) (fun t kt => ?_) ?_
            · show Steps p.tables e below (T13.setTop (mkF m 70 #[.val (.int p0), .val (.long q1), .second, .val (.ref b1)] [(.int (5 : Int32)), (.int p0)])) t
              refine XS.icmpYes X13.here hx rfl (pc0 := 70) (pc' := 81) rfl (hb hby d1_70) rfl (flt hc70_29).2.2.2 (by decide) (by decide) ?_
              show Steps p.tables e below (T13.setTop (mkF m 81 #[.val (.int p0), .val (.long q1), .second, .val (.ref b1)] [])) t
              refine XS.iloadN X13.here hx rfl (hb hby d1_81) rfl ?_
              show Steps p.tables e below (T13.setTop (mkF m 82 #[.val (.int p0), .val (.long q1), .second, .val (.ref b1)] [(.int p0)])) t
              refine XS.bipush X13.here hx rfl (hb hby d1_82) ?_
              exact kt
            have hc84_30 : ¬ ((6 : Int32) < p0) := fun q => hc57_14 (Int32.lt_trans (by decide) q)
            refine own_by (A' := T13.setTop (mkF m 100 #[.val (.int p0), .val (.long q1), .second, .val (.ref b1)] [(.int (7 : Int32)), (.int p0)])) (fun t kt => ?_) ?_
            · show Steps p.tables e below (T13.setTop (mkF m 84 #[.val (.int p0), .val (.long q1), .second, .val (.ref b1)] [(.int (6 : Int32)), (.int p0)])) t
              refine XS.icmpYes X13.here hx rfl (pc0 := 84) (pc' := 97) rfl (hb hby d1_84) rfl (flt hc84_30).2.2.2 (by decide) (by decide) ?_
              show Steps p.tables e below (T13.setTop (mkF m 97 #[.val (.int p0), .val (.long q1), .second, .val (.ref b1)] [])) t
              refine XS.iloadN X13.here hx rfl (hb hby d1_97) rfl ?_
              show Steps p.tables e below (T13.setTop (mkF m 98 #[.val (.int p0), .val (.long q1), .second, .val (.ref b1)] [(.int p0)])) t
              refine XS.bipush X13.here hx rfl (hb hby d1_98) ?_
              exact kt
            have hc100_31 : ¬ ((7 : Int32) < p0) := fun q => hc57_14 (Int32.lt_trans (by decide) q)
            refine own_by (A' := T13.setTop (mkF m 114 #[.val (.int p0), .val (.long q1), .second, .val (.ref b1)] [(.ref b1)])) (fun t kt => ?_) ?_
            · show Steps p.tables e below (T13.setTop (mkF m 100 #[.val (.int p0), .val (.long q1), .second, .val (.ref b1)] [(.int (7 : Int32)), (.int p0)])) t
              refine XS.icmpYes X13.here hx rfl (pc0 := 100) (pc' := 113) rfl (hb hby d1_100) rfl (flt hc100_31).2.2.2 (by decide) (by decide) ?_
              show Steps p.tables e below (T13.setTop (mkF m 113 #[.val (.int p0), .val (.long q1), .second, .val (.ref b1)] [])) t
              refine XS.aloadN X13.here hx rfl (hb hby d1_113) rfl rfl ?_
              exact kt
            obtain ⟨fs, hr, hrun, hended, hW, hsame⟩ := X13.leave (v := some (.ref b1)) (fun h => by rw [Bd.returns] at h; cases h)
            refine ⟨_, _, ?_, hrun, hended, _, _, rfl, ?_, ⟨_, rfl⟩, hW, hsame.mono (by decide) (by decide)⟩
            · exact own_retA X13 hx Bd.returns rfl (hb hby d1_114) hr
            · show Q1 Z p0 q1 h0 n0 _ T13.heap _
              rw [e13]
              exact ⟨_, rfl, N13, sz_b1, K13, AF.to V13 (fun i hi => by
                  have hi' : i < 4 := Nat.lt_of_lt_of_le hi (own_lt hc57_14)
                  match i, hi' with
                  | 0, _ => rfl
                  | 1, _ => rfl
                  | 2, _ => rfl
                  | 3, _ => rfl)⟩
        · refine own_by (A' := T10.setTop (mkF m 57 #[.val (.int p0), .val (.long q1), .second, .val (.ref b1)] [(.int (4 : Int32)), (.int p0)])) (fun t kt => ?_) ?_
          · show Steps p.tables e below (T10.setTop (mkF m 44 #[.val (.int p0), .val (.long q1), .second, .val (.ref b1)] [(.int (3 : Int32)), (.int p0)])) t
            refine XS.icmpYes X10.here hx rfl (pc0 := 44) (pc' := 55) rfl (hb hby d1_44) rfl (flt hc44_11).2.2.2 (by decide) (by decide) ?_
            show Steps p.tables e below (T10.setTop (mkF m 55 #[.val (.int p0), .val (.long q1), .second, .val (.ref b1)] [])) t
            refine XS.iloadN X10.here hx rfl (hb hby d1_55) rfl ?_
            show Steps p.tables e below (T10.setTop (mkF m 56 #[.val (.int p0), .val (.long q1), .second, .val (.ref b1)] [(.int p0)])) t
            refine XS.iconst X10.here hx rfl (hb hby d1_56) ?_
            exact kt
          have hc57_32 : ¬ ((4 : Int32) < p0) := fun q => hc44_11 (Int32.lt_trans (by decide) q)
          refine own_by (A' := T10.setTop (mkF m 70 #[.val (.int p0), .val (.long q1), .second, .val (.ref b1)] [(.int (5 : Int32)), (.int p0)])) (fun t kt => ?_) ?_
          · show Steps p.tables e below (T10.setTop (mkF m 57 #[.val (.int p0), .val (.long q1), .second, .val (.ref b1)] [(.int (4 : Int32)), (.int p0)])) t
            refine XS.icmpYes X10.here hx rfl (pc0 := 57) (pc' := 68) rfl (hb hby d1_57) rfl (flt hc57_32).2.2.2 (by decide) (by decide) ?_
            show Steps p.tables e below (T10.setTop (mkF m 68 #[.val (.int p0), .val (.long q1), .second, .val (.ref b1)] [])) t
            refine XS.iloadN X10.here hx rfl (hb hby d1_68) rfl ?_
            show Steps p.tables e below (T10.setTop (mkF m 69 #[.val (.int p0), .val (.long q1), .second, .val (.ref b1)] [(.int p0)])) t
            refine XS.iconst X10.here hx rfl (hb hby d1_69) ?_
            exact kt
          have hc70_33 : ¬ ((5 : Int32) < p0) := fun q => hc44_11 (Int32.lt_trans (by decide) q)
          refine own_by (A' := T10.setTop (mkF m 84 #[.val (.int p0), .val (.long q1), .second, .val (.ref b1)] [(.int (6 : Int32)), (.int p0)])) (fun t kt => ?_) ?_
          · show Steps p.tables e below (T10.setTop (mkF m 70 #[.val (.int p0), .val (.long q1), .second, .val (.ref b1)] [(.int (5 : Int32)), (.int p0)])) t
            refine XS.icmpYes X10.here hx rfl (pc0 := 70) (pc' := 81) rfl (hb hby d1_70) rfl (flt hc70_33).2.2.2 (by decide) (by decide) ?_
            show Steps p.tables e below (T10.setTop (mkF m 81 #[.val (.int p0), .val (.long q1), .second, .val (.ref b1)] [])) t
            refine XS.iloadN X10.here hx rfl (hb hby d1_81) rfl ?_
            show Steps p.tables e below (T10.setTop (mkF m 82 #[.val (.int p0), .val (.long q1), .second, .val (.ref b1)] [(.int p0)])) t
            refine XS.bipush X10.here hx rfl (hb hby d1_82) ?_
            exact kt
          have hc84_34 : ¬ ((6 : Int32) < p0) := fun q => hc44_11 (Int32.lt_trans (by decide) q)
          refine own_by (A' := T10.setTop (mkF m 100 #[.val (.int p0), .val (.long q1), .second, .val (.ref b1)] [(.int (7 : Int32)), (.int p0)])) (fun t kt => ?_) ?_
          · show Steps p.tables e below (T10.setTop (mkF m 84 #[.val (.int p0), .val (.long q1), .second, .val (.ref b1)] [(.int (6 : Int32)), (.int p0)])) t
            refine XS.icmpYes X10.here hx rfl (pc0 := 84) (pc' := 97) rfl (hb hby d1_84) rfl (flt hc84_34).2.2.2 (by decide) (by decide) ?_
            show Steps p.tables e below (T10.setTop (mkF m 97 #[.val (.int p0), .val (.long q1), .second, .val (.ref b1)] [])) t
            refine XS.iloadN X10.here hx rfl (hb hby d1_97) rfl ?_
            show Steps p.tables e below (T10.setTop (mkF m 98 #[.val (.int p0), .val (.long q1), .second, .val (.ref b1)] [(.int p0)])) t
            refine XS.bipush X10.here hx rfl (hb hby d1_98) ?_
            exact kt
          have hc100_35 : ¬ ((7 : Int32) < p0) := fun q => hc44_11 (Int32.lt_trans (by decide) q)
          refine own_by (A' := T10.setTop (mkF m 114 #[.val (.int p0), .val (.long q1), .second, .val (.ref b1)] [(.ref b1)])) (fun t kt => ?_) ?_
          · show Steps p.tables e below (T10.setTop (mkF m 100 #[.val (.int p0), .val (.long q1), .second, .val (.ref b1)] [(.int (7 : Int32)), (.int p0)])) t
            refine XS.icmpYes X10.here hx rfl (pc0 := 100) (pc' := 113) rfl (hb hby d1_100) rfl (flt hc100_35).2.2.2 (by decide) (by decide) ?_
            show Steps p.tables e below (T10.setTop (mkF m 113 #[.val (.int p0), .val (.long q1), .second, .val (.ref b1)] [])) t
            refine XS.aloadN X10.here hx rfl (hb hby d1_113) rfl rfl ?_
            exact kt
          obtain ⟨fs, hr, hrun, hended, hW, hsame⟩ := X10.leave (v := some (.ref b1)) (fun h => by rw [Bd.returns] at h; cases h)
          refine ⟨_, _, ?_, hrun, hended, _, _, rfl, ?_, ⟨_, rfl⟩, hW, hsame.mono (by decide) (by decide)⟩
          · exact own_retA X10 hx Bd.returns rfl (hb hby d1_114) hr
          · show Q1 Z p0 q1 h0 n0 _ T10.heap _
            rw [e10]
            exact ⟨_, rfl, N10, sz_b1, K10, AF.to V10 (fun i hi => by
                have hi' : i < 3 := Nat.lt_of_lt_of_le hi (own_lt hc44_11)
                match i, hi' with
                | 0, _ => rfl
                | 1, _ => rfl
                | 2, _ => rfl)⟩
      · refine own_by (A' := T7.setTop (mkF m 44 #[.val (.int p0), .val (.long q1), .second, .val (.ref b1)] [(.int (3 : Int32)), (.int p0)])) (fun t kt => ?_) ?_
        · show Steps p.tables e below (T7.setTop (mkF m 31 #[.val (.int p0), .val (.long q1), .second, .val (.ref b1)] [(.int (2 : Int32)), (.int p0)])) t
          refine XS.icmpYes X7.here hx rfl (pc0 := 31) (pc' := 42) rfl (hb hby d1_31) rfl (flt hc31_8).2.2.2 (by decide) (by decide) ?_
          show Steps p.tables e below (T7.setTop (mkF m 42 #[.val (.int p0), .val (.long q1), .second, .val (.ref b1)] [])) t
          refine XS.iloadN X7.here hx rfl (hb hby d1_42) rfl ?_
          show Steps p.tables e below (T7.setTop (mkF m 43 #[.val (.int p0), .val (.long q1), .second, .val (.ref b1)] [(.int p0)])) t
          refine XS.iconst X7.here hx rfl (hb hby d1_43) ?_
          exact kt
        have hc44_36 : ¬ ((3 : Int32) < p0) := fun q => hc31_8 (Int32.lt_trans (by decide) q)
        refine own_by (A' := T7.setTop (mkF m 57 #[.val (.int p0), .val (.long q1), .second, .val (.ref b1)] [(.int (4 : Int32)), (.int p0)])) (fun t kt => ?_) ?_
        · show Steps p.tables e below (T7.setTop (mkF m 44 #[.val (.int p0), .val (.long q1), .second, .val (.ref b1)] [(.int (3 : Int32)), (.int p0)])) t
          refine XS.icmpYes X7.here hx rfl (pc0 := 44) (pc' := 55) rfl (hb hby d1_44) rfl (flt hc44_36).2.2.2 (by decide) (by decide) ?_
          show Steps p.tables e below (T7.setTop (mkF m 55 #[.val (.int p0), .val (.long q1), .second, .val (.ref b1)] [])) t
          refine XS.iloadN X7.here hx rfl (hb hby d1_55) rfl ?_
          show Steps p.tables e below (T7.setTop (mkF m 56 #[.val (.int p0), .val (.long q1), .second, .val (.ref b1)] [(.int p0)])) t
          refine XS.iconst X7.here hx rfl (hb hby d1_56) ?_
          exact kt
        have hc57_37 : ¬ ((4 : Int32) < p0) := fun q => hc31_8 (Int32.lt_trans (by decide) q)
        refine own_by (A' := T7.setTop (mkF m 70 #[.val (.int p0), .val (.long q1), .second, .val (.ref b1)] [(.int (5 : Int32)), (.int p0)])) (fun t kt => ?_) ?_
        · show Steps p.tables e below (T7.setTop (mkF m 57 #[.val (.int p0), .val (.long q1), .second, .val (.ref b1)] [(.int (4 : Int32)), (.int p0)])) t
          refine XS.icmpYes X7.here hx rfl (pc0 := 57) (pc' := 68) rfl (hb hby d1_57) rfl (flt hc57_37).2.2.2 (by decide) (by decide) ?_
          show Steps p.tables e below (T7.setTop (mkF m 68 #[.val (.int p0), .val (.long q1), .second, .val (.ref b1)] [])) t
          refine XS.iloadN X7.here hx rfl (hb hby d1_68) rfl ?_
          show Steps p.tables e below (T7.setTop (mkF m 69 #[.val (.int p0), .val (.long q1), .second, .val (.ref b1)] [(.int p0)])) t
          refine XS.iconst X7.here hx rfl (hb hby d1_69) ?_
          exact kt
        have hc70_38 : ¬ ((5 : Int32) < p0) := fun q => hc31_8 (Int32.lt_trans (by decide) q)
        refine own_by (A' := T7.setTop (mkF m 84 #[.val (.int p0), .val (.long q1), .second, .val (.ref b1)] [(.int (6 : Int32)), (.int p0)])) (fun t kt => ?_) ?_
        · show Steps p.tables e below (T7.setTop (mkF m 70 #[.val (.int p0), .val (.long q1), .second, .val (.ref b1)] [(.int (5 : Int32)), (.int p0)])) t
          refine XS.icmpYes X7.here hx rfl (pc0 := 70) (pc' := 81) rfl (hb hby d1_70) rfl (flt hc70_38).2.2.2 (by decide) (by decide) ?_
          show Steps p.tables e below (T7.setTop (mkF m 81 #[.val (.int p0), .val (.long q1), .second, .val (.ref b1)] [])) t
          refine XS.iloadN X7.here hx rfl (hb hby d1_81) rfl ?_
          show Steps p.tables e below (T7.setTop (mkF m 82 #[.val (.int p0), .val (.long q1), .second, .val (.ref b1)] [(.int p0)])) t
          refine XS.bipush X7.here hx rfl (hb hby d1_82) ?_
          exact kt
        have hc84_39 : ¬ ((6 : Int32) < p0) := fun q => hc31_8 (Int32.lt_trans (by decide) q)
        refine own_by (A' := T7.setTop (mkF m 100 #[.val (.int p0), .val (.long q1), .second, .val (.ref b1)] [(.int (7 : Int32)), (.int p0)])) (fun t kt => ?_) ?_
        · show Steps p.tables e below (T7.setTop (mkF m 84 #[.val (.int p0), .val (.long q1), .second, .val (.ref b1)] [(.int (6 : Int32)), (.int p0)])) t
          refine XS.icmpYes X7.here hx rfl (pc0 := 84) (pc' := 97) rfl (hb hby d1_84) rfl (flt hc84_39).2.2.2 (by decide) (by decide) ?_
          show Steps p.tables e below (T7.setTop (mkF m 97 #[.val (.int p0), .val (.long q1), .second, .val (.ref b1)] [])) t
          refine XS.iloadN X7.here hx rfl (hb hby d1_97) rfl ?_
          show Steps p.tables e below (T7.setTop (mkF m 98 #[.val (.int p0), .val (.long q1), .second, .val (.ref b1)] [(.int p0)])) t
          refine XS.bipush X7.here hx rfl (hb hby d1_98) ?_
          exact kt
        have hc100_40 : ¬ ((7 : Int32) < p0) := fun q => hc31_8 (Int32.lt_trans (by decide) q)
        refine own_by (A' := T7.setTop (mkF m 114 #[.val (.int p0), .val (.long q1), .second, .val (.ref b1)] [(.ref b1)])) (fun t kt => ?_) ?_
        · show Steps p.tables e below (T7.setTop (mkF m 100 #[.val (.int p0), .val (.long q1), .second, .val (.ref b1)] [(.int (7 : Int32)), (.int p0)])) t
          refine XS.icmpYes X7.here hx rfl (pc0 := 100) (pc' := 113) rfl (hb hby d1_100) rfl (flt hc100_40).2.2.2 (by decide) (by decide) ?_
          show Steps p.tables e below (T7.setTop (mkF m 113 #[.val (.int p0), .val (.long q1), .second, .val (.ref b1)] [])) t
          refine XS.aloadN X7.here hx rfl (hb hby d1_113) rfl rfl ?_
          exact kt
        obtain ⟨fs, hr, hrun, hended, hW, hsame⟩ := X7.leave (v := some (.ref b1)) (fun h => by rw [Bd.returns] at h; cases h)
        refine ⟨_, _, ?_, hrun, hended, _, _, rfl, ?_, ⟨_, rfl⟩, hW, hsame.mono (by decide) (by decide)⟩
        · exact own_retA X7 hx Bd.returns rfl (hb hby d1_114) hr
        · show Q1 Z p0 q1 h0 n0 _ T7.heap _
          rw [e7]
          exact ⟨_, rfl, N7, sz_b1, K7, AF.to V7 (fun i hi => by
              have hi' : i < 2 := Nat.lt_of_lt_of_le hi (own_lt hc31_8)
              match i, hi' with
              | 0, _ => rfl
              | 1, _ => rfl)⟩
    · refine own_by (A' := T4.setTop (mkF m 31 #[.val (.int p0), .val (.long q1), .second, .val (.ref b1)] [(.int (2 : Int32)), (.int p0)])) (fun t kt => ?_) ?_
      · show Steps p.tables e below (T4.setTop (mkF m 18 #[.val (.int p0), .val (.long q1), .second, .val (.ref b1)] [(.int (1 : Int32)), (.int p0)])) t
        refine XS.icmpYes X4.here hx rfl (pc0 := 18) (pc' := 29) rfl (hb hby d1_18) rfl (flt hc18_5).2.2.2 (by decide) (by decide) ?_
        show Steps p.tables e below (T4.setTop (mkF m 29 #[.val (.int p0), .val (.long q1), .second, .val (.ref b1)] [])) t
        refine XS.iloadN X4.here hx rfl (hb hby d1_29) rfl ?_
        show Steps p.tables e below (T4.setTop (mkF m 30 #[.val (.int p0), .val (.long q1), .second, .val (.ref b1)] [(.int p0)])) t
        refine XS.iconst X4.here hx rfl (hb hby d1_30) ?_
        exact kt
      have hc31_41 : ¬ ((2 : Int32) < p0) := fun q => hc18_5 (Int32.lt_trans (by decide) q)
      refine own_by (A' := T4.setTop (mkF m 44 #[.val (.int p0), .val (.long q1), .second, .val (.ref b1)] [(.int (3 : Int32)), (.int p0)])) (fun t kt => ?_) ?_
      · show Steps p.tables e below (T4.setTop (mkF m 31 #[.val (.int p0), .val (.long q1), .second, .val (.ref b1)] [(.int (2 : Int32)), (.int p0)])) t
        refine XS.icmpYes X4.here hx rfl (pc0 := 31) (pc' := 42) rfl (hb hby d1_31) rfl (flt hc31_41).2.2.2 (by decide) (by decide) ?_
        show Steps p.tables e below (T4.setTop (mkF m 42 #[.val (.int p0), .val (.long q1), .second, .val (.ref b1)] [])) t
        refine XS.iloadN X4.here hx rfl (hb hby d1_42) rfl ?_
        show Steps p.tables e below (T4.setTop (mkF m 43 #[.val (.int p0), .val (.long q1), .second, .val (.ref b1)] [(.int p0)])) t
        refine XS.iconst X4.here hx rfl (hb hby d1_43) ?_
        exact kt
      have hc44_42 : ¬ ((3 : Int32) < p0) := fun q => hc18_5 (Int32.lt_trans (by decide) q)
      refine own_by (A' := T4.setTop (mkF m 57 #[.val (.int p0), .val (.long q1), .second, .val (.ref b1)] [(.int (4 : Int32)), (.int p0)])) (fun t kt => ?_) ?_
      · show Steps p.tables e below (T4.setTop (mkF m 44 #[.val (.int p0), .val (.long q1), .second, .val (.ref b1)] [(.int (3 : Int32)), (.int p0)])) t
        refine XS.icmpYes X4.here hx rfl (pc0 := 44) (pc' := 55) rfl (hb hby d1_44) rfl (flt hc44_42).2.2.2 (by decide) (by decide) ?_
        show Steps p.tables e below (T4.setTop (mkF m 55 #[.val (.int p0), .val (.long q1), .second, .val (.ref b1)] [])) t
        refine XS.iloadN X4.here hx rfl (hb hby d1_55) rfl ?_
        show Steps p.tables e below (T4.setTop (mkF m 56 #[.val (.int p0), .val (.long q1), .second, .val (.ref b1)] [(.int p0)])) t
        refine XS.iconst X4.here hx rfl (hb hby d1_56) ?_
        exact kt
      have hc57_43 : ¬ ((4 : Int32) < p0) := fun q => hc18_5 (Int32.lt_trans (by decide) q)
      refine own_by (A' := T4.setTop (mkF m 70 #[.val (.int p0), .val (.long q1), .second, .val (.ref b1)] [(.int (5 : Int32)), (.int p0)])) (fun t kt => ?_) ?_
      · show Steps p.tables e below (T4.setTop (mkF m 57 #[.val (.int p0), .val (.long q1), .second, .val (.ref b1)] [(.int (4 : Int32)), (.int p0)])) t
        refine XS.icmpYes X4.here hx rfl (pc0 := 57) (pc' := 68) rfl (hb hby d1_57) rfl (flt hc57_43).2.2.2 (by decide) (by decide) ?_
        show Steps p.tables e below (T4.setTop (mkF m 68 #[.val (.int p0), .val (.long q1), .second, .val (.ref b1)] [])) t
        refine XS.iloadN X4.here hx rfl (hb hby d1_68) rfl ?_
        show Steps p.tables e below (T4.setTop (mkF m 69 #[.val (.int p0), .val (.long q1), .second, .val (.ref b1)] [(.int p0)])) t
        refine XS.iconst X4.here hx rfl (hb hby d1_69) ?_
        exact kt
      have hc70_44 : ¬ ((5 : Int32) < p0) := fun q => hc18_5 (Int32.lt_trans (by decide) q)
      refine own_by (A' := T4.setTop (mkF m 84 #[.val (.int p0), .val (.long q1), .second, .val (.ref b1)] [(.int (6 : Int32)), (.int p0)])) (fun t kt => ?_) ?_
      · show Steps p.tables e below (T4.setTop (mkF m 70 #[.val (.int p0), .val (.long q1), .second, .val (.ref b1)] [(.int (5 : Int32)), (.int p0)])) t
        refine XS.icmpYes X4.here hx rfl (pc0 := 70) (pc' := 81) rfl (hb hby d1_70) rfl (flt hc70_44).2.2.2 (by decide) (by decide) ?_
        show Steps p.tables e below (T4.setTop (mkF m 81 #[.val (.int p0), .val (.long q1), .second, .val (.ref b1)] [])) t
        refine XS.iloadN X4.here hx rfl (hb hby d1_81) rfl ?_
        show Steps p.tables e below (T4.setTop (mkF m 82 #[.val (.int p0), .val (.long q1), .second, .val (.ref b1)] [(.int p0)])) t
        refine XS.bipush X4.here hx rfl (hb hby d1_82) ?_
        exact kt
      have hc84_45 : ¬ ((6 : Int32) < p0) := fun q => hc18_5 (Int32.lt_trans (by decide) q)
      refine own_by (A' := T4.setTop (mkF m 100 #[.val (.int p0), .val (.long q1), .second, .val (.ref b1)] [(.int (7 : Int32)), (.int p0)])) (fun t kt => ?_) ?_
      · show Steps p.tables e below (T4.setTop (mkF m 84 #[.val (.int p0), .val (.long q1), .second, .val (.ref b1)] [(.int (6 : Int32)), (.int p0)])) t
        refine XS.icmpYes X4.here hx rfl (pc0 := 84) (pc' := 97) rfl (hb hby d1_84) rfl (flt hc84_45).2.2.2 (by decide) (by decide) ?_
        show Steps p.tables e below (T4.setTop (mkF m 97 #[.val (.int p0), .val (.long q1), .second, .val (.ref b1)] [])) t
        refine XS.iloadN X4.here hx rfl (hb hby d1_97) rfl ?_
        show Steps p.tables e below (T4.setTop (mkF m 98 #[.val (.int p0), .val (.long q1), .second, .val (.ref b1)] [(.int p0)])) t
        refine XS.bipush X4.here hx rfl (hb hby d1_98) ?_
        exact kt
      have hc100_46 : ¬ ((7 : Int32) < p0) := fun q => hc18_5 (Int32.lt_trans (by decide) q)
      refine own_by (A' := T4.setTop (mkF m 114 #[.val (.int p0), .val (.long q1), .second, .val (.ref b1)] [(.ref b1)])) (fun t kt => ?_) ?_
      · show Steps p.tables e below (T4.setTop (mkF m 100 #[.val (.int p0), .val (.long q1), .second, .val (.ref b1)] [(.int (7 : Int32)), (.int p0)])) t
        refine XS.icmpYes X4.here hx rfl (pc0 := 100) (pc' := 113) rfl (hb hby d1_100) rfl (flt hc100_46).2.2.2 (by decide) (by decide) ?_
        show Steps p.tables e below (T4.setTop (mkF m 113 #[.val (.int p0), .val (.long q1), .second, .val (.ref b1)] [])) t
        refine XS.aloadN X4.here hx rfl (hb hby d1_113) rfl rfl ?_
        exact kt
      obtain ⟨fs, hr, hrun, hended, hW, hsame⟩ := X4.leave (v := some (.ref b1)) (fun h => by rw [Bd.returns] at h; cases h)
      refine ⟨_, _, ?_, hrun, hended, _, _, rfl, ?_, ⟨_, rfl⟩, hW, hsame.mono (by decide) (by decide)⟩
      · exact own_retA X4 hx Bd.returns rfl (hb hby d1_114) hr
      · show Q1 Z p0 q1 h0 n0 _ T4.heap _
        rw [e4]
        exact ⟨_, rfl, N4, sz_b1, K4, AF.to V4 (fun i hi => by
            have hi' : i < 1 := Nat.lt_of_lt_of_le hi (own_lt hc18_5)
            match i, hi' with
            | 0, _ => rfl)⟩
  · refine own_by (A' := T1.setTop (mkF m 18 #[.val (.int p0), .val (.long q1), .second, .val (.ref b1)] [(.int (1 : Int32)), (.int p0)])) (fun t kt => ?_) ?_
    · show Steps p.tables e below (T1.setTop (mkF m 5 #[.val (.int p0), .val (.long q1), .second, .val (.ref b1)] [(.int p0)])) t
      refine XS.ifYes X1.here hx rfl (pc0 := 5) (pc' := 16) rfl (hb hby d1_5) rfl ((if0 _ _).trans (flt hc5_2).2.2.2) (by decide) (by decide) ?_
      show Steps p.tables e below (T1.setTop (mkF m 16 #[.val (.int p0), .val (.long q1), .second, .val (.ref b1)] [])) t
      refine XS.iloadN X1.here hx rfl (hb hby d1_16) rfl ?_
      show Steps p.tables e below (T1.setTop (mkF m 17 #[.val (.int p0), .val (.long q1), .second, .val (.ref b1)] [(.int p0)])) t
      refine XS.iconst X1.here hx rfl (hb hby d1_17) ?_
      exact kt
    have hc18_47 : ¬ ((1 : Int32) < p0) := fun q => hc5_2 (Int32.lt_trans (by decide) q)
    refine own_by (A' := T1.setTop (mkF m 31 #[.val (.int p0), .val (.long q1), .second, .val (.ref b1)] [(.int (2 : Int32)), (.int p0)])) (fun t kt => ?_) ?_
    · show Steps p.tables e below (T1.setTop (mkF m 18 #[.val (.int p0), .val (.long q1), .second, .val (.ref b1)] [(.int (1 : Int32)), (.int p0)])) t
      refine XS.icmpYes X1.here hx rfl (pc0 := 18) (pc' := 29) rfl (hb hby d1_18) rfl (flt hc18_47).2.2.2 (by decide) (by decide) ?_
      show Steps p.tables e below (T1.setTop (mkF m 29 #[.val (.int p0), .val (.long q1), .second, .val (.ref b1)] [])) t
      refine XS.iloadN X1.here hx rfl (hb hby d1_29) rfl ?_
      show Steps p.tables e below (T1.setTop (mkF m 30 #[.val (.int p0), .val (.long q1), .second, .val (.ref b1)] [(.int p0)])) t
      refine XS.iconst X1.here hx rfl (hb hby d1_30) ?_
      exact kt
    have hc31_48 : ¬ ((2 : Int32) < p0) := fun q => hc5_2 (Int32.lt_trans (by decide) q)
    refine own_by (A' := T1.setTop (mkF m 44 #[.val (.int p0), .val (.long q1), .second, .val (.ref b1)] [(.int (3 : Int32)), (.int p0)])) (fun t kt => ?_) ?_
    · show Steps p.tables e below (T1.setTop (mkF m 31 #[.val (.int p0), .val (.long q1), .second, .val (.ref b1)] [(.int (2 : Int32)), (.int p0)])) t
      refine XS.icmpYes X1.here hx rfl (pc0 := 31) (pc' := 42) rfl (hb hby d1_31) rfl (flt hc31_48).2.2.2 (by decide) (by decide) ?_
      show Steps p.tables e below (T1.setTop (mkF m 42 #[.val (.int p0), .val (.long q1), .second, .val (.ref b1)] [])) t
      refine XS.iloadN X1.here hx rfl (hb hby d1_42) rfl ?_
      show Steps p.tables e below (T1.setTop (mkF m 43 #[.val (.int p0), .val (.long q1), .second, .val (.ref b1)] [(.int p0)])) t
      refine XS.iconst X1.here hx rfl (hb hby d1_43) ?_
      exact kt
    have hc44_49 : ¬ ((3 : Int32) < p0) := fun q => hc5_2 (Int32.lt_trans (by decide) q)
    refine own_by (A' := T1.setTop (mkF m 57 #[.val (.int p0), .val (.long q1), .second, .val (.ref b1)] [(.int (4 : Int32)), (.int p0)])) (fun t kt => ?_) ?_
    · show Steps p.tables e below (T1.setTop (mkF m 44 #[.val (.int p0), .val (.long q1), .second, .val (.ref b1)] [(.int (3 : Int32)), (.int p0)])) t
      refine XS.icmpYes X1.here hx rfl (pc0 := 44) (pc' := 55) rfl (hb hby d1_44) rfl (flt hc44_49).2.2.2 (by decide) (by decide) ?_
      show Steps p.tables e below (T1.setTop (mkF m 55 #[.val (.int p0), .val (.long q1), .second, .val (.ref b1)] [])) t
      refine XS.iloadN X1.here hx rfl (hb hby d1_55) rfl ?_
      show Steps p.tables e below (T1.setTop (mkF m 56 #[.val (.int p0), .val (.long q1), .second, .val (.ref b1)] [(.int p0)])) t
      refine XS.iconst X1.here hx rfl (hb hby d1_56) ?_
      exact kt
    have hc57_50 : ¬ ((4 : Int32) < p0) := fun q => hc5_2 (Int32.lt_trans (by decide) q)
    refine own_by (A' := T1.setTop (mkF m 70 #[.val (.int p0), .val (.long q1), .second, .val (.ref b1)] [(.int (5 : Int32)), (.int p0)])) (fun t kt => ?_) ?_
    · show Steps p.tables e below (T1.setTop (mkF m 57 #[.val (.int p0), .val (.long q1), .second, .val (.ref b1)] [(.int (4 : Int32)), (.int p0)])) t
      refine XS.icmpYes X1.here hx rfl (pc0 := 57) (pc' := 68) rfl (hb hby d1_57) rfl (flt hc57_50).2.2.2 (by decide) (by decide) ?_
      show Steps p.tables e below (T1.setTop (mkF m 68 #[.val (.int p0), .val (.long q1), .second, .val (.ref b1)] [])) t
      refine XS.iloadN X1.here hx rfl (hb hby d1_68) rfl ?_
      show Steps p.tables e below (T1.setTop (mkF m 69 #[.val (.int p0), .val (.long q1), .second, .val (.ref b1)] [(.int p0)])) t
      refine XS.iconst X1.here hx rfl (hb hby d1_69) ?_
      exact kt
    have hc70_51 : ¬ ((5 : Int32) < p0) := fun q => hc5_2 (Int32.lt_trans (by decide) q)
    refine own_by (A' := T1.setTop (mkF m 84 #[.val (.int p0), .val (.long q1), .second, .val (.ref b1)] [(.int (6 : Int32)), (.int p0)])) (fun t kt => ?_) ?_
    · show Steps p.tables e below (T1.setTop (mkF m 70 #[.val (.int p0), .val (.long q1), .second, .val (.ref b1)] [(.int (5 : Int32)), (.int p0)])) t
      refine XS.icmpYes X1.here hx rfl (pc0 := 70) (pc' := 81) rfl (hb hby d1_70) rfl (flt hc70_51).2.2.2 (by decide) (by decide) ?_
      show Steps p.tables e below (T1.setTop (mkF m 81 #[.val (.int p0), .val (.long q1), .second, .val (.ref b1)] [])) t
      refine XS.iloadN X1.here hx rfl (hb hby d1_81) rfl ?_
      show Steps p.tables e below (T1.setTop (mkF m 82 #[.val (.int p0), .val (.long q1), .second, .val (.ref b1)] [(.int p0)])) t
      refine XS.bipush X1.here hx rfl (hb hby d1_82) ?_
      exact kt
    have hc84_52 : ¬ ((6 : Int32) < p0) := fun q => hc5_2 (Int32.lt_trans (by decide) q)
    refine own_by (A' := T1.setTop (mkF m 100 #[.val (.int p0), .val (.long q1), .second, .val (.ref b1)] [(.int (7 : Int32)), (.int p0)])) (fun t kt => ?_) ?_
    · show Steps p.tables e below (T1.setTop (mkF m 84 #[.val (.int p0), .val (.long q1), .second, .val (.ref b1)] [(.int (6 : Int32)), (.int p0)])) t
      refine XS.icmpYes X1.here hx rfl (pc0 := 84) (pc' := 97) rfl (hb hby d1_84) rfl (flt hc84_52).2.2.2 (by decide) (by decide) ?_
      show Steps p.tables e below (T1.setTop (mkF m 97 #[.val (.int p0), .val (.long q1), .second, .val (.ref b1)] [])) t
      refine XS.iloadN X1.here hx rfl (hb hby d1_97) rfl ?_
      show Steps p.tables e below (T1.setTop (mkF m 98 #[.val (.int p0), .val (.long q1), .second, .val (.ref b1)] [(.int p0)])) t
      refine XS.bipush X1.here hx rfl (hb hby d1_98) ?_
      exact kt
    have hc100_53 : ¬ ((7 : Int32) < p0) := fun q => hc5_2 (Int32.lt_trans (by decide) q)
    refine own_by (A' := T1.setTop (mkF m 114 #[.val (.int p0), .val (.long q1), .second, .val (.ref b1)] [(.ref b1)])) (fun t kt => ?_) ?_
    · show Steps p.tables e below (T1.setTop (mkF m 100 #[.val (.int p0), .val (.long q1), .second, .val (.ref b1)] [(.int (7 : Int32)), (.int p0)])) t
      refine XS.icmpYes X1.here hx rfl (pc0 := 100) (pc' := 113) rfl (hb hby d1_100) rfl (flt hc100_53).2.2.2 (by decide) (by decide) ?_
      show Steps p.tables e below (T1.setTop (mkF m 113 #[.val (.int p0), .val (.long q1), .second, .val (.ref b1)] [])) t
      refine XS.aloadN X1.here hx rfl (hb hby d1_113) rfl rfl ?_
      exact kt
    obtain ⟨fs, hr, hrun, hended, hW, hsame⟩ := X1.leave (v := some (.ref b1)) (fun h => by rw [Bd.returns] at h; cases h)
    refine ⟨_, _, ?_, hrun, hended, _, _, rfl, ?_, ⟨_, rfl⟩, hW, hsame.mono (by decide) (by decide)⟩
    · exact own_retA X1 hx Bd.returns rfl (hb hby d1_114) hr
    · show Q1 Z p0 q1 h0 n0 _ T1.heap _
      rw [e1]
      exact ⟨_, rfl, N0, sz_b1, K1, AF.to V1 (fun i hi => by
          have hi' : i < 0 := Nat.lt_of_lt_of_le hi (own_lt hc5_2)
          exact absurd hi' (Nat.not_lt_zero _))⟩
def own_acc (n : Int32) (g : Nat → Int32) : Int64 := (if (0 : Int32) < n then (if (1 : Int32) < n then (if (2 : Int32) < n then (if (3 : Int32) < n then (if (4 : Int32) < n then (if (5 : Int32) < n then (if (6 : Int32) < n then (if (7 : Int32) < n then (((((((((((((((((-3750763034362895579 : Int64) ^^^ (((g 0) &&& (255 : Int32)).toInt64)) * (1099511628211 : Int64)) ^^^ (((g 1) &&& (255 : Int32)).toInt64)) * (1099511628211 : Int64)) ^^^ (((g 2) &&& (255 : Int32)).toInt64)) * (1099511628211 : Int64)) ^^^ (((g 3) &&& (255 : Int32)).toInt64)) * (1099511628211 : Int64)) ^^^ (((g 4) &&& (255 : Int32)).toInt64)) * (1099511628211 : Int64)) ^^^ (((g 5) &&& (255 : Int32)).toInt64)) * (1099511628211 : Int64)) ^^^ (((g 6) &&& (255 : Int32)).toInt64)) * (1099511628211 : Int64)) ^^^ (((g 7) &&& (255 : Int32)).toInt64)) * (1099511628211 : Int64)) else (((((((((((((((-3750763034362895579 : Int64) ^^^ (((g 0) &&& (255 : Int32)).toInt64)) * (1099511628211 : Int64)) ^^^ (((g 1) &&& (255 : Int32)).toInt64)) * (1099511628211 : Int64)) ^^^ (((g 2) &&& (255 : Int32)).toInt64)) * (1099511628211 : Int64)) ^^^ (((g 3) &&& (255 : Int32)).toInt64)) * (1099511628211 : Int64)) ^^^ (((g 4) &&& (255 : Int32)).toInt64)) * (1099511628211 : Int64)) ^^^ (((g 5) &&& (255 : Int32)).toInt64)) * (1099511628211 : Int64)) ^^^ (((g 6) &&& (255 : Int32)).toInt64)) * (1099511628211 : Int64))) else (((((((((((((-3750763034362895579 : Int64) ^^^ (((g 0) &&& (255 : Int32)).toInt64)) * (1099511628211 : Int64)) ^^^ (((g 1) &&& (255 : Int32)).toInt64)) * (1099511628211 : Int64)) ^^^ (((g 2) &&& (255 : Int32)).toInt64)) * (1099511628211 : Int64)) ^^^ (((g 3) &&& (255 : Int32)).toInt64)) * (1099511628211 : Int64)) ^^^ (((g 4) &&& (255 : Int32)).toInt64)) * (1099511628211 : Int64)) ^^^ (((g 5) &&& (255 : Int32)).toInt64)) * (1099511628211 : Int64))) else (((((((((((-3750763034362895579 : Int64) ^^^ (((g 0) &&& (255 : Int32)).toInt64)) * (1099511628211 : Int64)) ^^^ (((g 1) &&& (255 : Int32)).toInt64)) * (1099511628211 : Int64)) ^^^ (((g 2) &&& (255 : Int32)).toInt64)) * (1099511628211 : Int64)) ^^^ (((g 3) &&& (255 : Int32)).toInt64)) * (1099511628211 : Int64)) ^^^ (((g 4) &&& (255 : Int32)).toInt64)) * (1099511628211 : Int64))) else (((((((((-3750763034362895579 : Int64) ^^^ (((g 0) &&& (255 : Int32)).toInt64)) * (1099511628211 : Int64)) ^^^ (((g 1) &&& (255 : Int32)).toInt64)) * (1099511628211 : Int64)) ^^^ (((g 2) &&& (255 : Int32)).toInt64)) * (1099511628211 : Int64)) ^^^ (((g 3) &&& (255 : Int32)).toInt64)) * (1099511628211 : Int64))) else (((((((-3750763034362895579 : Int64) ^^^ (((g 0) &&& (255 : Int32)).toInt64)) * (1099511628211 : Int64)) ^^^ (((g 1) &&& (255 : Int32)).toInt64)) * (1099511628211 : Int64)) ^^^ (((g 2) &&& (255 : Int32)).toInt64)) * (1099511628211 : Int64))) else (((((-3750763034362895579 : Int64) ^^^ (((g 0) &&& (255 : Int32)).toInt64)) * (1099511628211 : Int64)) ^^^ (((g 1) &&& (255 : Int32)).toInt64)) * (1099511628211 : Int64))) else (((-3750763034362895579 : Int64) ^^^ (((g 0) &&& (255 : Int32)).toInt64)) * (1099511628211 : Int64))) else (-3750763034362895579 : Int64))
def own_hash (n : Int32) (g : Nat → Int32) : Int64 := own_f6 (own_acc n g)
theorem own_8 {n : Int32} (h : n.toNatClampNeg ≤ 8) : ¬ (8 : Int32) < n := by
  rw [Int32.lt_iff_toInt_lt, show (8 : Int32).toInt = 8 from by decide]; simp only [Int32.toNatClampNeg] at h; omega
theorem d9_0 : decode prog_28_method_4_code 0 = .ok (.ldc2_w 25, 3) := by decide +kernel
theorem d9_3 : decode prog_28_method_4_code 3 = .ok (.lstore_n 1, 1) := by decide +kernel
theorem d9_4 : decode prog_28_method_4_code 4 = .ok (.aload_n 0, 1) := by decide +kernel
theorem d9_5 : decode prog_28_method_4_code 5 = .ok (.getfield 7, 3) := by decide +kernel
theorem d9_8 : decode prog_28_method_4_code 8 = .ok (.astore_n 3, 1) := by decide +kernel
theorem d9_9 : decode prog_28_method_4_code 9 = .ok (.aload_n 3, 1) := by decide +kernel
theorem d9_10 : decode prog_28_method_4_code 10 = .ok (.arraylength, 1) := by decide +kernel
theorem d9_11 : decode prog_28_method_4_code 11 = .ok (.istore 4, 2) := by decide +kernel
theorem d9_13 : decode prog_28_method_4_code 13 = .ok (.iconst 0, 1) := by decide +kernel
theorem d9_14 : decode prog_28_method_4_code 14 = .ok (.istore 5, 2) := by decide +kernel
theorem d9_16 : decode prog_28_method_4_code 16 = .ok (.iload 5, 2) := by decide +kernel
theorem d9_18 : decode prog_28_method_4_code 18 = .ok (.iload 4, 2) := by decide +kernel
theorem d9_20 : decode prog_28_method_4_code 20 = .ok (.if_icmp .ge 29, 3) := by decide +kernel
theorem d9_23 : decode prog_28_method_4_code 23 = .ok (.aload_n 3, 1) := by decide +kernel
theorem d9_24 : decode prog_28_method_4_code 24 = .ok (.iload 5, 2) := by decide +kernel
theorem d9_26 : decode prog_28_method_4_code 26 = .ok (.baload, 1) := by decide +kernel
theorem d9_27 : decode prog_28_method_4_code 27 = .ok (.istore 6, 2) := by decide +kernel
theorem d9_29 : decode prog_28_method_4_code 29 = .ok (.lload_n 1, 1) := by decide +kernel
theorem d9_30 : decode prog_28_method_4_code 30 = .ok (.iload 6, 2) := by decide +kernel
theorem d9_32 : decode prog_28_method_4_code 32 = .ok (.sipush 255, 3) := by decide +kernel
theorem d9_35 : decode prog_28_method_4_code 35 = .ok (.iand, 1) := by decide +kernel
theorem d9_36 : decode prog_28_method_4_code 36 = .ok (.i2l, 1) := by decide +kernel
theorem d9_37 : decode prog_28_method_4_code 37 = .ok (.lxor, 1) := by decide +kernel
theorem d9_38 : decode prog_28_method_4_code 38 = .ok (.ldc2_w 27, 3) := by decide +kernel
theorem d9_41 : decode prog_28_method_4_code 41 = .ok (.lmul, 1) := by decide +kernel
theorem d9_42 : decode prog_28_method_4_code 42 = .ok (.lstore_n 1, 1) := by decide +kernel
theorem d9_43 : decode prog_28_method_4_code 43 = .ok (.iinc 5 1, 3) := by decide +kernel
theorem d9_46 : decode prog_28_method_4_code 46 = .ok (.goto (-30), 3) := by decide +kernel
theorem d9_49 : decode prog_28_method_4_code 49 = .ok (.lload_n 1, 1) := by decide +kernel
theorem d9_50 : decode prog_28_method_4_code 50 = .ok (.lload_n 1, 1) := by decide +kernel
theorem d9_51 : decode prog_28_method_4_code 51 = .ok (.bipush 33, 2) := by decide +kernel
theorem d9_53 : decode prog_28_method_4_code 53 = .ok (.lushr, 1) := by decide +kernel
theorem d9_54 : decode prog_28_method_4_code 54 = .ok (.lxor, 1) := by decide +kernel
theorem d9_55 : decode prog_28_method_4_code 55 = .ok (.ldc2_w 29, 3) := by decide +kernel
theorem d9_58 : decode prog_28_method_4_code 58 = .ok (.lmul, 1) := by decide +kernel
theorem d9_59 : decode prog_28_method_4_code 59 = .ok (.lstore_n 1, 1) := by decide +kernel
theorem d9_60 : decode prog_28_method_4_code 60 = .ok (.lload_n 1, 1) := by decide +kernel
theorem d9_61 : decode prog_28_method_4_code 61 = .ok (.lload_n 1, 1) := by decide +kernel
theorem d9_62 : decode prog_28_method_4_code 62 = .ok (.bipush 33, 2) := by decide +kernel
theorem d9_64 : decode prog_28_method_4_code 64 = .ok (.lushr, 1) := by decide +kernel
theorem d9_65 : decode prog_28_method_4_code 65 = .ok (.lxor, 1) := by decide +kernel
theorem d9_66 : decode prog_28_method_4_code 66 = .ok (.ldc2_w 31, 3) := by decide +kernel
theorem d9_69 : decode prog_28_method_4_code 69 = .ok (.lmul, 1) := by decide +kernel
theorem d9_70 : decode prog_28_method_4_code 70 = .ok (.lstore_n 1, 1) := by decide +kernel
theorem d9_71 : decode prog_28_method_4_code 71 = .ok (.lload_n 1, 1) := by decide +kernel
theorem d9_72 : decode prog_28_method_4_code 72 = .ok (.lload_n 1, 1) := by decide +kernel
theorem d9_73 : decode prog_28_method_4_code 73 = .ok (.bipush 33, 2) := by decide +kernel
theorem d9_75 : decode prog_28_method_4_code 75 = .ok (.lushr, 1) := by decide +kernel
theorem d9_76 : decode prog_28_method_4_code 76 = .ok (.lxor, 1) := by decide +kernel
theorem d9_77 : decode prog_28_method_4_code 77 = .ok (.lreturn, 1) := by decide +kernel
theorem ef_rm9 (m : MethodId) (a0 : Addr) : entryFrame m #[(.ref a0)] 7 = mkF m 0 #[.val (.ref a0), .unset, .unset, .unset, .unset, .unset, .unset] [] := by first | (simp [entryFrame, mkF, argsToLocals, Value.category]; done) | rfl
def Q9 (Z : State) (a0 : Addr) (b : Addr) (n : Int32) (g : Nat → Int32) (h0 : Heap) (n0 : Nat) (v : Option Value) (h : Heap) (L : List Loc) : Prop := v = some (.long (own_hash n g)) ∧ Fr n0 L ∧ h = h0
set_option maxRecDepth 65536 in
set_option maxHeartbeats 40000000 in
theorem rm9 (l : Launch) (Z : State) (aw : Array Value) (hw : ∀ d ∈ tables_1, d.before aw Z = true) (ws : List Jvm.Cond) (a0 : Addr) (b : Addr) (n : Int32) (g : Nat → Int32) (h0 : Heap) (n0 : Nat) (Z0 : n0 ≤ h0.size) (F_a0 : Fld Z h0 a0 "com/example/honeyguide/honeyguide/index/Runs$Key" "bytes" "[B" (.ref b)) (V_b : AF Z h0 b .byte n (fun i => .int (g i))) (hn8 : n.toNatClampNeg ≤ 8) :
    MetFree l (⟨"com/example/honeyguide/honeyguide/index/Runs$Key", "hash", "()J"⟩ : MethodName) (head1 (Jvm.Cond.code (⟨"com/example/honeyguide/honeyguide/index/Runs$Key", "hash", "()J"⟩ : MethodName) prog_28_method_4_code 7 (some .long) :: ws) ({ frames := 0, cells := 0, slots := 0, locals := 0 } : Room)) (fun a U => a = #[(.ref a0)] ∧ Z.Warmed39 U.vm ∧ U.heap = h0) (fun _ _ _ _ _ => True) (fun _ U o U' => ∃ v L, o = .returned v ∧ Q9 Z a0 b n g h0 n0 v U'.heap L ∧ FrameEnd U o U' L ({ frames := 0, cells := 0, slots := 0, locals := 0 } : Room).cells ({ frames := 0, cells := 0, slots := 0, locals := 0 } : Room).slots) := by
  refine MetFree.of_bodySF (plainFor_of_name pn_4) hisR ?_
  intro p e s m args below meth c s₁ Bd hml0 hP hK
  obtain ⟨rfl, hZ, hh⟩ := hP
  have hx := Bd.exec
  have hby := Bd.bytes
  have hml : c.maxLocals = 7 := hml0
  have hown : s.vm.findClass "com/example/honeyguide/honeyguide/index/Runs$Key" = some m.cls := findClass_of_methodNamed Bd.named
  have hnm := (name_of_methodNamed Bd.named Bd.method).1
  have X0 : Stand p l e ({ frames := 0, cells := 0, slots := 0, locals := 0 } : Room) s m #[(.ref a0)] below meth c s₁ [] 0 0 := Stand.of_body Bd
  have e0 : s₁.heap = h0 := by rw [← hh, Bd.state]; rfl
  have N0 := Fr.nil n0
  have K0 : Keep h0 h0 [] := Keep.refl _ _
  refine own_by (A' := s₁.setTop (mkF m 0 #[.val (.ref a0), .unset, .unset, .unset, .unset, .unset, .unset] [])) (fun t k => castTop (ef_rm9 m a0) k) ?_
  refine own_by (A' := s₁.setTop (mkF m 5 #[.val (.ref a0), .val (.long (-3750763034362895579 : Int64)), .second, .unset, .unset, .unset, .unset] [(.ref a0)])) (fun t kt => ?_) ?_
  · show Steps p.tables e below (s₁.setTop (mkF m 0 #[.val (.ref a0), .unset, .unset, .unset, .unset, .unset, .unset] [])) t
    refine X0.ldc2Long hx hown (mvT hZ (hw _ (List.mem_of_getElem? (i := 43) rfl))) (g := (mkF m 0 #[.val (.ref a0), .unset, .unset, .unset, .unset, .unset, .unset] [])) rfl (hb hby d9_0) _ ?_
    show Steps p.tables e below (s₁.setTop (mkF m 3 #[.val (.ref a0), .unset, .unset, .unset, .unset, .unset, .unset] [(.long (-3750763034362895579 : Int64))])) t
    refine XS.lstoreN X0.here hx rfl (hb hby d9_3) rfl (l' := #[.val (.ref a0), .val (.long (-3750763034362895579 : Int64)), .second, .unset, .unset, .unset, .unset]) rfl ?_
    show Steps p.tables e below (s₁.setTop (mkF m 4 #[.val (.ref a0), .val (.long (-3750763034362895579 : Int64)), .second, .unset, .unset, .unset, .unset] [])) t
    refine XS.aloadN X0.here hx rfl (hb hby d9_4) rfl rfl ?_
    exact kt
  obtain ⟨T1, X1, e1, st1⟩ := getF X0 hx hZ hown (host := "") (Or.inl (hw _ (List.mem_of_getElem? (i := 19) rfl))) Via.refl e0 F_a0 (g := (mkF m 5 #[.val (.ref a0), .val (.long (-3750763034362895579 : Int64)), .second, .unset, .unset, .unset, .unset] [(.ref a0)])) rfl rfl (hb hby d9_5)
  refine own_by (A' := T1.setTop (mkF m 8 #[.val (.ref a0), .val (.long (-3750763034362895579 : Int64)), .second, .unset, .unset, .unset, .unset] [(.ref b)])) (fun t kt => st1 t kt) ?_
  refine own_by (A' := T1.setTop (mkF m 10 #[.val (.ref a0), .val (.long (-3750763034362895579 : Int64)), .second, .val (.ref b), .unset, .unset, .unset] [(.ref b)])) (fun t kt => ?_) ?_
  · show Steps p.tables e below (T1.setTop (mkF m 8 #[.val (.ref a0), .val (.long (-3750763034362895579 : Int64)), .second, .unset, .unset, .unset, .unset] [(.ref b)])) t
    refine XS.astoreN X1.here hx rfl (hb hby d9_8) rfl rfl (l' := #[.val (.ref a0), .val (.long (-3750763034362895579 : Int64)), .second, .val (.ref b), .unset, .unset, .unset]) rfl ?_
    show Steps p.tables e below (T1.setTop (mkF m 9 #[.val (.ref a0), .val (.long (-3750763034362895579 : Int64)), .second, .val (.ref b), .unset, .unset, .unset] [])) t
    refine XS.aloadN X1.here hx rfl (hb hby d9_9) rfl rfl ?_
    exact kt
  obtain ⟨cl2, Ar2, Sz2, Mn2, -⟩ := id V_b
  refine own_by (A' := T1.setTop (mkF m 20 #[.val (.ref a0), .val (.long (-3750763034362895579 : Int64)), .second, .val (.ref b), .val (.int n), .val (.int (0 : Int32)), .unset] [(.int n), (.int (0 : Int32))])) (fun t kt => ?_) ?_
  · show Steps p.tables e below (T1.setTop (mkF m 10 #[.val (.ref a0), .val (.long (-3750763034362895579 : Int64)), .second, .val (.ref b), .unset, .unset, .unset] [(.ref b)])) t
    refine X1.arraylength hx (by rw [e1]; exact Ar2.1) (State.isArrayOf_alike hZ.alike Ar2.2.1) (g := (mkF m 10 #[.val (.ref a0), .val (.long (-3750763034362895579 : Int64)), .second, .val (.ref b), .unset, .unset, .unset] [(.ref b)])) rfl rfl (hb hby d9_10) _ ?_
    rw [len_of Sz2 Mn2]
    show Steps p.tables e below (T1.setTop (mkF m 11 #[.val (.ref a0), .val (.long (-3750763034362895579 : Int64)), .second, .val (.ref b), .unset, .unset, .unset] [(.int n)])) t
    refine XS.istore X1.here hx rfl (hb hby d9_11) rfl (l' := #[.val (.ref a0), .val (.long (-3750763034362895579 : Int64)), .second, .val (.ref b), .val (.int n), .unset, .unset]) rfl ?_
    show Steps p.tables e below (T1.setTop (mkF m 13 #[.val (.ref a0), .val (.long (-3750763034362895579 : Int64)), .second, .val (.ref b), .val (.int n), .unset, .unset] [])) t
    refine XS.iconst X1.here hx rfl (hb hby d9_13) ?_
    show Steps p.tables e below (T1.setTop (mkF m 14 #[.val (.ref a0), .val (.long (-3750763034362895579 : Int64)), .second, .val (.ref b), .val (.int n), .unset, .unset] [(.int (0 : Int32))])) t
    refine XS.istore X1.here hx rfl (hb hby d9_14) rfl (l' := #[.val (.ref a0), .val (.long (-3750763034362895579 : Int64)), .second, .val (.ref b), .val (.int n), .val (.int (0 : Int32)), .unset]) rfl ?_
    show Steps p.tables e below (T1.setTop (mkF m 16 #[.val (.ref a0), .val (.long (-3750763034362895579 : Int64)), .second, .val (.ref b), .val (.int n), .val (.int (0 : Int32)), .unset] [])) t
    refine XS.iload X1.here hx rfl (hb hby d9_16) rfl ?_
    show Steps p.tables e below (T1.setTop (mkF m 18 #[.val (.ref a0), .val (.long (-3750763034362895579 : Int64)), .second, .val (.ref b), .val (.int n), .val (.int (0 : Int32)), .unset] [(.int (0 : Int32))])) t
    refine XS.iload X1.here hx rfl (hb hby d9_18) rfl ?_
    exact kt
  by_cases hc20_3 : (0 : Int32) < n
  · refine own_by (A' := T1.setTop (mkF m 26 #[.val (.ref a0), .val (.long (-3750763034362895579 : Int64)), .second, .val (.ref b), .val (.int n), .val (.int (0 : Int32)), .unset] [(.int (0 : Int32)), (.ref b)])) (fun t kt => ?_) ?_
    · show Steps p.tables e below (T1.setTop (mkF m 20 #[.val (.ref a0), .val (.long (-3750763034362895579 : Int64)), .second, .val (.ref b), .val (.int n), .val (.int (0 : Int32)), .unset] [(.int n), (.int (0 : Int32))])) t
      refine XS.icmpNo X1.here hx rfl (hb hby d9_20) rfl (tlt hc20_3).2.1 ?_
      show Steps p.tables e below (T1.setTop (mkF m 23 #[.val (.ref a0), .val (.long (-3750763034362895579 : Int64)), .second, .val (.ref b), .val (.int n), .val (.int (0 : Int32)), .unset] [])) t
      refine XS.aloadN X1.here hx rfl (hb hby d9_23) rfl rfl ?_
      show Steps p.tables e below (T1.setTop (mkF m 24 #[.val (.ref a0), .val (.long (-3750763034362895579 : Int64)), .second, .val (.ref b), .val (.int n), .val (.int (0 : Int32)), .unset] [(.ref b)])) t
      refine XS.iload X1.here hx rfl (hb hby d9_24) rfl ?_
      exact kt
    obtain ⟨cl4, Ar4, Sz4, Mn4, Ha4⟩ := id V_b
    have hin4 := inb_of (j := (0 : Int32)) Sz4 ⟨by decide, hc20_3⟩
    have hat4 : cl4.slots[((0 : Int32)).toNatClampNeg]? = some (.int (g 0)) := (Ha4 _ (Nat.lt_of_not_le fun q => hin4 (Or.inr q))).trans (congrArg some rfl)
    refine own_by (A' := T1.setTop (mkF m 20 #[.val (.ref a0), .val (.long (((-3750763034362895579 : Int64) ^^^ (((g 0) &&& (255 : Int32)).toInt64)) * (1099511628211 : Int64))), .second, .val (.ref b), .val (.int n), .val (.int (1 : Int32)), .val (.int (g 0))] [(.int n), (.int (1 : Int32))])) (fun t kt => ?_) ?_
    · show Steps p.tables e below (T1.setTop (mkF m 26 #[.val (.ref a0), .val (.long (-3750763034362895579 : Int64)), .second, .val (.ref b), .val (.int n), .val (.int (0 : Int32)), .unset] [(.int (0 : Int32)), (.ref b)])) t
      refine X1.baloadBytes hx (j := (0 : Int32)) (v := (.int (g 0))) (by rw [e1]; exact Ar4.1) (State.isArrayOf_alike hZ.alike Ar4.2.1) Ar4.2.2 hin4 hat4 (g := (mkF m 26 #[.val (.ref a0), .val (.long (-3750763034362895579 : Int64)), .second, .val (.ref b), .val (.int n), .val (.int (0 : Int32)), .unset] [(.int (0 : Int32)), (.ref b)])) rfl rfl (hb hby d9_26) _ ?_
      show Steps p.tables e below (T1.setTop (mkF m 27 #[.val (.ref a0), .val (.long (-3750763034362895579 : Int64)), .second, .val (.ref b), .val (.int n), .val (.int (0 : Int32)), .unset] [(.int (g 0))])) t
      refine XS.istore X1.here hx rfl (hb hby d9_27) rfl (l' := #[.val (.ref a0), .val (.long (-3750763034362895579 : Int64)), .second, .val (.ref b), .val (.int n), .val (.int (0 : Int32)), .val (.int (g 0))]) rfl ?_
      show Steps p.tables e below (T1.setTop (mkF m 29 #[.val (.ref a0), .val (.long (-3750763034362895579 : Int64)), .second, .val (.ref b), .val (.int n), .val (.int (0 : Int32)), .val (.int (g 0))] [])) t
      refine XS.lloadN X1.here hx rfl (hb hby d9_29) rfl ?_
      show Steps p.tables e below (T1.setTop (mkF m 30 #[.val (.ref a0), .val (.long (-3750763034362895579 : Int64)), .second, .val (.ref b), .val (.int n), .val (.int (0 : Int32)), .val (.int (g 0))] [(.long (-3750763034362895579 : Int64))])) t
      refine XS.iload X1.here hx rfl (hb hby d9_30) rfl ?_
      show Steps p.tables e below (T1.setTop (mkF m 32 #[.val (.ref a0), .val (.long (-3750763034362895579 : Int64)), .second, .val (.ref b), .val (.int n), .val (.int (0 : Int32)), .val (.int (g 0))] [(.int (g 0)), (.long (-3750763034362895579 : Int64))])) t
      refine XS.sipush X1.here hx rfl (hb hby d9_32) ?_
      show Steps p.tables e below (T1.setTop (mkF m 35 #[.val (.ref a0), .val (.long (-3750763034362895579 : Int64)), .second, .val (.ref b), .val (.int n), .val (.int (0 : Int32)), .val (.int (g 0))] [(.int (255 : Int32)), (.int (g 0)), (.long (-3750763034362895579 : Int64))])) t
      refine XS.iand X1.here hx rfl (hb hby d9_35) rfl ?_
      show Steps p.tables e below (T1.setTop (mkF m 36 #[.val (.ref a0), .val (.long (-3750763034362895579 : Int64)), .second, .val (.ref b), .val (.int n), .val (.int (0 : Int32)), .val (.int (g 0))] [(.int ((g 0) &&& (255 : Int32))), (.long (-3750763034362895579 : Int64))])) t
      refine XS.i2l X1.here hx rfl (hb hby d9_36) rfl ?_
      show Steps p.tables e below (T1.setTop (mkF m 37 #[.val (.ref a0), .val (.long (-3750763034362895579 : Int64)), .second, .val (.ref b), .val (.int n), .val (.int (0 : Int32)), .val (.int (g 0))] [(.long (((g 0) &&& (255 : Int32)).toInt64)), (.long (-3750763034362895579 : Int64))])) t
      refine XS.lxor X1.here hx rfl (hb hby d9_37) rfl ?_
      show Steps p.tables e below (T1.setTop (mkF m 38 #[.val (.ref a0), .val (.long (-3750763034362895579 : Int64)), .second, .val (.ref b), .val (.int n), .val (.int (0 : Int32)), .val (.int (g 0))] [(.long ((-3750763034362895579 : Int64) ^^^ (((g 0) &&& (255 : Int32)).toInt64)))])) t
      refine X1.ldc2Long hx hown (mvT hZ (hw _ (List.mem_of_getElem? (i := 57) rfl))) (g := (mkF m 38 #[.val (.ref a0), .val (.long (-3750763034362895579 : Int64)), .second, .val (.ref b), .val (.int n), .val (.int (0 : Int32)), .val (.int (g 0))] [(.long ((-3750763034362895579 : Int64) ^^^ (((g 0) &&& (255 : Int32)).toInt64)))])) rfl (hb hby d9_38) _ ?_
      show Steps p.tables e below (T1.setTop (mkF m 41 #[.val (.ref a0), .val (.long (-3750763034362895579 : Int64)), .second, .val (.ref b), .val (.int n), .val (.int (0 : Int32)), .val (.int (g 0))] [(.long (1099511628211 : Int64)), (.long ((-3750763034362895579 : Int64) ^^^ (((g 0) &&& (255 : Int32)).toInt64)))])) t
      refine XS.lmul X1.here hx rfl (hb hby d9_41) rfl ?_
      show Steps p.tables e below (T1.setTop (mkF m 42 #[.val (.ref a0), .val (.long (-3750763034362895579 : Int64)), .second, .val (.ref b), .val (.int n), .val (.int (0 : Int32)), .val (.int (g 0))] [(.long (((-3750763034362895579 : Int64) ^^^ (((g 0) &&& (255 : Int32)).toInt64)) * (1099511628211 : Int64)))])) t
      refine XS.lstoreN X1.here hx rfl (hb hby d9_42) rfl (l' := #[.val (.ref a0), .val (.long (((-3750763034362895579 : Int64) ^^^ (((g 0) &&& (255 : Int32)).toInt64)) * (1099511628211 : Int64))), .second, .val (.ref b), .val (.int n), .val (.int (0 : Int32)), .val (.int (g 0))]) rfl ?_
      show Steps p.tables e below (T1.setTop (mkF m 43 #[.val (.ref a0), .val (.long (((-3750763034362895579 : Int64) ^^^ (((g 0) &&& (255 : Int32)).toInt64)) * (1099511628211 : Int64))), .second, .val (.ref b), .val (.int n), .val (.int (0 : Int32)), .val (.int (g 0))] [])) t
      refine XS.iinc X1.here hx rfl (hb hby d9_43) rfl (l' := #[.val (.ref a0), .val (.long (((-3750763034362895579 : Int64) ^^^ (((g 0) &&& (255 : Int32)).toInt64)) * (1099511628211 : Int64))), .second, .val (.ref b), .val (.int n), .val (.int (1 : Int32)), .val (.int (g 0))]) rfl ?_
      show Steps p.tables e below (T1.setTop (mkF m 46 #[.val (.ref a0), .val (.long (((-3750763034362895579 : Int64) ^^^ (((g 0) &&& (255 : Int32)).toInt64)) * (1099511628211 : Int64))), .second, .val (.ref b), .val (.int n), .val (.int (1 : Int32)), .val (.int (g 0))] [])) t
      refine XS.goto X1.here hx rfl (pc0 := 46) (pc' := 16) rfl (hb hby d9_46) (by decide) (by decide) ?_
      show Steps p.tables e below (T1.setTop (mkF m 16 #[.val (.ref a0), .val (.long (((-3750763034362895579 : Int64) ^^^ (((g 0) &&& (255 : Int32)).toInt64)) * (1099511628211 : Int64))), .second, .val (.ref b), .val (.int n), .val (.int (1 : Int32)), .val (.int (g 0))] [])) t
      refine XS.iload X1.here hx rfl (hb hby d9_16) rfl ?_
      show Steps p.tables e below (T1.setTop (mkF m 18 #[.val (.ref a0), .val (.long (((-3750763034362895579 : Int64) ^^^ (((g 0) &&& (255 : Int32)).toInt64)) * (1099511628211 : Int64))), .second, .val (.ref b), .val (.int n), .val (.int (1 : Int32)), .val (.int (g 0))] [(.int (1 : Int32))])) t
      refine XS.iload X1.here hx rfl (hb hby d9_18) rfl ?_
      exact kt
    by_cases hc20_5 : (1 : Int32) < n
    · refine own_by (A' := T1.setTop (mkF m 26 #[.val (.ref a0), .val (.long (((-3750763034362895579 : Int64) ^^^ (((g 0) &&& (255 : Int32)).toInt64)) * (1099511628211 : Int64))), .second, .val (.ref b), .val (.int n), .val (.int (1 : Int32)), .val (.int (g 0))] [(.int (1 : Int32)), (.ref b)])) (fun t kt => ?_) ?_
      · show Steps p.tables e below (T1.setTop (mkF m 20 #[.val (.ref a0), .val (.long (((-3750763034362895579 : Int64) ^^^ (((g 0) &&& (255 : Int32)).toInt64)) * (1099511628211 : Int64))), .second, .val (.ref b), .val (.int n), .val (.int (1 : Int32)), .val (.int (g 0))] [(.int n), (.int (1 : Int32))])) t
        refine XS.icmpNo X1.here hx rfl (hb hby d9_20) rfl (tlt hc20_5).2.1 ?_
        show Steps p.tables e below (T1.setTop (mkF m 23 #[.val (.ref a0), .val (.long (((-3750763034362895579 : Int64) ^^^ (((g 0) &&& (255 : Int32)).toInt64)) * (1099511628211 : Int64))), .second, .val (.ref b), .val (.int n), .val (.int (1 : Int32)), .val (.int (g 0))] [])) t
        refine XS.aloadN X1.here hx rfl (hb hby d9_23) rfl rfl ?_
        show Steps p.tables e below (T1.setTop (mkF m 24 #[.val (.ref a0), .val (.long (((-3750763034362895579 : Int64) ^^^ (((g 0) &&& (255 : Int32)).toInt64)) * (1099511628211 : Int64))), .second, .val (.ref b), .val (.int n), .val (.int (1 : Int32)), .val (.int (g 0))] [(.ref b)])) t
        refine XS.iload X1.here hx rfl (hb hby d9_24) rfl ?_
        exact kt
      obtain ⟨cl6, Ar6, Sz6, Mn6, Ha6⟩ := id V_b
      have hin6 := inb_of (j := (1 : Int32)) Sz6 ⟨by decide, hc20_5⟩
      have hat6 : cl6.slots[((1 : Int32)).toNatClampNeg]? = some (.int (g 1)) := (Ha6 _ (Nat.lt_of_not_le fun q => hin6 (Or.inr q))).trans (congrArg some rfl)
      refine own_by (A' := T1.setTop (mkF m 20 #[.val (.ref a0), .val (.long (((((-3750763034362895579 : Int64) ^^^ (((g 0) &&& (255 : Int32)).toInt64)) * (1099511628211 : Int64)) ^^^ (((g 1) &&& (255 : Int32)).toInt64)) * (1099511628211 : Int64))), .second, .val (.ref b), .val (.int n), .val (.int (2 : Int32)), .val (.int (g 1))] [(.int n), (.int (2 : Int32))])) (fun t kt => ?_) ?_
      · show Steps p.tables e below (T1.setTop (mkF m 26 #[.val (.ref a0), .val (.long (((-3750763034362895579 : Int64) ^^^ (((g 0) &&& (255 : Int32)).toInt64)) * (1099511628211 : Int64))), .second, .val (.ref b), .val (.int n), .val (.int (1 : Int32)), .val (.int (g 0))] [(.int (1 : Int32)), (.ref b)])) t
        refine X1.baloadBytes hx (j := (1 : Int32)) (v := (.int (g 1))) (by rw [e1]; exact Ar6.1) (State.isArrayOf_alike hZ.alike Ar6.2.1) Ar6.2.2 hin6 hat6 (g := (mkF m 26 #[.val (.ref a0), .val (.long (((-3750763034362895579 : Int64) ^^^ (((g 0) &&& (255 : Int32)).toInt64)) * (1099511628211 : Int64))), .second, .val (.ref b), .val (.int n), .val (.int (1 : Int32)), .val (.int (g 0))] [(.int (1 : Int32)), (.ref b)])) rfl rfl (hb hby d9_26) _ ?_
        show Steps p.tables e below (T1.setTop (mkF m 27 #[.val (.ref a0), .val (.long (((-3750763034362895579 : Int64) ^^^ (((g 0) &&& (255 : Int32)).toInt64)) * (1099511628211 : Int64))), .second, .val (.ref b), .val (.int n), .val (.int (1 : Int32)), .val (.int (g 0))] [(.int (g 1))])) t
        refine XS.istore X1.here hx rfl (hb hby d9_27) rfl (l' := #[.val (.ref a0), .val (.long (((-3750763034362895579 : Int64) ^^^ (((g 0) &&& (255 : Int32)).toInt64)) * (1099511628211 : Int64))), .second, .val (.ref b), .val (.int n), .val (.int (1 : Int32)), .val (.int (g 1))]) rfl ?_
        show Steps p.tables e below (T1.setTop (mkF m 29 #[.val (.ref a0), .val (.long (((-3750763034362895579 : Int64) ^^^ (((g 0) &&& (255 : Int32)).toInt64)) * (1099511628211 : Int64))), .second, .val (.ref b), .val (.int n), .val (.int (1 : Int32)), .val (.int (g 1))] [])) t
        refine XS.lloadN X1.here hx rfl (hb hby d9_29) rfl ?_
        show Steps p.tables e below (T1.setTop (mkF m 30 #[.val (.ref a0), .val (.long (((-3750763034362895579 : Int64) ^^^ (((g 0) &&& (255 : Int32)).toInt64)) * (1099511628211 : Int64))), .second, .val (.ref b), .val (.int n), .val (.int (1 : Int32)), .val (.int (g 1))] [(.long (((-3750763034362895579 : Int64) ^^^ (((g 0) &&& (255 : Int32)).toInt64)) * (1099511628211 : Int64)))])) t
        refine XS.iload X1.here hx rfl (hb hby d9_30) rfl ?_
        show Steps p.tables e below (T1.setTop (mkF m 32 #[.val (.ref a0), .val (.long (((-3750763034362895579 : Int64) ^^^ (((g 0) &&& (255 : Int32)).toInt64)) * (1099511628211 : Int64))), .second, .val (.ref b), .val (.int n), .val (.int (1 : Int32)), .val (.int (g 1))] [(.int (g 1)), (.long (((-3750763034362895579 : Int64) ^^^ (((g 0) &&& (255 : Int32)).toInt64)) * (1099511628211 : Int64)))])) t
        refine XS.sipush X1.here hx rfl (hb hby d9_32) ?_
        show Steps p.tables e below (T1.setTop (mkF m 35 #[.val (.ref a0), .val (.long (((-3750763034362895579 : Int64) ^^^ (((g 0) &&& (255 : Int32)).toInt64)) * (1099511628211 : Int64))), .second, .val (.ref b), .val (.int n), .val (.int (1 : Int32)), .val (.int (g 1))] [(.int (255 : Int32)), (.int (g 1)), (.long (((-3750763034362895579 : Int64) ^^^ (((g 0) &&& (255 : Int32)).toInt64)) * (1099511628211 : Int64)))])) t
        refine XS.iand X1.here hx rfl (hb hby d9_35) rfl ?_
        show Steps p.tables e below (T1.setTop (mkF m 36 #[.val (.ref a0), .val (.long (((-3750763034362895579 : Int64) ^^^ (((g 0) &&& (255 : Int32)).toInt64)) * (1099511628211 : Int64))), .second, .val (.ref b), .val (.int n), .val (.int (1 : Int32)), .val (.int (g 1))] [(.int ((g 1) &&& (255 : Int32))), (.long (((-3750763034362895579 : Int64) ^^^ (((g 0) &&& (255 : Int32)).toInt64)) * (1099511628211 : Int64)))])) t
        refine XS.i2l X1.here hx rfl (hb hby d9_36) rfl ?_
        show Steps p.tables e below (T1.setTop (mkF m 37 #[.val (.ref a0), .val (.long (((-3750763034362895579 : Int64) ^^^ (((g 0) &&& (255 : Int32)).toInt64)) * (1099511628211 : Int64))), .second, .val (.ref b), .val (.int n), .val (.int (1 : Int32)), .val (.int (g 1))] [(.long (((g 1) &&& (255 : Int32)).toInt64)), (.long (((-3750763034362895579 : Int64) ^^^ (((g 0) &&& (255 : Int32)).toInt64)) * (1099511628211 : Int64)))])) t
        refine XS.lxor X1.here hx rfl (hb hby d9_37) rfl ?_
        show Steps p.tables e below (T1.setTop (mkF m 38 #[.val (.ref a0), .val (.long (((-3750763034362895579 : Int64) ^^^ (((g 0) &&& (255 : Int32)).toInt64)) * (1099511628211 : Int64))), .second, .val (.ref b), .val (.int n), .val (.int (1 : Int32)), .val (.int (g 1))] [(.long ((((-3750763034362895579 : Int64) ^^^ (((g 0) &&& (255 : Int32)).toInt64)) * (1099511628211 : Int64)) ^^^ (((g 1) &&& (255 : Int32)).toInt64)))])) t
        refine X1.ldc2Long hx hown (mvT hZ (hw _ (List.mem_of_getElem? (i := 57) rfl))) (g := (mkF m 38 #[.val (.ref a0), .val (.long (((-3750763034362895579 : Int64) ^^^ (((g 0) &&& (255 : Int32)).toInt64)) * (1099511628211 : Int64))), .second, .val (.ref b), .val (.int n), .val (.int (1 : Int32)), .val (.int (g 1))] [(.long ((((-3750763034362895579 : Int64) ^^^ (((g 0) &&& (255 : Int32)).toInt64)) * (1099511628211 : Int64)) ^^^ (((g 1) &&& (255 : Int32)).toInt64)))])) rfl (hb hby d9_38) _ ?_
        show Steps p.tables e below (T1.setTop (mkF m 41 #[.val (.ref a0), .val (.long (((-3750763034362895579 : Int64) ^^^ (((g 0) &&& (255 : Int32)).toInt64)) * (1099511628211 : Int64))), .second, .val (.ref b), .val (.int n), .val (.int (1 : Int32)), .val (.int (g 1))] [(.long (1099511628211 : Int64)), (.long ((((-3750763034362895579 : Int64) ^^^ (((g 0) &&& (255 : Int32)).toInt64)) * (1099511628211 : Int64)) ^^^ (((g 1) &&& (255 : Int32)).toInt64)))])) t
        refine XS.lmul X1.here hx rfl (hb hby d9_41) rfl ?_
        show Steps p.tables e below (T1.setTop (mkF m 42 #[.val (.ref a0), .val (.long (((-3750763034362895579 : Int64) ^^^ (((g 0) &&& (255 : Int32)).toInt64)) * (1099511628211 : Int64))), .second, .val (.ref b), .val (.int n), .val (.int (1 : Int32)), .val (.int (g 1))] [(.long (((((-3750763034362895579 : Int64) ^^^ (((g 0) &&& (255 : Int32)).toInt64)) * (1099511628211 : Int64)) ^^^ (((g 1) &&& (255 : Int32)).toInt64)) * (1099511628211 : Int64)))])) t
        refine XS.lstoreN X1.here hx rfl (hb hby d9_42) rfl (l' := #[.val (.ref a0), .val (.long (((((-3750763034362895579 : Int64) ^^^ (((g 0) &&& (255 : Int32)).toInt64)) * (1099511628211 : Int64)) ^^^ (((g 1) &&& (255 : Int32)).toInt64)) * (1099511628211 : Int64))), .second, .val (.ref b), .val (.int n), .val (.int (1 : Int32)), .val (.int (g 1))]) rfl ?_
        show Steps p.tables e below (T1.setTop (mkF m 43 #[.val (.ref a0), .val (.long (((((-3750763034362895579 : Int64) ^^^ (((g 0) &&& (255 : Int32)).toInt64)) * (1099511628211 : Int64)) ^^^ (((g 1) &&& (255 : Int32)).toInt64)) * (1099511628211 : Int64))), .second, .val (.ref b), .val (.int n), .val (.int (1 : Int32)), .val (.int (g 1))] [])) t
        refine XS.iinc X1.here hx rfl (hb hby d9_43) rfl (l' := #[.val (.ref a0), .val (.long (((((-3750763034362895579 : Int64) ^^^ (((g 0) &&& (255 : Int32)).toInt64)) * (1099511628211 : Int64)) ^^^ (((g 1) &&& (255 : Int32)).toInt64)) * (1099511628211 : Int64))), .second, .val (.ref b), .val (.int n), .val (.int (2 : Int32)), .val (.int (g 1))]) rfl ?_
        show Steps p.tables e below (T1.setTop (mkF m 46 #[.val (.ref a0), .val (.long (((((-3750763034362895579 : Int64) ^^^ (((g 0) &&& (255 : Int32)).toInt64)) * (1099511628211 : Int64)) ^^^ (((g 1) &&& (255 : Int32)).toInt64)) * (1099511628211 : Int64))), .second, .val (.ref b), .val (.int n), .val (.int (2 : Int32)), .val (.int (g 1))] [])) t
        refine XS.goto X1.here hx rfl (pc0 := 46) (pc' := 16) rfl (hb hby d9_46) (by decide) (by decide) ?_
        show Steps p.tables e below (T1.setTop (mkF m 16 #[.val (.ref a0), .val (.long (((((-3750763034362895579 : Int64) ^^^ (((g 0) &&& (255 : Int32)).toInt64)) * (1099511628211 : Int64)) ^^^ (((g 1) &&& (255 : Int32)).toInt64)) * (1099511628211 : Int64))), .second, .val (.ref b), .val (.int n), .val (.int (2 : Int32)), .val (.int (g 1))] [])) t
        refine XS.iload X1.here hx rfl (hb hby d9_16) rfl ?_
        show Steps p.tables e below (T1.setTop (mkF m 18 #[.val (.ref a0), .val (.long (((((-3750763034362895579 : Int64) ^^^ (((g 0) &&& (255 : Int32)).toInt64)) * (1099511628211 : Int64)) ^^^ (((g 1) &&& (255 : Int32)).toInt64)) * (1099511628211 : Int64))), .second, .val (.ref b), .val (.int n), .val (.int (2 : Int32)), .val (.int (g 1))] [(.int (2 : Int32))])) t
        refine XS.iload X1.here hx rfl (hb hby d9_18) rfl ?_
        exact kt
      by_cases hc20_7 : (2 : Int32) < n
      · refine own_by (A' := T1.setTop (mkF m 26 #[.val (.ref a0), .val (.long (((((-3750763034362895579 : Int64) ^^^ (((g 0) &&& (255 : Int32)).toInt64)) * (1099511628211 : Int64)) ^^^ (((g 1) &&& (255 : Int32)).toInt64)) * (1099511628211 : Int64))), .second, .val (.ref b), .val (.int n), .val (.int (2 : Int32)), .val (.int (g 1))] [(.int (2 : Int32)), (.ref b)])) (fun t kt => ?_) ?_
        · show Steps p.tables e below (T1.setTop (mkF m 20 #[.val (.ref a0), .val (.long (((((-3750763034362895579 : Int64) ^^^ (((g 0) &&& (255 : Int32)).toInt64)) * (1099511628211 : Int64)) ^^^ (((g 1) &&& (255 : Int32)).toInt64)) * (1099511628211 : Int64))), .second, .val (.ref b), .val (.int n), .val (.int (2 : Int32)), .val (.int (g 1))] [(.int n), (.int (2 : Int32))])) t
          refine XS.icmpNo X1.here hx rfl (hb hby d9_20) rfl (tlt hc20_7).2.1 ?_
          show Steps p.tables e below (T1.setTop (mkF m 23 #[.val (.ref a0), .val (.long (((((-3750763034362895579 : Int64) ^^^ (((g 0) &&& (255 : Int32)).toInt64)) * (1099511628211 : Int64)) ^^^ (((g 1) &&& (255 : Int32)).toInt64)) * (1099511628211 : Int64))), .second, .val (.ref b), .val (.int n), .val (.int (2 : Int32)), .val (.int (g 1))] [])) t
          refine XS.aloadN X1.here hx rfl (hb hby d9_23) rfl rfl ?_
          show Steps p.tables e below (T1.setTop (mkF m 24 #[.val (.ref a0), .val (.long (((((-3750763034362895579 : Int64) ^^^ (((g 0) &&& (255 : Int32)).toInt64)) * (1099511628211 : Int64)) ^^^ (((g 1) &&& (255 : Int32)).toInt64)) * (1099511628211 : Int64))), .second, .val (.ref b), .val (.int n), .val (.int (2 : Int32)), .val (.int (g 1))] [(.ref b)])) t
          refine XS.iload X1.here hx rfl (hb hby d9_24) rfl ?_
          exact kt
        obtain ⟨cl8, Ar8, Sz8, Mn8, Ha8⟩ := id V_b
        have hin8 := inb_of (j := (2 : Int32)) Sz8 ⟨by decide, hc20_7⟩
        have hat8 : cl8.slots[((2 : Int32)).toNatClampNeg]? = some (.int (g 2)) := (Ha8 _ (Nat.lt_of_not_le fun q => hin8 (Or.inr q))).trans (congrArg some rfl)
        refine own_by (A' := T1.setTop (mkF m 20 #[.val (.ref a0), .val (.long (((((((-3750763034362895579 : Int64) ^^^ (((g 0) &&& (255 : Int32)).toInt64)) * (1099511628211 : Int64)) ^^^ (((g 1) &&& (255 : Int32)).toInt64)) * (1099511628211 : Int64)) ^^^ (((g 2) &&& (255 : Int32)).toInt64)) * (1099511628211 : Int64))), .second, .val (.ref b), .val (.int n), .val (.int (3 : Int32)), .val (.int (g 2))] [(.int n), (.int (3 : Int32))])) (fun t kt => ?_) ?_
        · show Steps p.tables e below (T1.setTop (mkF m 26 #[.val (.ref a0), .val (.long (((((-3750763034362895579 : Int64) ^^^ (((g 0) &&& (255 : Int32)).toInt64)) * (1099511628211 : Int64)) ^^^ (((g 1) &&& (255 : Int32)).toInt64)) * (1099511628211 : Int64))), .second, .val (.ref b), .val (.int n), .val (.int (2 : Int32)), .val (.int (g 1))] [(.int (2 : Int32)), (.ref b)])) t
          refine X1.baloadBytes hx (j := (2 : Int32)) (v := (.int (g 2))) (by rw [e1]; exact Ar8.1) (State.isArrayOf_alike hZ.alike Ar8.2.1) Ar8.2.2 hin8 hat8 (g := (mkF m 26 #[.val (.ref a0), .val (.long (((((-3750763034362895579 : Int64) ^^^ (((g 0) &&& (255 : Int32)).toInt64)) * (1099511628211 : Int64)) ^^^ (((g 1) &&& (255 : Int32)).toInt64)) * (1099511628211 : Int64))), .second, .val (.ref b), .val (.int n), .val (.int (2 : Int32)), .val (.int (g 1))] [(.int (2 : Int32)), (.ref b)])) rfl rfl (hb hby d9_26) _ ?_
          show Steps p.tables e below (T1.setTop (mkF m 27 #[.val (.ref a0), .val (.long (((((-3750763034362895579 : Int64) ^^^ (((g 0) &&& (255 : Int32)).toInt64)) * (1099511628211 : Int64)) ^^^ (((g 1) &&& (255 : Int32)).toInt64)) * (1099511628211 : Int64))), .second, .val (.ref b), .val (.int n), .val (.int (2 : Int32)), .val (.int (g 1))] [(.int (g 2))])) t
          refine XS.istore X1.here hx rfl (hb hby d9_27) rfl (l' := #[.val (.ref a0), .val (.long (((((-3750763034362895579 : Int64) ^^^ (((g 0) &&& (255 : Int32)).toInt64)) * (1099511628211 : Int64)) ^^^ (((g 1) &&& (255 : Int32)).toInt64)) * (1099511628211 : Int64))), .second, .val (.ref b), .val (.int n), .val (.int (2 : Int32)), .val (.int (g 2))]) rfl ?_
          show Steps p.tables e below (T1.setTop (mkF m 29 #[.val (.ref a0), .val (.long (((((-3750763034362895579 : Int64) ^^^ (((g 0) &&& (255 : Int32)).toInt64)) * (1099511628211 : Int64)) ^^^ (((g 1) &&& (255 : Int32)).toInt64)) * (1099511628211 : Int64))), .second, .val (.ref b), .val (.int n), .val (.int (2 : Int32)), .val (.int (g 2))] [])) t
          refine XS.lloadN X1.here hx rfl (hb hby d9_29) rfl ?_
          show Steps p.tables e below (T1.setTop (mkF m 30 #[.val (.ref a0), .val (.long (((((-3750763034362895579 : Int64) ^^^ (((g 0) &&& (255 : Int32)).toInt64)) * (1099511628211 : Int64)) ^^^ (((g 1) &&& (255 : Int32)).toInt64)) * (1099511628211 : Int64))), .second, .val (.ref b), .val (.int n), .val (.int (2 : Int32)), .val (.int (g 2))] [(.long (((((-3750763034362895579 : Int64) ^^^ (((g 0) &&& (255 : Int32)).toInt64)) * (1099511628211 : Int64)) ^^^ (((g 1) &&& (255 : Int32)).toInt64)) * (1099511628211 : Int64)))])) t
          refine XS.iload X1.here hx rfl (hb hby d9_30) rfl ?_
          show Steps p.tables e below (T1.setTop (mkF m 32 #[.val (.ref a0), .val (.long (((((-3750763034362895579 : Int64) ^^^ (((g 0) &&& (255 : Int32)).toInt64)) * (1099511628211 : Int64)) ^^^ (((g 1) &&& (255 : Int32)).toInt64)) * (1099511628211 : Int64))), .second, .val (.ref b), .val (.int n), .val (.int (2 : Int32)), .val (.int (g 2))] [(.int (g 2)), (.long (((((-3750763034362895579 : Int64) ^^^ (((g 0) &&& (255 : Int32)).toInt64)) * (1099511628211 : Int64)) ^^^ (((g 1) &&& (255 : Int32)).toInt64)) * (1099511628211 : Int64)))])) t
          refine XS.sipush X1.here hx rfl (hb hby d9_32) ?_
          show Steps p.tables e below (T1.setTop (mkF m 35 #[.val (.ref a0), .val (.long (((((-3750763034362895579 : Int64) ^^^ (((g 0) &&& (255 : Int32)).toInt64)) * (1099511628211 : Int64)) ^^^ (((g 1) &&& (255 : Int32)).toInt64)) * (1099511628211 : Int64))), .second, .val (.ref b), .val (.int n), .val (.int (2 : Int32)), .val (.int (g 2))] [(.int (255 : Int32)), (.int (g 2)), (.long (((((-3750763034362895579 : Int64) ^^^ (((g 0) &&& (255 : Int32)).toInt64)) * (1099511628211 : Int64)) ^^^ (((g 1) &&& (255 : Int32)).toInt64)) * (1099511628211 : Int64)))])) t
          refine XS.iand X1.here hx rfl (hb hby d9_35) rfl ?_
          show Steps p.tables e below (T1.setTop (mkF m 36 #[.val (.ref a0), .val (.long (((((-3750763034362895579 : Int64) ^^^ (((g 0) &&& (255 : Int32)).toInt64)) * (1099511628211 : Int64)) ^^^ (((g 1) &&& (255 : Int32)).toInt64)) * (1099511628211 : Int64))), .second, .val (.ref b), .val (.int n), .val (.int (2 : Int32)), .val (.int (g 2))] [(.int ((g 2) &&& (255 : Int32))), (.long (((((-3750763034362895579 : Int64) ^^^ (((g 0) &&& (255 : Int32)).toInt64)) * (1099511628211 : Int64)) ^^^ (((g 1) &&& (255 : Int32)).toInt64)) * (1099511628211 : Int64)))])) t
          refine XS.i2l X1.here hx rfl (hb hby d9_36) rfl ?_
          show Steps p.tables e below (T1.setTop (mkF m 37 #[.val (.ref a0), .val (.long (((((-3750763034362895579 : Int64) ^^^ (((g 0) &&& (255 : Int32)).toInt64)) * (1099511628211 : Int64)) ^^^ (((g 1) &&& (255 : Int32)).toInt64)) * (1099511628211 : Int64))), .second, .val (.ref b), .val (.int n), .val (.int (2 : Int32)), .val (.int (g 2))] [(.long (((g 2) &&& (255 : Int32)).toInt64)), (.long (((((-3750763034362895579 : Int64) ^^^ (((g 0) &&& (255 : Int32)).toInt64)) * (1099511628211 : Int64)) ^^^ (((g 1) &&& (255 : Int32)).toInt64)) * (1099511628211 : Int64)))])) t
          refine XS.lxor X1.here hx rfl (hb hby d9_37) rfl ?_
          show Steps p.tables e below (T1.setTop (mkF m 38 #[.val (.ref a0), .val (.long (((((-3750763034362895579 : Int64) ^^^ (((g 0) &&& (255 : Int32)).toInt64)) * (1099511628211 : Int64)) ^^^ (((g 1) &&& (255 : Int32)).toInt64)) * (1099511628211 : Int64))), .second, .val (.ref b), .val (.int n), .val (.int (2 : Int32)), .val (.int (g 2))] [(.long ((((((-3750763034362895579 : Int64) ^^^ (((g 0) &&& (255 : Int32)).toInt64)) * (1099511628211 : Int64)) ^^^ (((g 1) &&& (255 : Int32)).toInt64)) * (1099511628211 : Int64)) ^^^ (((g 2) &&& (255 : Int32)).toInt64)))])) t
          refine X1.ldc2Long hx hown (mvT hZ (hw _ (List.mem_of_getElem? (i := 57) rfl))) (g := (mkF m 38 #[.val (.ref a0), .val (.long (((((-3750763034362895579 : Int64) ^^^ (((g 0) &&& (255 : Int32)).toInt64)) * (1099511628211 : Int64)) ^^^ (((g 1) &&& (255 : Int32)).toInt64)) * (1099511628211 : Int64))), .second, .val (.ref b), .val (.int n), .val (.int (2 : Int32)), .val (.int (g 2))] [(.long ((((((-3750763034362895579 : Int64) ^^^ (((g 0) &&& (255 : Int32)).toInt64)) * (1099511628211 : Int64)) ^^^ (((g 1) &&& (255 : Int32)).toInt64)) * (1099511628211 : Int64)) ^^^ (((g 2) &&& (255 : Int32)).toInt64)))])) rfl (hb hby d9_38) _ ?_
          show Steps p.tables e below (T1.setTop (mkF m 41 #[.val (.ref a0), .val (.long (((((-3750763034362895579 : Int64) ^^^ (((g 0) &&& (255 : Int32)).toInt64)) * (1099511628211 : Int64)) ^^^ (((g 1) &&& (255 : Int32)).toInt64)) * (1099511628211 : Int64))), .second, .val (.ref b), .val (.int n), .val (.int (2 : Int32)), .val (.int (g 2))] [(.long (1099511628211 : Int64)), (.long ((((((-3750763034362895579 : Int64) ^^^ (((g 0) &&& (255 : Int32)).toInt64)) * (1099511628211 : Int64)) ^^^ (((g 1) &&& (255 : Int32)).toInt64)) * (1099511628211 : Int64)) ^^^ (((g 2) &&& (255 : Int32)).toInt64)))])) t
          refine XS.lmul X1.here hx rfl (hb hby d9_41) rfl ?_
          show Steps p.tables e below (T1.setTop (mkF m 42 #[.val (.ref a0), .val (.long (((((-3750763034362895579 : Int64) ^^^ (((g 0) &&& (255 : Int32)).toInt64)) * (1099511628211 : Int64)) ^^^ (((g 1) &&& (255 : Int32)).toInt64)) * (1099511628211 : Int64))), .second, .val (.ref b), .val (.int n), .val (.int (2 : Int32)), .val (.int (g 2))] [(.long (((((((-3750763034362895579 : Int64) ^^^ (((g 0) &&& (255 : Int32)).toInt64)) * (1099511628211 : Int64)) ^^^ (((g 1) &&& (255 : Int32)).toInt64)) * (1099511628211 : Int64)) ^^^ (((g 2) &&& (255 : Int32)).toInt64)) * (1099511628211 : Int64)))])) t
          refine XS.lstoreN X1.here hx rfl (hb hby d9_42) rfl (l' := #[.val (.ref a0), .val (.long (((((((-3750763034362895579 : Int64) ^^^ (((g 0) &&& (255 : Int32)).toInt64)) * (1099511628211 : Int64)) ^^^ (((g 1) &&& (255 : Int32)).toInt64)) * (1099511628211 : Int64)) ^^^ (((g 2) &&& (255 : Int32)).toInt64)) * (1099511628211 : Int64))), .second, .val (.ref b), .val (.int n), .val (.int (2 : Int32)), .val (.int (g 2))]) rfl ?_
          show Steps p.tables e below (T1.setTop (mkF m 43 #[.val (.ref a0), .val (.long (((((((-3750763034362895579 : Int64) ^^^ (((g 0) &&& (255 : Int32)).toInt64)) * (1099511628211 : Int64)) ^^^ (((g 1) &&& (255 : Int32)).toInt64)) * (1099511628211 : Int64)) ^^^ (((g 2) &&& (255 : Int32)).toInt64)) * (1099511628211 : Int64))), .second, .val (.ref b), .val (.int n), .val (.int (2 : Int32)), .val (.int (g 2))] [])) t
          refine XS.iinc X1.here hx rfl (hb hby d9_43) rfl (l' := #[.val (.ref a0), .val (.long (((((((-3750763034362895579 : Int64) ^^^ (((g 0) &&& (255 : Int32)).toInt64)) * (1099511628211 : Int64)) ^^^ (((g 1) &&& (255 : Int32)).toInt64)) * (1099511628211 : Int64)) ^^^ (((g 2) &&& (255 : Int32)).toInt64)) * (1099511628211 : Int64))), .second, .val (.ref b), .val (.int n), .val (.int (3 : Int32)), .val (.int (g 2))]) rfl ?_
          show Steps p.tables e below (T1.setTop (mkF m 46 #[.val (.ref a0), .val (.long (((((((-3750763034362895579 : Int64) ^^^ (((g 0) &&& (255 : Int32)).toInt64)) * (1099511628211 : Int64)) ^^^ (((g 1) &&& (255 : Int32)).toInt64)) * (1099511628211 : Int64)) ^^^ (((g 2) &&& (255 : Int32)).toInt64)) * (1099511628211 : Int64))), .second, .val (.ref b), .val (.int n), .val (.int (3 : Int32)), .val (.int (g 2))] [])) t
          refine XS.goto X1.here hx rfl (pc0 := 46) (pc' := 16) rfl (hb hby d9_46) (by decide) (by decide) ?_
          show Steps p.tables e below (T1.setTop (mkF m 16 #[.val (.ref a0), .val (.long (((((((-3750763034362895579 : Int64) ^^^ (((g 0) &&& (255 : Int32)).toInt64)) * (1099511628211 : Int64)) ^^^ (((g 1) &&& (255 : Int32)).toInt64)) * (1099511628211 : Int64)) ^^^ (((g 2) &&& (255 : Int32)).toInt64)) * (1099511628211 : Int64))), .second, .val (.ref b), .val (.int n), .val (.int (3 : Int32)), .val (.int (g 2))] [])) t
          refine XS.iload X1.here hx rfl (hb hby d9_16) rfl ?_
          show Steps p.tables e below (T1.setTop (mkF m 18 #[.val (.ref a0), .val (.long (((((((-3750763034362895579 : Int64) ^^^ (((g 0) &&& (255 : Int32)).toInt64)) * (1099511628211 : Int64)) ^^^ (((g 1) &&& (255 : Int32)).toInt64)) * (1099511628211 : Int64)) ^^^ (((g 2) &&& (255 : Int32)).toInt64)) * (1099511628211 : Int64))), .second, .val (.ref b), .val (.int n), .val (.int (3 : Int32)), .val (.int (g 2))] [(.int (3 : Int32))])) t
          refine XS.iload X1.here hx rfl (hb hby d9_18) rfl ?_
          exact kt
        by_cases hc20_9 : (3 : Int32) < n
        · refine own_by (A' := T1.setTop (mkF m 26 #[.val (.ref a0), .val (.long (((((((-3750763034362895579 : Int64) ^^^ (((g 0) &&& (255 : Int32)).toInt64)) * (1099511628211 : Int64)) ^^^ (((g 1) &&& (255 : Int32)).toInt64)) * (1099511628211 : Int64)) ^^^ (((g 2) &&& (255 : Int32)).toInt64)) * (1099511628211 : Int64))), .second, .val (.ref b), .val (.int n), .val (.int (3 : Int32)), .val (.int (g 2))] [(.int (3 : Int32)), (.ref b)])) (fun t kt => ?_) ?_
          · show Steps p.tables e below (T1.setTop (mkF m 20 #[.val (.ref a0), .val (.long (((((((-3750763034362895579 : Int64) ^^^ (((g 0) &&& (255 : Int32)).toInt64)) * (1099511628211 : Int64)) ^^^ (((g 1) &&& (255 : Int32)).toInt64)) * (1099511628211 : Int64)) ^^^ (((g 2) &&& (255 : Int32)).toInt64)) * (1099511628211 : Int64))), .second, .val (.ref b), .val (.int n), .val (.int (3 : Int32)), .val (.int (g 2))] [(.int n), (.int (3 : Int32))])) t
            refine XS.icmpNo X1.here hx rfl (hb hby d9_20) rfl (tlt hc20_9).2.1 ?_
            show Steps p.tables e below (T1.setTop (mkF m 23 #[.val (.ref a0), .val (.long (((((((-3750763034362895579 : Int64) ^^^ (((g 0) &&& (255 : Int32)).toInt64)) * (1099511628211 : Int64)) ^^^ (((g 1) &&& (255 : Int32)).toInt64)) * (1099511628211 : Int64)) ^^^ (((g 2) &&& (255 : Int32)).toInt64)) * (1099511628211 : Int64))), .second, .val (.ref b), .val (.int n), .val (.int (3 : Int32)), .val (.int (g 2))] [])) t
            refine XS.aloadN X1.here hx rfl (hb hby d9_23) rfl rfl ?_
            show Steps p.tables e below (T1.setTop (mkF m 24 #[.val (.ref a0), .val (.long (((((((-3750763034362895579 : Int64) ^^^ (((g 0) &&& (255 : Int32)).toInt64)) * (1099511628211 : Int64)) ^^^ (((g 1) &&& (255 : Int32)).toInt64)) * (1099511628211 : Int64)) ^^^ (((g 2) &&& (255 : Int32)).toInt64)) * (1099511628211 : Int64))), .second, .val (.ref b), .val (.int n), .val (.int (3 : Int32)), .val (.int (g 2))] [(.ref b)])) t
            refine XS.iload X1.here hx rfl (hb hby d9_24) rfl ?_
            exact kt
          obtain ⟨cl10, Ar10, Sz10, Mn10, Ha10⟩ := id V_b
          have hin10 := inb_of (j := (3 : Int32)) Sz10 ⟨by decide, hc20_9⟩
          have hat10 : cl10.slots[((3 : Int32)).toNatClampNeg]? = some (.int (g 3)) := (Ha10 _ (Nat.lt_of_not_le fun q => hin10 (Or.inr q))).trans (congrArg some rfl)
          refine own_by (A' := T1.setTop (mkF m 20 #[.val (.ref a0), .val (.long (((((((((-3750763034362895579 : Int64) ^^^ (((g 0) &&& (255 : Int32)).toInt64)) * (1099511628211 : Int64)) ^^^ (((g 1) &&& (255 : Int32)).toInt64)) * (1099511628211 : Int64)) ^^^ (((g 2) &&& (255 : Int32)).toInt64)) * (1099511628211 : Int64)) ^^^ (((g 3) &&& (255 : Int32)).toInt64)) * (1099511628211 : Int64))), .second, .val (.ref b), .val (.int n), .val (.int (4 : Int32)), .val (.int (g 3))] [(.int n), (.int (4 : Int32))])) (fun t kt => ?_) ?_
          · show Steps p.tables e below (T1.setTop (mkF m 26 #[.val (.ref a0), .val (.long (((((((-3750763034362895579 : Int64) ^^^ (((g 0) &&& (255 : Int32)).toInt64)) * (1099511628211 : Int64)) ^^^ (((g 1) &&& (255 : Int32)).toInt64)) * (1099511628211 : Int64)) ^^^ (((g 2) &&& (255 : Int32)).toInt64)) * (1099511628211 : Int64))), .second, .val (.ref b), .val (.int n), .val (.int (3 : Int32)), .val (.int (g 2))] [(.int (3 : Int32)), (.ref b)])) t
            refine X1.baloadBytes hx (j := (3 : Int32)) (v := (.int (g 3))) (by rw [e1]; exact Ar10.1) (State.isArrayOf_alike hZ.alike Ar10.2.1) Ar10.2.2 hin10 hat10 (g := (mkF m 26 #[.val (.ref a0), .val (.long (((((((-3750763034362895579 : Int64) ^^^ (((g 0) &&& (255 : Int32)).toInt64)) * (1099511628211 : Int64)) ^^^ (((g 1) &&& (255 : Int32)).toInt64)) * (1099511628211 : Int64)) ^^^ (((g 2) &&& (255 : Int32)).toInt64)) * (1099511628211 : Int64))), .second, .val (.ref b), .val (.int n), .val (.int (3 : Int32)), .val (.int (g 2))] [(.int (3 : Int32)), (.ref b)])) rfl rfl (hb hby d9_26) _ ?_
            show Steps p.tables e below (T1.setTop (mkF m 27 #[.val (.ref a0), .val (.long (((((((-3750763034362895579 : Int64) ^^^ (((g 0) &&& (255 : Int32)).toInt64)) * (1099511628211 : Int64)) ^^^ (((g 1) &&& (255 : Int32)).toInt64)) * (1099511628211 : Int64)) ^^^ (((g 2) &&& (255 : Int32)).toInt64)) * (1099511628211 : Int64))), .second, .val (.ref b), .val (.int n), .val (.int (3 : Int32)), .val (.int (g 2))] [(.int (g 3))])) t
            refine XS.istore X1.here hx rfl (hb hby d9_27) rfl (l' := #[.val (.ref a0), .val (.long (((((((-3750763034362895579 : Int64) ^^^ (((g 0) &&& (255 : Int32)).toInt64)) * (1099511628211 : Int64)) ^^^ (((g 1) &&& (255 : Int32)).toInt64)) * (1099511628211 : Int64)) ^^^ (((g 2) &&& (255 : Int32)).toInt64)) * (1099511628211 : Int64))), .second, .val (.ref b), .val (.int n), .val (.int (3 : Int32)), .val (.int (g 3))]) rfl ?_
            show Steps p.tables e below (T1.setTop (mkF m 29 #[.val (.ref a0), .val (.long (((((((-3750763034362895579 : Int64) ^^^ (((g 0) &&& (255 : Int32)).toInt64)) * (1099511628211 : Int64)) ^^^ (((g 1) &&& (255 : Int32)).toInt64)) * (1099511628211 : Int64)) ^^^ (((g 2) &&& (255 : Int32)).toInt64)) * (1099511628211 : Int64))), .second, .val (.ref b), .val (.int n), .val (.int (3 : Int32)), .val (.int (g 3))] [])) t
            refine XS.lloadN X1.here hx rfl (hb hby d9_29) rfl ?_
            show Steps p.tables e below (T1.setTop (mkF m 30 #[.val (.ref a0), .val (.long (((((((-3750763034362895579 : Int64) ^^^ (((g 0) &&& (255 : Int32)).toInt64)) * (1099511628211 : Int64)) ^^^ (((g 1) &&& (255 : Int32)).toInt64)) * (1099511628211 : Int64)) ^^^ (((g 2) &&& (255 : Int32)).toInt64)) * (1099511628211 : Int64))), .second, .val (.ref b), .val (.int n), .val (.int (3 : Int32)), .val (.int (g 3))] [(.long (((((((-3750763034362895579 : Int64) ^^^ (((g 0) &&& (255 : Int32)).toInt64)) * (1099511628211 : Int64)) ^^^ (((g 1) &&& (255 : Int32)).toInt64)) * (1099511628211 : Int64)) ^^^ (((g 2) &&& (255 : Int32)).toInt64)) * (1099511628211 : Int64)))])) t
            refine XS.iload X1.here hx rfl (hb hby d9_30) rfl ?_
            show Steps p.tables e below (T1.setTop (mkF m 32 #[.val (.ref a0), .val (.long (((((((-3750763034362895579 : Int64) ^^^ (((g 0) &&& (255 : Int32)).toInt64)) * (1099511628211 : Int64)) ^^^ (((g 1) &&& (255 : Int32)).toInt64)) * (1099511628211 : Int64)) ^^^ (((g 2) &&& (255 : Int32)).toInt64)) * (1099511628211 : Int64))), .second, .val (.ref b), .val (.int n), .val (.int (3 : Int32)), .val (.int (g 3))] [(.int (g 3)), (.long (((((((-3750763034362895579 : Int64) ^^^ (((g 0) &&& (255 : Int32)).toInt64)) * (1099511628211 : Int64)) ^^^ (((g 1) &&& (255 : Int32)).toInt64)) * (1099511628211 : Int64)) ^^^ (((g 2) &&& (255 : Int32)).toInt64)) * (1099511628211 : Int64)))])) t
            refine XS.sipush X1.here hx rfl (hb hby d9_32) ?_
            show Steps p.tables e below (T1.setTop (mkF m 35 #[.val (.ref a0), .val (.long (((((((-3750763034362895579 : Int64) ^^^ (((g 0) &&& (255 : Int32)).toInt64)) * (1099511628211 : Int64)) ^^^ (((g 1) &&& (255 : Int32)).toInt64)) * (1099511628211 : Int64)) ^^^ (((g 2) &&& (255 : Int32)).toInt64)) * (1099511628211 : Int64))), .second, .val (.ref b), .val (.int n), .val (.int (3 : Int32)), .val (.int (g 3))] [(.int (255 : Int32)), (.int (g 3)), (.long (((((((-3750763034362895579 : Int64) ^^^ (((g 0) &&& (255 : Int32)).toInt64)) * (1099511628211 : Int64)) ^^^ (((g 1) &&& (255 : Int32)).toInt64)) * (1099511628211 : Int64)) ^^^ (((g 2) &&& (255 : Int32)).toInt64)) * (1099511628211 : Int64)))])) t
            refine XS.iand X1.here hx rfl (hb hby d9_35) rfl ?_
            show Steps p.tables e below (T1.setTop (mkF m 36 #[.val (.ref a0), .val (.long (((((((-3750763034362895579 : Int64) ^^^ (((g 0) &&& (255 : Int32)).toInt64)) * (1099511628211 : Int64)) ^^^ (((g 1) &&& (255 : Int32)).toInt64)) * (1099511628211 : Int64)) ^^^ (((g 2) &&& (255 : Int32)).toInt64)) * (1099511628211 : Int64))), .second, .val (.ref b), .val (.int n), .val (.int (3 : Int32)), .val (.int (g 3))] [(.int ((g 3) &&& (255 : Int32))), (.long (((((((-3750763034362895579 : Int64) ^^^ (((g 0) &&& (255 : Int32)).toInt64)) * (1099511628211 : Int64)) ^^^ (((g 1) &&& (255 : Int32)).toInt64)) * (1099511628211 : Int64)) ^^^ (((g 2) &&& (255 : Int32)).toInt64)) * (1099511628211 : Int64)))])) t
            refine XS.i2l X1.here hx rfl (hb hby d9_36) rfl ?_
            show Steps p.tables e below (T1.setTop (mkF m 37 #[.val (.ref a0), .val (.long (((((((-3750763034362895579 : Int64) ^^^ (((g 0) &&& (255 : Int32)).toInt64)) * (1099511628211 : Int64)) ^^^ (((g 1) &&& (255 : Int32)).toInt64)) * (1099511628211 : Int64)) ^^^ (((g 2) &&& (255 : Int32)).toInt64)) * (1099511628211 : Int64))), .second, .val (.ref b), .val (.int n), .val (.int (3 : Int32)), .val (.int (g 3))] [(.long (((g 3) &&& (255 : Int32)).toInt64)), (.long (((((((-3750763034362895579 : Int64) ^^^ (((g 0) &&& (255 : Int32)).toInt64)) * (1099511628211 : Int64)) ^^^ (((g 1) &&& (255 : Int32)).toInt64)) * (1099511628211 : Int64)) ^^^ (((g 2) &&& (255 : Int32)).toInt64)) * (1099511628211 : Int64)))])) t
            refine XS.lxor X1.here hx rfl (hb hby d9_37) rfl ?_
            show Steps p.tables e below (T1.setTop (mkF m 38 #[.val (.ref a0), .val (.long (((((((-3750763034362895579 : Int64) ^^^ (((g 0) &&& (255 : Int32)).toInt64)) * (1099511628211 : Int64)) ^^^ (((g 1) &&& (255 : Int32)).toInt64)) * (1099511628211 : Int64)) ^^^ (((g 2) &&& (255 : Int32)).toInt64)) * (1099511628211 : Int64))), .second, .val (.ref b), .val (.int n), .val (.int (3 : Int32)), .val (.int (g 3))] [(.long ((((((((-3750763034362895579 : Int64) ^^^ (((g 0) &&& (255 : Int32)).toInt64)) * (1099511628211 : Int64)) ^^^ (((g 1) &&& (255 : Int32)).toInt64)) * (1099511628211 : Int64)) ^^^ (((g 2) &&& (255 : Int32)).toInt64)) * (1099511628211 : Int64)) ^^^ (((g 3) &&& (255 : Int32)).toInt64)))])) t
            refine X1.ldc2Long hx hown (mvT hZ (hw _ (List.mem_of_getElem? (i := 57) rfl))) (g := (mkF m 38 #[.val (.ref a0), .val (.long (((((((-3750763034362895579 : Int64) ^^^ (((g 0) &&& (255 : Int32)).toInt64)) * (1099511628211 : Int64)) ^^^ (((g 1) &&& (255 : Int32)).toInt64)) * (1099511628211 : Int64)) ^^^ (((g 2) &&& (255 : Int32)).toInt64)) * (1099511628211 : Int64))), .second, .val (.ref b), .val (.int n), .val (.int (3 : Int32)), .val (.int (g 3))] [(.long ((((((((-3750763034362895579 : Int64) ^^^ (((g 0) &&& (255 : Int32)).toInt64)) * (1099511628211 : Int64)) ^^^ (((g 1) &&& (255 : Int32)).toInt64)) * (1099511628211 : Int64)) ^^^ (((g 2) &&& (255 : Int32)).toInt64)) * (1099511628211 : Int64)) ^^^ (((g 3) &&& (255 : Int32)).toInt64)))])) rfl (hb hby d9_38) _ ?_
            show Steps p.tables e below (T1.setTop (mkF m 41 #[.val (.ref a0), .val (.long (((((((-3750763034362895579 : Int64) ^^^ (((g 0) &&& (255 : Int32)).toInt64)) * (1099511628211 : Int64)) ^^^ (((g 1) &&& (255 : Int32)).toInt64)) * (1099511628211 : Int64)) ^^^ (((g 2) &&& (255 : Int32)).toInt64)) * (1099511628211 : Int64))), .second, .val (.ref b), .val (.int n), .val (.int (3 : Int32)), .val (.int (g 3))] [(.long (1099511628211 : Int64)), (.long ((((((((-3750763034362895579 : Int64) ^^^ (((g 0) &&& (255 : Int32)).toInt64)) * (1099511628211 : Int64)) ^^^ (((g 1) &&& (255 : Int32)).toInt64)) * (1099511628211 : Int64)) ^^^ (((g 2) &&& (255 : Int32)).toInt64)) * (1099511628211 : Int64)) ^^^ (((g 3) &&& (255 : Int32)).toInt64)))])) t
            refine XS.lmul X1.here hx rfl (hb hby d9_41) rfl ?_
            show Steps p.tables e below (T1.setTop (mkF m 42 #[.val (.ref a0), .val (.long (((((((-3750763034362895579 : Int64) ^^^ (((g 0) &&& (255 : Int32)).toInt64)) * (1099511628211 : Int64)) ^^^ (((g 1) &&& (255 : Int32)).toInt64)) * (1099511628211 : Int64)) ^^^ (((g 2) &&& (255 : Int32)).toInt64)) * (1099511628211 : Int64))), .second, .val (.ref b), .val (.int n), .val (.int (3 : Int32)), .val (.int (g 3))] [(.long (((((((((-3750763034362895579 : Int64) ^^^ (((g 0) &&& (255 : Int32)).toInt64)) * (1099511628211 : Int64)) ^^^ (((g 1) &&& (255 : Int32)).toInt64)) * (1099511628211 : Int64)) ^^^ (((g 2) &&& (255 : Int32)).toInt64)) * (1099511628211 : Int64)) ^^^ (((g 3) &&& (255 : Int32)).toInt64)) * (1099511628211 : Int64)))])) t
            refine XS.lstoreN X1.here hx rfl (hb hby d9_42) rfl (l' := #[.val (.ref a0), .val (.long (((((((((-3750763034362895579 : Int64) ^^^ (((g 0) &&& (255 : Int32)).toInt64)) * (1099511628211 : Int64)) ^^^ (((g 1) &&& (255 : Int32)).toInt64)) * (1099511628211 : Int64)) ^^^ (((g 2) &&& (255 : Int32)).toInt64)) * (1099511628211 : Int64)) ^^^ (((g 3) &&& (255 : Int32)).toInt64)) * (1099511628211 : Int64))), .second, .val (.ref b), .val (.int n), .val (.int (3 : Int32)), .val (.int (g 3))]) rfl ?_
            show Steps p.tables e below (T1.setTop (mkF m 43 #[.val (.ref a0), .val (.long (((((((((-3750763034362895579 : Int64) ^^^ (((g 0) &&& (255 : Int32)).toInt64)) * (1099511628211 : Int64)) ^^^ (((g 1) &&& (255 : Int32)).toInt64)) * (1099511628211 : Int64)) ^^^ (((g 2) &&& (255 : Int32)).toInt64)) * (1099511628211 : Int64)) ^^^ (((g 3) &&& (255 : Int32)).toInt64)) * (1099511628211 : Int64))), .second, .val (.ref b), .val (.int n), .val (.int (3 : Int32)), .val (.int (g 3))] [])) t
            refine XS.iinc X1.here hx rfl (hb hby d9_43) rfl (l' := #[.val (.ref a0), .val (.long (((((((((-3750763034362895579 : Int64) ^^^ (((g 0) &&& (255 : Int32)).toInt64)) * (1099511628211 : Int64)) ^^^ (((g 1) &&& (255 : Int32)).toInt64)) * (1099511628211 : Int64)) ^^^ (((g 2) &&& (255 : Int32)).toInt64)) * (1099511628211 : Int64)) ^^^ (((g 3) &&& (255 : Int32)).toInt64)) * (1099511628211 : Int64))), .second, .val (.ref b), .val (.int n), .val (.int (4 : Int32)), .val (.int (g 3))]) rfl ?_
            show Steps p.tables e below (T1.setTop (mkF m 46 #[.val (.ref a0), .val (.long (((((((((-3750763034362895579 : Int64) ^^^ (((g 0) &&& (255 : Int32)).toInt64)) * (1099511628211 : Int64)) ^^^ (((g 1) &&& (255 : Int32)).toInt64)) * (1099511628211 : Int64)) ^^^ (((g 2) &&& (255 : Int32)).toInt64)) * (1099511628211 : Int64)) ^^^ (((g 3) &&& (255 : Int32)).toInt64)) * (1099511628211 : Int64))), .second, .val (.ref b), .val (.int n), .val (.int (4 : Int32)), .val (.int (g 3))] [])) t
            refine XS.goto X1.here hx rfl (pc0 := 46) (pc' := 16) rfl (hb hby d9_46) (by decide) (by decide) ?_
            show Steps p.tables e below (T1.setTop (mkF m 16 #[.val (.ref a0), .val (.long (((((((((-3750763034362895579 : Int64) ^^^ (((g 0) &&& (255 : Int32)).toInt64)) * (1099511628211 : Int64)) ^^^ (((g 1) &&& (255 : Int32)).toInt64)) * (1099511628211 : Int64)) ^^^ (((g 2) &&& (255 : Int32)).toInt64)) * (1099511628211 : Int64)) ^^^ (((g 3) &&& (255 : Int32)).toInt64)) * (1099511628211 : Int64))), .second, .val (.ref b), .val (.int n), .val (.int (4 : Int32)), .val (.int (g 3))] [])) t
            refine XS.iload X1.here hx rfl (hb hby d9_16) rfl ?_
            show Steps p.tables e below (T1.setTop (mkF m 18 #[.val (.ref a0), .val (.long (((((((((-3750763034362895579 : Int64) ^^^ (((g 0) &&& (255 : Int32)).toInt64)) * (1099511628211 : Int64)) ^^^ (((g 1) &&& (255 : Int32)).toInt64)) * (1099511628211 : Int64)) ^^^ (((g 2) &&& (255 : Int32)).toInt64)) * (1099511628211 : Int64)) ^^^ (((g 3) &&& (255 : Int32)).toInt64)) * (1099511628211 : Int64))), .second, .val (.ref b), .val (.int n), .val (.int (4 : Int32)), .val (.int (g 3))] [(.int (4 : Int32))])) t
            refine XS.iload X1.here hx rfl (hb hby d9_18) rfl ?_
            exact kt
          by_cases hc20_11 : (4 : Int32) < n
          · refine own_by (A' := T1.setTop (mkF m 26 #[.val (.ref a0), .val (.long (((((((((-3750763034362895579 : Int64) ^^^ (((g 0) &&& (255 : Int32)).toInt64)) * (1099511628211 : Int64)) ^^^ (((g 1) &&& (255 : Int32)).toInt64)) * (1099511628211 : Int64)) ^^^ (((g 2) &&& (255 : Int32)).toInt64)) * (1099511628211 : Int64)) ^^^ (((g 3) &&& (255 : Int32)).toInt64)) * (1099511628211 : Int64))), .second, .val (.ref b), .val (.int n), .val (.int (4 : Int32)), .val (.int (g 3))] [(.int (4 : Int32)), (.ref b)])) (fun t kt => ?_) ?_
            · show Steps p.tables e below (T1.setTop (mkF m 20 #[.val (.ref a0), .val (.long (((((((((-3750763034362895579 : Int64) ^^^ (((g 0) &&& (255 : Int32)).toInt64)) * (1099511628211 : Int64)) ^^^ (((g 1) &&& (255 : Int32)).toInt64)) * (1099511628211 : Int64)) ^^^ (((g 2) &&& (255 : Int32)).toInt64)) * (1099511628211 : Int64)) ^^^ (((g 3) &&& (255 : Int32)).toInt64)) * (1099511628211 : Int64))), .second, .val (.ref b), .val (.int n), .val (.int (4 : Int32)), .val (.int (g 3))] [(.int n), (.int (4 : Int32))])) t
              refine XS.icmpNo X1.here hx rfl (hb hby d9_20) rfl (tlt hc20_11).2.1 ?_
              show Steps p.tables e below (T1.setTop (mkF m 23 #[.val (.ref a0), .val (.long (((((((((-3750763034362895579 : Int64) ^^^ (((g 0) &&& (255 : Int32)).toInt64)) * (1099511628211 : Int64)) ^^^ (((g 1) &&& (255 : Int32)).toInt64)) * (1099511628211 : Int64)) ^^^ (((g 2) &&& (255 : Int32)).toInt64)) * (1099511628211 : Int64)) ^^^ (((g 3) &&& (255 : Int32)).toInt64)) * (1099511628211 : Int64))), .second, .val (.ref b), .val (.int n), .val (.int (4 : Int32)), .val (.int (g 3))] [])) t
              refine XS.aloadN X1.here hx rfl (hb hby d9_23) rfl rfl ?_
              show Steps p.tables e below (T1.setTop (mkF m 24 #[.val (.ref a0), .val (.long (((((((((-3750763034362895579 : Int64) ^^^ (((g 0) &&& (255 : Int32)).toInt64)) * (1099511628211 : Int64)) ^^^ (((g 1) &&& (255 : Int32)).toInt64)) * (1099511628211 : Int64)) ^^^ (((g 2) &&& (255 : Int32)).toInt64)) * (1099511628211 : Int64)) ^^^ (((g 3) &&& (255 : Int32)).toInt64)) * (1099511628211 : Int64))), .second, .val (.ref b), .val (.int n), .val (.int (4 : Int32)), .val (.int (g 3))] [(.ref b)])) t
              refine XS.iload X1.here hx rfl (hb hby d9_24) rfl ?_
              exact kt
            obtain ⟨cl12, Ar12, Sz12, Mn12, Ha12⟩ := id V_b
            have hin12 := inb_of (j := (4 : Int32)) Sz12 ⟨by decide, hc20_11⟩
            have hat12 : cl12.slots[((4 : Int32)).toNatClampNeg]? = some (.int (g 4)) := (Ha12 _ (Nat.lt_of_not_le fun q => hin12 (Or.inr q))).trans (congrArg some rfl)
            refine own_by (A' := T1.setTop (mkF m 20 #[.val (.ref a0), .val (.long (((((((((((-3750763034362895579 : Int64) ^^^ (((g 0) &&& (255 : Int32)).toInt64)) * (1099511628211 : Int64)) ^^^ (((g 1) &&& (255 : Int32)).toInt64)) * (1099511628211 : Int64)) ^^^ (((g 2) &&& (255 : Int32)).toInt64)) * (1099511628211 : Int64)) ^^^ (((g 3) &&& (255 : Int32)).toInt64)) * (1099511628211 : Int64)) ^^^ (((g 4) &&& (255 : Int32)).toInt64)) * (1099511628211 : Int64))), .second, .val (.ref b), .val (.int n), .val (.int (5 : Int32)), .val (.int (g 4))] [(.int n), (.int (5 : Int32))])) (fun t kt => ?_) ?_
            · show Steps p.tables e below (T1.setTop (mkF m 26 #[.val (.ref a0), .val (.long (((((((((-3750763034362895579 : Int64) ^^^ (((g 0) &&& (255 : Int32)).toInt64)) * (1099511628211 : Int64)) ^^^ (((g 1) &&& (255 : Int32)).toInt64)) * (1099511628211 : Int64)) ^^^ (((g 2) &&& (255 : Int32)).toInt64)) * (1099511628211 : Int64)) ^^^ (((g 3) &&& (255 : Int32)).toInt64)) * (1099511628211 : Int64))), .second, .val (.ref b), .val (.int n), .val (.int (4 : Int32)), .val (.int (g 3))] [(.int (4 : Int32)), (.ref b)])) t
              refine X1.baloadBytes hx (j := (4 : Int32)) (v := (.int (g 4))) (by rw [e1]; exact Ar12.1) (State.isArrayOf_alike hZ.alike Ar12.2.1) Ar12.2.2 hin12 hat12 (g := (mkF m 26 #[.val (.ref a0), .val (.long (((((((((-3750763034362895579 : Int64) ^^^ (((g 0) &&& (255 : Int32)).toInt64)) * (1099511628211 : Int64)) ^^^ (((g 1) &&& (255 : Int32)).toInt64)) * (1099511628211 : Int64)) ^^^ (((g 2) &&& (255 : Int32)).toInt64)) * (1099511628211 : Int64)) ^^^ (((g 3) &&& (255 : Int32)).toInt64)) * (1099511628211 : Int64))), .second, .val (.ref b), .val (.int n), .val (.int (4 : Int32)), .val (.int (g 3))] [(.int (4 : Int32)), (.ref b)])) rfl rfl (hb hby d9_26) _ ?_
              show Steps p.tables e below (T1.setTop (mkF m 27 #[.val (.ref a0), .val (.long (((((((((-3750763034362895579 : Int64) ^^^ (((g 0) &&& (255 : Int32)).toInt64)) * (1099511628211 : Int64)) ^^^ (((g 1) &&& (255 : Int32)).toInt64)) * (1099511628211 : Int64)) ^^^ (((g 2) &&& (255 : Int32)).toInt64)) * (1099511628211 : Int64)) ^^^ (((g 3) &&& (255 : Int32)).toInt64)) * (1099511628211 : Int64))), .second, .val (.ref b), .val (.int n), .val (.int (4 : Int32)), .val (.int (g 3))] [(.int (g 4))])) t
              refine XS.istore X1.here hx rfl (hb hby d9_27) rfl (l' := #[.val (.ref a0), .val (.long (((((((((-3750763034362895579 : Int64) ^^^ (((g 0) &&& (255 : Int32)).toInt64)) * (1099511628211 : Int64)) ^^^ (((g 1) &&& (255 : Int32)).toInt64)) * (1099511628211 : Int64)) ^^^ (((g 2) &&& (255 : Int32)).toInt64)) * (1099511628211 : Int64)) ^^^ (((g 3) &&& (255 : Int32)).toInt64)) * (1099511628211 : Int64))), .second, .val (.ref b), .val (.int n), .val (.int (4 : Int32)), .val (.int (g 4))]) rfl ?_
              show Steps p.tables e below (T1.setTop (mkF m 29 #[.val (.ref a0), .val (.long (((((((((-3750763034362895579 : Int64) ^^^ (((g 0) &&& (255 : Int32)).toInt64)) * (1099511628211 : Int64)) ^^^ (((g 1) &&& (255 : Int32)).toInt64)) * (1099511628211 : Int64)) ^^^ (((g 2) &&& (255 : Int32)).toInt64)) * (1099511628211 : Int64)) ^^^ (((g 3) &&& (255 : Int32)).toInt64)) * (1099511628211 : Int64))), .second, .val (.ref b), .val (.int n), .val (.int (4 : Int32)), .val (.int (g 4))] [])) t
              refine XS.lloadN X1.here hx rfl (hb hby d9_29) rfl ?_
              show Steps p.tables e below (T1.setTop (mkF m 30 #[.val (.ref a0), .val (.long (((((((((-3750763034362895579 : Int64) ^^^ (((g 0) &&& (255 : Int32)).toInt64)) * (1099511628211 : Int64)) ^^^ (((g 1) &&& (255 : Int32)).toInt64)) * (1099511628211 : Int64)) ^^^ (((g 2) &&& (255 : Int32)).toInt64)) * (1099511628211 : Int64)) ^^^ (((g 3) &&& (255 : Int32)).toInt64)) * (1099511628211 : Int64))), .second, .val (.ref b), .val (.int n), .val (.int (4 : Int32)), .val (.int (g 4))] [(.long (((((((((-3750763034362895579 : Int64) ^^^ (((g 0) &&& (255 : Int32)).toInt64)) * (1099511628211 : Int64)) ^^^ (((g 1) &&& (255 : Int32)).toInt64)) * (1099511628211 : Int64)) ^^^ (((g 2) &&& (255 : Int32)).toInt64)) * (1099511628211 : Int64)) ^^^ (((g 3) &&& (255 : Int32)).toInt64)) * (1099511628211 : Int64)))])) t
              refine XS.iload X1.here hx rfl (hb hby d9_30) rfl ?_
              show Steps p.tables e below (T1.setTop (mkF m 32 #[.val (.ref a0), .val (.long (((((((((-3750763034362895579 : Int64) ^^^ (((g 0) &&& (255 : Int32)).toInt64)) * (1099511628211 : Int64)) ^^^ (((g 1) &&& (255 : Int32)).toInt64)) * (1099511628211 : Int64)) ^^^ (((g 2) &&& (255 : Int32)).toInt64)) * (1099511628211 : Int64)) ^^^ (((g 3) &&& (255 : Int32)).toInt64)) * (1099511628211 : Int64))), .second, .val (.ref b), .val (.int n), .val (.int (4 : Int32)), .val (.int (g 4))] [(.int (g 4)), (.long (((((((((-3750763034362895579 : Int64) ^^^ (((g 0) &&& (255 : Int32)).toInt64)) * (1099511628211 : Int64)) ^^^ (((g 1) &&& (255 : Int32)).toInt64)) * (1099511628211 : Int64)) ^^^ (((g 2) &&& (255 : Int32)).toInt64)) * (1099511628211 : Int64)) ^^^ (((g 3) &&& (255 : Int32)).toInt64)) * (1099511628211 : Int64)))])) t
              refine XS.sipush X1.here hx rfl (hb hby d9_32) ?_
              show Steps p.tables e below (T1.setTop (mkF m 35 #[.val (.ref a0), .val (.long (((((((((-3750763034362895579 : Int64) ^^^ (((g 0) &&& (255 : Int32)).toInt64)) * (1099511628211 : Int64)) ^^^ (((g 1) &&& (255 : Int32)).toInt64)) * (1099511628211 : Int64)) ^^^ (((g 2) &&& (255 : Int32)).toInt64)) * (1099511628211 : Int64)) ^^^ (((g 3) &&& (255 : Int32)).toInt64)) * (1099511628211 : Int64))), .second, .val (.ref b), .val (.int n), .val (.int (4 : Int32)), .val (.int (g 4))] [(.int (255 : Int32)), (.int (g 4)), (.long (((((((((-3750763034362895579 : Int64) ^^^ (((g 0) &&& (255 : Int32)).toInt64)) * (1099511628211 : Int64)) ^^^ (((g 1) &&& (255 : Int32)).toInt64)) * (1099511628211 : Int64)) ^^^ (((g 2) &&& (255 : Int32)).toInt64)) * (1099511628211 : Int64)) ^^^ (((g 3) &&& (255 : Int32)).toInt64)) * (1099511628211 : Int64)))])) t
              refine XS.iand X1.here hx rfl (hb hby d9_35) rfl ?_
              show Steps p.tables e below (T1.setTop (mkF m 36 #[.val (.ref a0), .val (.long (((((((((-3750763034362895579 : Int64) ^^^ (((g 0) &&& (255 : Int32)).toInt64)) * (1099511628211 : Int64)) ^^^ (((g 1) &&& (255 : Int32)).toInt64)) * (1099511628211 : Int64)) ^^^ (((g 2) &&& (255 : Int32)).toInt64)) * (1099511628211 : Int64)) ^^^ (((g 3) &&& (255 : Int32)).toInt64)) * (1099511628211 : Int64))), .second, .val (.ref b), .val (.int n), .val (.int (4 : Int32)), .val (.int (g 4))] [(.int ((g 4) &&& (255 : Int32))), (.long (((((((((-3750763034362895579 : Int64) ^^^ (((g 0) &&& (255 : Int32)).toInt64)) * (1099511628211 : Int64)) ^^^ (((g 1) &&& (255 : Int32)).toInt64)) * (1099511628211 : Int64)) ^^^ (((g 2) &&& (255 : Int32)).toInt64)) * (1099511628211 : Int64)) ^^^ (((g 3) &&& (255 : Int32)).toInt64)) * (1099511628211 : Int64)))])) t
              refine XS.i2l X1.here hx rfl (hb hby d9_36) rfl ?_
              show Steps p.tables e below (T1.setTop (mkF m 37 #[.val (.ref a0), .val (.long (((((((((-3750763034362895579 : Int64) ^^^ (((g 0) &&& (255 : Int32)).toInt64)) * (1099511628211 : Int64)) ^^^ (((g 1) &&& (255 : Int32)).toInt64)) * (1099511628211 : Int64)) ^^^ (((g 2) &&& (255 : Int32)).toInt64)) * (1099511628211 : Int64)) ^^^ (((g 3) &&& (255 : Int32)).toInt64)) * (1099511628211 : Int64))), .second, .val (.ref b), .val (.int n), .val (.int (4 : Int32)), .val (.int (g 4))] [(.long (((g 4) &&& (255 : Int32)).toInt64)), (.long (((((((((-3750763034362895579 : Int64) ^^^ (((g 0) &&& (255 : Int32)).toInt64)) * (1099511628211 : Int64)) ^^^ (((g 1) &&& (255 : Int32)).toInt64)) * (1099511628211 : Int64)) ^^^ (((g 2) &&& (255 : Int32)).toInt64)) * (1099511628211 : Int64)) ^^^ (((g 3) &&& (255 : Int32)).toInt64)) * (1099511628211 : Int64)))])) t
              refine XS.lxor X1.here hx rfl (hb hby d9_37) rfl ?_
              show Steps p.tables e below (T1.setTop (mkF m 38 #[.val (.ref a0), .val (.long (((((((((-3750763034362895579 : Int64) ^^^ (((g 0) &&& (255 : Int32)).toInt64)) * (1099511628211 : Int64)) ^^^ (((g 1) &&& (255 : Int32)).toInt64)) * (1099511628211 : Int64)) ^^^ (((g 2) &&& (255 : Int32)).toInt64)) * (1099511628211 : Int64)) ^^^ (((g 3) &&& (255 : Int32)).toInt64)) * (1099511628211 : Int64))), .second, .val (.ref b), .val (.int n), .val (.int (4 : Int32)), .val (.int (g 4))] [(.long ((((((((((-3750763034362895579 : Int64) ^^^ (((g 0) &&& (255 : Int32)).toInt64)) * (1099511628211 : Int64)) ^^^ (((g 1) &&& (255 : Int32)).toInt64)) * (1099511628211 : Int64)) ^^^ (((g 2) &&& (255 : Int32)).toInt64)) * (1099511628211 : Int64)) ^^^ (((g 3) &&& (255 : Int32)).toInt64)) * (1099511628211 : Int64)) ^^^ (((g 4) &&& (255 : Int32)).toInt64)))])) t
              refine X1.ldc2Long hx hown (mvT hZ (hw _ (List.mem_of_getElem? (i := 57) rfl))) (g := (mkF m 38 #[.val (.ref a0), .val (.long (((((((((-3750763034362895579 : Int64) ^^^ (((g 0) &&& (255 : Int32)).toInt64)) * (1099511628211 : Int64)) ^^^ (((g 1) &&& (255 : Int32)).toInt64)) * (1099511628211 : Int64)) ^^^ (((g 2) &&& (255 : Int32)).toInt64)) * (1099511628211 : Int64)) ^^^ (((g 3) &&& (255 : Int32)).toInt64)) * (1099511628211 : Int64))), .second, .val (.ref b), .val (.int n), .val (.int (4 : Int32)), .val (.int (g 4))] [(.long ((((((((((-3750763034362895579 : Int64) ^^^ (((g 0) &&& (255 : Int32)).toInt64)) * (1099511628211 : Int64)) ^^^ (((g 1) &&& (255 : Int32)).toInt64)) * (1099511628211 : Int64)) ^^^ (((g 2) &&& (255 : Int32)).toInt64)) * (1099511628211 : Int64)) ^^^ (((g 3) &&& (255 : Int32)).toInt64)) * (1099511628211 : Int64)) ^^^ (((g 4) &&& (255 : Int32)).toInt64)))])) rfl (hb hby d9_38) _ ?_
              show Steps p.tables e below (T1.setTop (mkF m 41 #[.val (.ref a0), .val (.long (((((((((-3750763034362895579 : Int64) ^^^ (((g 0) &&& (255 : Int32)).toInt64)) * (1099511628211 : Int64)) ^^^ (((g 1) &&& (255 : Int32)).toInt64)) * (1099511628211 : Int64)) ^^^ (((g 2) &&& (255 : Int32)).toInt64)) * (1099511628211 : Int64)) ^^^ (((g 3) &&& (255 : Int32)).toInt64)) * (1099511628211 : Int64))), .second, .val (.ref b), .val (.int n), .val (.int (4 : Int32)), .val (.int (g 4))] [(.long (1099511628211 : Int64)), (.long ((((((((((-3750763034362895579 : Int64) ^^^ (((g 0) &&& (255 : Int32)).toInt64)) * (1099511628211 : Int64)) ^^^ (((g 1) &&& (255 : Int32)).toInt64)) * (1099511628211 : Int64)) ^^^ (((g 2) &&& (255 : Int32)).toInt64)) * (1099511628211 : Int64)) ^^^ (((g 3) &&& (255 : Int32)).toInt64)) * (1099511628211 : Int64)) ^^^ (((g 4) &&& (255 : Int32)).toInt64)))])) t
              refine XS.lmul X1.here hx rfl (hb hby d9_41) rfl ?_
              show Steps p.tables e below (T1.setTop (mkF m 42 #[.val (.ref a0), .val (.long (((((((((-3750763034362895579 : Int64) ^^^ (((g 0) &&& (255 : Int32)).toInt64)) * (1099511628211 : Int64)) ^^^ (((g 1) &&& (255 : Int32)).toInt64)) * (1099511628211 : Int64)) ^^^ (((g 2) &&& (255 : Int32)).toInt64)) * (1099511628211 : Int64)) ^^^ (((g 3) &&& (255 : Int32)).toInt64)) * (1099511628211 : Int64))), .second, .val (.ref b), .val (.int n), .val (.int (4 : Int32)), .val (.int (g 4))] [(.long (((((((((((-3750763034362895579 : Int64) ^^^ (((g 0) &&& (255 : Int32)).toInt64)) * (1099511628211 : Int64)) ^^^ (((g 1) &&& (255 : Int32)).toInt64)) * (1099511628211 : Int64)) ^^^ (((g 2) &&& (255 : Int32)).toInt64)) * (1099511628211 : Int64)) ^^^ (((g 3) &&& (255 : Int32)).toInt64)) * (1099511628211 : Int64)) ^^^ (((g 4) &&& (255 : Int32)).toInt64)) * (1099511628211 : Int64)))])) t
              refine XS.lstoreN X1.here hx rfl (hb hby d9_42) rfl (l' := #[.val (.ref a0), .val (.long (((((((((((-3750763034362895579 : Int64) ^^^ (((g 0) &&& (255 : Int32)).toInt64)) * (1099511628211 : Int64)) ^^^ (((g 1) &&& (255 : Int32)).toInt64)) * (1099511628211 : Int64)) ^^^ (((g 2) &&& (255 : Int32)).toInt64)) * (1099511628211 : Int64)) ^^^ (((g 3) &&& (255 : Int32)).toInt64)) * (1099511628211 : Int64)) ^^^ (((g 4) &&& (255 : Int32)).toInt64)) * (1099511628211 : Int64))), .second, .val (.ref b), .val (.int n), .val (.int (4 : Int32)), .val (.int (g 4))]) rfl ?_
              show Steps p.tables e below (T1.setTop (mkF m 43 #[.val (.ref a0), .val (.long (((((((((((-3750763034362895579 : Int64) ^^^ (((g 0) &&& (255 : Int32)).toInt64)) * (1099511628211 : Int64)) ^^^ (((g 1) &&& (255 : Int32)).toInt64)) * (1099511628211 : Int64)) ^^^ (((g 2) &&& (255 : Int32)).toInt64)) * (1099511628211 : Int64)) ^^^ (((g 3) &&& (255 : Int32)).toInt64)) * (1099511628211 : Int64)) ^^^ (((g 4) &&& (255 : Int32)).toInt64)) * (1099511628211 : Int64))), .second, .val (.ref b), .val (.int n), .val (.int (4 : Int32)), .val (.int (g 4))] [])) t
              refine XS.iinc X1.here hx rfl (hb hby d9_43) rfl (l' := #[.val (.ref a0), .val (.long (((((((((((-3750763034362895579 : Int64) ^^^ (((g 0) &&& (255 : Int32)).toInt64)) * (1099511628211 : Int64)) ^^^ (((g 1) &&& (255 : Int32)).toInt64)) * (1099511628211 : Int64)) ^^^ (((g 2) &&& (255 : Int32)).toInt64)) * (1099511628211 : Int64)) ^^^ (((g 3) &&& (255 : Int32)).toInt64)) * (1099511628211 : Int64)) ^^^ (((g 4) &&& (255 : Int32)).toInt64)) * (1099511628211 : Int64))), .second, .val (.ref b), .val (.int n), .val (.int (5 : Int32)), .val (.int (g 4))]) rfl ?_
              show Steps p.tables e below (T1.setTop (mkF m 46 #[.val (.ref a0), .val (.long (((((((((((-3750763034362895579 : Int64) ^^^ (((g 0) &&& (255 : Int32)).toInt64)) * (1099511628211 : Int64)) ^^^ (((g 1) &&& (255 : Int32)).toInt64)) * (1099511628211 : Int64)) ^^^ (((g 2) &&& (255 : Int32)).toInt64)) * (1099511628211 : Int64)) ^^^ (((g 3) &&& (255 : Int32)).toInt64)) * (1099511628211 : Int64)) ^^^ (((g 4) &&& (255 : Int32)).toInt64)) * (1099511628211 : Int64))), .second, .val (.ref b), .val (.int n), .val (.int (5 : Int32)), .val (.int (g 4))] [])) t
              refine XS.goto X1.here hx rfl (pc0 := 46) (pc' := 16) rfl (hb hby d9_46) (by decide) (by decide) ?_
              show Steps p.tables e below (T1.setTop (mkF m 16 #[.val (.ref a0), .val (.long (((((((((((-3750763034362895579 : Int64) ^^^ (((g 0) &&& (255 : Int32)).toInt64)) * (1099511628211 : Int64)) ^^^ (((g 1) &&& (255 : Int32)).toInt64)) * (1099511628211 : Int64)) ^^^ (((g 2) &&& (255 : Int32)).toInt64)) * (1099511628211 : Int64)) ^^^ (((g 3) &&& (255 : Int32)).toInt64)) * (1099511628211 : Int64)) ^^^ (((g 4) &&& (255 : Int32)).toInt64)) * (1099511628211 : Int64))), .second, .val (.ref b), .val (.int n), .val (.int (5 : Int32)), .val (.int (g 4))] [])) t
              refine XS.iload X1.here hx rfl (hb hby d9_16) rfl ?_
              show Steps p.tables e below (T1.setTop (mkF m 18 #[.val (.ref a0), .val (.long (((((((((((-3750763034362895579 : Int64) ^^^ (((g 0) &&& (255 : Int32)).toInt64)) * (1099511628211 : Int64)) ^^^ (((g 1) &&& (255 : Int32)).toInt64)) * (1099511628211 : Int64)) ^^^ (((g 2) &&& (255 : Int32)).toInt64)) * (1099511628211 : Int64)) ^^^ (((g 3) &&& (255 : Int32)).toInt64)) * (1099511628211 : Int64)) ^^^ (((g 4) &&& (255 : Int32)).toInt64)) * (1099511628211 : Int64))), .second, .val (.ref b), .val (.int n), .val (.int (5 : Int32)), .val (.int (g 4))] [(.int (5 : Int32))])) t
              refine XS.iload X1.here hx rfl (hb hby d9_18) rfl ?_
              exact kt
            by_cases hc20_13 : (5 : Int32) < n
            · refine own_by (A' := T1.setTop (mkF m 26 #[.val (.ref a0), .val (.long (((((((((((-3750763034362895579 : Int64) ^^^ (((g 0) &&& (255 : Int32)).toInt64)) * (1099511628211 : Int64)) ^^^ (((g 1) &&& (255 : Int32)).toInt64)) * (1099511628211 : Int64)) ^^^ (((g 2) &&& (255 : Int32)).toInt64)) * (1099511628211 : Int64)) ^^^ (((g 3) &&& (255 : Int32)).toInt64)) * (1099511628211 : Int64)) ^^^ (((g 4) &&& (255 : Int32)).toInt64)) * (1099511628211 : Int64))), .second, .val (.ref b), .val (.int n), .val (.int (5 : Int32)), .val (.int (g 4))] [(.int (5 : Int32)), (.ref b)])) (fun t kt => ?_) ?_
              · show Steps p.tables e below (T1.setTop (mkF m 20 #[.val (.ref a0), .val (.long (((((((((((-3750763034362895579 : Int64) ^^^ (((g 0) &&& (255 : Int32)).toInt64)) * (1099511628211 : Int64)) ^^^ (((g 1) &&& (255 : Int32)).toInt64)) * (1099511628211 : Int64)) ^^^ (((g 2) &&& (255 : Int32)).toInt64)) * (1099511628211 : Int64)) ^^^ (((g 3) &&& (255 : Int32)).toInt64)) * (1099511628211 : Int64)) ^^^ (((g 4) &&& (255 : Int32)).toInt64)) * (1099511628211 : Int64))), .second, .val (.ref b), .val (.int n), .val (.int (5 : Int32)), .val (.int (g 4))] [(.int n), (.int (5 : Int32))])) t
                refine XS.icmpNo X1.here hx rfl (hb hby d9_20) rfl (tlt hc20_13).2.1 ?_
                show Steps p.tables e below (T1.setTop (mkF m 23 #[.val (.ref a0), .val (.long (((((((((((-3750763034362895579 : Int64) ^^^ (((g 0) &&& (255 : Int32)).toInt64)) * (1099511628211 : Int64)) ^^^ (((g 1) &&& (255 : Int32)).toInt64)) * (1099511628211 : Int64)) ^^^ (((g 2) &&& (255 : Int32)).toInt64)) * (1099511628211 : Int64)) ^^^ (((g 3) &&& (255 : Int32)).toInt64)) * (1099511628211 : Int64)) ^^^ (((g 4) &&& (255 : Int32)).toInt64)) * (1099511628211 : Int64))), .second, .val (.ref b), .val (.int n), .val (.int (5 : Int32)), .val (.int (g 4))] [])) t
                refine XS.aloadN X1.here hx rfl (hb hby d9_23) rfl rfl ?_
                show Steps p.tables e below (T1.setTop (mkF m 24 #[.val (.ref a0), .val (.long (((((((((((-3750763034362895579 : Int64) ^^^ (((g 0) &&& (255 : Int32)).toInt64)) * (1099511628211 : Int64)) ^^^ (((g 1) &&& (255 : Int32)).toInt64)) * (1099511628211 : Int64)) ^^^ (((g 2) &&& (255 : Int32)).toInt64)) * (1099511628211 : Int64)) ^^^ (((g 3) &&& (255 : Int32)).toInt64)) * (1099511628211 : Int64)) ^^^ (((g 4) &&& (255 : Int32)).toInt64)) * (1099511628211 : Int64))), .second, .val (.ref b), .val (.int n), .val (.int (5 : Int32)), .val (.int (g 4))] [(.ref b)])) t
                refine XS.iload X1.here hx rfl (hb hby d9_24) rfl ?_
                exact kt
              obtain ⟨cl14, Ar14, Sz14, Mn14, Ha14⟩ := id V_b
              have hin14 := inb_of (j := (5 : Int32)) Sz14 ⟨by decide, hc20_13⟩
              have hat14 : cl14.slots[((5 : Int32)).toNatClampNeg]? = some (.int (g 5)) := (Ha14 _ (Nat.lt_of_not_le fun q => hin14 (Or.inr q))).trans (congrArg some rfl)
              refine own_by (A' := T1.setTop (mkF m 20 #[.val (.ref a0), .val (.long (((((((((((((-3750763034362895579 : Int64) ^^^ (((g 0) &&& (255 : Int32)).toInt64)) * (1099511628211 : Int64)) ^^^ (((g 1) &&& (255 : Int32)).toInt64)) * (1099511628211 : Int64)) ^^^ (((g 2) &&& (255 : Int32)).toInt64)) * (1099511628211 : Int64)) ^^^ (((g 3) &&& (255 : Int32)).toInt64)) * (1099511628211 : Int64)) ^^^ (((g 4) &&& (255 : Int32)).toInt64)) * (1099511628211 : Int64)) ^^^ (((g 5) &&& (255 : Int32)).toInt64)) * (1099511628211 : Int64))), .second, .val (.ref b), .val (.int n), .val (.int (6 : Int32)), .val (.int (g 5))] [(.int n), (.int (6 : Int32))])) (fun t kt => ?_) ?_
              · show Steps p.tables e below (T1.setTop (mkF m 26 #[.val (.ref a0), .val (.long (((((((((((-3750763034362895579 : Int64) ^^^ (((g 0) &&& (255 : Int32)).toInt64)) * (1099511628211 : Int64)) ^^^ (((g 1) &&& (255 : Int32)).toInt64)) * (1099511628211 : Int64)) ^^^ (((g 2) &&& (255 : Int32)).toInt64)) * (1099511628211 : Int64)) ^^^ (((g 3) &&& (255 : Int32)).toInt64)) * (1099511628211 : Int64)) ^^^ (((g 4) &&& (255 : Int32)).toInt64)) * (1099511628211 : Int64))), .second, .val (.ref b), .val (.int n), .val (.int (5 : Int32)), .val (.int (g 4))] [(.int (5 : Int32)), (.ref b)])) t
                refine X1.baloadBytes hx (j := (5 : Int32)) (v := (.int (g 5))) (by rw [e1]; exact Ar14.1) (State.isArrayOf_alike hZ.alike Ar14.2.1) Ar14.2.2 hin14 hat14 (g := (mkF m 26 #[.val (.ref a0), .val (.long (((((((((((-3750763034362895579 : Int64) ^^^ (((g 0) &&& (255 : Int32)).toInt64)) * (1099511628211 : Int64)) ^^^ (((g 1) &&& (255 : Int32)).toInt64)) * (1099511628211 : Int64)) ^^^ (((g 2) &&& (255 : Int32)).toInt64)) * (1099511628211 : Int64)) ^^^ (((g 3) &&& (255 : Int32)).toInt64)) * (1099511628211 : Int64)) ^^^ (((g 4) &&& (255 : Int32)).toInt64)) * (1099511628211 : Int64))), .second, .val (.ref b), .val (.int n), .val (.int (5 : Int32)), .val (.int (g 4))] [(.int (5 : Int32)), (.ref b)])) rfl rfl (hb hby d9_26) _ ?_
                show Steps p.tables e below (T1.setTop (mkF m 27 #[.val (.ref a0), .val (.long (((((((((((-3750763034362895579 : Int64) ^^^ (((g 0) &&& (255 : Int32)).toInt64)) * (1099511628211 : Int64)) ^^^ (((g 1) &&& (255 : Int32)).toInt64)) * (1099511628211 : Int64)) ^^^ (((g 2) &&& (255 : Int32)).toInt64)) * (1099511628211 : Int64)) ^^^ (((g 3) &&& (255 : Int32)).toInt64)) * (1099511628211 : Int64)) ^^^ (((g 4) &&& (255 : Int32)).toInt64)) * (1099511628211 : Int64))), .second, .val (.ref b), .val (.int n), .val (.int (5 : Int32)), .val (.int (g 4))] [(.int (g 5))])) t
                refine XS.istore X1.here hx rfl (hb hby d9_27) rfl (l' := #[.val (.ref a0), .val (.long (((((((((((-3750763034362895579 : Int64) ^^^ (((g 0) &&& (255 : Int32)).toInt64)) * (1099511628211 : Int64)) ^^^ (((g 1) &&& (255 : Int32)).toInt64)) * (1099511628211 : Int64)) ^^^ (((g 2) &&& (255 : Int32)).toInt64)) * (1099511628211 : Int64)) ^^^ (((g 3) &&& (255 : Int32)).toInt64)) * (1099511628211 : Int64)) ^^^ (((g 4) &&& (255 : Int32)).toInt64)) * (1099511628211 : Int64))), .second, .val (.ref b), .val (.int n), .val (.int (5 : Int32)), .val (.int (g 5))]) rfl ?_
                show Steps p.tables e below (T1.setTop (mkF m 29 #[.val (.ref a0), .val (.long (((((((((((-3750763034362895579 : Int64) ^^^ (((g 0) &&& (255 : Int32)).toInt64)) * (1099511628211 : Int64)) ^^^ (((g 1) &&& (255 : Int32)).toInt64)) * (1099511628211 : Int64)) ^^^ (((g 2) &&& (255 : Int32)).toInt64)) * (1099511628211 : Int64)) ^^^ (((g 3) &&& (255 : Int32)).toInt64)) * (1099511628211 : Int64)) ^^^ (((g 4) &&& (255 : Int32)).toInt64)) * (1099511628211 : Int64))), .second, .val (.ref b), .val (.int n), .val (.int (5 : Int32)), .val (.int (g 5))] [])) t
                refine XS.lloadN X1.here hx rfl (hb hby d9_29) rfl ?_
                show Steps p.tables e below (T1.setTop (mkF m 30 #[.val (.ref a0), .val (.long (((((((((((-3750763034362895579 : Int64) ^^^ (((g 0) &&& (255 : Int32)).toInt64)) * (1099511628211 : Int64)) ^^^ (((g 1) &&& (255 : Int32)).toInt64)) * (1099511628211 : Int64)) ^^^ (((g 2) &&& (255 : Int32)).toInt64)) * (1099511628211 : Int64)) ^^^ (((g 3) &&& (255 : Int32)).toInt64)) * (1099511628211 : Int64)) ^^^ (((g 4) &&& (255 : Int32)).toInt64)) * (1099511628211 : Int64))), .second, .val (.ref b), .val (.int n), .val (.int (5 : Int32)), .val (.int (g 5))] [(.long (((((((((((-3750763034362895579 : Int64) ^^^ (((g 0) &&& (255 : Int32)).toInt64)) * (1099511628211 : Int64)) ^^^ (((g 1) &&& (255 : Int32)).toInt64)) * (1099511628211 : Int64)) ^^^ (((g 2) &&& (255 : Int32)).toInt64)) * (1099511628211 : Int64)) ^^^ (((g 3) &&& (255 : Int32)).toInt64)) * (1099511628211 : Int64)) ^^^ (((g 4) &&& (255 : Int32)).toInt64)) * (1099511628211 : Int64)))])) t
                refine XS.iload X1.here hx rfl (hb hby d9_30) rfl ?_
                show Steps p.tables e below (T1.setTop (mkF m 32 #[.val (.ref a0), .val (.long (((((((((((-3750763034362895579 : Int64) ^^^ (((g 0) &&& (255 : Int32)).toInt64)) * (1099511628211 : Int64)) ^^^ (((g 1) &&& (255 : Int32)).toInt64)) * (1099511628211 : Int64)) ^^^ (((g 2) &&& (255 : Int32)).toInt64)) * (1099511628211 : Int64)) ^^^ (((g 3) &&& (255 : Int32)).toInt64)) * (1099511628211 : Int64)) ^^^ (((g 4) &&& (255 : Int32)).toInt64)) * (1099511628211 : Int64))), .second, .val (.ref b), .val (.int n), .val (.int (5 : Int32)), .val (.int (g 5))] [(.int (g 5)), (.long (((((((((((-3750763034362895579 : Int64) ^^^ (((g 0) &&& (255 : Int32)).toInt64)) * (1099511628211 : Int64)) ^^^ (((g 1) &&& (255 : Int32)).toInt64)) * (1099511628211 : Int64)) ^^^ (((g 2) &&& (255 : Int32)).toInt64)) * (1099511628211 : Int64)) ^^^ (((g 3) &&& (255 : Int32)).toInt64)) * (1099511628211 : Int64)) ^^^ (((g 4) &&& (255 : Int32)).toInt64)) * (1099511628211 : Int64)))])) t
                refine XS.sipush X1.here hx rfl (hb hby d9_32) ?_
                show Steps p.tables e below (T1.setTop (mkF m 35 #[.val (.ref a0), .val (.long (((((((((((-3750763034362895579 : Int64) ^^^ (((g 0) &&& (255 : Int32)).toInt64)) * (1099511628211 : Int64)) ^^^ (((g 1) &&& (255 : Int32)).toInt64)) * (1099511628211 : Int64)) ^^^ (((g 2) &&& (255 : Int32)).toInt64)) * (1099511628211 : Int64)) ^^^ (((g 3) &&& (255 : Int32)).toInt64)) * (1099511628211 : Int64)) ^^^ (((g 4) &&& (255 : Int32)).toInt64)) * (1099511628211 : Int64))), .second, .val (.ref b), .val (.int n), .val (.int (5 : Int32)), .val (.int (g 5))] [(.int (255 : Int32)), (.int (g 5)), (.long (((((((((((-3750763034362895579 : Int64) ^^^ (((g 0) &&& (255 : Int32)).toInt64)) * (1099511628211 : Int64)) ^^^ (((g 1) &&& (255 : Int32)).toInt64)) * (1099511628211 : Int64)) ^^^ (((g 2) &&& (255 : Int32)).toInt64)) * (1099511628211 : Int64)) ^^^ (((g 3) &&& (255 : Int32)).toInt64)) * (1099511628211 : Int64)) ^^^ (((g 4) &&& (255 : Int32)).toInt64)) * (1099511628211 : Int64)))])) t
                refine XS.iand X1.here hx rfl (hb hby d9_35) rfl ?_
                show Steps p.tables e below (T1.setTop (mkF m 36 #[.val (.ref a0), .val (.long (((((((((((-3750763034362895579 : Int64) ^^^ (((g 0) &&& (255 : Int32)).toInt64)) * (1099511628211 : Int64)) ^^^ (((g 1) &&& (255 : Int32)).toInt64)) * (1099511628211 : Int64)) ^^^ (((g 2) &&& (255 : Int32)).toInt64)) * (1099511628211 : Int64)) ^^^ (((g 3) &&& (255 : Int32)).toInt64)) * (1099511628211 : Int64)) ^^^ (((g 4) &&& (255 : Int32)).toInt64)) * (1099511628211 : Int64))), .second, .val (.ref b), .val (.int n), .val (.int (5 : Int32)), .val (.int (g 5))] [(.int ((g 5) &&& (255 : Int32))), (.long (((((((((((-3750763034362895579 : Int64) ^^^ (((g 0) &&& (255 : Int32)).toInt64)) * (1099511628211 : Int64)) ^^^ (((g 1) &&& (255 : Int32)).toInt64)) * (1099511628211 : Int64)) ^^^ (((g 2) &&& (255 : Int32)).toInt64)) * (1099511628211 : Int64)) ^^^ (((g 3) &&& (255 : Int32)).toInt64)) * (1099511628211 : Int64)) ^^^ (((g 4) &&& (255 : Int32)).toInt64)) * (1099511628211 : Int64)))])) t
                refine XS.i2l X1.here hx rfl (hb hby d9_36) rfl ?_
                show Steps p.tables e below (T1.setTop (mkF m 37 #[.val (.ref a0), .val (.long (((((((((((-3750763034362895579 : Int64) ^^^ (((g 0) &&& (255 : Int32)).toInt64)) * (1099511628211 : Int64)) ^^^ (((g 1) &&& (255 : Int32)).toInt64)) * (1099511628211 : Int64)) ^^^ (((g 2) &&& (255 : Int32)).toInt64)) * (1099511628211 : Int64)) ^^^ (((g 3) &&& (255 : Int32)).toInt64)) * (1099511628211 : Int64)) ^^^ (((g 4) &&& (255 : Int32)).toInt64)) * (1099511628211 : Int64))), .second, .val (.ref b), .val (.int n), .val (.int (5 : Int32)), .val (.int (g 5))] [(.long (((g 5) &&& (255 : Int32)).toInt64)), (.long (((((((((((-3750763034362895579 : Int64) ^^^ (((g 0) &&& (255 : Int32)).toInt64)) * (1099511628211 : Int64)) ^^^ (((g 1) &&& (255 : Int32)).toInt64)) * (1099511628211 : Int64)) ^^^ (((g 2) &&& (255 : Int32)).toInt64)) * (1099511628211 : Int64)) ^^^ (((g 3) &&& (255 : Int32)).toInt64)) * (1099511628211 : Int64)) ^^^ (((g 4) &&& (255 : Int32)).toInt64)) * (1099511628211 : Int64)))])) t
                refine XS.lxor X1.here hx rfl (hb hby d9_37) rfl ?_
                show Steps p.tables e below (T1.setTop (mkF m 38 #[.val (.ref a0), .val (.long (((((((((((-3750763034362895579 : Int64) ^^^ (((g 0) &&& (255 : Int32)).toInt64)) * (1099511628211 : Int64)) ^^^ (((g 1) &&& (255 : Int32)).toInt64)) * (1099511628211 : Int64)) ^^^ (((g 2) &&& (255 : Int32)).toInt64)) * (1099511628211 : Int64)) ^^^ (((g 3) &&& (255 : Int32)).toInt64)) * (1099511628211 : Int64)) ^^^ (((g 4) &&& (255 : Int32)).toInt64)) * (1099511628211 : Int64))), .second, .val (.ref b), .val (.int n), .val (.int (5 : Int32)), .val (.int (g 5))] [(.long ((((((((((((-3750763034362895579 : Int64) ^^^ (((g 0) &&& (255 : Int32)).toInt64)) * (1099511628211 : Int64)) ^^^ (((g 1) &&& (255 : Int32)).toInt64)) * (1099511628211 : Int64)) ^^^ (((g 2) &&& (255 : Int32)).toInt64)) * (1099511628211 : Int64)) ^^^ (((g 3) &&& (255 : Int32)).toInt64)) * (1099511628211 : Int64)) ^^^ (((g 4) &&& (255 : Int32)).toInt64)) * (1099511628211 : Int64)) ^^^ (((g 5) &&& (255 : Int32)).toInt64)))])) t
                refine X1.ldc2Long hx hown (mvT hZ (hw _ (List.mem_of_getElem? (i := 57) rfl))) (g := (mkF m 38 #[.val (.ref a0), .val (.long (((((((((((-3750763034362895579 : Int64) ^^^ (((g 0) &&& (255 : Int32)).toInt64)) * (1099511628211 : Int64)) ^^^ (((g 1) &&& (255 : Int32)).toInt64)) * (1099511628211 : Int64)) ^^^ (((g 2) &&& (255 : Int32)).toInt64)) * (1099511628211 : Int64)) ^^^ (((g 3) &&& (255 : Int32)).toInt64)) * (1099511628211 : Int64)) ^^^ (((g 4) &&& (255 : Int32)).toInt64)) * (1099511628211 : Int64))), .second, .val (.ref b), .val (.int n), .val (.int (5 : Int32)), .val (.int (g 5))] [(.long ((((((((((((-3750763034362895579 : Int64) ^^^ (((g 0) &&& (255 : Int32)).toInt64)) * (1099511628211 : Int64)) ^^^ (((g 1) &&& (255 : Int32)).toInt64)) * (1099511628211 : Int64)) ^^^ (((g 2) &&& (255 : Int32)).toInt64)) * (1099511628211 : Int64)) ^^^ (((g 3) &&& (255 : Int32)).toInt64)) * (1099511628211 : Int64)) ^^^ (((g 4) &&& (255 : Int32)).toInt64)) * (1099511628211 : Int64)) ^^^ (((g 5) &&& (255 : Int32)).toInt64)))])) rfl (hb hby d9_38) _ ?_
                show Steps p.tables e below (T1.setTop (mkF m 41 #[.val (.ref a0), .val (.long (((((((((((-3750763034362895579 : Int64) ^^^ (((g 0) &&& (255 : Int32)).toInt64)) * (1099511628211 : Int64)) ^^^ (((g 1) &&& (255 : Int32)).toInt64)) * (1099511628211 : Int64)) ^^^ (((g 2) &&& (255 : Int32)).toInt64)) * (1099511628211 : Int64)) ^^^ (((g 3) &&& (255 : Int32)).toInt64)) * (1099511628211 : Int64)) ^^^ (((g 4) &&& (255 : Int32)).toInt64)) * (1099511628211 : Int64))), .second, .val (.ref b), .val (.int n), .val (.int (5 : Int32)), .val (.int (g 5))] [(.long (1099511628211 : Int64)), (.long ((((((((((((-3750763034362895579 : Int64) ^^^ (((g 0) &&& (255 : Int32)).toInt64)) * (1099511628211 : Int64)) ^^^ (((g 1) &&& (255 : Int32)).toInt64)) * (1099511628211 : Int64)) ^^^ (((g 2) &&& (255 : Int32)).toInt64)) * (1099511628211 : Int64)) ^^^ (((g 3) &&& (255 : Int32)).toInt64)) * (1099511628211 : Int64)) ^^^ (((g 4) &&& (255 : Int32)).toInt64)) * (1099511628211 : Int64)) ^^^ (((g 5) &&& (255 : Int32)).toInt64)))])) t
                refine XS.lmul X1.here hx rfl (hb hby d9_41) rfl ?_
                show Steps p.tables e below (T1.setTop (mkF m 42 #[.val (.ref a0), .val (.long (((((((((((-3750763034362895579 : Int64) ^^^ (((g 0) &&& (255 : Int32)).toInt64)) * (1099511628211 : Int64)) ^^^ (((g 1) &&& (255 : Int32)).toInt64)) * (1099511628211 : Int64)) ^^^ (((g 2) &&& (255 : Int32)).toInt64)) * (1099511628211 : Int64)) ^^^ (((g 3) &&& (255 : Int32)).toInt64)) * (1099511628211 : Int64)) ^^^ (((g 4) &&& (255 : Int32)).toInt64)) * (1099511628211 : Int64))), .second, .val (.ref b), .val (.int n), .val (.int (5 : Int32)), .val (.int (g 5))] [(.long (((((((((((((-3750763034362895579 : Int64) ^^^ (((g 0) &&& (255 : Int32)).toInt64)) * (1099511628211 : Int64)) ^^^ (((g 1) &&& (255 : Int32)).toInt64)) * (1099511628211 : Int64)) ^^^ (((g 2) &&& (255 : Int32)).toInt64)) * (1099511628211 : Int64)) ^^^ (((g 3) &&& (255 : Int32)).toInt64)) * (1099511628211 : Int64)) ^^^ (((g 4) &&& (255 : Int32)).toInt64)) * (1099511628211 : Int64)) ^^^ (((g 5) &&& (255 : Int32)).toInt64)) * (1099511628211 : Int64)))])) t
                refine XS.lstoreN X1.here hx rfl (hb hby d9_42) rfl (l' := #[.val (.ref a0), .val (.long (((((((((((((-3750763034362895579 : Int64) ^^^ (((g 0) &&& (255 : Int32)).toInt64)) * (1099511628211 : Int64)) ^^^ (((g 1) &&& (255 : Int32)).toInt64)) * (1099511628211 : Int64)) ^^^ (((g 2) &&& (255 : Int32)).toInt64)) * (1099511628211 : Int64)) ^^^ (((g 3) &&& (255 : Int32)).toInt64)) * (1099511628211 : Int64)) ^^^ (((g 4) &&& (255 : Int32)).toInt64)) * (1099511628211 : Int64)) ^^^ (((g 5) &&& (255 : Int32)).toInt64)) * (1099511628211 : Int64))), .second, .val (.ref b), .val (.int n), .val (.int (5 : Int32)), .val (.int (g 5))]) rfl ?_
                show Steps p.tables e below (T1.setTop (mkF m 43 #[.val (.ref a0), .val (.long (((((((((((((-3750763034362895579 : Int64) ^^^ (((g 0) &&& (255 : Int32)).toInt64)) * (1099511628211 : Int64)) ^^^ (((g 1) &&& (255 : Int32)).toInt64)) * (1099511628211 : Int64)) ^^^ (((g 2) &&& (255 : Int32)).toInt64)) * (1099511628211 : Int64)) ^^^ (((g 3) &&& (255 : Int32)).toInt64)) * (1099511628211 : Int64)) ^^^ (((g 4) &&& (255 : Int32)).toInt64)) * (1099511628211 : Int64)) ^^^ (((g 5) &&& (255 : Int32)).toInt64)) * (1099511628211 : Int64))), .second, .val (.ref b), .val (.int n), .val (.int (5 : Int32)), .val (.int (g 5))] [])) t
                refine XS.iinc X1.here hx rfl (hb hby d9_43) rfl (l' := #[.val (.ref a0), .val (.long (((((((((((((-3750763034362895579 : Int64) ^^^ (((g 0) &&& (255 : Int32)).toInt64)) * (1099511628211 : Int64)) ^^^ (((g 1) &&& (255 : Int32)).toInt64)) * (1099511628211 : Int64)) ^^^ (((g 2) &&& (255 : Int32)).toInt64)) * (1099511628211 : Int64)) ^^^ (((g 3) &&& (255 : Int32)).toInt64)) * (1099511628211 : Int64)) ^^^ (((g 4) &&& (255 : Int32)).toInt64)) * (1099511628211 : Int64)) ^^^ (((g 5) &&& (255 : Int32)).toInt64)) * (1099511628211 : Int64))), .second, .val (.ref b), .val (.int n), .val (.int (6 : Int32)), .val (.int (g 5))]) rfl ?_
                show Steps p.tables e below (T1.setTop (mkF m 46 #[.val (.ref a0), .val (.long (((((((((((((-3750763034362895579 : Int64) ^^^ (((g 0) &&& (255 : Int32)).toInt64)) * (1099511628211 : Int64)) ^^^ (((g 1) &&& (255 : Int32)).toInt64)) * (1099511628211 : Int64)) ^^^ (((g 2) &&& (255 : Int32)).toInt64)) * (1099511628211 : Int64)) ^^^ (((g 3) &&& (255 : Int32)).toInt64)) * (1099511628211 : Int64)) ^^^ (((g 4) &&& (255 : Int32)).toInt64)) * (1099511628211 : Int64)) ^^^ (((g 5) &&& (255 : Int32)).toInt64)) * (1099511628211 : Int64))), .second, .val (.ref b), .val (.int n), .val (.int (6 : Int32)), .val (.int (g 5))] [])) t
                refine XS.goto X1.here hx rfl (pc0 := 46) (pc' := 16) rfl (hb hby d9_46) (by decide) (by decide) ?_
                show Steps p.tables e below (T1.setTop (mkF m 16 #[.val (.ref a0), .val (.long (((((((((((((-3750763034362895579 : Int64) ^^^ (((g 0) &&& (255 : Int32)).toInt64)) * (1099511628211 : Int64)) ^^^ (((g 1) &&& (255 : Int32)).toInt64)) * (1099511628211 : Int64)) ^^^ (((g 2) &&& (255 : Int32)).toInt64)) * (1099511628211 : Int64)) ^^^ (((g 3) &&& (255 : Int32)).toInt64)) * (1099511628211 : Int64)) ^^^ (((g 4) &&& (255 : Int32)).toInt64)) * (1099511628211 : Int64)) ^^^ (((g 5) &&& (255 : Int32)).toInt64)) * (1099511628211 : Int64))), .second, .val (.ref b), .val (.int n), .val (.int (6 : Int32)), .val (.int (g 5))] [])) t
                refine XS.iload X1.here hx rfl (hb hby d9_16) rfl ?_
                show Steps p.tables e below (T1.setTop (mkF m 18 #[.val (.ref a0), .val (.long (((((((((((((-3750763034362895579 : Int64) ^^^ (((g 0) &&& (255 : Int32)).toInt64)) * (1099511628211 : Int64)) ^^^ (((g 1) &&& (255 : Int32)).toInt64)) * (1099511628211 : Int64)) ^^^ (((g 2) &&& (255 : Int32)).toInt64)) * (1099511628211 : Int64)) ^^^ (((g 3) &&& (255 : Int32)).toInt64)) * (1099511628211 : Int64)) ^^^ (((g 4) &&& (255 : Int32)).toInt64)) * (1099511628211 : Int64)) ^^^ (((g 5) &&& (255 : Int32)).toInt64)) * (1099511628211 : Int64))), .second, .val (.ref b), .val (.int n), .val (.int (6 : Int32)), .val (.int (g 5))] [(.int (6 : Int32))])) t
                refine XS.iload X1.here hx rfl (hb hby d9_18) rfl ?_
                exact kt
              by_cases hc20_15 : (6 : Int32) < n
              · refine own_by (A' := T1.setTop (mkF m 26 #[.val (.ref a0), .val (.long (((((((((((((-3750763034362895579 : Int64) ^^^ (((g 0) &&& (255 : Int32)).toInt64)) * (1099511628211 : Int64)) ^^^ (((g 1) &&& (255 : Int32)).toInt64)) * (1099511628211 : Int64)) ^^^ (((g 2) &&& (255 : Int32)).toInt64)) * (1099511628211 : Int64)) ^^^ (((g 3) &&& (255 : Int32)).toInt64)) * (1099511628211 : Int64)) ^^^ (((g 4) &&& (255 : Int32)).toInt64)) * (1099511628211 : Int64)) ^^^ (((g 5) &&& (255 : Int32)).toInt64)) * (1099511628211 : Int64))), .second, .val (.ref b), .val (.int n), .val (.int (6 : Int32)), .val (.int (g 5))] [(.int (6 : Int32)), (.ref b)])) (fun t kt => ?_) ?_
                · show Steps p.tables e below (T1.setTop (mkF m 20 #[.val (.ref a0), .val (.long (((((((((((((-3750763034362895579 : Int64) ^^^ (((g 0) &&& (255 : Int32)).toInt64)) * (1099511628211 : Int64)) ^^^ (((g 1) &&& (255 : Int32)).toInt64)) * (1099511628211 : Int64)) ^^^ (((g 2) &&& (255 : Int32)).toInt64)) * (1099511628211 : Int64)) ^^^ (((g 3) &&& (255 : Int32)).toInt64)) * (1099511628211 : Int64)) ^^^ (((g 4) &&& (255 : Int32)).toInt64)) * (1099511628211 : Int64)) ^^^ (((g 5) &&& (255 : Int32)).toInt64)) * (1099511628211 : Int64))), .second, .val (.ref b), .val (.int n), .val (.int (6 : Int32)), .val (.int (g 5))] [(.int n), (.int (6 : Int32))])) t
                  refine XS.icmpNo X1.here hx rfl (hb hby d9_20) rfl (tlt hc20_15).2.1 ?_
                  show Steps p.tables e below (T1.setTop (mkF m 23 #[.val (.ref a0), .val (.long (((((((((((((-3750763034362895579 : Int64) ^^^ (((g 0) &&& (255 : Int32)).toInt64)) * (1099511628211 : Int64)) ^^^ (((g 1) &&& (255 : Int32)).toInt64)) * (1099511628211 : Int64)) ^^^ (((g 2) &&& (255 : Int32)).toInt64)) * (1099511628211 : Int64)) ^^^ (((g 3) &&& (255 : Int32)).toInt64)) * (1099511628211 : Int64)) ^^^ (((g 4) &&& (255 : Int32)).toInt64)) * (1099511628211 : Int64)) ^^^ (((g 5) &&& (255 : Int32)).toInt64)) * (1099511628211 : Int64))), .second, .val (.ref b), .val (.int n), .val (.int (6 : Int32)), .val (.int (g 5))] [])) t
                  refine XS.aloadN X1.here hx rfl (hb hby d9_23) rfl rfl ?_
                  show Steps p.tables e below (T1.setTop (mkF m 24 #[.val (.ref a0), .val (.long (((((((((((((-3750763034362895579 : Int64) ^^^ (((g 0) &&& (255 : Int32)).toInt64)) * (1099511628211 : Int64)) ^^^ (((g 1) &&& (255 : Int32)).toInt64)) * (1099511628211 : Int64)) ^^^ (((g 2) &&& (255 : Int32)).toInt64)) * (1099511628211 : Int64)) ^^^ (((g 3) &&& (255 : Int32)).toInt64)) * (1099511628211 : Int64)) ^^^ (((g 4) &&& (255 : Int32)).toInt64)) * (1099511628211 : Int64)) ^^^ (((g 5) &&& (255 : Int32)).toInt64)) * (1099511628211 : Int64))), .second, .val (.ref b), .val (.int n), .val (.int (6 : Int32)), .val (.int (g 5))] [(.ref b)])) t
                  refine XS.iload X1.here hx rfl (hb hby d9_24) rfl ?_
                  exact kt
                obtain ⟨cl16, Ar16, Sz16, Mn16, Ha16⟩ := id V_b
                have hin16 := inb_of (j := (6 : Int32)) Sz16 ⟨by decide, hc20_15⟩
                have hat16 : cl16.slots[((6 : Int32)).toNatClampNeg]? = some (.int (g 6)) := (Ha16 _ (Nat.lt_of_not_le fun q => hin16 (Or.inr q))).trans (congrArg some rfl)
                refine own_by (A' := T1.setTop (mkF m 20 #[.val (.ref a0), .val (.long (((((((((((((((-3750763034362895579 : Int64) ^^^ (((g 0) &&& (255 : Int32)).toInt64)) * (1099511628211 : Int64)) ^^^ (((g 1) &&& (255 : Int32)).toInt64)) * (1099511628211 : Int64)) ^^^ (((g 2) &&& (255 : Int32)).toInt64)) * (1099511628211 : Int64)) ^^^ (((g 3) &&& (255 : Int32)).toInt64)) * (1099511628211 : Int64)) ^^^ (((g 4) &&& (255 : Int32)).toInt64)) * (1099511628211 : Int64)) ^^^ (((g 5) &&& (255 : Int32)).toInt64)) * (1099511628211 : Int64)) ^^^ (((g 6) &&& (255 : Int32)).toInt64)) * (1099511628211 : Int64))), .second, .val (.ref b), .val (.int n), .val (.int (7 : Int32)), .val (.int (g 6))] [(.int n), (.int (7 : Int32))])) (fun t kt => ?_) ?_
                · show Steps p.tables e below (T1.setTop (mkF m 26 #[.val (.ref a0), .val (.long (((((((((((((-3750763034362895579 : Int64) ^^^ (((g 0) &&& (255 : Int32)).toInt64)) * (1099511628211 : Int64)) ^^^ (((g 1) &&& (255 : Int32)).toInt64)) * (1099511628211 : Int64)) ^^^ (((g 2) &&& (255 : Int32)).toInt64)) * (1099511628211 : Int64)) ^^^ (((g 3) &&& (255 : Int32)).toInt64)) * (1099511628211 : Int64)) ^^^ (((g 4) &&& (255 : Int32)).toInt64)) * (1099511628211 : Int64)) ^^^ (((g 5) &&& (255 : Int32)).toInt64)) * (1099511628211 : Int64))), .second, .val (.ref b), .val (.int n), .val (.int (6 : Int32)), .val (.int (g 5))] [(.int (6 : Int32)), (.ref b)])) t
                  refine X1.baloadBytes hx (j := (6 : Int32)) (v := (.int (g 6))) (by rw [e1]; exact Ar16.1) (State.isArrayOf_alike hZ.alike Ar16.2.1) Ar16.2.2 hin16 hat16 (g := (mkF m 26 #[.val (.ref a0), .val (.long (((((((((((((-3750763034362895579 : Int64) ^^^ (((g 0) &&& (255 : Int32)).toInt64)) * (1099511628211 : Int64)) ^^^ (((g 1) &&& (255 : Int32)).toInt64)) * (1099511628211 : Int64)) ^^^ (((g 2) &&& (255 : Int32)).toInt64)) * (1099511628211 : Int64)) ^^^ (((g 3) &&& (255 : Int32)).toInt64)) * (1099511628211 : Int64)) ^^^ (((g 4) &&& (255 : Int32)).toInt64)) * (1099511628211 : Int64)) ^^^ (((g 5) &&& (255 : Int32)).toInt64)) * (1099511628211 : Int64))), .second, .val (.ref b), .val (.int n), .val (.int (6 : Int32)), .val (.int (g 5))] [(.int (6 : Int32)), (.ref b)])) rfl rfl (hb hby d9_26) _ ?_
                  show Steps p.tables e below (T1.setTop (mkF m 27 #[.val (.ref a0), .val (.long (((((((((((((-3750763034362895579 : Int64) ^^^ (((g 0) &&& (255 : Int32)).toInt64)) * (1099511628211 : Int64)) ^^^ (((g 1) &&& (255 : Int32)).toInt64)) * (1099511628211 : Int64)) ^^^ (((g 2) &&& (255 : Int32)).toInt64)) * (1099511628211 : Int64)) ^^^ (((g 3) &&& (255 : Int32)).toInt64)) * (1099511628211 : Int64)) ^^^ (((g 4) &&& (255 : Int32)).toInt64)) * (1099511628211 : Int64)) ^^^ (((g 5) &&& (255 : Int32)).toInt64)) * (1099511628211 : Int64))), .second, .val (.ref b), .val (.int n), .val (.int (6 : Int32)), .val (.int (g 5))] [(.int (g 6))])) t
                  refine XS.istore X1.here hx rfl (hb hby d9_27) rfl (l' := #[.val (.ref a0), .val (.long (((((((((((((-3750763034362895579 : Int64) ^^^ (((g 0) &&& (255 : Int32)).toInt64)) * (1099511628211 : Int64)) ^^^ (((g 1) &&& (255 : Int32)).toInt64)) * (1099511628211 : Int64)) ^^^ (((g 2) &&& (255 : Int32)).toInt64)) * (1099511628211 : Int64)) ^^^ (((g 3) &&& (255 : Int32)).toInt64)) * (1099511628211 : Int64)) ^^^ (((g 4) &&& (255 : Int32)).toInt64)) * (1099511628211 : Int64)) ^^^ (((g 5) &&& (255 : Int32)).toInt64)) * (1099511628211 : Int64))), .second, .val (.ref b), .val (.int n), .val (.int (6 : Int32)), .val (.int (g 6))]) rfl ?_
                  show Steps p.tables e below (T1.setTop (mkF m 29 #[.val (.ref a0), .val (.long (((((((((((((-3750763034362895579 : Int64) ^^^ (((g 0) &&& (255 : Int32)).toInt64)) * (1099511628211 : Int64)) ^^^ (((g 1) &&& (255 : Int32)).toInt64)) * (1099511628211 : Int64)) ^^^ (((g 2) &&& (255 : Int32)).toInt64)) * (1099511628211 : Int64)) ^^^ (((g 3) &&& (255 : Int32)).toInt64)) * (1099511628211 : Int64)) ^^^ (((g 4) &&& (255 : Int32)).toInt64)) * (1099511628211 : Int64)) ^^^ (((g 5) &&& (255 : Int32)).toInt64)) * (1099511628211 : Int64))), .second, .val (.ref b), .val (.int n), .val (.int (6 : Int32)), .val (.int (g 6))] [])) t
                  refine XS.lloadN X1.here hx rfl (hb hby d9_29) rfl ?_
                  show Steps p.tables e below (T1.setTop (mkF m 30 #[.val (.ref a0), .val (.long (((((((((((((-3750763034362895579 : Int64) ^^^ (((g 0) &&& (255 : Int32)).toInt64)) * (1099511628211 : Int64)) ^^^ (((g 1) &&& (255 : Int32)).toInt64)) * (1099511628211 : Int64)) ^^^ (((g 2) &&& (255 : Int32)).toInt64)) * (1099511628211 : Int64)) ^^^ (((g 3) &&& (255 : Int32)).toInt64)) * (1099511628211 : Int64)) ^^^ (((g 4) &&& (255 : Int32)).toInt64)) * (1099511628211 : Int64)) ^^^ (((g 5) &&& (255 : Int32)).toInt64)) * (1099511628211 : Int64))), .second, .val (.ref b), .val (.int n), .val (.int (6 : Int32)), .val (.int (g 6))] [(.long (((((((((((((-3750763034362895579 : Int64) ^^^ (((g 0) &&& (255 : Int32)).toInt64)) * (1099511628211 : Int64)) ^^^ (((g 1) &&& (255 : Int32)).toInt64)) * (1099511628211 : Int64)) ^^^ (((g 2) &&& (255 : Int32)).toInt64)) * (1099511628211 : Int64)) ^^^ (((g 3) &&& (255 : Int32)).toInt64)) * (1099511628211 : Int64)) ^^^ (((g 4) &&& (255 : Int32)).toInt64)) * (1099511628211 : Int64)) ^^^ (((g 5) &&& (255 : Int32)).toInt64)) * (1099511628211 : Int64)))])) t
                  refine XS.iload X1.here hx rfl (hb hby d9_30) rfl ?_
                  show Steps p.tables e below (T1.setTop (mkF m 32 #[.val (.ref a0), .val (.long (((((((((((((-3750763034362895579 : Int64) ^^^ (((g 0) &&& (255 : Int32)).toInt64)) * (1099511628211 : Int64)) ^^^ (((g 1) &&& (255 : Int32)).toInt64)) * (1099511628211 : Int64)) ^^^ (((g 2) &&& (255 : Int32)).toInt64)) * (1099511628211 : Int64)) ^^^ (((g 3) &&& (255 : Int32)).toInt64)) * (1099511628211 : Int64)) ^^^ (((g 4) &&& (255 : Int32)).toInt64)) * (1099511628211 : Int64)) ^^^ (((g 5) &&& (255 : Int32)).toInt64)) * (1099511628211 : Int64))), .second, .val (.ref b), .val (.int n), .val (.int (6 : Int32)), .val (.int (g 6))] [(.int (g 6)), (.long (((((((((((((-3750763034362895579 : Int64) ^^^ (((g 0) &&& (255 : Int32)).toInt64)) * (1099511628211 : Int64)) ^^^ (((g 1) &&& (255 : Int32)).toInt64)) * (1099511628211 : Int64)) ^^^ (((g 2) &&& (255 : Int32)).toInt64)) * (1099511628211 : Int64)) ^^^ (((g 3) &&& (255 : Int32)).toInt64)) * (1099511628211 : Int64)) ^^^ (((g 4) &&& (255 : Int32)).toInt64)) * (1099511628211 : Int64)) ^^^ (((g 5) &&& (255 : Int32)).toInt64)) * (1099511628211 : Int64)))])) t
                  refine XS.sipush X1.here hx rfl (hb hby d9_32) ?_
                  show Steps p.tables e below (T1.setTop (mkF m 35 #[.val (.ref a0), .val (.long (((((((((((((-3750763034362895579 : Int64) ^^^ (((g 0) &&& (255 : Int32)).toInt64)) * (1099511628211 : Int64)) ^^^ (((g 1) &&& (255 : Int32)).toInt64)) * (1099511628211 : Int64)) ^^^ (((g 2) &&& (255 : Int32)).toInt64)) * (1099511628211 : Int64)) ^^^ (((g 3) &&& (255 : Int32)).toInt64)) * (1099511628211 : Int64)) ^^^ (((g 4) &&& (255 : Int32)).toInt64)) * (1099511628211 : Int64)) ^^^ (((g 5) &&& (255 : Int32)).toInt64)) * (1099511628211 : Int64))), .second, .val (.ref b), .val (.int n), .val (.int (6 : Int32)), .val (.int (g 6))] [(.int (255 : Int32)), (.int (g 6)), (.long (((((((((((((-3750763034362895579 : Int64) ^^^ (((g 0) &&& (255 : Int32)).toInt64)) * (1099511628211 : Int64)) ^^^ (((g 1) &&& (255 : Int32)).toInt64)) * (1099511628211 : Int64)) ^^^ (((g 2) &&& (255 : Int32)).toInt64)) * (1099511628211 : Int64)) ^^^ (((g 3) &&& (255 : Int32)).toInt64)) * (1099511628211 : Int64)) ^^^ (((g 4) &&& (255 : Int32)).toInt64)) * (1099511628211 : Int64)) ^^^ (((g 5) &&& (255 : Int32)).toInt64)) * (1099511628211 : Int64)))])) t
                  refine XS.iand X1.here hx rfl (hb hby d9_35) rfl ?_
                  show Steps p.tables e below (T1.setTop (mkF m 36 #[.val (.ref a0), .val (.long (((((((((((((-3750763034362895579 : Int64) ^^^ (((g 0) &&& (255 : Int32)).toInt64)) * (1099511628211 : Int64)) ^^^ (((g 1) &&& (255 : Int32)).toInt64)) * (1099511628211 : Int64)) ^^^ (((g 2) &&& (255 : Int32)).toInt64)) * (1099511628211 : Int64)) ^^^ (((g 3) &&& (255 : Int32)).toInt64)) * (1099511628211 : Int64)) ^^^ (((g 4) &&& (255 : Int32)).toInt64)) * (1099511628211 : Int64)) ^^^ (((g 5) &&& (255 : Int32)).toInt64)) * (1099511628211 : Int64))), .second, .val (.ref b), .val (.int n), .val (.int (6 : Int32)), .val (.int (g 6))] [(.int ((g 6) &&& (255 : Int32))), (.long (((((((((((((-3750763034362895579 : Int64) ^^^ (((g 0) &&& (255 : Int32)).toInt64)) * (1099511628211 : Int64)) ^^^ (((g 1) &&& (255 : Int32)).toInt64)) * (1099511628211 : Int64)) ^^^ (((g 2) &&& (255 : Int32)).toInt64)) * (1099511628211 : Int64)) ^^^ (((g 3) &&& (255 : Int32)).toInt64)) * (1099511628211 : Int64)) ^^^ (((g 4) &&& (255 : Int32)).toInt64)) * (1099511628211 : Int64)) ^^^ (((g 5) &&& (255 : Int32)).toInt64)) * (1099511628211 : Int64)))])) t
                  refine XS.i2l X1.here hx rfl (hb hby d9_36) rfl ?_
                  show Steps p.tables e below (T1.setTop (mkF m 37 #[.val (.ref a0), .val (.long (((((((((((((-3750763034362895579 : Int64) ^^^ (((g 0) &&& (255 : Int32)).toInt64)) * (1099511628211 : Int64)) ^^^ (((g 1) &&& (255 : Int32)).toInt64)) * (1099511628211 : Int64)) ^^^ (((g 2) &&& (255 : Int32)).toInt64)) * (1099511628211 : Int64)) ^^^ (((g 3) &&& (255 : Int32)).toInt64)) * (1099511628211 : Int64)) ^^^ (((g 4) &&& (255 : Int32)).toInt64)) * (1099511628211 : Int64)) ^^^ (((g 5) &&& (255 : Int32)).toInt64)) * (1099511628211 : Int64))), .second, .val (.ref b), .val (.int n), .val (.int (6 : Int32)), .val (.int (g 6))] [(.long (((g 6) &&& (255 : Int32)).toInt64)), (.long (((((((((((((-3750763034362895579 : Int64) ^^^ (((g 0) &&& (255 : Int32)).toInt64)) * (1099511628211 : Int64)) ^^^ (((g 1) &&& (255 : Int32)).toInt64)) * (1099511628211 : Int64)) ^^^ (((g 2) &&& (255 : Int32)).toInt64)) * (1099511628211 : Int64)) ^^^ (((g 3) &&& (255 : Int32)).toInt64)) * (1099511628211 : Int64)) ^^^ (((g 4) &&& (255 : Int32)).toInt64)) * (1099511628211 : Int64)) ^^^ (((g 5) &&& (255 : Int32)).toInt64)) * (1099511628211 : Int64)))])) t
                  refine XS.lxor X1.here hx rfl (hb hby d9_37) rfl ?_
                  show Steps p.tables e below (T1.setTop (mkF m 38 #[.val (.ref a0), .val (.long (((((((((((((-3750763034362895579 : Int64) ^^^ (((g 0) &&& (255 : Int32)).toInt64)) * (1099511628211 : Int64)) ^^^ (((g 1) &&& (255 : Int32)).toInt64)) * (1099511628211 : Int64)) ^^^ (((g 2) &&& (255 : Int32)).toInt64)) * (1099511628211 : Int64)) ^^^ (((g 3) &&& (255 : Int32)).toInt64)) * (1099511628211 : Int64)) ^^^ (((g 4) &&& (255 : Int32)).toInt64)) * (1099511628211 : Int64)) ^^^ (((g 5) &&& (255 : Int32)).toInt64)) * (1099511628211 : Int64))), .second, .val (.ref b), .val (.int n), .val (.int (6 : Int32)), .val (.int (g 6))] [(.long ((((((((((((((-3750763034362895579 : Int64) ^^^ (((g 0) &&& (255 : Int32)).toInt64)) * (1099511628211 : Int64)) ^^^ (((g 1) &&& (255 : Int32)).toInt64)) * (1099511628211 : Int64)) ^^^ (((g 2) &&& (255 : Int32)).toInt64)) * (1099511628211 : Int64)) ^^^ (((g 3) &&& (255 : Int32)).toInt64)) * (1099511628211 : Int64)) ^^^ (((g 4) &&& (255 : Int32)).toInt64)) * (1099511628211 : Int64)) ^^^ (((g 5) &&& (255 : Int32)).toInt64)) * (1099511628211 : Int64)) ^^^ (((g 6) &&& (255 : Int32)).toInt64)))])) t
                  refine X1.ldc2Long hx hown (mvT hZ (hw _ (List.mem_of_getElem? (i := 57) rfl))) (g := (mkF m 38 #[.val (.ref a0), .val (.long (((((((((((((-3750763034362895579 : Int64) ^^^ (((g 0) &&& (255 : Int32)).toInt64)) * (1099511628211 : Int64)) ^^^ (((g 1) &&& (255 : Int32)).toInt64)) * (1099511628211 : Int64)) ^^^ (((g 2) &&& (255 : Int32)).toInt64)) * (1099511628211 : Int64)) ^^^ (((g 3) &&& (255 : Int32)).toInt64)) * (1099511628211 : Int64)) ^^^ (((g 4) &&& (255 : Int32)).toInt64)) * (1099511628211 : Int64)) ^^^ (((g 5) &&& (255 : Int32)).toInt64)) * (1099511628211 : Int64))), .second, .val (.ref b), .val (.int n), .val (.int (6 : Int32)), .val (.int (g 6))] [(.long ((((((((((((((-3750763034362895579 : Int64) ^^^ (((g 0) &&& (255 : Int32)).toInt64)) * (1099511628211 : Int64)) ^^^ (((g 1) &&& (255 : Int32)).toInt64)) * (1099511628211 : Int64)) ^^^ (((g 2) &&& (255 : Int32)).toInt64)) * (1099511628211 : Int64)) ^^^ (((g 3) &&& (255 : Int32)).toInt64)) * (1099511628211 : Int64)) ^^^ (((g 4) &&& (255 : Int32)).toInt64)) * (1099511628211 : Int64)) ^^^ (((g 5) &&& (255 : Int32)).toInt64)) * (1099511628211 : Int64)) ^^^ (((g 6) &&& (255 : Int32)).toInt64)))])) rfl (hb hby d9_38) _ ?_
                  show Steps p.tables e below (T1.setTop (mkF m 41 #[.val (.ref a0), .val (.long (((((((((((((-3750763034362895579 : Int64) ^^^ (((g 0) &&& (255 : Int32)).toInt64)) * (1099511628211 : Int64)) ^^^ (((g 1) &&& (255 : Int32)).toInt64)) * (1099511628211 : Int64)) ^^^ (((g 2) &&& (255 : Int32)).toInt64)) * (1099511628211 : Int64)) ^^^ (((g 3) &&& (255 : Int32)).toInt64)) * (1099511628211 : Int64)) ^^^ (((g 4) &&& (255 : Int32)).toInt64)) * (1099511628211 : Int64)) ^^^ (((g 5) &&& (255 : Int32)).toInt64)) * (1099511628211 : Int64))), .second, .val (.ref b), .val (.int n), .val (.int (6 : Int32)), .val (.int (g 6))] [(.long (1099511628211 : Int64)), (.long ((((((((((((((-3750763034362895579 : Int64) ^^^ (((g 0) &&& (255 : Int32)).toInt64)) * (1099511628211 : Int64)) ^^^ (((g 1) &&& (255 : Int32)).toInt64)) * (1099511628211 : Int64)) ^^^ (((g 2) &&& (255 : Int32)).toInt64)) * (1099511628211 : Int64)) ^^^ (((g 3) &&& (255 : Int32)).toInt64)) * (1099511628211 : Int64)) ^^^ (((g 4) &&& (255 : Int32)).toInt64)) * (1099511628211 : Int64)) ^^^ (((g 5) &&& (255 : Int32)).toInt64)) * (1099511628211 : Int64)) ^^^ (((g 6) &&& (255 : Int32)).toInt64)))])) t
                  refine XS.lmul X1.here hx rfl (hb hby d9_41) rfl ?_
                  show Steps p.tables e below (T1.setTop (mkF m 42 #[.val (.ref a0), .val (.long (((((((((((((-3750763034362895579 : Int64) ^^^ (((g 0) &&& (255 : Int32)).toInt64)) * (1099511628211 : Int64)) ^^^ (((g 1) &&& (255 : Int32)).toInt64)) * (1099511628211 : Int64)) ^^^ (((g 2) &&& (255 : Int32)).toInt64)) * (1099511628211 : Int64)) ^^^ (((g 3) &&& (255 : Int32)).toInt64)) * (1099511628211 : Int64)) ^^^ (((g 4) &&& (255 : Int32)).toInt64)) * (1099511628211 : Int64)) ^^^ (((g 5) &&& (255 : Int32)).toInt64)) * (1099511628211 : Int64))), .second, .val (.ref b), .val (.int n), .val (.int (6 : Int32)), .val (.int (g 6))] [(.long (((((((((((((((-3750763034362895579 : Int64) ^^^ (((g 0) &&& (255 : Int32)).toInt64)) * (1099511628211 : Int64)) ^^^ (((g 1) &&& (255 : Int32)).toInt64)) * (1099511628211 : Int64)) ^^^ (((g 2) &&& (255 : Int32)).toInt64)) * (1099511628211 : Int64)) ^^^ (((g 3) &&& (255 : Int32)).toInt64)) * (1099511628211 : Int64)) ^^^ (((g 4) &&& (255 : Int32)).toInt64)) * (1099511628211 : Int64)) ^^^ (((g 5) &&& (255 : Int32)).toInt64)) * (1099511628211 : Int64)) ^^^ (((g 6) &&& (255 : Int32)).toInt64)) * (1099511628211 : Int64)))])) t
                  refine XS.lstoreN X1.here hx rfl (hb hby d9_42) rfl (l' := #[.val (.ref a0), .val (.long (((((((((((((((-3750763034362895579 : Int64) ^^^ (((g 0) &&& (255 : Int32)).toInt64)) * (1099511628211 : Int64)) ^^^ (((g 1) &&& (255 : Int32)).toInt64)) * (1099511628211 : Int64)) ^^^ (((g 2) &&& (255 : Int32)).toInt64)) * (1099511628211 : Int64)) ^^^ (((g 3) &&& (255 : Int32)).toInt64)) * (1099511628211 : Int64)) ^^^ (((g 4) &&& (255 : Int32)).toInt64)) * (1099511628211 : Int64)) ^^^ (((g 5) &&& (255 : Int32)).toInt64)) * (1099511628211 : Int64)) ^^^ (((g 6) &&& (255 : Int32)).toInt64)) * (1099511628211 : Int64))), .second, .val (.ref b), .val (.int n), .val (.int (6 : Int32)), .val (.int (g 6))]) rfl ?_
                  show Steps p.tables e below (T1.setTop (mkF m 43 #[.val (.ref a0), .val (.long (((((((((((((((-3750763034362895579 : Int64) ^^^ (((g 0) &&& (255 : Int32)).toInt64)) * (1099511628211 : Int64)) ^^^ (((g 1) &&& (255 : Int32)).toInt64)) * (1099511628211 : Int64)) ^^^ (((g 2) &&& (255 : Int32)).toInt64)) * (1099511628211 : Int64)) ^^^ (((g 3) &&& (255 : Int32)).toInt64)) * (1099511628211 : Int64)) ^^^ (((g 4) &&& (255 : Int32)).toInt64)) * (1099511628211 : Int64)) ^^^ (((g 5) &&& (255 : Int32)).toInt64)) * (1099511628211 : Int64)) ^^^ (((g 6) &&& (255 : Int32)).toInt64)) * (1099511628211 : Int64))), .second, .val (.ref b), .val (.int n), .val (.int (6 : Int32)), .val (.int (g 6))] [])) t
                  refine XS.iinc X1.here hx rfl (hb hby d9_43) rfl (l' := #[.val (.ref a0), .val (.long (((((((((((((((-3750763034362895579 : Int64) ^^^ (((g 0) &&& (255 : Int32)).toInt64)) * (1099511628211 : Int64)) ^^^ (((g 1) &&& (255 : Int32)).toInt64)) * (1099511628211 : Int64)) ^^^ (((g 2) &&& (255 : Int32)).toInt64)) * (1099511628211 : Int64)) ^^^ (((g 3) &&& (255 : Int32)).toInt64)) * (1099511628211 : Int64)) ^^^ (((g 4) &&& (255 : Int32)).toInt64)) * (1099511628211 : Int64)) ^^^ (((g 5) &&& (255 : Int32)).toInt64)) * (1099511628211 : Int64)) ^^^ (((g 6) &&& (255 : Int32)).toInt64)) * (1099511628211 : Int64))), .second, .val (.ref b), .val (.int n), .val (.int (7 : Int32)), .val (.int (g 6))]) rfl ?_
                  show Steps p.tables e below (T1.setTop (mkF m 46 #[.val (.ref a0), .val (.long (((((((((((((((-3750763034362895579 : Int64) ^^^ (((g 0) &&& (255 : Int32)).toInt64)) * (1099511628211 : Int64)) ^^^ (((g 1) &&& (255 : Int32)).toInt64)) * (1099511628211 : Int64)) ^^^ (((g 2) &&& (255 : Int32)).toInt64)) * (1099511628211 : Int64)) ^^^ (((g 3) &&& (255 : Int32)).toInt64)) * (1099511628211 : Int64)) ^^^ (((g 4) &&& (255 : Int32)).toInt64)) * (1099511628211 : Int64)) ^^^ (((g 5) &&& (255 : Int32)).toInt64)) * (1099511628211 : Int64)) ^^^ (((g 6) &&& (255 : Int32)).toInt64)) * (1099511628211 : Int64))), .second, .val (.ref b), .val (.int n), .val (.int (7 : Int32)), .val (.int (g 6))] [])) t
                  refine XS.goto X1.here hx rfl (pc0 := 46) (pc' := 16) rfl (hb hby d9_46) (by decide) (by decide) ?_
                  show Steps p.tables e below (T1.setTop (mkF m 16 #[.val (.ref a0), .val (.long (((((((((((((((-3750763034362895579 : Int64) ^^^ (((g 0) &&& (255 : Int32)).toInt64)) * (1099511628211 : Int64)) ^^^ (((g 1) &&& (255 : Int32)).toInt64)) * (1099511628211 : Int64)) ^^^ (((g 2) &&& (255 : Int32)).toInt64)) * (1099511628211 : Int64)) ^^^ (((g 3) &&& (255 : Int32)).toInt64)) * (1099511628211 : Int64)) ^^^ (((g 4) &&& (255 : Int32)).toInt64)) * (1099511628211 : Int64)) ^^^ (((g 5) &&& (255 : Int32)).toInt64)) * (1099511628211 : Int64)) ^^^ (((g 6) &&& (255 : Int32)).toInt64)) * (1099511628211 : Int64))), .second, .val (.ref b), .val (.int n), .val (.int (7 : Int32)), .val (.int (g 6))] [])) t
                  refine XS.iload X1.here hx rfl (hb hby d9_16) rfl ?_
                  show Steps p.tables e below (T1.setTop (mkF m 18 #[.val (.ref a0), .val (.long (((((((((((((((-3750763034362895579 : Int64) ^^^ (((g 0) &&& (255 : Int32)).toInt64)) * (1099511628211 : Int64)) ^^^ (((g 1) &&& (255 : Int32)).toInt64)) * (1099511628211 : Int64)) ^^^ (((g 2) &&& (255 : Int32)).toInt64)) * (1099511628211 : Int64)) ^^^ (((g 3) &&& (255 : Int32)).toInt64)) * (1099511628211 : Int64)) ^^^ (((g 4) &&& (255 : Int32)).toInt64)) * (1099511628211 : Int64)) ^^^ (((g 5) &&& (255 : Int32)).toInt64)) * (1099511628211 : Int64)) ^^^ (((g 6) &&& (255 : Int32)).toInt64)) * (1099511628211 : Int64))), .second, .val (.ref b), .val (.int n), .val (.int (7 : Int32)), .val (.int (g 6))] [(.int (7 : Int32))])) t
                  refine XS.iload X1.here hx rfl (hb hby d9_18) rfl ?_
                  exact kt
                by_cases hc20_17 : (7 : Int32) < n
                · refine own_by (A' := T1.setTop (mkF m 26 #[.val (.ref a0), .val (.long (((((((((((((((-3750763034362895579 : Int64) ^^^ (((g 0) &&& (255 : Int32)).toInt64)) * (1099511628211 : Int64)) ^^^ (((g 1) &&& (255 : Int32)).toInt64)) * (1099511628211 : Int64)) ^^^ (((g 2) &&& (255 : Int32)).toInt64)) * (1099511628211 : Int64)) ^^^ (((g 3) &&& (255 : Int32)).toInt64)) * (1099511628211 : Int64)) ^^^ (((g 4) &&& (255 : Int32)).toInt64)) * (1099511628211 : Int64)) ^^^ (((g 5) &&& (255 : Int32)).toInt64)) * (1099511628211 : Int64)) ^^^ (((g 6) &&& (255 : Int32)).toInt64)) * (1099511628211 : Int64))), .second, .val (.ref b), .val (.int n), .val (.int (7 : Int32)), .val (.int (g 6))] [(.int (7 : Int32)), (.ref b)])) (fun t kt => ?_) ?_
                  · show Steps p.tables e below (T1.setTop (mkF m 20 #[.val (.ref a0), .val (.long (((((((((((((((-3750763034362895579 : Int64) ^^^ (((g 0) &&& (255 : Int32)).toInt64)) * (1099511628211 : Int64)) ^^^ (((g 1) &&& (255 : Int32)).toInt64)) * (1099511628211 : Int64)) ^^^ (((g 2) &&& (255 : Int32)).toInt64)) * (1099511628211 : Int64)) ^^^ (((g 3) &&& (255 : Int32)).toInt64)) * (1099511628211 : Int64)) ^^^ (((g 4) &&& (255 : Int32)).toInt64)) * (1099511628211 : Int64)) ^^^ (((g 5) &&& (255 : Int32)).toInt64)) * (1099511628211 : Int64)) ^^^ (((g 6) &&& (255 : Int32)).toInt64)) * (1099511628211 : Int64))), .second, .val (.ref b), .val (.int n), .val (.int (7 : Int32)), .val (.int (g 6))] [(.int n), (.int (7 : Int32))])) t
                    refine XS.icmpNo X1.here hx rfl (hb hby d9_20) rfl (tlt hc20_17).2.1 ?_
                    show Steps p.tables e below (T1.setTop (mkF m 23 #[.val (.ref a0), .val (.long (((((((((((((((-3750763034362895579 : Int64) ^^^ (((g 0) &&& (255 : Int32)).toInt64)) * (1099511628211 : Int64)) ^^^ (((g 1) &&& (255 : Int32)).toInt64)) * (1099511628211 : Int64)) ^^^ (((g 2) &&& (255 : Int32)).toInt64)) * (1099511628211 : Int64)) ^^^ (((g 3) &&& (255 : Int32)).toInt64)) * (1099511628211 : Int64)) ^^^ (((g 4) &&& (255 : Int32)).toInt64)) * (1099511628211 : Int64)) ^^^ (((g 5) &&& (255 : Int32)).toInt64)) * (1099511628211 : Int64)) ^^^ (((g 6) &&& (255 : Int32)).toInt64)) * (1099511628211 : Int64))), .second, .val (.ref b), .val (.int n), .val (.int (7 : Int32)), .val (.int (g 6))] [])) t
                    refine XS.aloadN X1.here hx rfl (hb hby d9_23) rfl rfl ?_
                    show Steps p.tables e below (T1.setTop (mkF m 24 #[.val (.ref a0), .val (.long (((((((((((((((-3750763034362895579 : Int64) ^^^ (((g 0) &&& (255 : Int32)).toInt64)) * (1099511628211 : Int64)) ^^^ (((g 1) &&& (255 : Int32)).toInt64)) * (1099511628211 : Int64)) ^^^ (((g 2) &&& (255 : Int32)).toInt64)) * (1099511628211 : Int64)) ^^^ (((g 3) &&& (255 : Int32)).toInt64)) * (1099511628211 : Int64)) ^^^ (((g 4) &&& (255 : Int32)).toInt64)) * (1099511628211 : Int64)) ^^^ (((g 5) &&& (255 : Int32)).toInt64)) * (1099511628211 : Int64)) ^^^ (((g 6) &&& (255 : Int32)).toInt64)) * (1099511628211 : Int64))), .second, .val (.ref b), .val (.int n), .val (.int (7 : Int32)), .val (.int (g 6))] [(.ref b)])) t
                    refine XS.iload X1.here hx rfl (hb hby d9_24) rfl ?_
                    exact kt
                  obtain ⟨cl18, Ar18, Sz18, Mn18, Ha18⟩ := id V_b
                  have hin18 := inb_of (j := (7 : Int32)) Sz18 ⟨by decide, hc20_17⟩
                  have hat18 : cl18.slots[((7 : Int32)).toNatClampNeg]? = some (.int (g 7)) := (Ha18 _ (Nat.lt_of_not_le fun q => hin18 (Or.inr q))).trans (congrArg some rfl)
                  refine own_by (A' := T1.setTop (mkF m 20 #[.val (.ref a0), .val (.long (((((((((((((((((-3750763034362895579 : Int64) ^^^ (((g 0) &&& (255 : Int32)).toInt64)) * (1099511628211 : Int64)) ^^^ (((g 1) &&& (255 : Int32)).toInt64)) * (1099511628211 : Int64)) ^^^ (((g 2) &&& (255 : Int32)).toInt64)) * (1099511628211 : Int64)) ^^^ (((g 3) &&& (255 : Int32)).toInt64)) * (1099511628211 : Int64)) ^^^ (((g 4) &&& (255 : Int32)).toInt64)) * (1099511628211 : Int64)) ^^^ (((g 5) &&& (255 : Int32)).toInt64)) * (1099511628211 : Int64)) ^^^ (((g 6) &&& (255 : Int32)).toInt64)) * (1099511628211 : Int64)) ^^^ (((g 7) &&& (255 : Int32)).toInt64)) * (1099511628211 : Int64))), .second, .val (.ref b), .val (.int n), .val (.int (8 : Int32)), .val (.int (g 7))] [(.int n), (.int (8 : Int32))])) (fun t kt => ?_) ?_
                  · show Steps p.tables e below (T1.setTop (mkF m 26 #[.val (.ref a0), .val (.long (((((((((((((((-3750763034362895579 : Int64) ^^^ (((g 0) &&& (255 : Int32)).toInt64)) * (1099511628211 : Int64)) ^^^ (((g 1) &&& (255 : Int32)).toInt64)) * (1099511628211 : Int64)) ^^^ (((g 2) &&& (255 : Int32)).toInt64)) * (1099511628211 : Int64)) ^^^ (((g 3) &&& (255 : Int32)).toInt64)) * (1099511628211 : Int64)) ^^^ (((g 4) &&& (255 : Int32)).toInt64)) * (1099511628211 : Int64)) ^^^ (((g 5) &&& (255 : Int32)).toInt64)) * (1099511628211 : Int64)) ^^^ (((g 6) &&& (255 : Int32)).toInt64)) * (1099511628211 : Int64))), .second, .val (.ref b), .val (.int n), .val (.int (7 : Int32)), .val (.int (g 6))] [(.int (7 : Int32)), (.ref b)])) t
                    refine X1.baloadBytes hx (j := (7 : Int32)) (v := (.int (g 7))) (by rw [e1]; exact Ar18.1) (State.isArrayOf_alike hZ.alike Ar18.2.1) Ar18.2.2 hin18 hat18 (g := (mkF m 26 #[.val (.ref a0), .val (.long (((((((((((((((-3750763034362895579 : Int64) ^^^ (((g 0) &&& (255 : Int32)).toInt64)) * (1099511628211 : Int64)) ^^^ (((g 1) &&& (255 : Int32)).toInt64)) * (1099511628211 : Int64)) ^^^ (((g 2) &&& (255 : Int32)).toInt64)) * (1099511628211 : Int64)) ^^^ (((g 3) &&& (255 : Int32)).toInt64)) * (1099511628211 : Int64)) ^^^ (((g 4) &&& (255 : Int32)).toInt64)) * (1099511628211 : Int64)) ^^^ (((g 5) &&& (255 : Int32)).toInt64)) * (1099511628211 : Int64)) ^^^ (((g 6) &&& (255 : Int32)).toInt64)) * (1099511628211 : Int64))), .second, .val (.ref b), .val (.int n), .val (.int (7 : Int32)), .val (.int (g 6))] [(.int (7 : Int32)), (.ref b)])) rfl rfl (hb hby d9_26) _ ?_
                    show Steps p.tables e below (T1.setTop (mkF m 27 #[.val (.ref a0), .val (.long (((((((((((((((-3750763034362895579 : Int64) ^^^ (((g 0) &&& (255 : Int32)).toInt64)) * (1099511628211 : Int64)) ^^^ (((g 1) &&& (255 : Int32)).toInt64)) * (1099511628211 : Int64)) ^^^ (((g 2) &&& (255 : Int32)).toInt64)) * (1099511628211 : Int64)) ^^^ (((g 3) &&& (255 : Int32)).toInt64)) * (1099511628211 : Int64)) ^^^ (((g 4) &&& (255 : Int32)).toInt64)) * (1099511628211 : Int64)) ^^^ (((g 5) &&& (255 : Int32)).toInt64)) * (1099511628211 : Int64)) ^^^ (((g 6) &&& (255 : Int32)).toInt64)) * (1099511628211 : Int64))), .second, .val (.ref b), .val (.int n), .val (.int (7 : Int32)), .val (.int (g 6))] [(.int (g 7))])) t
                    refine XS.istore X1.here hx rfl (hb hby d9_27) rfl (l' := #[.val (.ref a0), .val (.long (((((((((((((((-3750763034362895579 : Int64) ^^^ (((g 0) &&& (255 : Int32)).toInt64)) * (1099511628211 : Int64)) ^^^ (((g 1) &&& (255 : Int32)).toInt64)) * (1099511628211 : Int64)) ^^^ (((g 2) &&& (255 : Int32)).toInt64)) * (1099511628211 : Int64)) ^^^ (((g 3) &&& (255 : Int32)).toInt64)) * (1099511628211 : Int64)) ^^^ (((g 4) &&& (255 : Int32)).toInt64)) * (1099511628211 : Int64)) ^^^ (((g 5) &&& (255 : Int32)).toInt64)) * (1099511628211 : Int64)) ^^^ (((g 6) &&& (255 : Int32)).toInt64)) * (1099511628211 : Int64))), .second, .val (.ref b), .val (.int n), .val (.int (7 : Int32)), .val (.int (g 7))]) rfl ?_
                    show Steps p.tables e below (T1.setTop (mkF m 29 #[.val (.ref a0), .val (.long (((((((((((((((-3750763034362895579 : Int64) ^^^ (((g 0) &&& (255 : Int32)).toInt64)) * (1099511628211 : Int64)) ^^^ (((g 1) &&& (255 : Int32)).toInt64)) * (1099511628211 : Int64)) ^^^ (((g 2) &&& (255 : Int32)).toInt64)) * (1099511628211 : Int64)) ^^^ (((g 3) &&& (255 : Int32)).toInt64)) * (1099511628211 : Int64)) ^^^ (((g 4) &&& (255 : Int32)).toInt64)) * (1099511628211 : Int64)) ^^^ (((g 5) &&& (255 : Int32)).toInt64)) * (1099511628211 : Int64)) ^^^ (((g 6) &&& (255 : Int32)).toInt64)) * (1099511628211 : Int64))), .second, .val (.ref b), .val (.int n), .val (.int (7 : Int32)), .val (.int (g 7))] [])) t
                    refine XS.lloadN X1.here hx rfl (hb hby d9_29) rfl ?_
                    show Steps p.tables e below (T1.setTop (mkF m 30 #[.val (.ref a0), .val (.long (((((((((((((((-3750763034362895579 : Int64) ^^^ (((g 0) &&& (255 : Int32)).toInt64)) * (1099511628211 : Int64)) ^^^ (((g 1) &&& (255 : Int32)).toInt64)) * (1099511628211 : Int64)) ^^^ (((g 2) &&& (255 : Int32)).toInt64)) * (1099511628211 : Int64)) ^^^ (((g 3) &&& (255 : Int32)).toInt64)) * (1099511628211 : Int64)) ^^^ (((g 4) &&& (255 : Int32)).toInt64)) * (1099511628211 : Int64)) ^^^ (((g 5) &&& (255 : Int32)).toInt64)) * (1099511628211 : Int64)) ^^^ (((g 6) &&& (255 : Int32)).toInt64)) * (1099511628211 : Int64))), .second, .val (.ref b), .val (.int n), .val (.int (7 : Int32)), .val (.int (g 7))] [(.long (((((((((((((((-3750763034362895579 : Int64) ^^^ (((g 0) &&& (255 : Int32)).toInt64)) * (1099511628211 : Int64)) ^^^ (((g 1) &&& (255 : Int32)).toInt64)) * (1099511628211 : Int64)) ^^^ (((g 2) &&& (255 : Int32)).toInt64)) * (1099511628211 : Int64)) ^^^ (((g 3) &&& (255 : Int32)).toInt64)) * (1099511628211 : Int64)) ^^^ (((g 4) &&& (255 : Int32)).toInt64)) * (1099511628211 : Int64)) ^^^ (((g 5) &&& (255 : Int32)).toInt64)) * (1099511628211 : Int64)) ^^^ (((g 6) &&& (255 : Int32)).toInt64)) * (1099511628211 : Int64)))])) t
                    refine XS.iload X1.here hx rfl (hb hby d9_30) rfl ?_
                    show Steps p.tables e below (T1.setTop (mkF m 32 #[.val (.ref a0), .val (.long (((((((((((((((-3750763034362895579 : Int64) ^^^ (((g 0) &&& (255 : Int32)).toInt64)) * (1099511628211 : Int64)) ^^^ (((g 1) &&& (255 : Int32)).toInt64)) * (1099511628211 : Int64)) ^^^ (((g 2) &&& (255 : Int32)).toInt64)) * (1099511628211 : Int64)) ^^^ (((g 3) &&& (255 : Int32)).toInt64)) * (1099511628211 : Int64)) ^^^ (((g 4) &&& (255 : Int32)).toInt64)) * (1099511628211 : Int64)) ^^^ (((g 5) &&& (255 : Int32)).toInt64)) * (1099511628211 : Int64)) ^^^ (((g 6) &&& (255 : Int32)).toInt64)) * (1099511628211 : Int64))), .second, .val (.ref b), .val (.int n), .val (.int (7 : Int32)), .val (.int (g 7))] [(.int (g 7)), (.long (((((((((((((((-3750763034362895579 : Int64) ^^^ (((g 0) &&& (255 : Int32)).toInt64)) * (1099511628211 : Int64)) ^^^ (((g 1) &&& (255 : Int32)).toInt64)) * (1099511628211 : Int64)) ^^^ (((g 2) &&& (255 : Int32)).toInt64)) * (1099511628211 : Int64)) ^^^ (((g 3) &&& (255 : Int32)).toInt64)) * (1099511628211 : Int64)) ^^^ (((g 4) &&& (255 : Int32)).toInt64)) * (1099511628211 : Int64)) ^^^ (((g 5) &&& (255 : Int32)).toInt64)) * (1099511628211 : Int64)) ^^^ (((g 6) &&& (255 : Int32)).toInt64)) * (1099511628211 : Int64)))])) t
                    refine XS.sipush X1.here hx rfl (hb hby d9_32) ?_
                    show Steps p.tables e below (T1.setTop (mkF m 35 #[.val (.ref a0), .val (.long (((((((((((((((-3750763034362895579 : Int64) ^^^ (((g 0) &&& (255 : Int32)).toInt64)) * (1099511628211 : Int64)) ^^^ (((g 1) &&& (255 : Int32)).toInt64)) * (1099511628211 : Int64)) ^^^ (((g 2) &&& (255 : Int32)).toInt64)) * (1099511628211 : Int64)) ^^^ (((g 3) &&& (255 : Int32)).toInt64)) * (1099511628211 : Int64)) ^^^ (((g 4) &&& (255 : Int32)).toInt64)) * (1099511628211 : Int64)) ^^^ (((g 5) &&& (255 : Int32)).toInt64)) * (1099511628211 : Int64)) ^^^ (((g 6) &&& (255 : Int32)).toInt64)) * (1099511628211 : Int64))), .second, .val (.ref b), .val (.int n), .val (.int (7 : Int32)), .val (.int (g 7))] [(.int (255 : Int32)), (.int (g 7)), (.long (((((((((((((((-3750763034362895579 : Int64) ^^^ (((g 0) &&& (255 : Int32)).toInt64)) * (1099511628211 : Int64)) ^^^ (((g 1) &&& (255 : Int32)).toInt64)) * (1099511628211 : Int64)) ^^^ (((g 2) &&& (255 : Int32)).toInt64)) * (1099511628211 : Int64)) ^^^ (((g 3) &&& (255 : Int32)).toInt64)) * (1099511628211 : Int64)) ^^^ (((g 4) &&& (255 : Int32)).toInt64)) * (1099511628211 : Int64)) ^^^ (((g 5) &&& (255 : Int32)).toInt64)) * (1099511628211 : Int64)) ^^^ (((g 6) &&& (255 : Int32)).toInt64)) * (1099511628211 : Int64)))])) t
                    refine XS.iand X1.here hx rfl (hb hby d9_35) rfl ?_
                    show Steps p.tables e below (T1.setTop (mkF m 36 #[.val (.ref a0), .val (.long (((((((((((((((-3750763034362895579 : Int64) ^^^ (((g 0) &&& (255 : Int32)).toInt64)) * (1099511628211 : Int64)) ^^^ (((g 1) &&& (255 : Int32)).toInt64)) * (1099511628211 : Int64)) ^^^ (((g 2) &&& (255 : Int32)).toInt64)) * (1099511628211 : Int64)) ^^^ (((g 3) &&& (255 : Int32)).toInt64)) * (1099511628211 : Int64)) ^^^ (((g 4) &&& (255 : Int32)).toInt64)) * (1099511628211 : Int64)) ^^^ (((g 5) &&& (255 : Int32)).toInt64)) * (1099511628211 : Int64)) ^^^ (((g 6) &&& (255 : Int32)).toInt64)) * (1099511628211 : Int64))), .second, .val (.ref b), .val (.int n), .val (.int (7 : Int32)), .val (.int (g 7))] [(.int ((g 7) &&& (255 : Int32))), (.long (((((((((((((((-3750763034362895579 : Int64) ^^^ (((g 0) &&& (255 : Int32)).toInt64)) * (1099511628211 : Int64)) ^^^ (((g 1) &&& (255 : Int32)).toInt64)) * (1099511628211 : Int64)) ^^^ (((g 2) &&& (255 : Int32)).toInt64)) * (1099511628211 : Int64)) ^^^ (((g 3) &&& (255 : Int32)).toInt64)) * (1099511628211 : Int64)) ^^^ (((g 4) &&& (255 : Int32)).toInt64)) * (1099511628211 : Int64)) ^^^ (((g 5) &&& (255 : Int32)).toInt64)) * (1099511628211 : Int64)) ^^^ (((g 6) &&& (255 : Int32)).toInt64)) * (1099511628211 : Int64)))])) t
                    refine XS.i2l X1.here hx rfl (hb hby d9_36) rfl ?_
                    show Steps p.tables e below (T1.setTop (mkF m 37 #[.val (.ref a0), .val (.long (((((((((((((((-3750763034362895579 : Int64) ^^^ (((g 0) &&& (255 : Int32)).toInt64)) * (1099511628211 : Int64)) ^^^ (((g 1) &&& (255 : Int32)).toInt64)) * (1099511628211 : Int64)) ^^^ (((g 2) &&& (255 : Int32)).toInt64)) * (1099511628211 : Int64)) ^^^ (((g 3) &&& (255 : Int32)).toInt64)) * (1099511628211 : Int64)) ^^^ (((g 4) &&& (255 : Int32)).toInt64)) * (1099511628211 : Int64)) ^^^ (((g 5) &&& (255 : Int32)).toInt64)) * (1099511628211 : Int64)) ^^^ (((g 6) &&& (255 : Int32)).toInt64)) * (1099511628211 : Int64))), .second, .val (.ref b), .val (.int n), .val (.int (7 : Int32)), .val (.int (g 7))] [(.long (((g 7) &&& (255 : Int32)).toInt64)), (.long (((((((((((((((-3750763034362895579 : Int64) ^^^ (((g 0) &&& (255 : Int32)).toInt64)) * (1099511628211 : Int64)) ^^^ (((g 1) &&& (255 : Int32)).toInt64)) * (1099511628211 : Int64)) ^^^ (((g 2) &&& (255 : Int32)).toInt64)) * (1099511628211 : Int64)) ^^^ (((g 3) &&& (255 : Int32)).toInt64)) * (1099511628211 : Int64)) ^^^ (((g 4) &&& (255 : Int32)).toInt64)) * (1099511628211 : Int64)) ^^^ (((g 5) &&& (255 : Int32)).toInt64)) * (1099511628211 : Int64)) ^^^ (((g 6) &&& (255 : Int32)).toInt64)) * (1099511628211 : Int64)))])) t
                    refine XS.lxor X1.here hx rfl (hb hby d9_37) rfl ?_
                    show Steps p.tables e below (T1.setTop (mkF m 38 #[.val (.ref a0), .val (.long (((((((((((((((-3750763034362895579 : Int64) ^^^ (((g 0) &&& (255 : Int32)).toInt64)) * (1099511628211 : Int64)) ^^^ (((g 1) &&& (255 : Int32)).toInt64)) * (1099511628211 : Int64)) ^^^ (((g 2) &&& (255 : Int32)).toInt64)) * (1099511628211 : Int64)) ^^^ (((g 3) &&& (255 : Int32)).toInt64)) * (1099511628211 : Int64)) ^^^ (((g 4) &&& (255 : Int32)).toInt64)) * (1099511628211 : Int64)) ^^^ (((g 5) &&& (255 : Int32)).toInt64)) * (1099511628211 : Int64)) ^^^ (((g 6) &&& (255 : Int32)).toInt64)) * (1099511628211 : Int64))), .second, .val (.ref b), .val (.int n), .val (.int (7 : Int32)), .val (.int (g 7))] [(.long ((((((((((((((((-3750763034362895579 : Int64) ^^^ (((g 0) &&& (255 : Int32)).toInt64)) * (1099511628211 : Int64)) ^^^ (((g 1) &&& (255 : Int32)).toInt64)) * (1099511628211 : Int64)) ^^^ (((g 2) &&& (255 : Int32)).toInt64)) * (1099511628211 : Int64)) ^^^ (((g 3) &&& (255 : Int32)).toInt64)) * (1099511628211 : Int64)) ^^^ (((g 4) &&& (255 : Int32)).toInt64)) * (1099511628211 : Int64)) ^^^ (((g 5) &&& (255 : Int32)).toInt64)) * (1099511628211 : Int64)) ^^^ (((g 6) &&& (255 : Int32)).toInt64)) * (1099511628211 : Int64)) ^^^ (((g 7) &&& (255 : Int32)).toInt64)))])) t
                    refine X1.ldc2Long hx hown (mvT hZ (hw _ (List.mem_of_getElem? (i := 57) rfl))) (g := (mkF m 38 #[.val (.ref a0), .val (.long (((((((((((((((-3750763034362895579 : Int64) ^^^ (((g 0) &&& (255 : Int32)).toInt64)) * (1099511628211 : Int64)) ^^^ (((g 1) &&& (255 : Int32)).toInt64)) * (1099511628211 : Int64)) ^^^ (((g 2) &&& (255 : Int32)).toInt64)) * (1099511628211 : Int64)) ^^^ (((g 3) &&& (255 : Int32)).toInt64)) * (1099511628211 : Int64)) ^^^ (((g 4) &&& (255 : Int32)).toInt64)) * (1099511628211 : Int64)) ^^^ (((g 5) &&& (255 : Int32)).toInt64)) * (1099511628211 : Int64)) ^^^ (((g 6) &&& (255 : Int32)).toInt64)) * (1099511628211 : Int64))), .second, .val (.ref b), .val (.int n), .val (.int (7 : Int32)), .val (.int (g 7))] [(.long ((((((((((((((((-3750763034362895579 : Int64) ^^^ (((g 0) &&& (255 : Int32)).toInt64)) * (1099511628211 : Int64)) ^^^ (((g 1) &&& (255 : Int32)).toInt64)) * (1099511628211 : Int64)) ^^^ (((g 2) &&& (255 : Int32)).toInt64)) * (1099511628211 : Int64)) ^^^ (((g 3) &&& (255 : Int32)).toInt64)) * (1099511628211 : Int64)) ^^^ (((g 4) &&& (255 : Int32)).toInt64)) * (1099511628211 : Int64)) ^^^ (((g 5) &&& (255 : Int32)).toInt64)) * (1099511628211 : Int64)) ^^^ (((g 6) &&& (255 : Int32)).toInt64)) * (1099511628211 : Int64)) ^^^ (((g 7) &&& (255 : Int32)).toInt64)))])) rfl (hb hby d9_38) _ ?_
                    show Steps p.tables e below (T1.setTop (mkF m 41 #[.val (.ref a0), .val (.long (((((((((((((((-3750763034362895579 : Int64) ^^^ (((g 0) &&& (255 : Int32)).toInt64)) * (1099511628211 : Int64)) ^^^ (((g 1) &&& (255 : Int32)).toInt64)) * (1099511628211 : Int64)) ^^^ (((g 2) &&& (255 : Int32)).toInt64)) * (1099511628211 : Int64)) ^^^ (((g 3) &&& (255 : Int32)).toInt64)) * (1099511628211 : Int64)) ^^^ (((g 4) &&& (255 : Int32)).toInt64)) * (1099511628211 : Int64)) ^^^ (((g 5) &&& (255 : Int32)).toInt64)) * (1099511628211 : Int64)) ^^^ (((g 6) &&& (255 : Int32)).toInt64)) * (1099511628211 : Int64))), .second, .val (.ref b), .val (.int n), .val (.int (7 : Int32)), .val (.int (g 7))] [(.long (1099511628211 : Int64)), (.long ((((((((((((((((-3750763034362895579 : Int64) ^^^ (((g 0) &&& (255 : Int32)).toInt64)) * (1099511628211 : Int64)) ^^^ (((g 1) &&& (255 : Int32)).toInt64)) * (1099511628211 : Int64)) ^^^ (((g 2) &&& (255 : Int32)).toInt64)) * (1099511628211 : Int64)) ^^^ (((g 3) &&& (255 : Int32)).toInt64)) * (1099511628211 : Int64)) ^^^ (((g 4) &&& (255 : Int32)).toInt64)) * (1099511628211 : Int64)) ^^^ (((g 5) &&& (255 : Int32)).toInt64)) * (1099511628211 : Int64)) ^^^ (((g 6) &&& (255 : Int32)).toInt64)) * (1099511628211 : Int64)) ^^^ (((g 7) &&& (255 : Int32)).toInt64)))])) t
                    refine XS.lmul X1.here hx rfl (hb hby d9_41) rfl ?_
                    show Steps p.tables e below (T1.setTop (mkF m 42 #[.val (.ref a0), .val (.long (((((((((((((((-3750763034362895579 : Int64) ^^^ (((g 0) &&& (255 : Int32)).toInt64)) * (1099511628211 : Int64)) ^^^ (((g 1) &&& (255 : Int32)).toInt64)) * (1099511628211 : Int64)) ^^^ (((g 2) &&& (255 : Int32)).toInt64)) * (1099511628211 : Int64)) ^^^ (((g 3) &&& (255 : Int32)).toInt64)) * (1099511628211 : Int64)) ^^^ (((g 4) &&& (255 : Int32)).toInt64)) * (1099511628211 : Int64)) ^^^ (((g 5) &&& (255 : Int32)).toInt64)) * (1099511628211 : Int64)) ^^^ (((g 6) &&& (255 : Int32)).toInt64)) * (1099511628211 : Int64))), .second, .val (.ref b), .val (.int n), .val (.int (7 : Int32)), .val (.int (g 7))] [(.long (((((((((((((((((-3750763034362895579 : Int64) ^^^ (((g 0) &&& (255 : Int32)).toInt64)) * (1099511628211 : Int64)) ^^^ (((g 1) &&& (255 : Int32)).toInt64)) * (1099511628211 : Int64)) ^^^ (((g 2) &&& (255 : Int32)).toInt64)) * (1099511628211 : Int64)) ^^^ (((g 3) &&& (255 : Int32)).toInt64)) * (1099511628211 : Int64)) ^^^ (((g 4) &&& (255 : Int32)).toInt64)) * (1099511628211 : Int64)) ^^^ (((g 5) &&& (255 : Int32)).toInt64)) * (1099511628211 : Int64)) ^^^ (((g 6) &&& (255 : Int32)).toInt64)) * (1099511628211 : Int64)) ^^^ (((g 7) &&& (255 : Int32)).toInt64)) * (1099511628211 : Int64)))])) t
                    refine XS.lstoreN X1.here hx rfl (hb hby d9_42) rfl (l' := #[.val (.ref a0), .val (.long (((((((((((((((((-3750763034362895579 : Int64) ^^^ (((g 0) &&& (255 : Int32)).toInt64)) * (1099511628211 : Int64)) ^^^ (((g 1) &&& (255 : Int32)).toInt64)) * (1099511628211 : Int64)) ^^^ (((g 2) &&& (255 : Int32)).toInt64)) * (1099511628211 : Int64)) ^^^ (((g 3) &&& (255 : Int32)).toInt64)) * (1099511628211 : Int64)) ^^^ (((g 4) &&& (255 : Int32)).toInt64)) * (1099511628211 : Int64)) ^^^ (((g 5) &&& (255 : Int32)).toInt64)) * (1099511628211 : Int64)) ^^^ (((g 6) &&& (255 : Int32)).toInt64)) * (1099511628211 : Int64)) ^^^ (((g 7) &&& (255 : Int32)).toInt64)) * (1099511628211 : Int64))), .second, .val (.ref b), .val (.int n), .val (.int (7 : Int32)), .val (.int (g 7))]) rfl ?_
                    show Steps p.tables e below (T1.setTop (mkF m 43 #[.val (.ref a0), .val (.long (((((((((((((((((-3750763034362895579 : Int64) ^^^ (((g 0) &&& (255 : Int32)).toInt64)) * (1099511628211 : Int64)) ^^^ (((g 1) &&& (255 : Int32)).toInt64)) * (1099511628211 : Int64)) ^^^ (((g 2) &&& (255 : Int32)).toInt64)) * (1099511628211 : Int64)) ^^^ (((g 3) &&& (255 : Int32)).toInt64)) * (1099511628211 : Int64)) ^^^ (((g 4) &&& (255 : Int32)).toInt64)) * (1099511628211 : Int64)) ^^^ (((g 5) &&& (255 : Int32)).toInt64)) * (1099511628211 : Int64)) ^^^ (((g 6) &&& (255 : Int32)).toInt64)) * (1099511628211 : Int64)) ^^^ (((g 7) &&& (255 : Int32)).toInt64)) * (1099511628211 : Int64))), .second, .val (.ref b), .val (.int n), .val (.int (7 : Int32)), .val (.int (g 7))] [])) t
                    refine XS.iinc X1.here hx rfl (hb hby d9_43) rfl (l' := #[.val (.ref a0), .val (.long (((((((((((((((((-3750763034362895579 : Int64) ^^^ (((g 0) &&& (255 : Int32)).toInt64)) * (1099511628211 : Int64)) ^^^ (((g 1) &&& (255 : Int32)).toInt64)) * (1099511628211 : Int64)) ^^^ (((g 2) &&& (255 : Int32)).toInt64)) * (1099511628211 : Int64)) ^^^ (((g 3) &&& (255 : Int32)).toInt64)) * (1099511628211 : Int64)) ^^^ (((g 4) &&& (255 : Int32)).toInt64)) * (1099511628211 : Int64)) ^^^ (((g 5) &&& (255 : Int32)).toInt64)) * (1099511628211 : Int64)) ^^^ (((g 6) &&& (255 : Int32)).toInt64)) * (1099511628211 : Int64)) ^^^ (((g 7) &&& (255 : Int32)).toInt64)) * (1099511628211 : Int64))), .second, .val (.ref b), .val (.int n), .val (.int (8 : Int32)), .val (.int (g 7))]) rfl ?_
                    show Steps p.tables e below (T1.setTop (mkF m 46 #[.val (.ref a0), .val (.long (((((((((((((((((-3750763034362895579 : Int64) ^^^ (((g 0) &&& (255 : Int32)).toInt64)) * (1099511628211 : Int64)) ^^^ (((g 1) &&& (255 : Int32)).toInt64)) * (1099511628211 : Int64)) ^^^ (((g 2) &&& (255 : Int32)).toInt64)) * (1099511628211 : Int64)) ^^^ (((g 3) &&& (255 : Int32)).toInt64)) * (1099511628211 : Int64)) ^^^ (((g 4) &&& (255 : Int32)).toInt64)) * (1099511628211 : Int64)) ^^^ (((g 5) &&& (255 : Int32)).toInt64)) * (1099511628211 : Int64)) ^^^ (((g 6) &&& (255 : Int32)).toInt64)) * (1099511628211 : Int64)) ^^^ (((g 7) &&& (255 : Int32)).toInt64)) * (1099511628211 : Int64))), .second, .val (.ref b), .val (.int n), .val (.int (8 : Int32)), .val (.int (g 7))] [])) t
                    refine XS.goto X1.here hx rfl (pc0 := 46) (pc' := 16) rfl (hb hby d9_46) (by decide) (by decide) ?_
                    show Steps p.tables e below (T1.setTop (mkF m 16 #[.val (.ref a0), .val (.long (((((((((((((((((-3750763034362895579 : Int64) ^^^ (((g 0) &&& (255 : Int32)).toInt64)) * (1099511628211 : Int64)) ^^^ (((g 1) &&& (255 : Int32)).toInt64)) * (1099511628211 : Int64)) ^^^ (((g 2) &&& (255 : Int32)).toInt64)) * (1099511628211 : Int64)) ^^^ (((g 3) &&& (255 : Int32)).toInt64)) * (1099511628211 : Int64)) ^^^ (((g 4) &&& (255 : Int32)).toInt64)) * (1099511628211 : Int64)) ^^^ (((g 5) &&& (255 : Int32)).toInt64)) * (1099511628211 : Int64)) ^^^ (((g 6) &&& (255 : Int32)).toInt64)) * (1099511628211 : Int64)) ^^^ (((g 7) &&& (255 : Int32)).toInt64)) * (1099511628211 : Int64))), .second, .val (.ref b), .val (.int n), .val (.int (8 : Int32)), .val (.int (g 7))] [])) t
                    refine XS.iload X1.here hx rfl (hb hby d9_16) rfl ?_
                    show Steps p.tables e below (T1.setTop (mkF m 18 #[.val (.ref a0), .val (.long (((((((((((((((((-3750763034362895579 : Int64) ^^^ (((g 0) &&& (255 : Int32)).toInt64)) * (1099511628211 : Int64)) ^^^ (((g 1) &&& (255 : Int32)).toInt64)) * (1099511628211 : Int64)) ^^^ (((g 2) &&& (255 : Int32)).toInt64)) * (1099511628211 : Int64)) ^^^ (((g 3) &&& (255 : Int32)).toInt64)) * (1099511628211 : Int64)) ^^^ (((g 4) &&& (255 : Int32)).toInt64)) * (1099511628211 : Int64)) ^^^ (((g 5) &&& (255 : Int32)).toInt64)) * (1099511628211 : Int64)) ^^^ (((g 6) &&& (255 : Int32)).toInt64)) * (1099511628211 : Int64)) ^^^ (((g 7) &&& (255 : Int32)).toInt64)) * (1099511628211 : Int64))), .second, .val (.ref b), .val (.int n), .val (.int (8 : Int32)), .val (.int (g 7))] [(.int (8 : Int32))])) t
                    refine XS.iload X1.here hx rfl (hb hby d9_18) rfl ?_
                    exact kt
                  have hc20_19 : ¬ ((8 : Int32) < n) := own_8 hn8
                  refine own_by (A' := T1.setTop (mkF m 49 #[.val (.ref a0), .val (.long (((((((((((((((((-3750763034362895579 : Int64) ^^^ (((g 0) &&& (255 : Int32)).toInt64)) * (1099511628211 : Int64)) ^^^ (((g 1) &&& (255 : Int32)).toInt64)) * (1099511628211 : Int64)) ^^^ (((g 2) &&& (255 : Int32)).toInt64)) * (1099511628211 : Int64)) ^^^ (((g 3) &&& (255 : Int32)).toInt64)) * (1099511628211 : Int64)) ^^^ (((g 4) &&& (255 : Int32)).toInt64)) * (1099511628211 : Int64)) ^^^ (((g 5) &&& (255 : Int32)).toInt64)) * (1099511628211 : Int64)) ^^^ (((g 6) &&& (255 : Int32)).toInt64)) * (1099511628211 : Int64)) ^^^ (((g 7) &&& (255 : Int32)).toInt64)) * (1099511628211 : Int64))), .second, .val (.ref b), .val (.int n), .val (.int (8 : Int32)), .val (.int (g 7))] [])) (fun t kt => ?_) ?_
                  · show Steps p.tables e below (T1.setTop (mkF m 20 #[.val (.ref a0), .val (.long (((((((((((((((((-3750763034362895579 : Int64) ^^^ (((g 0) &&& (255 : Int32)).toInt64)) * (1099511628211 : Int64)) ^^^ (((g 1) &&& (255 : Int32)).toInt64)) * (1099511628211 : Int64)) ^^^ (((g 2) &&& (255 : Int32)).toInt64)) * (1099511628211 : Int64)) ^^^ (((g 3) &&& (255 : Int32)).toInt64)) * (1099511628211 : Int64)) ^^^ (((g 4) &&& (255 : Int32)).toInt64)) * (1099511628211 : Int64)) ^^^ (((g 5) &&& (255 : Int32)).toInt64)) * (1099511628211 : Int64)) ^^^ (((g 6) &&& (255 : Int32)).toInt64)) * (1099511628211 : Int64)) ^^^ (((g 7) &&& (255 : Int32)).toInt64)) * (1099511628211 : Int64))), .second, .val (.ref b), .val (.int n), .val (.int (8 : Int32)), .val (.int (g 7))] [(.int n), (.int (8 : Int32))])) t
                    refine XS.icmpYes X1.here hx rfl (pc0 := 20) (pc' := 49) rfl (hb hby d9_20) rfl (flt hc20_19).2.1 (by decide) (by decide) ?_
                    exact kt
                  generalize h_vh : (((((((((((((((((-3750763034362895579 : Int64) ^^^ (((g 0) &&& (255 : Int32)).toInt64)) * (1099511628211 : Int64)) ^^^ (((g 1) &&& (255 : Int32)).toInt64)) * (1099511628211 : Int64)) ^^^ (((g 2) &&& (255 : Int32)).toInt64)) * (1099511628211 : Int64)) ^^^ (((g 3) &&& (255 : Int32)).toInt64)) * (1099511628211 : Int64)) ^^^ (((g 4) &&& (255 : Int32)).toInt64)) * (1099511628211 : Int64)) ^^^ (((g 5) &&& (255 : Int32)).toInt64)) * (1099511628211 : Int64)) ^^^ (((g 6) &&& (255 : Int32)).toInt64)) * (1099511628211 : Int64)) ^^^ (((g 7) &&& (255 : Int32)).toInt64)) * (1099511628211 : Int64)) = vh
                  refine own_by (A' := T1.setTop (mkF m 77 #[.val (.ref a0), .val (.long ((((vh ^^^ ((vh.toUInt64 >>> ((33 : Int32) &&& 0x3f).toInt64.toUInt64).toInt64)) * (-49064778989728563 : Int64)) ^^^ ((((vh ^^^ ((vh.toUInt64 >>> ((33 : Int32) &&& 0x3f).toInt64.toUInt64).toInt64)) * (-49064778989728563 : Int64)).toUInt64 >>> ((33 : Int32) &&& 0x3f).toInt64.toUInt64).toInt64)) * (-4265267296055464877 : Int64))), .second, .val (.ref b), .val (.int n), .val (.int (8 : Int32)), .val (.int (g 7))] [(.long (((((vh ^^^ ((vh.toUInt64 >>> ((33 : Int32) &&& 0x3f).toInt64.toUInt64).toInt64)) * (-49064778989728563 : Int64)) ^^^ ((((vh ^^^ ((vh.toUInt64 >>> ((33 : Int32) &&& 0x3f).toInt64.toUInt64).toInt64)) * (-49064778989728563 : Int64)).toUInt64 >>> ((33 : Int32) &&& 0x3f).toInt64.toUInt64).toInt64)) * (-4265267296055464877 : Int64)) ^^^ ((((((vh ^^^ ((vh.toUInt64 >>> ((33 : Int32) &&& 0x3f).toInt64.toUInt64).toInt64)) * (-49064778989728563 : Int64)) ^^^ ((((vh ^^^ ((vh.toUInt64 >>> ((33 : Int32) &&& 0x3f).toInt64.toUInt64).toInt64)) * (-49064778989728563 : Int64)).toUInt64 >>> ((33 : Int32) &&& 0x3f).toInt64.toUInt64).toInt64)) * (-4265267296055464877 : Int64)).toUInt64 >>> ((33 : Int32) &&& 0x3f).toInt64.toUInt64).toInt64)))])) (fun t kt => ?_) ?_
                  · show Steps p.tables e below (T1.setTop (mkF m 49 #[.val (.ref a0), .val (.long vh), .second, .val (.ref b), .val (.int n), .val (.int (8 : Int32)), .val (.int (g 7))] [])) t
                    refine XS.lloadN X1.here hx rfl (hb hby d9_49) rfl ?_
                    show Steps p.tables e below (T1.setTop (mkF m 50 #[.val (.ref a0), .val (.long vh), .second, .val (.ref b), .val (.int n), .val (.int (8 : Int32)), .val (.int (g 7))] [(.long vh)])) t
                    refine XS.lloadN X1.here hx rfl (hb hby d9_50) rfl ?_
                    show Steps p.tables e below (T1.setTop (mkF m 51 #[.val (.ref a0), .val (.long vh), .second, .val (.ref b), .val (.int n), .val (.int (8 : Int32)), .val (.int (g 7))] [(.long vh), (.long vh)])) t
                    refine XS.bipush X1.here hx rfl (hb hby d9_51) ?_
                    show Steps p.tables e below (T1.setTop (mkF m 53 #[.val (.ref a0), .val (.long vh), .second, .val (.ref b), .val (.int n), .val (.int (8 : Int32)), .val (.int (g 7))] [(.int (33 : Int32)), (.long vh), (.long vh)])) t
                    refine XS.lushr X1.here hx rfl (hb hby d9_53) rfl ?_
                    show Steps p.tables e below (T1.setTop (mkF m 54 #[.val (.ref a0), .val (.long vh), .second, .val (.ref b), .val (.int n), .val (.int (8 : Int32)), .val (.int (g 7))] [(.long ((vh.toUInt64 >>> ((33 : Int32) &&& 0x3f).toInt64.toUInt64).toInt64)), (.long vh)])) t
                    refine XS.lxor X1.here hx rfl (hb hby d9_54) rfl ?_
                    show Steps p.tables e below (T1.setTop (mkF m 55 #[.val (.ref a0), .val (.long vh), .second, .val (.ref b), .val (.int n), .val (.int (8 : Int32)), .val (.int (g 7))] [(.long (vh ^^^ ((vh.toUInt64 >>> ((33 : Int32) &&& 0x3f).toInt64.toUInt64).toInt64)))])) t
                    refine X1.ldc2Long hx hown (mvT hZ (hw _ (List.mem_of_getElem? (i := 44) rfl))) (g := (mkF m 55 #[.val (.ref a0), .val (.long vh), .second, .val (.ref b), .val (.int n), .val (.int (8 : Int32)), .val (.int (g 7))] [(.long (vh ^^^ ((vh.toUInt64 >>> ((33 : Int32) &&& 0x3f).toInt64.toUInt64).toInt64)))])) rfl (hb hby d9_55) _ ?_
                    show Steps p.tables e below (T1.setTop (mkF m 58 #[.val (.ref a0), .val (.long vh), .second, .val (.ref b), .val (.int n), .val (.int (8 : Int32)), .val (.int (g 7))] [(.long (-49064778989728563 : Int64)), (.long (vh ^^^ ((vh.toUInt64 >>> ((33 : Int32) &&& 0x3f).toInt64.toUInt64).toInt64)))])) t
                    refine XS.lmul X1.here hx rfl (hb hby d9_58) rfl ?_
                    show Steps p.tables e below (T1.setTop (mkF m 59 #[.val (.ref a0), .val (.long vh), .second, .val (.ref b), .val (.int n), .val (.int (8 : Int32)), .val (.int (g 7))] [(.long ((vh ^^^ ((vh.toUInt64 >>> ((33 : Int32) &&& 0x3f).toInt64.toUInt64).toInt64)) * (-49064778989728563 : Int64)))])) t
                    refine XS.lstoreN X1.here hx rfl (hb hby d9_59) rfl (l' := #[.val (.ref a0), .val (.long ((vh ^^^ ((vh.toUInt64 >>> ((33 : Int32) &&& 0x3f).toInt64.toUInt64).toInt64)) * (-49064778989728563 : Int64))), .second, .val (.ref b), .val (.int n), .val (.int (8 : Int32)), .val (.int (g 7))]) rfl ?_
                    show Steps p.tables e below (T1.setTop (mkF m 60 #[.val (.ref a0), .val (.long ((vh ^^^ ((vh.toUInt64 >>> ((33 : Int32) &&& 0x3f).toInt64.toUInt64).toInt64)) * (-49064778989728563 : Int64))), .second, .val (.ref b), .val (.int n), .val (.int (8 : Int32)), .val (.int (g 7))] [])) t
                    refine XS.lloadN X1.here hx rfl (hb hby d9_60) rfl ?_
                    show Steps p.tables e below (T1.setTop (mkF m 61 #[.val (.ref a0), .val (.long ((vh ^^^ ((vh.toUInt64 >>> ((33 : Int32) &&& 0x3f).toInt64.toUInt64).toInt64)) * (-49064778989728563 : Int64))), .second, .val (.ref b), .val (.int n), .val (.int (8 : Int32)), .val (.int (g 7))] [(.long ((vh ^^^ ((vh.toUInt64 >>> ((33 : Int32) &&& 0x3f).toInt64.toUInt64).toInt64)) * (-49064778989728563 : Int64)))])) t
                    refine XS.lloadN X1.here hx rfl (hb hby d9_61) rfl ?_
                    show Steps p.tables e below (T1.setTop (mkF m 62 #[.val (.ref a0), .val (.long ((vh ^^^ ((vh.toUInt64 >>> ((33 : Int32) &&& 0x3f).toInt64.toUInt64).toInt64)) * (-49064778989728563 : Int64))), .second, .val (.ref b), .val (.int n), .val (.int (8 : Int32)), .val (.int (g 7))] [(.long ((vh ^^^ ((vh.toUInt64 >>> ((33 : Int32) &&& 0x3f).toInt64.toUInt64).toInt64)) * (-49064778989728563 : Int64))), (.long ((vh ^^^ ((vh.toUInt64 >>> ((33 : Int32) &&& 0x3f).toInt64.toUInt64).toInt64)) * (-49064778989728563 : Int64)))])) t
                    refine XS.bipush X1.here hx rfl (hb hby d9_62) ?_
                    show Steps p.tables e below (T1.setTop (mkF m 64 #[.val (.ref a0), .val (.long ((vh ^^^ ((vh.toUInt64 >>> ((33 : Int32) &&& 0x3f).toInt64.toUInt64).toInt64)) * (-49064778989728563 : Int64))), .second, .val (.ref b), .val (.int n), .val (.int (8 : Int32)), .val (.int (g 7))] [(.int (33 : Int32)), (.long ((vh ^^^ ((vh.toUInt64 >>> ((33 : Int32) &&& 0x3f).toInt64.toUInt64).toInt64)) * (-49064778989728563 : Int64))), (.long ((vh ^^^ ((vh.toUInt64 >>> ((33 : Int32) &&& 0x3f).toInt64.toUInt64).toInt64)) * (-49064778989728563 : Int64)))])) t
                    refine XS.lushr X1.here hx rfl (hb hby d9_64) rfl ?_
                    show Steps p.tables e below (T1.setTop (mkF m 65 #[.val (.ref a0), .val (.long ((vh ^^^ ((vh.toUInt64 >>> ((33 : Int32) &&& 0x3f).toInt64.toUInt64).toInt64)) * (-49064778989728563 : Int64))), .second, .val (.ref b), .val (.int n), .val (.int (8 : Int32)), .val (.int (g 7))] [(.long ((((vh ^^^ ((vh.toUInt64 >>> ((33 : Int32) &&& 0x3f).toInt64.toUInt64).toInt64)) * (-49064778989728563 : Int64)).toUInt64 >>> ((33 : Int32) &&& 0x3f).toInt64.toUInt64).toInt64)), (.long ((vh ^^^ ((vh.toUInt64 >>> ((33 : Int32) &&& 0x3f).toInt64.toUInt64).toInt64)) * (-49064778989728563 : Int64)))])) t
                    refine XS.lxor X1.here hx rfl (hb hby d9_65) rfl ?_
                    show Steps p.tables e below (T1.setTop (mkF m 66 #[.val (.ref a0), .val (.long ((vh ^^^ ((vh.toUInt64 >>> ((33 : Int32) &&& 0x3f).toInt64.toUInt64).toInt64)) * (-49064778989728563 : Int64))), .second, .val (.ref b), .val (.int n), .val (.int (8 : Int32)), .val (.int (g 7))] [(.long (((vh ^^^ ((vh.toUInt64 >>> ((33 : Int32) &&& 0x3f).toInt64.toUInt64).toInt64)) * (-49064778989728563 : Int64)) ^^^ ((((vh ^^^ ((vh.toUInt64 >>> ((33 : Int32) &&& 0x3f).toInt64.toUInt64).toInt64)) * (-49064778989728563 : Int64)).toUInt64 >>> ((33 : Int32) &&& 0x3f).toInt64.toUInt64).toInt64)))])) t
                    refine X1.ldc2Long hx hown (mvT hZ (hw _ (List.mem_of_getElem? (i := 45) rfl))) (g := (mkF m 66 #[.val (.ref a0), .val (.long ((vh ^^^ ((vh.toUInt64 >>> ((33 : Int32) &&& 0x3f).toInt64.toUInt64).toInt64)) * (-49064778989728563 : Int64))), .second, .val (.ref b), .val (.int n), .val (.int (8 : Int32)), .val (.int (g 7))] [(.long (((vh ^^^ ((vh.toUInt64 >>> ((33 : Int32) &&& 0x3f).toInt64.toUInt64).toInt64)) * (-49064778989728563 : Int64)) ^^^ ((((vh ^^^ ((vh.toUInt64 >>> ((33 : Int32) &&& 0x3f).toInt64.toUInt64).toInt64)) * (-49064778989728563 : Int64)).toUInt64 >>> ((33 : Int32) &&& 0x3f).toInt64.toUInt64).toInt64)))])) rfl (hb hby d9_66) _ ?_
                    show Steps p.tables e below (T1.setTop (mkF m 69 #[.val (.ref a0), .val (.long ((vh ^^^ ((vh.toUInt64 >>> ((33 : Int32) &&& 0x3f).toInt64.toUInt64).toInt64)) * (-49064778989728563 : Int64))), .second, .val (.ref b), .val (.int n), .val (.int (8 : Int32)), .val (.int (g 7))] [(.long (-4265267296055464877 : Int64)), (.long (((vh ^^^ ((vh.toUInt64 >>> ((33 : Int32) &&& 0x3f).toInt64.toUInt64).toInt64)) * (-49064778989728563 : Int64)) ^^^ ((((vh ^^^ ((vh.toUInt64 >>> ((33 : Int32) &&& 0x3f).toInt64.toUInt64).toInt64)) * (-49064778989728563 : Int64)).toUInt64 >>> ((33 : Int32) &&& 0x3f).toInt64.toUInt64).toInt64)))])) t
                    refine XS.lmul X1.here hx rfl (hb hby d9_69) rfl ?_
                    show Steps p.tables e below (T1.setTop (mkF m 70 #[.val (.ref a0), .val (.long ((vh ^^^ ((vh.toUInt64 >>> ((33 : Int32) &&& 0x3f).toInt64.toUInt64).toInt64)) * (-49064778989728563 : Int64))), .second, .val (.ref b), .val (.int n), .val (.int (8 : Int32)), .val (.int (g 7))] [(.long ((((vh ^^^ ((vh.toUInt64 >>> ((33 : Int32) &&& 0x3f).toInt64.toUInt64).toInt64)) * (-49064778989728563 : Int64)) ^^^ ((((vh ^^^ ((vh.toUInt64 >>> ((33 : Int32) &&& 0x3f).toInt64.toUInt64).toInt64)) * (-49064778989728563 : Int64)).toUInt64 >>> ((33 : Int32) &&& 0x3f).toInt64.toUInt64).toInt64)) * (-4265267296055464877 : Int64)))])) t
                    refine XS.lstoreN X1.here hx rfl (hb hby d9_70) rfl (l' := #[.val (.ref a0), .val (.long ((((vh ^^^ ((vh.toUInt64 >>> ((33 : Int32) &&& 0x3f).toInt64.toUInt64).toInt64)) * (-49064778989728563 : Int64)) ^^^ ((((vh ^^^ ((vh.toUInt64 >>> ((33 : Int32) &&& 0x3f).toInt64.toUInt64).toInt64)) * (-49064778989728563 : Int64)).toUInt64 >>> ((33 : Int32) &&& 0x3f).toInt64.toUInt64).toInt64)) * (-4265267296055464877 : Int64))), .second, .val (.ref b), .val (.int n), .val (.int (8 : Int32)), .val (.int (g 7))]) rfl ?_
                    show Steps p.tables e below (T1.setTop (mkF m 71 #[.val (.ref a0), .val (.long ((((vh ^^^ ((vh.toUInt64 >>> ((33 : Int32) &&& 0x3f).toInt64.toUInt64).toInt64)) * (-49064778989728563 : Int64)) ^^^ ((((vh ^^^ ((vh.toUInt64 >>> ((33 : Int32) &&& 0x3f).toInt64.toUInt64).toInt64)) * (-49064778989728563 : Int64)).toUInt64 >>> ((33 : Int32) &&& 0x3f).toInt64.toUInt64).toInt64)) * (-4265267296055464877 : Int64))), .second, .val (.ref b), .val (.int n), .val (.int (8 : Int32)), .val (.int (g 7))] [])) t
                    refine XS.lloadN X1.here hx rfl (hb hby d9_71) rfl ?_
                    show Steps p.tables e below (T1.setTop (mkF m 72 #[.val (.ref a0), .val (.long ((((vh ^^^ ((vh.toUInt64 >>> ((33 : Int32) &&& 0x3f).toInt64.toUInt64).toInt64)) * (-49064778989728563 : Int64)) ^^^ ((((vh ^^^ ((vh.toUInt64 >>> ((33 : Int32) &&& 0x3f).toInt64.toUInt64).toInt64)) * (-49064778989728563 : Int64)).toUInt64 >>> ((33 : Int32) &&& 0x3f).toInt64.toUInt64).toInt64)) * (-4265267296055464877 : Int64))), .second, .val (.ref b), .val (.int n), .val (.int (8 : Int32)), .val (.int (g 7))] [(.long ((((vh ^^^ ((vh.toUInt64 >>> ((33 : Int32) &&& 0x3f).toInt64.toUInt64).toInt64)) * (-49064778989728563 : Int64)) ^^^ ((((vh ^^^ ((vh.toUInt64 >>> ((33 : Int32) &&& 0x3f).toInt64.toUInt64).toInt64)) * (-49064778989728563 : Int64)).toUInt64 >>> ((33 : Int32) &&& 0x3f).toInt64.toUInt64).toInt64)) * (-4265267296055464877 : Int64)))])) t
                    refine XS.lloadN X1.here hx rfl (hb hby d9_72) rfl ?_
                    show Steps p.tables e below (T1.setTop (mkF m 73 #[.val (.ref a0), .val (.long ((((vh ^^^ ((vh.toUInt64 >>> ((33 : Int32) &&& 0x3f).toInt64.toUInt64).toInt64)) * (-49064778989728563 : Int64)) ^^^ ((((vh ^^^ ((vh.toUInt64 >>> ((33 : Int32) &&& 0x3f).toInt64.toUInt64).toInt64)) * (-49064778989728563 : Int64)).toUInt64 >>> ((33 : Int32) &&& 0x3f).toInt64.toUInt64).toInt64)) * (-4265267296055464877 : Int64))), .second, .val (.ref b), .val (.int n), .val (.int (8 : Int32)), .val (.int (g 7))] [(.long ((((vh ^^^ ((vh.toUInt64 >>> ((33 : Int32) &&& 0x3f).toInt64.toUInt64).toInt64)) * (-49064778989728563 : Int64)) ^^^ ((((vh ^^^ ((vh.toUInt64 >>> ((33 : Int32) &&& 0x3f).toInt64.toUInt64).toInt64)) * (-49064778989728563 : Int64)).toUInt64 >>> ((33 : Int32) &&& 0x3f).toInt64.toUInt64).toInt64)) * (-4265267296055464877 : Int64))), (.long ((((vh ^^^ ((vh.toUInt64 >>> ((33 : Int32) &&& 0x3f).toInt64.toUInt64).toInt64)) * (-49064778989728563 : Int64)) ^^^ ((((vh ^^^ ((vh.toUInt64 >>> ((33 : Int32) &&& 0x3f).toInt64.toUInt64).toInt64)) * (-49064778989728563 : Int64)).toUInt64 >>> ((33 : Int32) &&& 0x3f).toInt64.toUInt64).toInt64)) * (-4265267296055464877 : Int64)))])) t
                    refine XS.bipush X1.here hx rfl (hb hby d9_73) ?_
                    show Steps p.tables e below (T1.setTop (mkF m 75 #[.val (.ref a0), .val (.long ((((vh ^^^ ((vh.toUInt64 >>> ((33 : Int32) &&& 0x3f).toInt64.toUInt64).toInt64)) * (-49064778989728563 : Int64)) ^^^ ((((vh ^^^ ((vh.toUInt64 >>> ((33 : Int32) &&& 0x3f).toInt64.toUInt64).toInt64)) * (-49064778989728563 : Int64)).toUInt64 >>> ((33 : Int32) &&& 0x3f).toInt64.toUInt64).toInt64)) * (-4265267296055464877 : Int64))), .second, .val (.ref b), .val (.int n), .val (.int (8 : Int32)), .val (.int (g 7))] [(.int (33 : Int32)), (.long ((((vh ^^^ ((vh.toUInt64 >>> ((33 : Int32) &&& 0x3f).toInt64.toUInt64).toInt64)) * (-49064778989728563 : Int64)) ^^^ ((((vh ^^^ ((vh.toUInt64 >>> ((33 : Int32) &&& 0x3f).toInt64.toUInt64).toInt64)) * (-49064778989728563 : Int64)).toUInt64 >>> ((33 : Int32) &&& 0x3f).toInt64.toUInt64).toInt64)) * (-4265267296055464877 : Int64))), (.long ((((vh ^^^ ((vh.toUInt64 >>> ((33 : Int32) &&& 0x3f).toInt64.toUInt64).toInt64)) * (-49064778989728563 : Int64)) ^^^ ((((vh ^^^ ((vh.toUInt64 >>> ((33 : Int32) &&& 0x3f).toInt64.toUInt64).toInt64)) * (-49064778989728563 : Int64)).toUInt64 >>> ((33 : Int32) &&& 0x3f).toInt64.toUInt64).toInt64)) * (-4265267296055464877 : Int64)))])) t
                    refine XS.lushr X1.here hx rfl (hb hby d9_75) rfl ?_
                    show Steps p.tables e below (T1.setTop (mkF m 76 #[.val (.ref a0), .val (.long ((((vh ^^^ ((vh.toUInt64 >>> ((33 : Int32) &&& 0x3f).toInt64.toUInt64).toInt64)) * (-49064778989728563 : Int64)) ^^^ ((((vh ^^^ ((vh.toUInt64 >>> ((33 : Int32) &&& 0x3f).toInt64.toUInt64).toInt64)) * (-49064778989728563 : Int64)).toUInt64 >>> ((33 : Int32) &&& 0x3f).toInt64.toUInt64).toInt64)) * (-4265267296055464877 : Int64))), .second, .val (.ref b), .val (.int n), .val (.int (8 : Int32)), .val (.int (g 7))] [(.long ((((((vh ^^^ ((vh.toUInt64 >>> ((33 : Int32) &&& 0x3f).toInt64.toUInt64).toInt64)) * (-49064778989728563 : Int64)) ^^^ ((((vh ^^^ ((vh.toUInt64 >>> ((33 : Int32) &&& 0x3f).toInt64.toUInt64).toInt64)) * (-49064778989728563 : Int64)).toUInt64 >>> ((33 : Int32) &&& 0x3f).toInt64.toUInt64).toInt64)) * (-4265267296055464877 : Int64)).toUInt64 >>> ((33 : Int32) &&& 0x3f).toInt64.toUInt64).toInt64)), (.long ((((vh ^^^ ((vh.toUInt64 >>> ((33 : Int32) &&& 0x3f).toInt64.toUInt64).toInt64)) * (-49064778989728563 : Int64)) ^^^ ((((vh ^^^ ((vh.toUInt64 >>> ((33 : Int32) &&& 0x3f).toInt64.toUInt64).toInt64)) * (-49064778989728563 : Int64)).toUInt64 >>> ((33 : Int32) &&& 0x3f).toInt64.toUInt64).toInt64)) * (-4265267296055464877 : Int64)))])) t
                    refine XS.lxor X1.here hx rfl (hb hby d9_76) rfl ?_
                    exact kt
                  obtain ⟨fs, hr, hrun, hended, hW, hsame⟩ := X1.leave (v := some (.long (((((vh ^^^ ((vh.toUInt64 >>> ((33 : Int32) &&& 0x3f).toInt64.toUInt64).toInt64)) * (-49064778989728563 : Int64)) ^^^ ((((vh ^^^ ((vh.toUInt64 >>> ((33 : Int32) &&& 0x3f).toInt64.toUInt64).toInt64)) * (-49064778989728563 : Int64)).toUInt64 >>> ((33 : Int32) &&& 0x3f).toInt64.toUInt64).toInt64)) * (-4265267296055464877 : Int64)) ^^^ ((((((vh ^^^ ((vh.toUInt64 >>> ((33 : Int32) &&& 0x3f).toInt64.toUInt64).toInt64)) * (-49064778989728563 : Int64)) ^^^ ((((vh ^^^ ((vh.toUInt64 >>> ((33 : Int32) &&& 0x3f).toInt64.toUInt64).toInt64)) * (-49064778989728563 : Int64)).toUInt64 >>> ((33 : Int32) &&& 0x3f).toInt64.toUInt64).toInt64)) * (-4265267296055464877 : Int64)).toUInt64 >>> ((33 : Int32) &&& 0x3f).toInt64.toUInt64).toInt64)))) (fun h => by rw [Bd.returns] at h; cases h)
                  refine ⟨_, _, ?_, hrun, hended, _, _, rfl, ?_, ⟨_, rfl⟩, hW, hsame.mono (by decide) (by decide)⟩
                  · exact own_retL X1 hx Bd.returns (hb hby d9_77) hr
                  · show Q9 Z a0 b n g h0 n0 _ T1.heap _
                    rw [e1]
                    exact ⟨(by rw [own_hash, own_acc, if_pos hc20_3, if_pos hc20_5, if_pos hc20_7, if_pos hc20_9, if_pos hc20_11, if_pos hc20_13, if_pos hc20_15, if_pos hc20_17, h_vh]; rfl), N0, rfl⟩
                · refine own_by (A' := T1.setTop (mkF m 49 #[.val (.ref a0), .val (.long (((((((((((((((-3750763034362895579 : Int64) ^^^ (((g 0) &&& (255 : Int32)).toInt64)) * (1099511628211 : Int64)) ^^^ (((g 1) &&& (255 : Int32)).toInt64)) * (1099511628211 : Int64)) ^^^ (((g 2) &&& (255 : Int32)).toInt64)) * (1099511628211 : Int64)) ^^^ (((g 3) &&& (255 : Int32)).toInt64)) * (1099511628211 : Int64)) ^^^ (((g 4) &&& (255 : Int32)).toInt64)) * (1099511628211 : Int64)) ^^^ (((g 5) &&& (255 : Int32)).toInt64)) * (1099511628211 : Int64)) ^^^ (((g 6) &&& (255 : Int32)).toInt64)) * (1099511628211 : Int64))), .second, .val (.ref b), .val (.int n), .val (.int (7 : Int32)), .val (.int (g 6))] [])) (fun t kt => ?_) ?_
                  · show Steps p.tables e below (T1.setTop (mkF m 20 #[.val (.ref a0), .val (.long (((((((((((((((-3750763034362895579 : Int64) ^^^ (((g 0) &&& (255 : Int32)).toInt64)) * (1099511628211 : Int64)) ^^^ (((g 1) &&& (255 : Int32)).toInt64)) * (1099511628211 : Int64)) ^^^ (((g 2) &&& (255 : Int32)).toInt64)) * (1099511628211 : Int64)) ^^^ (((g 3) &&& (255 : Int32)).toInt64)) * (1099511628211 : Int64)) ^^^ (((g 4) &&& (255 : Int32)).toInt64)) * (1099511628211 : Int64)) ^^^ (((g 5) &&& (255 : Int32)).toInt64)) * (1099511628211 : Int64)) ^^^ (((g 6) &&& (255 : Int32)).toInt64)) * (1099511628211 : Int64))), .second, .val (.ref b), .val (.int n), .val (.int (7 : Int32)), .val (.int (g 6))] [(.int n), (.int (7 : Int32))])) t
                    refine XS.icmpYes X1.here hx rfl (pc0 := 20) (pc' := 49) rfl (hb hby d9_20) rfl (flt hc20_17).2.1 (by decide) (by decide) ?_
                    exact kt
                  generalize h_vh : (((((((((((((((-3750763034362895579 : Int64) ^^^ (((g 0) &&& (255 : Int32)).toInt64)) * (1099511628211 : Int64)) ^^^ (((g 1) &&& (255 : Int32)).toInt64)) * (1099511628211 : Int64)) ^^^ (((g 2) &&& (255 : Int32)).toInt64)) * (1099511628211 : Int64)) ^^^ (((g 3) &&& (255 : Int32)).toInt64)) * (1099511628211 : Int64)) ^^^ (((g 4) &&& (255 : Int32)).toInt64)) * (1099511628211 : Int64)) ^^^ (((g 5) &&& (255 : Int32)).toInt64)) * (1099511628211 : Int64)) ^^^ (((g 6) &&& (255 : Int32)).toInt64)) * (1099511628211 : Int64)) = vh
                  refine own_by (A' := T1.setTop (mkF m 77 #[.val (.ref a0), .val (.long ((((vh ^^^ ((vh.toUInt64 >>> ((33 : Int32) &&& 0x3f).toInt64.toUInt64).toInt64)) * (-49064778989728563 : Int64)) ^^^ ((((vh ^^^ ((vh.toUInt64 >>> ((33 : Int32) &&& 0x3f).toInt64.toUInt64).toInt64)) * (-49064778989728563 : Int64)).toUInt64 >>> ((33 : Int32) &&& 0x3f).toInt64.toUInt64).toInt64)) * (-4265267296055464877 : Int64))), .second, .val (.ref b), .val (.int n), .val (.int (7 : Int32)), .val (.int (g 6))] [(.long (((((vh ^^^ ((vh.toUInt64 >>> ((33 : Int32) &&& 0x3f).toInt64.toUInt64).toInt64)) * (-49064778989728563 : Int64)) ^^^ ((((vh ^^^ ((vh.toUInt64 >>> ((33 : Int32) &&& 0x3f).toInt64.toUInt64).toInt64)) * (-49064778989728563 : Int64)).toUInt64 >>> ((33 : Int32) &&& 0x3f).toInt64.toUInt64).toInt64)) * (-4265267296055464877 : Int64)) ^^^ ((((((vh ^^^ ((vh.toUInt64 >>> ((33 : Int32) &&& 0x3f).toInt64.toUInt64).toInt64)) * (-49064778989728563 : Int64)) ^^^ ((((vh ^^^ ((vh.toUInt64 >>> ((33 : Int32) &&& 0x3f).toInt64.toUInt64).toInt64)) * (-49064778989728563 : Int64)).toUInt64 >>> ((33 : Int32) &&& 0x3f).toInt64.toUInt64).toInt64)) * (-4265267296055464877 : Int64)).toUInt64 >>> ((33 : Int32) &&& 0x3f).toInt64.toUInt64).toInt64)))])) (fun t kt => ?_) ?_
                  · show Steps p.tables e below (T1.setTop (mkF m 49 #[.val (.ref a0), .val (.long vh), .second, .val (.ref b), .val (.int n), .val (.int (7 : Int32)), .val (.int (g 6))] [])) t
                    refine XS.lloadN X1.here hx rfl (hb hby d9_49) rfl ?_
                    show Steps p.tables e below (T1.setTop (mkF m 50 #[.val (.ref a0), .val (.long vh), .second, .val (.ref b), .val (.int n), .val (.int (7 : Int32)), .val (.int (g 6))] [(.long vh)])) t
                    refine XS.lloadN X1.here hx rfl (hb hby d9_50) rfl ?_
                    show Steps p.tables e below (T1.setTop (mkF m 51 #[.val (.ref a0), .val (.long vh), .second, .val (.ref b), .val (.int n), .val (.int (7 : Int32)), .val (.int (g 6))] [(.long vh), (.long vh)])) t
                    refine XS.bipush X1.here hx rfl (hb hby d9_51) ?_
                    show Steps p.tables e below (T1.setTop (mkF m 53 #[.val (.ref a0), .val (.long vh), .second, .val (.ref b), .val (.int n), .val (.int (7 : Int32)), .val (.int (g 6))] [(.int (33 : Int32)), (.long vh), (.long vh)])) t
                    refine XS.lushr X1.here hx rfl (hb hby d9_53) rfl ?_
                    show Steps p.tables e below (T1.setTop (mkF m 54 #[.val (.ref a0), .val (.long vh), .second, .val (.ref b), .val (.int n), .val (.int (7 : Int32)), .val (.int (g 6))] [(.long ((vh.toUInt64 >>> ((33 : Int32) &&& 0x3f).toInt64.toUInt64).toInt64)), (.long vh)])) t
                    refine XS.lxor X1.here hx rfl (hb hby d9_54) rfl ?_
                    show Steps p.tables e below (T1.setTop (mkF m 55 #[.val (.ref a0), .val (.long vh), .second, .val (.ref b), .val (.int n), .val (.int (7 : Int32)), .val (.int (g 6))] [(.long (vh ^^^ ((vh.toUInt64 >>> ((33 : Int32) &&& 0x3f).toInt64.toUInt64).toInt64)))])) t
                    refine X1.ldc2Long hx hown (mvT hZ (hw _ (List.mem_of_getElem? (i := 44) rfl))) (g := (mkF m 55 #[.val (.ref a0), .val (.long vh), .second, .val (.ref b), .val (.int n), .val (.int (7 : Int32)), .val (.int (g 6))] [(.long (vh ^^^ ((vh.toUInt64 >>> ((33 : Int32) &&& 0x3f).toInt64.toUInt64).toInt64)))])) rfl (hb hby d9_55) _ ?_
                    show Steps p.tables e below (T1.setTop (mkF m 58 #[.val (.ref a0), .val (.long vh), .second, .val (.ref b), .val (.int n), .val (.int (7 : Int32)), .val (.int (g 6))] [(.long (-49064778989728563 : Int64)), (.long (vh ^^^ ((vh.toUInt64 >>> ((33 : Int32) &&& 0x3f).toInt64.toUInt64).toInt64)))])) t
                    refine XS.lmul X1.here hx rfl (hb hby d9_58) rfl ?_
                    show Steps p.tables e below (T1.setTop (mkF m 59 #[.val (.ref a0), .val (.long vh), .second, .val (.ref b), .val (.int n), .val (.int (7 : Int32)), .val (.int (g 6))] [(.long ((vh ^^^ ((vh.toUInt64 >>> ((33 : Int32) &&& 0x3f).toInt64.toUInt64).toInt64)) * (-49064778989728563 : Int64)))])) t
                    refine XS.lstoreN X1.here hx rfl (hb hby d9_59) rfl (l' := #[.val (.ref a0), .val (.long ((vh ^^^ ((vh.toUInt64 >>> ((33 : Int32) &&& 0x3f).toInt64.toUInt64).toInt64)) * (-49064778989728563 : Int64))), .second, .val (.ref b), .val (.int n), .val (.int (7 : Int32)), .val (.int (g 6))]) rfl ?_
                    show Steps p.tables e below (T1.setTop (mkF m 60 #[.val (.ref a0), .val (.long ((vh ^^^ ((vh.toUInt64 >>> ((33 : Int32) &&& 0x3f).toInt64.toUInt64).toInt64)) * (-49064778989728563 : Int64))), .second, .val (.ref b), .val (.int n), .val (.int (7 : Int32)), .val (.int (g 6))] [])) t
                    refine XS.lloadN X1.here hx rfl (hb hby d9_60) rfl ?_
                    show Steps p.tables e below (T1.setTop (mkF m 61 #[.val (.ref a0), .val (.long ((vh ^^^ ((vh.toUInt64 >>> ((33 : Int32) &&& 0x3f).toInt64.toUInt64).toInt64)) * (-49064778989728563 : Int64))), .second, .val (.ref b), .val (.int n), .val (.int (7 : Int32)), .val (.int (g 6))] [(.long ((vh ^^^ ((vh.toUInt64 >>> ((33 : Int32) &&& 0x3f).toInt64.toUInt64).toInt64)) * (-49064778989728563 : Int64)))])) t
                    refine XS.lloadN X1.here hx rfl (hb hby d9_61) rfl ?_
                    show Steps p.tables e below (T1.setTop (mkF m 62 #[.val (.ref a0), .val (.long ((vh ^^^ ((vh.toUInt64 >>> ((33 : Int32) &&& 0x3f).toInt64.toUInt64).toInt64)) * (-49064778989728563 : Int64))), .second, .val (.ref b), .val (.int n), .val (.int (7 : Int32)), .val (.int (g 6))] [(.long ((vh ^^^ ((vh.toUInt64 >>> ((33 : Int32) &&& 0x3f).toInt64.toUInt64).toInt64)) * (-49064778989728563 : Int64))), (.long ((vh ^^^ ((vh.toUInt64 >>> ((33 : Int32) &&& 0x3f).toInt64.toUInt64).toInt64)) * (-49064778989728563 : Int64)))])) t
                    refine XS.bipush X1.here hx rfl (hb hby d9_62) ?_
                    show Steps p.tables e below (T1.setTop (mkF m 64 #[.val (.ref a0), .val (.long ((vh ^^^ ((vh.toUInt64 >>> ((33 : Int32) &&& 0x3f).toInt64.toUInt64).toInt64)) * (-49064778989728563 : Int64))), .second, .val (.ref b), .val (.int n), .val (.int (7 : Int32)), .val (.int (g 6))] [(.int (33 : Int32)), (.long ((vh ^^^ ((vh.toUInt64 >>> ((33 : Int32) &&& 0x3f).toInt64.toUInt64).toInt64)) * (-49064778989728563 : Int64))), (.long ((vh ^^^ ((vh.toUInt64 >>> ((33 : Int32) &&& 0x3f).toInt64.toUInt64).toInt64)) * (-49064778989728563 : Int64)))])) t
                    refine XS.lushr X1.here hx rfl (hb hby d9_64) rfl ?_
                    show Steps p.tables e below (T1.setTop (mkF m 65 #[.val (.ref a0), .val (.long ((vh ^^^ ((vh.toUInt64 >>> ((33 : Int32) &&& 0x3f).toInt64.toUInt64).toInt64)) * (-49064778989728563 : Int64))), .second, .val (.ref b), .val (.int n), .val (.int (7 : Int32)), .val (.int (g 6))] [(.long ((((vh ^^^ ((vh.toUInt64 >>> ((33 : Int32) &&& 0x3f).toInt64.toUInt64).toInt64)) * (-49064778989728563 : Int64)).toUInt64 >>> ((33 : Int32) &&& 0x3f).toInt64.toUInt64).toInt64)), (.long ((vh ^^^ ((vh.toUInt64 >>> ((33 : Int32) &&& 0x3f).toInt64.toUInt64).toInt64)) * (-49064778989728563 : Int64)))])) t
                    refine XS.lxor X1.here hx rfl (hb hby d9_65) rfl ?_
                    show Steps p.tables e below (T1.setTop (mkF m 66 #[.val (.ref a0), .val (.long ((vh ^^^ ((vh.toUInt64 >>> ((33 : Int32) &&& 0x3f).toInt64.toUInt64).toInt64)) * (-49064778989728563 : Int64))), .second, .val (.ref b), .val (.int n), .val (.int (7 : Int32)), .val (.int (g 6))] [(.long (((vh ^^^ ((vh.toUInt64 >>> ((33 : Int32) &&& 0x3f).toInt64.toUInt64).toInt64)) * (-49064778989728563 : Int64)) ^^^ ((((vh ^^^ ((vh.toUInt64 >>> ((33 : Int32) &&& 0x3f).toInt64.toUInt64).toInt64)) * (-49064778989728563 : Int64)).toUInt64 >>> ((33 : Int32) &&& 0x3f).toInt64.toUInt64).toInt64)))])) t
                    refine X1.ldc2Long hx hown (mvT hZ (hw _ (List.mem_of_getElem? (i := 45) rfl))) (g := (mkF m 66 #[.val (.ref a0), .val (.long ((vh ^^^ ((vh.toUInt64 >>> ((33 : Int32) &&& 0x3f).toInt64.toUInt64).toInt64)) * (-49064778989728563 : Int64))), .second, .val (.ref b), .val (.int n), .val (.int (7 : Int32)), .val (.int (g 6))] [(.long (((vh ^^^ ((vh.toUInt64 >>> ((33 : Int32) &&& 0x3f).toInt64.toUInt64).toInt64)) * (-49064778989728563 : Int64)) ^^^ ((((vh ^^^ ((vh.toUInt64 >>> ((33 : Int32) &&& 0x3f).toInt64.toUInt64).toInt64)) * (-49064778989728563 : Int64)).toUInt64 >>> ((33 : Int32) &&& 0x3f).toInt64.toUInt64).toInt64)))])) rfl (hb hby d9_66) _ ?_
                    show Steps p.tables e below (T1.setTop (mkF m 69 #[.val (.ref a0), .val (.long ((vh ^^^ ((vh.toUInt64 >>> ((33 : Int32) &&& 0x3f).toInt64.toUInt64).toInt64)) * (-49064778989728563 : Int64))), .second, .val (.ref b), .val (.int n), .val (.int (7 : Int32)), .val (.int (g 6))] [(.long (-4265267296055464877 : Int64)), (.long (((vh ^^^ ((vh.toUInt64 >>> ((33 : Int32) &&& 0x3f).toInt64.toUInt64).toInt64)) * (-49064778989728563 : Int64)) ^^^ ((((vh ^^^ ((vh.toUInt64 >>> ((33 : Int32) &&& 0x3f).toInt64.toUInt64).toInt64)) * (-49064778989728563 : Int64)).toUInt64 >>> ((33 : Int32) &&& 0x3f).toInt64.toUInt64).toInt64)))])) t
                    refine XS.lmul X1.here hx rfl (hb hby d9_69) rfl ?_
                    show Steps p.tables e below (T1.setTop (mkF m 70 #[.val (.ref a0), .val (.long ((vh ^^^ ((vh.toUInt64 >>> ((33 : Int32) &&& 0x3f).toInt64.toUInt64).toInt64)) * (-49064778989728563 : Int64))), .second, .val (.ref b), .val (.int n), .val (.int (7 : Int32)), .val (.int (g 6))] [(.long ((((vh ^^^ ((vh.toUInt64 >>> ((33 : Int32) &&& 0x3f).toInt64.toUInt64).toInt64)) * (-49064778989728563 : Int64)) ^^^ ((((vh ^^^ ((vh.toUInt64 >>> ((33 : Int32) &&& 0x3f).toInt64.toUInt64).toInt64)) * (-49064778989728563 : Int64)).toUInt64 >>> ((33 : Int32) &&& 0x3f).toInt64.toUInt64).toInt64)) * (-4265267296055464877 : Int64)))])) t
                    refine XS.lstoreN X1.here hx rfl (hb hby d9_70) rfl (l' := #[.val (.ref a0), .val (.long ((((vh ^^^ ((vh.toUInt64 >>> ((33 : Int32) &&& 0x3f).toInt64.toUInt64).toInt64)) * (-49064778989728563 : Int64)) ^^^ ((((vh ^^^ ((vh.toUInt64 >>> ((33 : Int32) &&& 0x3f).toInt64.toUInt64).toInt64)) * (-49064778989728563 : Int64)).toUInt64 >>> ((33 : Int32) &&& 0x3f).toInt64.toUInt64).toInt64)) * (-4265267296055464877 : Int64))), .second, .val (.ref b), .val (.int n), .val (.int (7 : Int32)), .val (.int (g 6))]) rfl ?_
                    show Steps p.tables e below (T1.setTop (mkF m 71 #[.val (.ref a0), .val (.long ((((vh ^^^ ((vh.toUInt64 >>> ((33 : Int32) &&& 0x3f).toInt64.toUInt64).toInt64)) * (-49064778989728563 : Int64)) ^^^ ((((vh ^^^ ((vh.toUInt64 >>> ((33 : Int32) &&& 0x3f).toInt64.toUInt64).toInt64)) * (-49064778989728563 : Int64)).toUInt64 >>> ((33 : Int32) &&& 0x3f).toInt64.toUInt64).toInt64)) * (-4265267296055464877 : Int64))), .second, .val (.ref b), .val (.int n), .val (.int (7 : Int32)), .val (.int (g 6))] [])) t
                    refine XS.lloadN X1.here hx rfl (hb hby d9_71) rfl ?_
                    show Steps p.tables e below (T1.setTop (mkF m 72 #[.val (.ref a0), .val (.long ((((vh ^^^ ((vh.toUInt64 >>> ((33 : Int32) &&& 0x3f).toInt64.toUInt64).toInt64)) * (-49064778989728563 : Int64)) ^^^ ((((vh ^^^ ((vh.toUInt64 >>> ((33 : Int32) &&& 0x3f).toInt64.toUInt64).toInt64)) * (-49064778989728563 : Int64)).toUInt64 >>> ((33 : Int32) &&& 0x3f).toInt64.toUInt64).toInt64)) * (-4265267296055464877 : Int64))), .second, .val (.ref b), .val (.int n), .val (.int (7 : Int32)), .val (.int (g 6))] [(.long ((((vh ^^^ ((vh.toUInt64 >>> ((33 : Int32) &&& 0x3f).toInt64.toUInt64).toInt64)) * (-49064778989728563 : Int64)) ^^^ ((((vh ^^^ ((vh.toUInt64 >>> ((33 : Int32) &&& 0x3f).toInt64.toUInt64).toInt64)) * (-49064778989728563 : Int64)).toUInt64 >>> ((33 : Int32) &&& 0x3f).toInt64.toUInt64).toInt64)) * (-4265267296055464877 : Int64)))])) t
                    refine XS.lloadN X1.here hx rfl (hb hby d9_72) rfl ?_
                    show Steps p.tables e below (T1.setTop (mkF m 73 #[.val (.ref a0), .val (.long ((((vh ^^^ ((vh.toUInt64 >>> ((33 : Int32) &&& 0x3f).toInt64.toUInt64).toInt64)) * (-49064778989728563 : Int64)) ^^^ ((((vh ^^^ ((vh.toUInt64 >>> ((33 : Int32) &&& 0x3f).toInt64.toUInt64).toInt64)) * (-49064778989728563 : Int64)).toUInt64 >>> ((33 : Int32) &&& 0x3f).toInt64.toUInt64).toInt64)) * (-4265267296055464877 : Int64))), .second, .val (.ref b), .val (.int n), .val (.int (7 : Int32)), .val (.int (g 6))] [(.long ((((vh ^^^ ((vh.toUInt64 >>> ((33 : Int32) &&& 0x3f).toInt64.toUInt64).toInt64)) * (-49064778989728563 : Int64)) ^^^ ((((vh ^^^ ((vh.toUInt64 >>> ((33 : Int32) &&& 0x3f).toInt64.toUInt64).toInt64)) * (-49064778989728563 : Int64)).toUInt64 >>> ((33 : Int32) &&& 0x3f).toInt64.toUInt64).toInt64)) * (-4265267296055464877 : Int64))), (.long ((((vh ^^^ ((vh.toUInt64 >>> ((33 : Int32) &&& 0x3f).toInt64.toUInt64).toInt64)) * (-49064778989728563 : Int64)) ^^^ ((((vh ^^^ ((vh.toUInt64 >>> ((33 : Int32) &&& 0x3f).toInt64.toUInt64).toInt64)) * (-49064778989728563 : Int64)).toUInt64 >>> ((33 : Int32) &&& 0x3f).toInt64.toUInt64).toInt64)) * (-4265267296055464877 : Int64)))])) t
                    refine XS.bipush X1.here hx rfl (hb hby d9_73) ?_
                    show Steps p.tables e below (T1.setTop (mkF m 75 #[.val (.ref a0), .val (.long ((((vh ^^^ ((vh.toUInt64 >>> ((33 : Int32) &&& 0x3f).toInt64.toUInt64).toInt64)) * (-49064778989728563 : Int64)) ^^^ ((((vh ^^^ ((vh.toUInt64 >>> ((33 : Int32) &&& 0x3f).toInt64.toUInt64).toInt64)) * (-49064778989728563 : Int64)).toUInt64 >>> ((33 : Int32) &&& 0x3f).toInt64.toUInt64).toInt64)) * (-4265267296055464877 : Int64))), .second, .val (.ref b), .val (.int n), .val (.int (7 : Int32)), .val (.int (g 6))] [(.int (33 : Int32)), (.long ((((vh ^^^ ((vh.toUInt64 >>> ((33 : Int32) &&& 0x3f).toInt64.toUInt64).toInt64)) * (-49064778989728563 : Int64)) ^^^ ((((vh ^^^ ((vh.toUInt64 >>> ((33 : Int32) &&& 0x3f).toInt64.toUInt64).toInt64)) * (-49064778989728563 : Int64)).toUInt64 >>> ((33 : Int32) &&& 0x3f).toInt64.toUInt64).toInt64)) * (-4265267296055464877 : Int64))), (.long ((((vh ^^^ ((vh.toUInt64 >>> ((33 : Int32) &&& 0x3f).toInt64.toUInt64).toInt64)) * (-49064778989728563 : Int64)) ^^^ ((((vh ^^^ ((vh.toUInt64 >>> ((33 : Int32) &&& 0x3f).toInt64.toUInt64).toInt64)) * (-49064778989728563 : Int64)).toUInt64 >>> ((33 : Int32) &&& 0x3f).toInt64.toUInt64).toInt64)) * (-4265267296055464877 : Int64)))])) t
                    refine XS.lushr X1.here hx rfl (hb hby d9_75) rfl ?_
                    show Steps p.tables e below (T1.setTop (mkF m 76 #[.val (.ref a0), .val (.long ((((vh ^^^ ((vh.toUInt64 >>> ((33 : Int32) &&& 0x3f).toInt64.toUInt64).toInt64)) * (-49064778989728563 : Int64)) ^^^ ((((vh ^^^ ((vh.toUInt64 >>> ((33 : Int32) &&& 0x3f).toInt64.toUInt64).toInt64)) * (-49064778989728563 : Int64)).toUInt64 >>> ((33 : Int32) &&& 0x3f).toInt64.toUInt64).toInt64)) * (-4265267296055464877 : Int64))), .second, .val (.ref b), .val (.int n), .val (.int (7 : Int32)), .val (.int (g 6))] [(.long ((((((vh ^^^ ((vh.toUInt64 >>> ((33 : Int32) &&& 0x3f).toInt64.toUInt64).toInt64)) * (-49064778989728563 : Int64)) ^^^ ((((vh ^^^ ((vh.toUInt64 >>> ((33 : Int32) &&& 0x3f).toInt64.toUInt64).toInt64)) * (-49064778989728563 : Int64)).toUInt64 >>> ((33 : Int32) &&& 0x3f).toInt64.toUInt64).toInt64)) * (-4265267296055464877 : Int64)).toUInt64 >>> ((33 : Int32) &&& 0x3f).toInt64.toUInt64).toInt64)), (.long ((((vh ^^^ ((vh.toUInt64 >>> ((33 : Int32) &&& 0x3f).toInt64.toUInt64).toInt64)) * (-49064778989728563 : Int64)) ^^^ ((((vh ^^^ ((vh.toUInt64 >>> ((33 : Int32) &&& 0x3f).toInt64.toUInt64).toInt64)) * (-49064778989728563 : Int64)).toUInt64 >>> ((33 : Int32) &&& 0x3f).toInt64.toUInt64).toInt64)) * (-4265267296055464877 : Int64)))])) t
                    refine XS.lxor X1.here hx rfl (hb hby d9_76) rfl ?_
                    exact kt
                  obtain ⟨fs, hr, hrun, hended, hW, hsame⟩ := X1.leave (v := some (.long (((((vh ^^^ ((vh.toUInt64 >>> ((33 : Int32) &&& 0x3f).toInt64.toUInt64).toInt64)) * (-49064778989728563 : Int64)) ^^^ ((((vh ^^^ ((vh.toUInt64 >>> ((33 : Int32) &&& 0x3f).toInt64.toUInt64).toInt64)) * (-49064778989728563 : Int64)).toUInt64 >>> ((33 : Int32) &&& 0x3f).toInt64.toUInt64).toInt64)) * (-4265267296055464877 : Int64)) ^^^ ((((((vh ^^^ ((vh.toUInt64 >>> ((33 : Int32) &&& 0x3f).toInt64.toUInt64).toInt64)) * (-49064778989728563 : Int64)) ^^^ ((((vh ^^^ ((vh.toUInt64 >>> ((33 : Int32) &&& 0x3f).toInt64.toUInt64).toInt64)) * (-49064778989728563 : Int64)).toUInt64 >>> ((33 : Int32) &&& 0x3f).toInt64.toUInt64).toInt64)) * (-4265267296055464877 : Int64)).toUInt64 >>> ((33 : Int32) &&& 0x3f).toInt64.toUInt64).toInt64)))) (fun h => by rw [Bd.returns] at h; cases h)
                  refine ⟨_, _, ?_, hrun, hended, _, _, rfl, ?_, ⟨_, rfl⟩, hW, hsame.mono (by decide) (by decide)⟩
                  · exact own_retL X1 hx Bd.returns (hb hby d9_77) hr
                  · show Q9 Z a0 b n g h0 n0 _ T1.heap _
                    rw [e1]
                    exact ⟨(by rw [own_hash, own_acc, if_pos hc20_3, if_pos hc20_5, if_pos hc20_7, if_pos hc20_9, if_pos hc20_11, if_pos hc20_13, if_pos hc20_15, if_neg hc20_17, h_vh]; rfl), N0, rfl⟩
              · refine own_by (A' := T1.setTop (mkF m 49 #[.val (.ref a0), .val (.long (((((((((((((-3750763034362895579 : Int64) ^^^ (((g 0) &&& (255 : Int32)).toInt64)) * (1099511628211 : Int64)) ^^^ (((g 1) &&& (255 : Int32)).toInt64)) * (1099511628211 : Int64)) ^^^ (((g 2) &&& (255 : Int32)).toInt64)) * (1099511628211 : Int64)) ^^^ (((g 3) &&& (255 : Int32)).toInt64)) * (1099511628211 : Int64)) ^^^ (((g 4) &&& (255 : Int32)).toInt64)) * (1099511628211 : Int64)) ^^^ (((g 5) &&& (255 : Int32)).toInt64)) * (1099511628211 : Int64))), .second, .val (.ref b), .val (.int n), .val (.int (6 : Int32)), .val (.int (g 5))] [])) (fun t kt => ?_) ?_
                · show Steps p.tables e below (T1.setTop (mkF m 20 #[.val (.ref a0), .val (.long (((((((((((((-3750763034362895579 : Int64) ^^^ (((g 0) &&& (255 : Int32)).toInt64)) * (1099511628211 : Int64)) ^^^ (((g 1) &&& (255 : Int32)).toInt64)) * (1099511628211 : Int64)) ^^^ (((g 2) &&& (255 : Int32)).toInt64)) * (1099511628211 : Int64)) ^^^ (((g 3) &&& (255 : Int32)).toInt64)) * (1099511628211 : Int64)) ^^^ (((g 4) &&& (255 : Int32)).toInt64)) * (1099511628211 : Int64)) ^^^ (((g 5) &&& (255 : Int32)).toInt64)) * (1099511628211 : Int64))), .second, .val (.ref b), .val (.int n), .val (.int (6 : Int32)), .val (.int (g 5))] [(.int n), (.int (6 : Int32))])) t
                  refine XS.icmpYes X1.here hx rfl (pc0 := 20) (pc' := 49) rfl (hb hby d9_20) rfl (flt hc20_15).2.1 (by decide) (by decide) ?_
                  exact kt
                generalize h_vh : (((((((((((((-3750763034362895579 : Int64) ^^^ (((g 0) &&& (255 : Int32)).toInt64)) * (1099511628211 : Int64)) ^^^ (((g 1) &&& (255 : Int32)).toInt64)) * (1099511628211 : Int64)) ^^^ (((g 2) &&& (255 : Int32)).toInt64)) * (1099511628211 : Int64)) ^^^ (((g 3) &&& (255 : Int32)).toInt64)) * (1099511628211 : Int64)) ^^^ (((g 4) &&& (255 : Int32)).toInt64)) * (1099511628211 : Int64)) ^^^ (((g 5) &&& (255 : Int32)).toInt64)) * (1099511628211 : Int64)) = vh
                refine own_by (A' := T1.setTop (mkF m 77 #[.val (.ref a0), .val (.long ((((vh ^^^ ((vh.toUInt64 >>> ((33 : Int32) &&& 0x3f).toInt64.toUInt64).toInt64)) * (-49064778989728563 : Int64)) ^^^ ((((vh ^^^ ((vh.toUInt64 >>> ((33 : Int32) &&& 0x3f).toInt64.toUInt64).toInt64)) * (-49064778989728563 : Int64)).toUInt64 >>> ((33 : Int32) &&& 0x3f).toInt64.toUInt64).toInt64)) * (-4265267296055464877 : Int64))), .second, .val (.ref b), .val (.int n), .val (.int (6 : Int32)), .val (.int (g 5))] [(.long (((((vh ^^^ ((vh.toUInt64 >>> ((33 : Int32) &&& 0x3f).toInt64.toUInt64).toInt64)) * (-49064778989728563 : Int64)) ^^^ ((((vh ^^^ ((vh.toUInt64 >>> ((33 : Int32) &&& 0x3f).toInt64.toUInt64).toInt64)) * (-49064778989728563 : Int64)).toUInt64 >>> ((33 : Int32) &&& 0x3f).toInt64.toUInt64).toInt64)) * (-4265267296055464877 : Int64)) ^^^ ((((((vh ^^^ ((vh.toUInt64 >>> ((33 : Int32) &&& 0x3f).toInt64.toUInt64).toInt64)) * (-49064778989728563 : Int64)) ^^^ ((((vh ^^^ ((vh.toUInt64 >>> ((33 : Int32) &&& 0x3f).toInt64.toUInt64).toInt64)) * (-49064778989728563 : Int64)).toUInt64 >>> ((33 : Int32) &&& 0x3f).toInt64.toUInt64).toInt64)) * (-4265267296055464877 : Int64)).toUInt64 >>> ((33 : Int32) &&& 0x3f).toInt64.toUInt64).toInt64)))])) (fun t kt => ?_) ?_
                · show Steps p.tables e below (T1.setTop (mkF m 49 #[.val (.ref a0), .val (.long vh), .second, .val (.ref b), .val (.int n), .val (.int (6 : Int32)), .val (.int (g 5))] [])) t
                  refine XS.lloadN X1.here hx rfl (hb hby d9_49) rfl ?_
                  show Steps p.tables e below (T1.setTop (mkF m 50 #[.val (.ref a0), .val (.long vh), .second, .val (.ref b), .val (.int n), .val (.int (6 : Int32)), .val (.int (g 5))] [(.long vh)])) t
                  refine XS.lloadN X1.here hx rfl (hb hby d9_50) rfl ?_
                  show Steps p.tables e below (T1.setTop (mkF m 51 #[.val (.ref a0), .val (.long vh), .second, .val (.ref b), .val (.int n), .val (.int (6 : Int32)), .val (.int (g 5))] [(.long vh), (.long vh)])) t
                  refine XS.bipush X1.here hx rfl (hb hby d9_51) ?_
                  show Steps p.tables e below (T1.setTop (mkF m 53 #[.val (.ref a0), .val (.long vh), .second, .val (.ref b), .val (.int n), .val (.int (6 : Int32)), .val (.int (g 5))] [(.int (33 : Int32)), (.long vh), (.long vh)])) t
                  refine XS.lushr X1.here hx rfl (hb hby d9_53) rfl ?_
                  show Steps p.tables e below (T1.setTop (mkF m 54 #[.val (.ref a0), .val (.long vh), .second, .val (.ref b), .val (.int n), .val (.int (6 : Int32)), .val (.int (g 5))] [(.long ((vh.toUInt64 >>> ((33 : Int32) &&& 0x3f).toInt64.toUInt64).toInt64)), (.long vh)])) t
                  refine XS.lxor X1.here hx rfl (hb hby d9_54) rfl ?_
                  show Steps p.tables e below (T1.setTop (mkF m 55 #[.val (.ref a0), .val (.long vh), .second, .val (.ref b), .val (.int n), .val (.int (6 : Int32)), .val (.int (g 5))] [(.long (vh ^^^ ((vh.toUInt64 >>> ((33 : Int32) &&& 0x3f).toInt64.toUInt64).toInt64)))])) t
                  refine X1.ldc2Long hx hown (mvT hZ (hw _ (List.mem_of_getElem? (i := 44) rfl))) (g := (mkF m 55 #[.val (.ref a0), .val (.long vh), .second, .val (.ref b), .val (.int n), .val (.int (6 : Int32)), .val (.int (g 5))] [(.long (vh ^^^ ((vh.toUInt64 >>> ((33 : Int32) &&& 0x3f).toInt64.toUInt64).toInt64)))])) rfl (hb hby d9_55) _ ?_
                  show Steps p.tables e below (T1.setTop (mkF m 58 #[.val (.ref a0), .val (.long vh), .second, .val (.ref b), .val (.int n), .val (.int (6 : Int32)), .val (.int (g 5))] [(.long (-49064778989728563 : Int64)), (.long (vh ^^^ ((vh.toUInt64 >>> ((33 : Int32) &&& 0x3f).toInt64.toUInt64).toInt64)))])) t
                  refine XS.lmul X1.here hx rfl (hb hby d9_58) rfl ?_
                  show Steps p.tables e below (T1.setTop (mkF m 59 #[.val (.ref a0), .val (.long vh), .second, .val (.ref b), .val (.int n), .val (.int (6 : Int32)), .val (.int (g 5))] [(.long ((vh ^^^ ((vh.toUInt64 >>> ((33 : Int32) &&& 0x3f).toInt64.toUInt64).toInt64)) * (-49064778989728563 : Int64)))])) t
                  refine XS.lstoreN X1.here hx rfl (hb hby d9_59) rfl (l' := #[.val (.ref a0), .val (.long ((vh ^^^ ((vh.toUInt64 >>> ((33 : Int32) &&& 0x3f).toInt64.toUInt64).toInt64)) * (-49064778989728563 : Int64))), .second, .val (.ref b), .val (.int n), .val (.int (6 : Int32)), .val (.int (g 5))]) rfl ?_
                  show Steps p.tables e below (T1.setTop (mkF m 60 #[.val (.ref a0), .val (.long ((vh ^^^ ((vh.toUInt64 >>> ((33 : Int32) &&& 0x3f).toInt64.toUInt64).toInt64)) * (-49064778989728563 : Int64))), .second, .val (.ref b), .val (.int n), .val (.int (6 : Int32)), .val (.int (g 5))] [])) t
                  refine XS.lloadN X1.here hx rfl (hb hby d9_60) rfl ?_
                  show Steps p.tables e below (T1.setTop (mkF m 61 #[.val (.ref a0), .val (.long ((vh ^^^ ((vh.toUInt64 >>> ((33 : Int32) &&& 0x3f).toInt64.toUInt64).toInt64)) * (-49064778989728563 : Int64))), .second, .val (.ref b), .val (.int n), .val (.int (6 : Int32)), .val (.int (g 5))] [(.long ((vh ^^^ ((vh.toUInt64 >>> ((33 : Int32) &&& 0x3f).toInt64.toUInt64).toInt64)) * (-49064778989728563 : Int64)))])) t
                  refine XS.lloadN X1.here hx rfl (hb hby d9_61) rfl ?_
                  show Steps p.tables e below (T1.setTop (mkF m 62 #[.val (.ref a0), .val (.long ((vh ^^^ ((vh.toUInt64 >>> ((33 : Int32) &&& 0x3f).toInt64.toUInt64).toInt64)) * (-49064778989728563 : Int64))), .second, .val (.ref b), .val (.int n), .val (.int (6 : Int32)), .val (.int (g 5))] [(.long ((vh ^^^ ((vh.toUInt64 >>> ((33 : Int32) &&& 0x3f).toInt64.toUInt64).toInt64)) * (-49064778989728563 : Int64))), (.long ((vh ^^^ ((vh.toUInt64 >>> ((33 : Int32) &&& 0x3f).toInt64.toUInt64).toInt64)) * (-49064778989728563 : Int64)))])) t
                  refine XS.bipush X1.here hx rfl (hb hby d9_62) ?_
                  show Steps p.tables e below (T1.setTop (mkF m 64 #[.val (.ref a0), .val (.long ((vh ^^^ ((vh.toUInt64 >>> ((33 : Int32) &&& 0x3f).toInt64.toUInt64).toInt64)) * (-49064778989728563 : Int64))), .second, .val (.ref b), .val (.int n), .val (.int (6 : Int32)), .val (.int (g 5))] [(.int (33 : Int32)), (.long ((vh ^^^ ((vh.toUInt64 >>> ((33 : Int32) &&& 0x3f).toInt64.toUInt64).toInt64)) * (-49064778989728563 : Int64))), (.long ((vh ^^^ ((vh.toUInt64 >>> ((33 : Int32) &&& 0x3f).toInt64.toUInt64).toInt64)) * (-49064778989728563 : Int64)))])) t
                  refine XS.lushr X1.here hx rfl (hb hby d9_64) rfl ?_
                  show Steps p.tables e below (T1.setTop (mkF m 65 #[.val (.ref a0), .val (.long ((vh ^^^ ((vh.toUInt64 >>> ((33 : Int32) &&& 0x3f).toInt64.toUInt64).toInt64)) * (-49064778989728563 : Int64))), .second, .val (.ref b), .val (.int n), .val (.int (6 : Int32)), .val (.int (g 5))] [(.long ((((vh ^^^ ((vh.toUInt64 >>> ((33 : Int32) &&& 0x3f).toInt64.toUInt64).toInt64)) * (-49064778989728563 : Int64)).toUInt64 >>> ((33 : Int32) &&& 0x3f).toInt64.toUInt64).toInt64)), (.long ((vh ^^^ ((vh.toUInt64 >>> ((33 : Int32) &&& 0x3f).toInt64.toUInt64).toInt64)) * (-49064778989728563 : Int64)))])) t
                  refine XS.lxor X1.here hx rfl (hb hby d9_65) rfl ?_
                  show Steps p.tables e below (T1.setTop (mkF m 66 #[.val (.ref a0), .val (.long ((vh ^^^ ((vh.toUInt64 >>> ((33 : Int32) &&& 0x3f).toInt64.toUInt64).toInt64)) * (-49064778989728563 : Int64))), .second, .val (.ref b), .val (.int n), .val (.int (6 : Int32)), .val (.int (g 5))] [(.long (((vh ^^^ ((vh.toUInt64 >>> ((33 : Int32) &&& 0x3f).toInt64.toUInt64).toInt64)) * (-49064778989728563 : Int64)) ^^^ ((((vh ^^^ ((vh.toUInt64 >>> ((33 : Int32) &&& 0x3f).toInt64.toUInt64).toInt64)) * (-49064778989728563 : Int64)).toUInt64 >>> ((33 : Int32) &&& 0x3f).toInt64.toUInt64).toInt64)))])) t
                  refine X1.ldc2Long hx hown (mvT hZ (hw _ (List.mem_of_getElem? (i := 45) rfl))) (g := (mkF m 66 #[.val (.ref a0), .val (.long ((vh ^^^ ((vh.toUInt64 >>> ((33 : Int32) &&& 0x3f).toInt64.toUInt64).toInt64)) * (-49064778989728563 : Int64))), .second, .val (.ref b), .val (.int n), .val (.int (6 : Int32)), .val (.int (g 5))] [(.long (((vh ^^^ ((vh.toUInt64 >>> ((33 : Int32) &&& 0x3f).toInt64.toUInt64).toInt64)) * (-49064778989728563 : Int64)) ^^^ ((((vh ^^^ ((vh.toUInt64 >>> ((33 : Int32) &&& 0x3f).toInt64.toUInt64).toInt64)) * (-49064778989728563 : Int64)).toUInt64 >>> ((33 : Int32) &&& 0x3f).toInt64.toUInt64).toInt64)))])) rfl (hb hby d9_66) _ ?_
                  show Steps p.tables e below (T1.setTop (mkF m 69 #[.val (.ref a0), .val (.long ((vh ^^^ ((vh.toUInt64 >>> ((33 : Int32) &&& 0x3f).toInt64.toUInt64).toInt64)) * (-49064778989728563 : Int64))), .second, .val (.ref b), .val (.int n), .val (.int (6 : Int32)), .val (.int (g 5))] [(.long (-4265267296055464877 : Int64)), (.long (((vh ^^^ ((vh.toUInt64 >>> ((33 : Int32) &&& 0x3f).toInt64.toUInt64).toInt64)) * (-49064778989728563 : Int64)) ^^^ ((((vh ^^^ ((vh.toUInt64 >>> ((33 : Int32) &&& 0x3f).toInt64.toUInt64).toInt64)) * (-49064778989728563 : Int64)).toUInt64 >>> ((33 : Int32) &&& 0x3f).toInt64.toUInt64).toInt64)))])) t
                  refine XS.lmul X1.here hx rfl (hb hby d9_69) rfl ?_
                  show Steps p.tables e below (T1.setTop (mkF m 70 #[.val (.ref a0), .val (.long ((vh ^^^ ((vh.toUInt64 >>> ((33 : Int32) &&& 0x3f).toInt64.toUInt64).toInt64)) * (-49064778989728563 : Int64))), .second, .val (.ref b), .val (.int n), .val (.int (6 : Int32)), .val (.int (g 5))] [(.long ((((vh ^^^ ((vh.toUInt64 >>> ((33 : Int32) &&& 0x3f).toInt64.toUInt64).toInt64)) * (-49064778989728563 : Int64)) ^^^ ((((vh ^^^ ((vh.toUInt64 >>> ((33 : Int32) &&& 0x3f).toInt64.toUInt64).toInt64)) * (-49064778989728563 : Int64)).toUInt64 >>> ((33 : Int32) &&& 0x3f).toInt64.toUInt64).toInt64)) * (-4265267296055464877 : Int64)))])) t
                  refine XS.lstoreN X1.here hx rfl (hb hby d9_70) rfl (l' := #[.val (.ref a0), .val (.long ((((vh ^^^ ((vh.toUInt64 >>> ((33 : Int32) &&& 0x3f).toInt64.toUInt64).toInt64)) * (-49064778989728563 : Int64)) ^^^ ((((vh ^^^ ((vh.toUInt64 >>> ((33 : Int32) &&& 0x3f).toInt64.toUInt64).toInt64)) * (-49064778989728563 : Int64)).toUInt64 >>> ((33 : Int32) &&& 0x3f).toInt64.toUInt64).toInt64)) * (-4265267296055464877 : Int64))), .second, .val (.ref b), .val (.int n), .val (.int (6 : Int32)), .val (.int (g 5))]) rfl ?_
                  show Steps p.tables e below (T1.setTop (mkF m 71 #[.val (.ref a0), .val (.long ((((vh ^^^ ((vh.toUInt64 >>> ((33 : Int32) &&& 0x3f).toInt64.toUInt64).toInt64)) * (-49064778989728563 : Int64)) ^^^ ((((vh ^^^ ((vh.toUInt64 >>> ((33 : Int32) &&& 0x3f).toInt64.toUInt64).toInt64)) * (-49064778989728563 : Int64)).toUInt64 >>> ((33 : Int32) &&& 0x3f).toInt64.toUInt64).toInt64)) * (-4265267296055464877 : Int64))), .second, .val (.ref b), .val (.int n), .val (.int (6 : Int32)), .val (.int (g 5))] [])) t
                  refine XS.lloadN X1.here hx rfl (hb hby d9_71) rfl ?_
                  show Steps p.tables e below (T1.setTop (mkF m 72 #[.val (.ref a0), .val (.long ((((vh ^^^ ((vh.toUInt64 >>> ((33 : Int32) &&& 0x3f).toInt64.toUInt64).toInt64)) * (-49064778989728563 : Int64)) ^^^ ((((vh ^^^ ((vh.toUInt64 >>> ((33 : Int32) &&& 0x3f).toInt64.toUInt64).toInt64)) * (-49064778989728563 : Int64)).toUInt64 >>> ((33 : Int32) &&& 0x3f).toInt64.toUInt64).toInt64)) * (-4265267296055464877 : Int64))), .second, .val (.ref b), .val (.int n), .val (.int (6 : Int32)), .val (.int (g 5))] [(.long ((((vh ^^^ ((vh.toUInt64 >>> ((33 : Int32) &&& 0x3f).toInt64.toUInt64).toInt64)) * (-49064778989728563 : Int64)) ^^^ ((((vh ^^^ ((vh.toUInt64 >>> ((33 : Int32) &&& 0x3f).toInt64.toUInt64).toInt64)) * (-49064778989728563 : Int64)).toUInt64 >>> ((33 : Int32) &&& 0x3f).toInt64.toUInt64).toInt64)) * (-4265267296055464877 : Int64)))])) t
                  refine XS.lloadN X1.here hx rfl (hb hby d9_72) rfl ?_
                  show Steps p.tables e below (T1.setTop (mkF m 73 #[.val (.ref a0), .val (.long ((((vh ^^^ ((vh.toUInt64 >>> ((33 : Int32) &&& 0x3f).toInt64.toUInt64).toInt64)) * (-49064778989728563 : Int64)) ^^^ ((((vh ^^^ ((vh.toUInt64 >>> ((33 : Int32) &&& 0x3f).toInt64.toUInt64).toInt64)) * (-49064778989728563 : Int64)).toUInt64 >>> ((33 : Int32) &&& 0x3f).toInt64.toUInt64).toInt64)) * (-4265267296055464877 : Int64))), .second, .val (.ref b), .val (.int n), .val (.int (6 : Int32)), .val (.int (g 5))] [(.long ((((vh ^^^ ((vh.toUInt64 >>> ((33 : Int32) &&& 0x3f).toInt64.toUInt64).toInt64)) * (-49064778989728563 : Int64)) ^^^ ((((vh ^^^ ((vh.toUInt64 >>> ((33 : Int32) &&& 0x3f).toInt64.toUInt64).toInt64)) * (-49064778989728563 : Int64)).toUInt64 >>> ((33 : Int32) &&& 0x3f).toInt64.toUInt64).toInt64)) * (-4265267296055464877 : Int64))), (.long ((((vh ^^^ ((vh.toUInt64 >>> ((33 : Int32) &&& 0x3f).toInt64.toUInt64).toInt64)) * (-49064778989728563 : Int64)) ^^^ ((((vh ^^^ ((vh.toUInt64 >>> ((33 : Int32) &&& 0x3f).toInt64.toUInt64).toInt64)) * (-49064778989728563 : Int64)).toUInt64 >>> ((33 : Int32) &&& 0x3f).toInt64.toUInt64).toInt64)) * (-4265267296055464877 : Int64)))])) t
                  refine XS.bipush X1.here hx rfl (hb hby d9_73) ?_
                  show Steps p.tables e below (T1.setTop (mkF m 75 #[.val (.ref a0), .val (.long ((((vh ^^^ ((vh.toUInt64 >>> ((33 : Int32) &&& 0x3f).toInt64.toUInt64).toInt64)) * (-49064778989728563 : Int64)) ^^^ ((((vh ^^^ ((vh.toUInt64 >>> ((33 : Int32) &&& 0x3f).toInt64.toUInt64).toInt64)) * (-49064778989728563 : Int64)).toUInt64 >>> ((33 : Int32) &&& 0x3f).toInt64.toUInt64).toInt64)) * (-4265267296055464877 : Int64))), .second, .val (.ref b), .val (.int n), .val (.int (6 : Int32)), .val (.int (g 5))] [(.int (33 : Int32)), (.long ((((vh ^^^ ((vh.toUInt64 >>> ((33 : Int32) &&& 0x3f).toInt64.toUInt64).toInt64)) * (-49064778989728563 : Int64)) ^^^ ((((vh ^^^ ((vh.toUInt64 >>> ((33 : Int32) &&& 0x3f).toInt64.toUInt64).toInt64)) * (-49064778989728563 : Int64)).toUInt64 >>> ((33 : Int32) &&& 0x3f).toInt64.toUInt64).toInt64)) * (-4265267296055464877 : Int64))), (.long ((((vh ^^^ ((vh.toUInt64 >>> ((33 : Int32) &&& 0x3f).toInt64.toUInt64).toInt64)) * (-49064778989728563 : Int64)) ^^^ ((((vh ^^^ ((vh.toUInt64 >>> ((33 : Int32) &&& 0x3f).toInt64.toUInt64).toInt64)) * (-49064778989728563 : Int64)).toUInt64 >>> ((33 : Int32) &&& 0x3f).toInt64.toUInt64).toInt64)) * (-4265267296055464877 : Int64)))])) t
                  refine XS.lushr X1.here hx rfl (hb hby d9_75) rfl ?_
                  show Steps p.tables e below (T1.setTop (mkF m 76 #[.val (.ref a0), .val (.long ((((vh ^^^ ((vh.toUInt64 >>> ((33 : Int32) &&& 0x3f).toInt64.toUInt64).toInt64)) * (-49064778989728563 : Int64)) ^^^ ((((vh ^^^ ((vh.toUInt64 >>> ((33 : Int32) &&& 0x3f).toInt64.toUInt64).toInt64)) * (-49064778989728563 : Int64)).toUInt64 >>> ((33 : Int32) &&& 0x3f).toInt64.toUInt64).toInt64)) * (-4265267296055464877 : Int64))), .second, .val (.ref b), .val (.int n), .val (.int (6 : Int32)), .val (.int (g 5))] [(.long ((((((vh ^^^ ((vh.toUInt64 >>> ((33 : Int32) &&& 0x3f).toInt64.toUInt64).toInt64)) * (-49064778989728563 : Int64)) ^^^ ((((vh ^^^ ((vh.toUInt64 >>> ((33 : Int32) &&& 0x3f).toInt64.toUInt64).toInt64)) * (-49064778989728563 : Int64)).toUInt64 >>> ((33 : Int32) &&& 0x3f).toInt64.toUInt64).toInt64)) * (-4265267296055464877 : Int64)).toUInt64 >>> ((33 : Int32) &&& 0x3f).toInt64.toUInt64).toInt64)), (.long ((((vh ^^^ ((vh.toUInt64 >>> ((33 : Int32) &&& 0x3f).toInt64.toUInt64).toInt64)) * (-49064778989728563 : Int64)) ^^^ ((((vh ^^^ ((vh.toUInt64 >>> ((33 : Int32) &&& 0x3f).toInt64.toUInt64).toInt64)) * (-49064778989728563 : Int64)).toUInt64 >>> ((33 : Int32) &&& 0x3f).toInt64.toUInt64).toInt64)) * (-4265267296055464877 : Int64)))])) t
                  refine XS.lxor X1.here hx rfl (hb hby d9_76) rfl ?_
                  exact kt
                obtain ⟨fs, hr, hrun, hended, hW, hsame⟩ := X1.leave (v := some (.long (((((vh ^^^ ((vh.toUInt64 >>> ((33 : Int32) &&& 0x3f).toInt64.toUInt64).toInt64)) * (-49064778989728563 : Int64)) ^^^ ((((vh ^^^ ((vh.toUInt64 >>> ((33 : Int32) &&& 0x3f).toInt64.toUInt64).toInt64)) * (-49064778989728563 : Int64)).toUInt64 >>> ((33 : Int32) &&& 0x3f).toInt64.toUInt64).toInt64)) * (-4265267296055464877 : Int64)) ^^^ ((((((vh ^^^ ((vh.toUInt64 >>> ((33 : Int32) &&& 0x3f).toInt64.toUInt64).toInt64)) * (-49064778989728563 : Int64)) ^^^ ((((vh ^^^ ((vh.toUInt64 >>> ((33 : Int32) &&& 0x3f).toInt64.toUInt64).toInt64)) * (-49064778989728563 : Int64)).toUInt64 >>> ((33 : Int32) &&& 0x3f).toInt64.toUInt64).toInt64)) * (-4265267296055464877 : Int64)).toUInt64 >>> ((33 : Int32) &&& 0x3f).toInt64.toUInt64).toInt64)))) (fun h => by rw [Bd.returns] at h; cases h)
                refine ⟨_, _, ?_, hrun, hended, _, _, rfl, ?_, ⟨_, rfl⟩, hW, hsame.mono (by decide) (by decide)⟩
                · exact own_retL X1 hx Bd.returns (hb hby d9_77) hr
                · show Q9 Z a0 b n g h0 n0 _ T1.heap _
                  rw [e1]
                  exact ⟨(by rw [own_hash, own_acc, if_pos hc20_3, if_pos hc20_5, if_pos hc20_7, if_pos hc20_9, if_pos hc20_11, if_pos hc20_13, if_neg hc20_15, h_vh]; rfl), N0, rfl⟩
            · refine own_by (A' := T1.setTop (mkF m 49 #[.val (.ref a0), .val (.long (((((((((((-3750763034362895579 : Int64) ^^^ (((g 0) &&& (255 : Int32)).toInt64)) * (1099511628211 : Int64)) ^^^ (((g 1) &&& (255 : Int32)).toInt64)) * (1099511628211 : Int64)) ^^^ (((g 2) &&& (255 : Int32)).toInt64)) * (1099511628211 : Int64)) ^^^ (((g 3) &&& (255 : Int32)).toInt64)) * (1099511628211 : Int64)) ^^^ (((g 4) &&& (255 : Int32)).toInt64)) * (1099511628211 : Int64))), .second, .val (.ref b), .val (.int n), .val (.int (5 : Int32)), .val (.int (g 4))] [])) (fun t kt => ?_) ?_
              · show Steps p.tables e below (T1.setTop (mkF m 20 #[.val (.ref a0), .val (.long (((((((((((-3750763034362895579 : Int64) ^^^ (((g 0) &&& (255 : Int32)).toInt64)) * (1099511628211 : Int64)) ^^^ (((g 1) &&& (255 : Int32)).toInt64)) * (1099511628211 : Int64)) ^^^ (((g 2) &&& (255 : Int32)).toInt64)) * (1099511628211 : Int64)) ^^^ (((g 3) &&& (255 : Int32)).toInt64)) * (1099511628211 : Int64)) ^^^ (((g 4) &&& (255 : Int32)).toInt64)) * (1099511628211 : Int64))), .second, .val (.ref b), .val (.int n), .val (.int (5 : Int32)), .val (.int (g 4))] [(.int n), (.int (5 : Int32))])) t
                refine XS.icmpYes X1.here hx rfl (pc0 := 20) (pc' := 49) rfl (hb hby d9_20) rfl (flt hc20_13).2.1 (by decide) (by decide) ?_
                exact kt
              generalize h_vh : (((((((((((-3750763034362895579 : Int64) ^^^ (((g 0) &&& (255 : Int32)).toInt64)) * (1099511628211 : Int64)) ^^^ (((g 1) &&& (255 : Int32)).toInt64)) * (1099511628211 : Int64)) ^^^ (((g 2) &&& (255 : Int32)).toInt64)) * (1099511628211 : Int64)) ^^^ (((g 3) &&& (255 : Int32)).toInt64)) * (1099511628211 : Int64)) ^^^ (((g 4) &&& (255 : Int32)).toInt64)) * (1099511628211 : Int64)) = vh
              refine own_by (A' := T1.setTop (mkF m 77 #[.val (.ref a0), .val (.long ((((vh ^^^ ((vh.toUInt64 >>> ((33 : Int32) &&& 0x3f).toInt64.toUInt64).toInt64)) * (-49064778989728563 : Int64)) ^^^ ((((vh ^^^ ((vh.toUInt64 >>> ((33 : Int32) &&& 0x3f).toInt64.toUInt64).toInt64)) * (-49064778989728563 : Int64)).toUInt64 >>> ((33 : Int32) &&& 0x3f).toInt64.toUInt64).toInt64)) * (-4265267296055464877 : Int64))), .second, .val (.ref b), .val (.int n), .val (.int (5 : Int32)), .val (.int (g 4))] [(.long (((((vh ^^^ ((vh.toUInt64 >>> ((33 : Int32) &&& 0x3f).toInt64.toUInt64).toInt64)) * (-49064778989728563 : Int64)) ^^^ ((((vh ^^^ ((vh.toUInt64 >>> ((33 : Int32) &&& 0x3f).toInt64.toUInt64).toInt64)) * (-49064778989728563 : Int64)).toUInt64 >>> ((33 : Int32) &&& 0x3f).toInt64.toUInt64).toInt64)) * (-4265267296055464877 : Int64)) ^^^ ((((((vh ^^^ ((vh.toUInt64 >>> ((33 : Int32) &&& 0x3f).toInt64.toUInt64).toInt64)) * (-49064778989728563 : Int64)) ^^^ ((((vh ^^^ ((vh.toUInt64 >>> ((33 : Int32) &&& 0x3f).toInt64.toUInt64).toInt64)) * (-49064778989728563 : Int64)).toUInt64 >>> ((33 : Int32) &&& 0x3f).toInt64.toUInt64).toInt64)) * (-4265267296055464877 : Int64)).toUInt64 >>> ((33 : Int32) &&& 0x3f).toInt64.toUInt64).toInt64)))])) (fun t kt => ?_) ?_
              · show Steps p.tables e below (T1.setTop (mkF m 49 #[.val (.ref a0), .val (.long vh), .second, .val (.ref b), .val (.int n), .val (.int (5 : Int32)), .val (.int (g 4))] [])) t
                refine XS.lloadN X1.here hx rfl (hb hby d9_49) rfl ?_
                show Steps p.tables e below (T1.setTop (mkF m 50 #[.val (.ref a0), .val (.long vh), .second, .val (.ref b), .val (.int n), .val (.int (5 : Int32)), .val (.int (g 4))] [(.long vh)])) t
                refine XS.lloadN X1.here hx rfl (hb hby d9_50) rfl ?_
                show Steps p.tables e below (T1.setTop (mkF m 51 #[.val (.ref a0), .val (.long vh), .second, .val (.ref b), .val (.int n), .val (.int (5 : Int32)), .val (.int (g 4))] [(.long vh), (.long vh)])) t
                refine XS.bipush X1.here hx rfl (hb hby d9_51) ?_
                show Steps p.tables e below (T1.setTop (mkF m 53 #[.val (.ref a0), .val (.long vh), .second, .val (.ref b), .val (.int n), .val (.int (5 : Int32)), .val (.int (g 4))] [(.int (33 : Int32)), (.long vh), (.long vh)])) t
                refine XS.lushr X1.here hx rfl (hb hby d9_53) rfl ?_
                show Steps p.tables e below (T1.setTop (mkF m 54 #[.val (.ref a0), .val (.long vh), .second, .val (.ref b), .val (.int n), .val (.int (5 : Int32)), .val (.int (g 4))] [(.long ((vh.toUInt64 >>> ((33 : Int32) &&& 0x3f).toInt64.toUInt64).toInt64)), (.long vh)])) t
                refine XS.lxor X1.here hx rfl (hb hby d9_54) rfl ?_
                show Steps p.tables e below (T1.setTop (mkF m 55 #[.val (.ref a0), .val (.long vh), .second, .val (.ref b), .val (.int n), .val (.int (5 : Int32)), .val (.int (g 4))] [(.long (vh ^^^ ((vh.toUInt64 >>> ((33 : Int32) &&& 0x3f).toInt64.toUInt64).toInt64)))])) t
                refine X1.ldc2Long hx hown (mvT hZ (hw _ (List.mem_of_getElem? (i := 44) rfl))) (g := (mkF m 55 #[.val (.ref a0), .val (.long vh), .second, .val (.ref b), .val (.int n), .val (.int (5 : Int32)), .val (.int (g 4))] [(.long (vh ^^^ ((vh.toUInt64 >>> ((33 : Int32) &&& 0x3f).toInt64.toUInt64).toInt64)))])) rfl (hb hby d9_55) _ ?_
                show Steps p.tables e below (T1.setTop (mkF m 58 #[.val (.ref a0), .val (.long vh), .second, .val (.ref b), .val (.int n), .val (.int (5 : Int32)), .val (.int (g 4))] [(.long (-49064778989728563 : Int64)), (.long (vh ^^^ ((vh.toUInt64 >>> ((33 : Int32) &&& 0x3f).toInt64.toUInt64).toInt64)))])) t
                refine XS.lmul X1.here hx rfl (hb hby d9_58) rfl ?_
                show Steps p.tables e below (T1.setTop (mkF m 59 #[.val (.ref a0), .val (.long vh), .second, .val (.ref b), .val (.int n), .val (.int (5 : Int32)), .val (.int (g 4))] [(.long ((vh ^^^ ((vh.toUInt64 >>> ((33 : Int32) &&& 0x3f).toInt64.toUInt64).toInt64)) * (-49064778989728563 : Int64)))])) t
                refine XS.lstoreN X1.here hx rfl (hb hby d9_59) rfl (l' := #[.val (.ref a0), .val (.long ((vh ^^^ ((vh.toUInt64 >>> ((33 : Int32) &&& 0x3f).toInt64.toUInt64).toInt64)) * (-49064778989728563 : Int64))), .second, .val (.ref b), .val (.int n), .val (.int (5 : Int32)), .val (.int (g 4))]) rfl ?_
                show Steps p.tables e below (T1.setTop (mkF m 60 #[.val (.ref a0), .val (.long ((vh ^^^ ((vh.toUInt64 >>> ((33 : Int32) &&& 0x3f).toInt64.toUInt64).toInt64)) * (-49064778989728563 : Int64))), .second, .val (.ref b), .val (.int n), .val (.int (5 : Int32)), .val (.int (g 4))] [])) t
                refine XS.lloadN X1.here hx rfl (hb hby d9_60) rfl ?_
                show Steps p.tables e below (T1.setTop (mkF m 61 #[.val (.ref a0), .val (.long ((vh ^^^ ((vh.toUInt64 >>> ((33 : Int32) &&& 0x3f).toInt64.toUInt64).toInt64)) * (-49064778989728563 : Int64))), .second, .val (.ref b), .val (.int n), .val (.int (5 : Int32)), .val (.int (g 4))] [(.long ((vh ^^^ ((vh.toUInt64 >>> ((33 : Int32) &&& 0x3f).toInt64.toUInt64).toInt64)) * (-49064778989728563 : Int64)))])) t
                refine XS.lloadN X1.here hx rfl (hb hby d9_61) rfl ?_
                show Steps p.tables e below (T1.setTop (mkF m 62 #[.val (.ref a0), .val (.long ((vh ^^^ ((vh.toUInt64 >>> ((33 : Int32) &&& 0x3f).toInt64.toUInt64).toInt64)) * (-49064778989728563 : Int64))), .second, .val (.ref b), .val (.int n), .val (.int (5 : Int32)), .val (.int (g 4))] [(.long ((vh ^^^ ((vh.toUInt64 >>> ((33 : Int32) &&& 0x3f).toInt64.toUInt64).toInt64)) * (-49064778989728563 : Int64))), (.long ((vh ^^^ ((vh.toUInt64 >>> ((33 : Int32) &&& 0x3f).toInt64.toUInt64).toInt64)) * (-49064778989728563 : Int64)))])) t
                refine XS.bipush X1.here hx rfl (hb hby d9_62) ?_
                show Steps p.tables e below (T1.setTop (mkF m 64 #[.val (.ref a0), .val (.long ((vh ^^^ ((vh.toUInt64 >>> ((33 : Int32) &&& 0x3f).toInt64.toUInt64).toInt64)) * (-49064778989728563 : Int64))), .second, .val (.ref b), .val (.int n), .val (.int (5 : Int32)), .val (.int (g 4))] [(.int (33 : Int32)), (.long ((vh ^^^ ((vh.toUInt64 >>> ((33 : Int32) &&& 0x3f).toInt64.toUInt64).toInt64)) * (-49064778989728563 : Int64))), (.long ((vh ^^^ ((vh.toUInt64 >>> ((33 : Int32) &&& 0x3f).toInt64.toUInt64).toInt64)) * (-49064778989728563 : Int64)))])) t
                refine XS.lushr X1.here hx rfl (hb hby d9_64) rfl ?_
                show Steps p.tables e below (T1.setTop (mkF m 65 #[.val (.ref a0), .val (.long ((vh ^^^ ((vh.toUInt64 >>> ((33 : Int32) &&& 0x3f).toInt64.toUInt64).toInt64)) * (-49064778989728563 : Int64))), .second, .val (.ref b), .val (.int n), .val (.int (5 : Int32)), .val (.int (g 4))] [(.long ((((vh ^^^ ((vh.toUInt64 >>> ((33 : Int32) &&& 0x3f).toInt64.toUInt64).toInt64)) * (-49064778989728563 : Int64)).toUInt64 >>> ((33 : Int32) &&& 0x3f).toInt64.toUInt64).toInt64)), (.long ((vh ^^^ ((vh.toUInt64 >>> ((33 : Int32) &&& 0x3f).toInt64.toUInt64).toInt64)) * (-49064778989728563 : Int64)))])) t
                refine XS.lxor X1.here hx rfl (hb hby d9_65) rfl ?_
                show Steps p.tables e below (T1.setTop (mkF m 66 #[.val (.ref a0), .val (.long ((vh ^^^ ((vh.toUInt64 >>> ((33 : Int32) &&& 0x3f).toInt64.toUInt64).toInt64)) * (-49064778989728563 : Int64))), .second, .val (.ref b), .val (.int n), .val (.int (5 : Int32)), .val (.int (g 4))] [(.long (((vh ^^^ ((vh.toUInt64 >>> ((33 : Int32) &&& 0x3f).toInt64.toUInt64).toInt64)) * (-49064778989728563 : Int64)) ^^^ ((((vh ^^^ ((vh.toUInt64 >>> ((33 : Int32) &&& 0x3f).toInt64.toUInt64).toInt64)) * (-49064778989728563 : Int64)).toUInt64 >>> ((33 : Int32) &&& 0x3f).toInt64.toUInt64).toInt64)))])) t
                refine X1.ldc2Long hx hown (mvT hZ (hw _ (List.mem_of_getElem? (i := 45) rfl))) (g := (mkF m 66 #[.val (.ref a0), .val (.long ((vh ^^^ ((vh.toUInt64 >>> ((33 : Int32) &&& 0x3f).toInt64.toUInt64).toInt64)) * (-49064778989728563 : Int64))), .second, .val (.ref b), .val (.int n), .val (.int (5 : Int32)), .val (.int (g 4))] [(.long (((vh ^^^ ((vh.toUInt64 >>> ((33 : Int32) &&& 0x3f).toInt64.toUInt64).toInt64)) * (-49064778989728563 : Int64)) ^^^ ((((vh ^^^ ((vh.toUInt64 >>> ((33 : Int32) &&& 0x3f).toInt64.toUInt64).toInt64)) * (-49064778989728563 : Int64)).toUInt64 >>> ((33 : Int32) &&& 0x3f).toInt64.toUInt64).toInt64)))])) rfl (hb hby d9_66) _ ?_
                show Steps p.tables e below (T1.setTop (mkF m 69 #[.val (.ref a0), .val (.long ((vh ^^^ ((vh.toUInt64 >>> ((33 : Int32) &&& 0x3f).toInt64.toUInt64).toInt64)) * (-49064778989728563 : Int64))), .second, .val (.ref b), .val (.int n), .val (.int (5 : Int32)), .val (.int (g 4))] [(.long (-4265267296055464877 : Int64)), (.long (((vh ^^^ ((vh.toUInt64 >>> ((33 : Int32) &&& 0x3f).toInt64.toUInt64).toInt64)) * (-49064778989728563 : Int64)) ^^^ ((((vh ^^^ ((vh.toUInt64 >>> ((33 : Int32) &&& 0x3f).toInt64.toUInt64).toInt64)) * (-49064778989728563 : Int64)).toUInt64 >>> ((33 : Int32) &&& 0x3f).toInt64.toUInt64).toInt64)))])) t
                refine XS.lmul X1.here hx rfl (hb hby d9_69) rfl ?_
                show Steps p.tables e below (T1.setTop (mkF m 70 #[.val (.ref a0), .val (.long ((vh ^^^ ((vh.toUInt64 >>> ((33 : Int32) &&& 0x3f).toInt64.toUInt64).toInt64)) * (-49064778989728563 : Int64))), .second, .val (.ref b), .val (.int n), .val (.int (5 : Int32)), .val (.int (g 4))] [(.long ((((vh ^^^ ((vh.toUInt64 >>> ((33 : Int32) &&& 0x3f).toInt64.toUInt64).toInt64)) * (-49064778989728563 : Int64)) ^^^ ((((vh ^^^ ((vh.toUInt64 >>> ((33 : Int32) &&& 0x3f).toInt64.toUInt64).toInt64)) * (-49064778989728563 : Int64)).toUInt64 >>> ((33 : Int32) &&& 0x3f).toInt64.toUInt64).toInt64)) * (-4265267296055464877 : Int64)))])) t
                refine XS.lstoreN X1.here hx rfl (hb hby d9_70) rfl (l' := #[.val (.ref a0), .val (.long ((((vh ^^^ ((vh.toUInt64 >>> ((33 : Int32) &&& 0x3f).toInt64.toUInt64).toInt64)) * (-49064778989728563 : Int64)) ^^^ ((((vh ^^^ ((vh.toUInt64 >>> ((33 : Int32) &&& 0x3f).toInt64.toUInt64).toInt64)) * (-49064778989728563 : Int64)).toUInt64 >>> ((33 : Int32) &&& 0x3f).toInt64.toUInt64).toInt64)) * (-4265267296055464877 : Int64))), .second, .val (.ref b), .val (.int n), .val (.int (5 : Int32)), .val (.int (g 4))]) rfl ?_
                show Steps p.tables e below (T1.setTop (mkF m 71 #[.val (.ref a0), .val (.long ((((vh ^^^ ((vh.toUInt64 >>> ((33 : Int32) &&& 0x3f).toInt64.toUInt64).toInt64)) * (-49064778989728563 : Int64)) ^^^ ((((vh ^^^ ((vh.toUInt64 >>> ((33 : Int32) &&& 0x3f).toInt64.toUInt64).toInt64)) * (-49064778989728563 : Int64)).toUInt64 >>> ((33 : Int32) &&& 0x3f).toInt64.toUInt64).toInt64)) * (-4265267296055464877 : Int64))), .second, .val (.ref b), .val (.int n), .val (.int (5 : Int32)), .val (.int (g 4))] [])) t
                refine XS.lloadN X1.here hx rfl (hb hby d9_71) rfl ?_
                show Steps p.tables e below (T1.setTop (mkF m 72 #[.val (.ref a0), .val (.long ((((vh ^^^ ((vh.toUInt64 >>> ((33 : Int32) &&& 0x3f).toInt64.toUInt64).toInt64)) * (-49064778989728563 : Int64)) ^^^ ((((vh ^^^ ((vh.toUInt64 >>> ((33 : Int32) &&& 0x3f).toInt64.toUInt64).toInt64)) * (-49064778989728563 : Int64)).toUInt64 >>> ((33 : Int32) &&& 0x3f).toInt64.toUInt64).toInt64)) * (-4265267296055464877 : Int64))), .second, .val (.ref b), .val (.int n), .val (.int (5 : Int32)), .val (.int (g 4))] [(.long ((((vh ^^^ ((vh.toUInt64 >>> ((33 : Int32) &&& 0x3f).toInt64.toUInt64).toInt64)) * (-49064778989728563 : Int64)) ^^^ ((((vh ^^^ ((vh.toUInt64 >>> ((33 : Int32) &&& 0x3f).toInt64.toUInt64).toInt64)) * (-49064778989728563 : Int64)).toUInt64 >>> ((33 : Int32) &&& 0x3f).toInt64.toUInt64).toInt64)) * (-4265267296055464877 : Int64)))])) t
                refine XS.lloadN X1.here hx rfl (hb hby d9_72) rfl ?_
                show Steps p.tables e below (T1.setTop (mkF m 73 #[.val (.ref a0), .val (.long ((((vh ^^^ ((vh.toUInt64 >>> ((33 : Int32) &&& 0x3f).toInt64.toUInt64).toInt64)) * (-49064778989728563 : Int64)) ^^^ ((((vh ^^^ ((vh.toUInt64 >>> ((33 : Int32) &&& 0x3f).toInt64.toUInt64).toInt64)) * (-49064778989728563 : Int64)).toUInt64 >>> ((33 : Int32) &&& 0x3f).toInt64.toUInt64).toInt64)) * (-4265267296055464877 : Int64))), .second, .val (.ref b), .val (.int n), .val (.int (5 : Int32)), .val (.int (g 4))] [(.long ((((vh ^^^ ((vh.toUInt64 >>> ((33 : Int32) &&& 0x3f).toInt64.toUInt64).toInt64)) * (-49064778989728563 : Int64)) ^^^ ((((vh ^^^ ((vh.toUInt64 >>> ((33 : Int32) &&& 0x3f).toInt64.toUInt64).toInt64)) * (-49064778989728563 : Int64)).toUInt64 >>> ((33 : Int32) &&& 0x3f).toInt64.toUInt64).toInt64)) * (-4265267296055464877 : Int64))), (.long ((((vh ^^^ ((vh.toUInt64 >>> ((33 : Int32) &&& 0x3f).toInt64.toUInt64).toInt64)) * (-49064778989728563 : Int64)) ^^^ ((((vh ^^^ ((vh.toUInt64 >>> ((33 : Int32) &&& 0x3f).toInt64.toUInt64).toInt64)) * (-49064778989728563 : Int64)).toUInt64 >>> ((33 : Int32) &&& 0x3f).toInt64.toUInt64).toInt64)) * (-4265267296055464877 : Int64)))])) t
                refine XS.bipush X1.here hx rfl (hb hby d9_73) ?_
                show Steps p.tables e below (T1.setTop (mkF m 75 #[.val (.ref a0), .val (.long ((((vh ^^^ ((vh.toUInt64 >>> ((33 : Int32) &&& 0x3f).toInt64.toUInt64).toInt64)) * (-49064778989728563 : Int64)) ^^^ ((((vh ^^^ ((vh.toUInt64 >>> ((33 : Int32) &&& 0x3f).toInt64.toUInt64).toInt64)) * (-49064778989728563 : Int64)).toUInt64 >>> ((33 : Int32) &&& 0x3f).toInt64.toUInt64).toInt64)) * (-4265267296055464877 : Int64))), .second, .val (.ref b), .val (.int n), .val (.int (5 : Int32)), .val (.int (g 4))] [(.int (33 : Int32)), (.long ((((vh ^^^ ((vh.toUInt64 >>> ((33 : Int32) &&& 0x3f).toInt64.toUInt64).toInt64)) * (-49064778989728563 : Int64)) ^^^ ((((vh ^^^ ((vh.toUInt64 >>> ((33 : Int32) &&& 0x3f).toInt64.toUInt64).toInt64)) * (-49064778989728563 : Int64)).toUInt64 >>> ((33 : Int32) &&& 0x3f).toInt64.toUInt64).toInt64)) * (-4265267296055464877 : Int64))), (.long ((((vh ^^^ ((vh.toUInt64 >>> ((33 : Int32) &&& 0x3f).toInt64.toUInt64).toInt64)) * (-49064778989728563 : Int64)) ^^^ ((((vh ^^^ ((vh.toUInt64 >>> ((33 : Int32) &&& 0x3f).toInt64.toUInt64).toInt64)) * (-49064778989728563 : Int64)).toUInt64 >>> ((33 : Int32) &&& 0x3f).toInt64.toUInt64).toInt64)) * (-4265267296055464877 : Int64)))])) t
                refine XS.lushr X1.here hx rfl (hb hby d9_75) rfl ?_
                show Steps p.tables e below (T1.setTop (mkF m 76 #[.val (.ref a0), .val (.long ((((vh ^^^ ((vh.toUInt64 >>> ((33 : Int32) &&& 0x3f).toInt64.toUInt64).toInt64)) * (-49064778989728563 : Int64)) ^^^ ((((vh ^^^ ((vh.toUInt64 >>> ((33 : Int32) &&& 0x3f).toInt64.toUInt64).toInt64)) * (-49064778989728563 : Int64)).toUInt64 >>> ((33 : Int32) &&& 0x3f).toInt64.toUInt64).toInt64)) * (-4265267296055464877 : Int64))), .second, .val (.ref b), .val (.int n), .val (.int (5 : Int32)), .val (.int (g 4))] [(.long ((((((vh ^^^ ((vh.toUInt64 >>> ((33 : Int32) &&& 0x3f).toInt64.toUInt64).toInt64)) * (-49064778989728563 : Int64)) ^^^ ((((vh ^^^ ((vh.toUInt64 >>> ((33 : Int32) &&& 0x3f).toInt64.toUInt64).toInt64)) * (-49064778989728563 : Int64)).toUInt64 >>> ((33 : Int32) &&& 0x3f).toInt64.toUInt64).toInt64)) * (-4265267296055464877 : Int64)).toUInt64 >>> ((33 : Int32) &&& 0x3f).toInt64.toUInt64).toInt64)), (.long ((((vh ^^^ ((vh.toUInt64 >>> ((33 : Int32) &&& 0x3f).toInt64.toUInt64).toInt64)) * (-49064778989728563 : Int64)) ^^^ ((((vh ^^^ ((vh.toUInt64 >>> ((33 : Int32) &&& 0x3f).toInt64.toUInt64).toInt64)) * (-49064778989728563 : Int64)).toUInt64 >>> ((33 : Int32) &&& 0x3f).toInt64.toUInt64).toInt64)) * (-4265267296055464877 : Int64)))])) t
                refine XS.lxor X1.here hx rfl (hb hby d9_76) rfl ?_
                exact kt
              obtain ⟨fs, hr, hrun, hended, hW, hsame⟩ := X1.leave (v := some (.long (((((vh ^^^ ((vh.toUInt64 >>> ((33 : Int32) &&& 0x3f).toInt64.toUInt64).toInt64)) * (-49064778989728563 : Int64)) ^^^ ((((vh ^^^ ((vh.toUInt64 >>> ((33 : Int32) &&& 0x3f).toInt64.toUInt64).toInt64)) * (-49064778989728563 : Int64)).toUInt64 >>> ((33 : Int32) &&& 0x3f).toInt64.toUInt64).toInt64)) * (-4265267296055464877 : Int64)) ^^^ ((((((vh ^^^ ((vh.toUInt64 >>> ((33 : Int32) &&& 0x3f).toInt64.toUInt64).toInt64)) * (-49064778989728563 : Int64)) ^^^ ((((vh ^^^ ((vh.toUInt64 >>> ((33 : Int32) &&& 0x3f).toInt64.toUInt64).toInt64)) * (-49064778989728563 : Int64)).toUInt64 >>> ((33 : Int32) &&& 0x3f).toInt64.toUInt64).toInt64)) * (-4265267296055464877 : Int64)).toUInt64 >>> ((33 : Int32) &&& 0x3f).toInt64.toUInt64).toInt64)))) (fun h => by rw [Bd.returns] at h; cases h)
              refine ⟨_, _, ?_, hrun, hended, _, _, rfl, ?_, ⟨_, rfl⟩, hW, hsame.mono (by decide) (by decide)⟩
              · exact own_retL X1 hx Bd.returns (hb hby d9_77) hr
              · show Q9 Z a0 b n g h0 n0 _ T1.heap _
                rw [e1]
                exact ⟨(by rw [own_hash, own_acc, if_pos hc20_3, if_pos hc20_5, if_pos hc20_7, if_pos hc20_9, if_pos hc20_11, if_neg hc20_13, h_vh]; rfl), N0, rfl⟩
          · refine own_by (A' := T1.setTop (mkF m 49 #[.val (.ref a0), .val (.long (((((((((-3750763034362895579 : Int64) ^^^ (((g 0) &&& (255 : Int32)).toInt64)) * (1099511628211 : Int64)) ^^^ (((g 1) &&& (255 : Int32)).toInt64)) * (1099511628211 : Int64)) ^^^ (((g 2) &&& (255 : Int32)).toInt64)) * (1099511628211 : Int64)) ^^^ (((g 3) &&& (255 : Int32)).toInt64)) * (1099511628211 : Int64))), .second, .val (.ref b), .val (.int n), .val (.int (4 : Int32)), .val (.int (g 3))] [])) (fun t kt => ?_) ?_
            · show Steps p.tables e below (T1.setTop (mkF m 20 #[.val (.ref a0), .val (.long (((((((((-3750763034362895579 : Int64) ^^^ (((g 0) &&& (255 : Int32)).toInt64)) * (1099511628211 : Int64)) ^^^ (((g 1) &&& (255 : Int32)).toInt64)) * (1099511628211 : Int64)) ^^^ (((g 2) &&& (255 : Int32)).toInt64)) * (1099511628211 : Int64)) ^^^ (((g 3) &&& (255 : Int32)).toInt64)) * (1099511628211 : Int64))), .second, .val (.ref b), .val (.int n), .val (.int (4 : Int32)), .val (.int (g 3))] [(.int n), (.int (4 : Int32))])) t
              refine XS.icmpYes X1.here hx rfl (pc0 := 20) (pc' := 49) rfl (hb hby d9_20) rfl (flt hc20_11).2.1 (by decide) (by decide) ?_
              exact kt
            generalize h_vh : (((((((((-3750763034362895579 : Int64) ^^^ (((g 0) &&& (255 : Int32)).toInt64)) * (1099511628211 : Int64)) ^^^ (((g 1) &&& (255 : Int32)).toInt64)) * (1099511628211 : Int64)) ^^^ (((g 2) &&& (255 : Int32)).toInt64)) * (1099511628211 : Int64)) ^^^ (((g 3) &&& (255 : Int32)).toInt64)) * (1099511628211 : Int64)) = vh
            refine own_by (A' := T1.setTop (mkF m 77 #[.val (.ref a0), .val (.long ((((vh ^^^ ((vh.toUInt64 >>> ((33 : Int32) &&& 0x3f).toInt64.toUInt64).toInt64)) * (-49064778989728563 : Int64)) ^^^ ((((vh ^^^ ((vh.toUInt64 >>> ((33 : Int32) &&& 0x3f).toInt64.toUInt64).toInt64)) * (-49064778989728563 : Int64)).toUInt64 >>> ((33 : Int32) &&& 0x3f).toInt64.toUInt64).toInt64)) * (-4265267296055464877 : Int64))), .second, .val (.ref b), .val (.int n), .val (.int (4 : Int32)), .val (.int (g 3))] [(.long (((((vh ^^^ ((vh.toUInt64 >>> ((33 : Int32) &&& 0x3f).toInt64.toUInt64).toInt64)) * (-49064778989728563 : Int64)) ^^^ ((((vh ^^^ ((vh.toUInt64 >>> ((33 : Int32) &&& 0x3f).toInt64.toUInt64).toInt64)) * (-49064778989728563 : Int64)).toUInt64 >>> ((33 : Int32) &&& 0x3f).toInt64.toUInt64).toInt64)) * (-4265267296055464877 : Int64)) ^^^ ((((((vh ^^^ ((vh.toUInt64 >>> ((33 : Int32) &&& 0x3f).toInt64.toUInt64).toInt64)) * (-49064778989728563 : Int64)) ^^^ ((((vh ^^^ ((vh.toUInt64 >>> ((33 : Int32) &&& 0x3f).toInt64.toUInt64).toInt64)) * (-49064778989728563 : Int64)).toUInt64 >>> ((33 : Int32) &&& 0x3f).toInt64.toUInt64).toInt64)) * (-4265267296055464877 : Int64)).toUInt64 >>> ((33 : Int32) &&& 0x3f).toInt64.toUInt64).toInt64)))])) (fun t kt => ?_) ?_
            · show Steps p.tables e below (T1.setTop (mkF m 49 #[.val (.ref a0), .val (.long vh), .second, .val (.ref b), .val (.int n), .val (.int (4 : Int32)), .val (.int (g 3))] [])) t
              refine XS.lloadN X1.here hx rfl (hb hby d9_49) rfl ?_
              show Steps p.tables e below (T1.setTop (mkF m 50 #[.val (.ref a0), .val (.long vh), .second, .val (.ref b), .val (.int n), .val (.int (4 : Int32)), .val (.int (g 3))] [(.long vh)])) t
              refine XS.lloadN X1.here hx rfl (hb hby d9_50) rfl ?_
              show Steps p.tables e below (T1.setTop (mkF m 51 #[.val (.ref a0), .val (.long vh), .second, .val (.ref b), .val (.int n), .val (.int (4 : Int32)), .val (.int (g 3))] [(.long vh), (.long vh)])) t
              refine XS.bipush X1.here hx rfl (hb hby d9_51) ?_
              show Steps p.tables e below (T1.setTop (mkF m 53 #[.val (.ref a0), .val (.long vh), .second, .val (.ref b), .val (.int n), .val (.int (4 : Int32)), .val (.int (g 3))] [(.int (33 : Int32)), (.long vh), (.long vh)])) t
              refine XS.lushr X1.here hx rfl (hb hby d9_53) rfl ?_
              show Steps p.tables e below (T1.setTop (mkF m 54 #[.val (.ref a0), .val (.long vh), .second, .val (.ref b), .val (.int n), .val (.int (4 : Int32)), .val (.int (g 3))] [(.long ((vh.toUInt64 >>> ((33 : Int32) &&& 0x3f).toInt64.toUInt64).toInt64)), (.long vh)])) t
              refine XS.lxor X1.here hx rfl (hb hby d9_54) rfl ?_
              show Steps p.tables e below (T1.setTop (mkF m 55 #[.val (.ref a0), .val (.long vh), .second, .val (.ref b), .val (.int n), .val (.int (4 : Int32)), .val (.int (g 3))] [(.long (vh ^^^ ((vh.toUInt64 >>> ((33 : Int32) &&& 0x3f).toInt64.toUInt64).toInt64)))])) t
              refine X1.ldc2Long hx hown (mvT hZ (hw _ (List.mem_of_getElem? (i := 44) rfl))) (g := (mkF m 55 #[.val (.ref a0), .val (.long vh), .second, .val (.ref b), .val (.int n), .val (.int (4 : Int32)), .val (.int (g 3))] [(.long (vh ^^^ ((vh.toUInt64 >>> ((33 : Int32) &&& 0x3f).toInt64.toUInt64).toInt64)))])) rfl (hb hby d9_55) _ ?_
              show Steps p.tables e below (T1.setTop (mkF m 58 #[.val (.ref a0), .val (.long vh), .second, .val (.ref b), .val (.int n), .val (.int (4 : Int32)), .val (.int (g 3))] [(.long (-49064778989728563 : Int64)), (.long (vh ^^^ ((vh.toUInt64 >>> ((33 : Int32) &&& 0x3f).toInt64.toUInt64).toInt64)))])) t
              refine XS.lmul X1.here hx rfl (hb hby d9_58) rfl ?_
              show Steps p.tables e below (T1.setTop (mkF m 59 #[.val (.ref a0), .val (.long vh), .second, .val (.ref b), .val (.int n), .val (.int (4 : Int32)), .val (.int (g 3))] [(.long ((vh ^^^ ((vh.toUInt64 >>> ((33 : Int32) &&& 0x3f).toInt64.toUInt64).toInt64)) * (-49064778989728563 : Int64)))])) t
              refine XS.lstoreN X1.here hx rfl (hb hby d9_59) rfl (l' := #[.val (.ref a0), .val (.long ((vh ^^^ ((vh.toUInt64 >>> ((33 : Int32) &&& 0x3f).toInt64.toUInt64).toInt64)) * (-49064778989728563 : Int64))), .second, .val (.ref b), .val (.int n), .val (.int (4 : Int32)), .val (.int (g 3))]) rfl ?_
              show Steps p.tables e below (T1.setTop (mkF m 60 #[.val (.ref a0), .val (.long ((vh ^^^ ((vh.toUInt64 >>> ((33 : Int32) &&& 0x3f).toInt64.toUInt64).toInt64)) * (-49064778989728563 : Int64))), .second, .val (.ref b), .val (.int n), .val (.int (4 : Int32)), .val (.int (g 3))] [])) t
              refine XS.lloadN X1.here hx rfl (hb hby d9_60) rfl ?_
              show Steps p.tables e below (T1.setTop (mkF m 61 #[.val (.ref a0), .val (.long ((vh ^^^ ((vh.toUInt64 >>> ((33 : Int32) &&& 0x3f).toInt64.toUInt64).toInt64)) * (-49064778989728563 : Int64))), .second, .val (.ref b), .val (.int n), .val (.int (4 : Int32)), .val (.int (g 3))] [(.long ((vh ^^^ ((vh.toUInt64 >>> ((33 : Int32) &&& 0x3f).toInt64.toUInt64).toInt64)) * (-49064778989728563 : Int64)))])) t
              refine XS.lloadN X1.here hx rfl (hb hby d9_61) rfl ?_
              show Steps p.tables e below (T1.setTop (mkF m 62 #[.val (.ref a0), .val (.long ((vh ^^^ ((vh.toUInt64 >>> ((33 : Int32) &&& 0x3f).toInt64.toUInt64).toInt64)) * (-49064778989728563 : Int64))), .second, .val (.ref b), .val (.int n), .val (.int (4 : Int32)), .val (.int (g 3))] [(.long ((vh ^^^ ((vh.toUInt64 >>> ((33 : Int32) &&& 0x3f).toInt64.toUInt64).toInt64)) * (-49064778989728563 : Int64))), (.long ((vh ^^^ ((vh.toUInt64 >>> ((33 : Int32) &&& 0x3f).toInt64.toUInt64).toInt64)) * (-49064778989728563 : Int64)))])) t
              refine XS.bipush X1.here hx rfl (hb hby d9_62) ?_
              show Steps p.tables e below (T1.setTop (mkF m 64 #[.val (.ref a0), .val (.long ((vh ^^^ ((vh.toUInt64 >>> ((33 : Int32) &&& 0x3f).toInt64.toUInt64).toInt64)) * (-49064778989728563 : Int64))), .second, .val (.ref b), .val (.int n), .val (.int (4 : Int32)), .val (.int (g 3))] [(.int (33 : Int32)), (.long ((vh ^^^ ((vh.toUInt64 >>> ((33 : Int32) &&& 0x3f).toInt64.toUInt64).toInt64)) * (-49064778989728563 : Int64))), (.long ((vh ^^^ ((vh.toUInt64 >>> ((33 : Int32) &&& 0x3f).toInt64.toUInt64).toInt64)) * (-49064778989728563 : Int64)))])) t
              refine XS.lushr X1.here hx rfl (hb hby d9_64) rfl ?_
              show Steps p.tables e below (T1.setTop (mkF m 65 #[.val (.ref a0), .val (.long ((vh ^^^ ((vh.toUInt64 >>> ((33 : Int32) &&& 0x3f).toInt64.toUInt64).toInt64)) * (-49064778989728563 : Int64))), .second, .val (.ref b), .val (.int n), .val (.int (4 : Int32)), .val (.int (g 3))] [(.long ((((vh ^^^ ((vh.toUInt64 >>> ((33 : Int32) &&& 0x3f).toInt64.toUInt64).toInt64)) * (-49064778989728563 : Int64)).toUInt64 >>> ((33 : Int32) &&& 0x3f).toInt64.toUInt64).toInt64)), (.long ((vh ^^^ ((vh.toUInt64 >>> ((33 : Int32) &&& 0x3f).toInt64.toUInt64).toInt64)) * (-49064778989728563 : Int64)))])) t
              refine XS.lxor X1.here hx rfl (hb hby d9_65) rfl ?_
              show Steps p.tables e below (T1.setTop (mkF m 66 #[.val (.ref a0), .val (.long ((vh ^^^ ((vh.toUInt64 >>> ((33 : Int32) &&& 0x3f).toInt64.toUInt64).toInt64)) * (-49064778989728563 : Int64))), .second, .val (.ref b), .val (.int n), .val (.int (4 : Int32)), .val (.int (g 3))] [(.long (((vh ^^^ ((vh.toUInt64 >>> ((33 : Int32) &&& 0x3f).toInt64.toUInt64).toInt64)) * (-49064778989728563 : Int64)) ^^^ ((((vh ^^^ ((vh.toUInt64 >>> ((33 : Int32) &&& 0x3f).toInt64.toUInt64).toInt64)) * (-49064778989728563 : Int64)).toUInt64 >>> ((33 : Int32) &&& 0x3f).toInt64.toUInt64).toInt64)))])) t
              refine X1.ldc2Long hx hown (mvT hZ (hw _ (List.mem_of_getElem? (i := 45) rfl))) (g := (mkF m 66 #[.val (.ref a0), .val (.long ((vh ^^^ ((vh.toUInt64 >>> ((33 : Int32) &&& 0x3f).toInt64.toUInt64).toInt64)) * (-49064778989728563 : Int64))), .second, .val (.ref b), .val (.int n), .val (.int (4 : Int32)), .val (.int (g 3))] [(.long (((vh ^^^ ((vh.toUInt64 >>> ((33 : Int32) &&& 0x3f).toInt64.toUInt64).toInt64)) * (-49064778989728563 : Int64)) ^^^ ((((vh ^^^ ((vh.toUInt64 >>> ((33 : Int32) &&& 0x3f).toInt64.toUInt64).toInt64)) * (-49064778989728563 : Int64)).toUInt64 >>> ((33 : Int32) &&& 0x3f).toInt64.toUInt64).toInt64)))])) rfl (hb hby d9_66) _ ?_
              show Steps p.tables e below (T1.setTop (mkF m 69 #[.val (.ref a0), .val (.long ((vh ^^^ ((vh.toUInt64 >>> ((33 : Int32) &&& 0x3f).toInt64.toUInt64).toInt64)) * (-49064778989728563 : Int64))), .second, .val (.ref b), .val (.int n), .val (.int (4 : Int32)), .val (.int (g 3))] [(.long (-4265267296055464877 : Int64)), (.long (((vh ^^^ ((vh.toUInt64 >>> ((33 : Int32) &&& 0x3f).toInt64.toUInt64).toInt64)) * (-49064778989728563 : Int64)) ^^^ ((((vh ^^^ ((vh.toUInt64 >>> ((33 : Int32) &&& 0x3f).toInt64.toUInt64).toInt64)) * (-49064778989728563 : Int64)).toUInt64 >>> ((33 : Int32) &&& 0x3f).toInt64.toUInt64).toInt64)))])) t
              refine XS.lmul X1.here hx rfl (hb hby d9_69) rfl ?_
              show Steps p.tables e below (T1.setTop (mkF m 70 #[.val (.ref a0), .val (.long ((vh ^^^ ((vh.toUInt64 >>> ((33 : Int32) &&& 0x3f).toInt64.toUInt64).toInt64)) * (-49064778989728563 : Int64))), .second, .val (.ref b), .val (.int n), .val (.int (4 : Int32)), .val (.int (g 3))] [(.long ((((vh ^^^ ((vh.toUInt64 >>> ((33 : Int32) &&& 0x3f).toInt64.toUInt64).toInt64)) * (-49064778989728563 : Int64)) ^^^ ((((vh ^^^ ((vh.toUInt64 >>> ((33 : Int32) &&& 0x3f).toInt64.toUInt64).toInt64)) * (-49064778989728563 : Int64)).toUInt64 >>> ((33 : Int32) &&& 0x3f).toInt64.toUInt64).toInt64)) * (-4265267296055464877 : Int64)))])) t
              refine XS.lstoreN X1.here hx rfl (hb hby d9_70) rfl (l' := #[.val (.ref a0), .val (.long ((((vh ^^^ ((vh.toUInt64 >>> ((33 : Int32) &&& 0x3f).toInt64.toUInt64).toInt64)) * (-49064778989728563 : Int64)) ^^^ ((((vh ^^^ ((vh.toUInt64 >>> ((33 : Int32) &&& 0x3f).toInt64.toUInt64).toInt64)) * (-49064778989728563 : Int64)).toUInt64 >>> ((33 : Int32) &&& 0x3f).toInt64.toUInt64).toInt64)) * (-4265267296055464877 : Int64))), .second, .val (.ref b), .val (.int n), .val (.int (4 : Int32)), .val (.int (g 3))]) rfl ?_
              show Steps p.tables e below (T1.setTop (mkF m 71 #[.val (.ref a0), .val (.long ((((vh ^^^ ((vh.toUInt64 >>> ((33 : Int32) &&& 0x3f).toInt64.toUInt64).toInt64)) * (-49064778989728563 : Int64)) ^^^ ((((vh ^^^ ((vh.toUInt64 >>> ((33 : Int32) &&& 0x3f).toInt64.toUInt64).toInt64)) * (-49064778989728563 : Int64)).toUInt64 >>> ((33 : Int32) &&& 0x3f).toInt64.toUInt64).toInt64)) * (-4265267296055464877 : Int64))), .second, .val (.ref b), .val (.int n), .val (.int (4 : Int32)), .val (.int (g 3))] [])) t
              refine XS.lloadN X1.here hx rfl (hb hby d9_71) rfl ?_
              show Steps p.tables e below (T1.setTop (mkF m 72 #[.val (.ref a0), .val (.long ((((vh ^^^ ((vh.toUInt64 >>> ((33 : Int32) &&& 0x3f).toInt64.toUInt64).toInt64)) * (-49064778989728563 : Int64)) ^^^ ((((vh ^^^ ((vh.toUInt64 >>> ((33 : Int32) &&& 0x3f).toInt64.toUInt64).toInt64)) * (-49064778989728563 : Int64)).toUInt64 >>> ((33 : Int32) &&& 0x3f).toInt64.toUInt64).toInt64)) * (-4265267296055464877 : Int64))), .second, .val (.ref b), .val (.int n), .val (.int (4 : Int32)), .val (.int (g 3))] [(.long ((((vh ^^^ ((vh.toUInt64 >>> ((33 : Int32) &&& 0x3f).toInt64.toUInt64).toInt64)) * (-49064778989728563 : Int64)) ^^^ ((((vh ^^^ ((vh.toUInt64 >>> ((33 : Int32) &&& 0x3f).toInt64.toUInt64).toInt64)) * (-49064778989728563 : Int64)).toUInt64 >>> ((33 : Int32) &&& 0x3f).toInt64.toUInt64).toInt64)) * (-4265267296055464877 : Int64)))])) t
              refine XS.lloadN X1.here hx rfl (hb hby d9_72) rfl ?_
              show Steps p.tables e below (T1.setTop (mkF m 73 #[.val (.ref a0), .val (.long ((((vh ^^^ ((vh.toUInt64 >>> ((33 : Int32) &&& 0x3f).toInt64.toUInt64).toInt64)) * (-49064778989728563 : Int64)) ^^^ ((((vh ^^^ ((vh.toUInt64 >>> ((33 : Int32) &&& 0x3f).toInt64.toUInt64).toInt64)) * (-49064778989728563 : Int64)).toUInt64 >>> ((33 : Int32) &&& 0x3f).toInt64.toUInt64).toInt64)) * (-4265267296055464877 : Int64))), .second, .val (.ref b), .val (.int n), .val (.int (4 : Int32)), .val (.int (g 3))] [(.long ((((vh ^^^ ((vh.toUInt64 >>> ((33 : Int32) &&& 0x3f).toInt64.toUInt64).toInt64)) * (-49064778989728563 : Int64)) ^^^ ((((vh ^^^ ((vh.toUInt64 >>> ((33 : Int32) &&& 0x3f).toInt64.toUInt64).toInt64)) * (-49064778989728563 : Int64)).toUInt64 >>> ((33 : Int32) &&& 0x3f).toInt64.toUInt64).toInt64)) * (-4265267296055464877 : Int64))), (.long ((((vh ^^^ ((vh.toUInt64 >>> ((33 : Int32) &&& 0x3f).toInt64.toUInt64).toInt64)) * (-49064778989728563 : Int64)) ^^^ ((((vh ^^^ ((vh.toUInt64 >>> ((33 : Int32) &&& 0x3f).toInt64.toUInt64).toInt64)) * (-49064778989728563 : Int64)).toUInt64 >>> ((33 : Int32) &&& 0x3f).toInt64.toUInt64).toInt64)) * (-4265267296055464877 : Int64)))])) t
              refine XS.bipush X1.here hx rfl (hb hby d9_73) ?_
              show Steps p.tables e below (T1.setTop (mkF m 75 #[.val (.ref a0), .val (.long ((((vh ^^^ ((vh.toUInt64 >>> ((33 : Int32) &&& 0x3f).toInt64.toUInt64).toInt64)) * (-49064778989728563 : Int64)) ^^^ ((((vh ^^^ ((vh.toUInt64 >>> ((33 : Int32) &&& 0x3f).toInt64.toUInt64).toInt64)) * (-49064778989728563 : Int64)).toUInt64 >>> ((33 : Int32) &&& 0x3f).toInt64.toUInt64).toInt64)) * (-4265267296055464877 : Int64))), .second, .val (.ref b), .val (.int n), .val (.int (4 : Int32)), .val (.int (g 3))] [(.int (33 : Int32)), (.long ((((vh ^^^ ((vh.toUInt64 >>> ((33 : Int32) &&& 0x3f).toInt64.toUInt64).toInt64)) * (-49064778989728563 : Int64)) ^^^ ((((vh ^^^ ((vh.toUInt64 >>> ((33 : Int32) &&& 0x3f).toInt64.toUInt64).toInt64)) * (-49064778989728563 : Int64)).toUInt64 >>> ((33 : Int32) &&& 0x3f).toInt64.toUInt64).toInt64)) * (-4265267296055464877 : Int64))), (.long ((((vh ^^^ ((vh.toUInt64 >>> ((33 : Int32) &&& 0x3f).toInt64.toUInt64).toInt64)) * (-49064778989728563 : Int64)) ^^^ ((((vh ^^^ ((vh.toUInt64 >>> ((33 : Int32) &&& 0x3f).toInt64.toUInt64).toInt64)) * (-49064778989728563 : Int64)).toUInt64 >>> ((33 : Int32) &&& 0x3f).toInt64.toUInt64).toInt64)) * (-4265267296055464877 : Int64)))])) t
              refine XS.lushr X1.here hx rfl (hb hby d9_75) rfl ?_
              show Steps p.tables e below (T1.setTop (mkF m 76 #[.val (.ref a0), .val (.long ((((vh ^^^ ((vh.toUInt64 >>> ((33 : Int32) &&& 0x3f).toInt64.toUInt64).toInt64)) * (-49064778989728563 : Int64)) ^^^ ((((vh ^^^ ((vh.toUInt64 >>> ((33 : Int32) &&& 0x3f).toInt64.toUInt64).toInt64)) * (-49064778989728563 : Int64)).toUInt64 >>> ((33 : Int32) &&& 0x3f).toInt64.toUInt64).toInt64)) * (-4265267296055464877 : Int64))), .second, .val (.ref b), .val (.int n), .val (.int (4 : Int32)), .val (.int (g 3))] [(.long ((((((vh ^^^ ((vh.toUInt64 >>> ((33 : Int32) &&& 0x3f).toInt64.toUInt64).toInt64)) * (-49064778989728563 : Int64)) ^^^ ((((vh ^^^ ((vh.toUInt64 >>> ((33 : Int32) &&& 0x3f).toInt64.toUInt64).toInt64)) * (-49064778989728563 : Int64)).toUInt64 >>> ((33 : Int32) &&& 0x3f).toInt64.toUInt64).toInt64)) * (-4265267296055464877 : Int64)).toUInt64 >>> ((33 : Int32) &&& 0x3f).toInt64.toUInt64).toInt64)), (.long ((((vh ^^^ ((vh.toUInt64 >>> ((33 : Int32) &&& 0x3f).toInt64.toUInt64).toInt64)) * (-49064778989728563 : Int64)) ^^^ ((((vh ^^^ ((vh.toUInt64 >>> ((33 : Int32) &&& 0x3f).toInt64.toUInt64).toInt64)) * (-49064778989728563 : Int64)).toUInt64 >>> ((33 : Int32) &&& 0x3f).toInt64.toUInt64).toInt64)) * (-4265267296055464877 : Int64)))])) t
              refine XS.lxor X1.here hx rfl (hb hby d9_76) rfl ?_
              exact kt
            obtain ⟨fs, hr, hrun, hended, hW, hsame⟩ := X1.leave (v := some (.long (((((vh ^^^ ((vh.toUInt64 >>> ((33 : Int32) &&& 0x3f).toInt64.toUInt64).toInt64)) * (-49064778989728563 : Int64)) ^^^ ((((vh ^^^ ((vh.toUInt64 >>> ((33 : Int32) &&& 0x3f).toInt64.toUInt64).toInt64)) * (-49064778989728563 : Int64)).toUInt64 >>> ((33 : Int32) &&& 0x3f).toInt64.toUInt64).toInt64)) * (-4265267296055464877 : Int64)) ^^^ ((((((vh ^^^ ((vh.toUInt64 >>> ((33 : Int32) &&& 0x3f).toInt64.toUInt64).toInt64)) * (-49064778989728563 : Int64)) ^^^ ((((vh ^^^ ((vh.toUInt64 >>> ((33 : Int32) &&& 0x3f).toInt64.toUInt64).toInt64)) * (-49064778989728563 : Int64)).toUInt64 >>> ((33 : Int32) &&& 0x3f).toInt64.toUInt64).toInt64)) * (-4265267296055464877 : Int64)).toUInt64 >>> ((33 : Int32) &&& 0x3f).toInt64.toUInt64).toInt64)))) (fun h => by rw [Bd.returns] at h; cases h)
            refine ⟨_, _, ?_, hrun, hended, _, _, rfl, ?_, ⟨_, rfl⟩, hW, hsame.mono (by decide) (by decide)⟩
            · exact own_retL X1 hx Bd.returns (hb hby d9_77) hr
            · show Q9 Z a0 b n g h0 n0 _ T1.heap _
              rw [e1]
              exact ⟨(by rw [own_hash, own_acc, if_pos hc20_3, if_pos hc20_5, if_pos hc20_7, if_pos hc20_9, if_neg hc20_11, h_vh]; rfl), N0, rfl⟩
        · refine own_by (A' := T1.setTop (mkF m 49 #[.val (.ref a0), .val (.long (((((((-3750763034362895579 : Int64) ^^^ (((g 0) &&& (255 : Int32)).toInt64)) * (1099511628211 : Int64)) ^^^ (((g 1) &&& (255 : Int32)).toInt64)) * (1099511628211 : Int64)) ^^^ (((g 2) &&& (255 : Int32)).toInt64)) * (1099511628211 : Int64))), .second, .val (.ref b), .val (.int n), .val (.int (3 : Int32)), .val (.int (g 2))] [])) (fun t kt => ?_) ?_
          · show Steps p.tables e below (T1.setTop (mkF m 20 #[.val (.ref a0), .val (.long (((((((-3750763034362895579 : Int64) ^^^ (((g 0) &&& (255 : Int32)).toInt64)) * (1099511628211 : Int64)) ^^^ (((g 1) &&& (255 : Int32)).toInt64)) * (1099511628211 : Int64)) ^^^ (((g 2) &&& (255 : Int32)).toInt64)) * (1099511628211 : Int64))), .second, .val (.ref b), .val (.int n), .val (.int (3 : Int32)), .val (.int (g 2))] [(.int n), (.int (3 : Int32))])) t
            refine XS.icmpYes X1.here hx rfl (pc0 := 20) (pc' := 49) rfl (hb hby d9_20) rfl (flt hc20_9).2.1 (by decide) (by decide) ?_
            exact kt
          generalize h_vh : (((((((-3750763034362895579 : Int64) ^^^ (((g 0) &&& (255 : Int32)).toInt64)) * (1099511628211 : Int64)) ^^^ (((g 1) &&& (255 : Int32)).toInt64)) * (1099511628211 : Int64)) ^^^ (((g 2) &&& (255 : Int32)).toInt64)) * (1099511628211 : Int64)) = vh
          refine own_by (A' := T1.setTop (mkF m 77 #[.val (.ref a0), .val (.long ((((vh ^^^ ((vh.toUInt64 >>> ((33 : Int32) &&& 0x3f).toInt64.toUInt64).toInt64)) * (-49064778989728563 : Int64)) ^^^ ((((vh ^^^ ((vh.toUInt64 >>> ((33 : Int32) &&& 0x3f).toInt64.toUInt64).toInt64)) * (-49064778989728563 : Int64)).toUInt64 >>> ((33 : Int32) &&& 0x3f).toInt64.toUInt64).toInt64)) * (-4265267296055464877 : Int64))), .second, .val (.ref b), .val (.int n), .val (.int (3 : Int32)), .val (.int (g 2))] [(.long (((((vh ^^^ ((vh.toUInt64 >>> ((33 : Int32) &&& 0x3f).toInt64.toUInt64).toInt64)) * (-49064778989728563 : Int64)) ^^^ ((((vh ^^^ ((vh.toUInt64 >>> ((33 : Int32) &&& 0x3f).toInt64.toUInt64).toInt64)) * (-49064778989728563 : Int64)).toUInt64 >>> ((33 : Int32) &&& 0x3f).toInt64.toUInt64).toInt64)) * (-4265267296055464877 : Int64)) ^^^ ((((((vh ^^^ ((vh.toUInt64 >>> ((33 : Int32) &&& 0x3f).toInt64.toUInt64).toInt64)) * (-49064778989728563 : Int64)) ^^^ ((((vh ^^^ ((vh.toUInt64 >>> ((33 : Int32) &&& 0x3f).toInt64.toUInt64).toInt64)) * (-49064778989728563 : Int64)).toUInt64 >>> ((33 : Int32) &&& 0x3f).toInt64.toUInt64).toInt64)) * (-4265267296055464877 : Int64)).toUInt64 >>> ((33 : Int32) &&& 0x3f).toInt64.toUInt64).toInt64)))])) (fun t kt => ?_) ?_
          · show Steps p.tables e below (T1.setTop (mkF m 49 #[.val (.ref a0), .val (.long vh), .second, .val (.ref b), .val (.int n), .val (.int (3 : Int32)), .val (.int (g 2))] [])) t
            refine XS.lloadN X1.here hx rfl (hb hby d9_49) rfl ?_
            show Steps p.tables e below (T1.setTop (mkF m 50 #[.val (.ref a0), .val (.long vh), .second, .val (.ref b), .val (.int n), .val (.int (3 : Int32)), .val (.int (g 2))] [(.long vh)])) t
            refine XS.lloadN X1.here hx rfl (hb hby d9_50) rfl ?_
            show Steps p.tables e below (T1.setTop (mkF m 51 #[.val (.ref a0), .val (.long vh), .second, .val (.ref b), .val (.int n), .val (.int (3 : Int32)), .val (.int (g 2))] [(.long vh), (.long vh)])) t
            refine XS.bipush X1.here hx rfl (hb hby d9_51) ?_
            show Steps p.tables e below (T1.setTop (mkF m 53 #[.val (.ref a0), .val (.long vh), .second, .val (.ref b), .val (.int n), .val (.int (3 : Int32)), .val (.int (g 2))] [(.int (33 : Int32)), (.long vh), (.long vh)])) t
            refine XS.lushr X1.here hx rfl (hb hby d9_53) rfl ?_
            show Steps p.tables e below (T1.setTop (mkF m 54 #[.val (.ref a0), .val (.long vh), .second, .val (.ref b), .val (.int n), .val (.int (3 : Int32)), .val (.int (g 2))] [(.long ((vh.toUInt64 >>> ((33 : Int32) &&& 0x3f).toInt64.toUInt64).toInt64)), (.long vh)])) t
            refine XS.lxor X1.here hx rfl (hb hby d9_54) rfl ?_
            show Steps p.tables e below (T1.setTop (mkF m 55 #[.val (.ref a0), .val (.long vh), .second, .val (.ref b), .val (.int n), .val (.int (3 : Int32)), .val (.int (g 2))] [(.long (vh ^^^ ((vh.toUInt64 >>> ((33 : Int32) &&& 0x3f).toInt64.toUInt64).toInt64)))])) t
            refine X1.ldc2Long hx hown (mvT hZ (hw _ (List.mem_of_getElem? (i := 44) rfl))) (g := (mkF m 55 #[.val (.ref a0), .val (.long vh), .second, .val (.ref b), .val (.int n), .val (.int (3 : Int32)), .val (.int (g 2))] [(.long (vh ^^^ ((vh.toUInt64 >>> ((33 : Int32) &&& 0x3f).toInt64.toUInt64).toInt64)))])) rfl (hb hby d9_55) _ ?_
            show Steps p.tables e below (T1.setTop (mkF m 58 #[.val (.ref a0), .val (.long vh), .second, .val (.ref b), .val (.int n), .val (.int (3 : Int32)), .val (.int (g 2))] [(.long (-49064778989728563 : Int64)), (.long (vh ^^^ ((vh.toUInt64 >>> ((33 : Int32) &&& 0x3f).toInt64.toUInt64).toInt64)))])) t
            refine XS.lmul X1.here hx rfl (hb hby d9_58) rfl ?_
            show Steps p.tables e below (T1.setTop (mkF m 59 #[.val (.ref a0), .val (.long vh), .second, .val (.ref b), .val (.int n), .val (.int (3 : Int32)), .val (.int (g 2))] [(.long ((vh ^^^ ((vh.toUInt64 >>> ((33 : Int32) &&& 0x3f).toInt64.toUInt64).toInt64)) * (-49064778989728563 : Int64)))])) t
            refine XS.lstoreN X1.here hx rfl (hb hby d9_59) rfl (l' := #[.val (.ref a0), .val (.long ((vh ^^^ ((vh.toUInt64 >>> ((33 : Int32) &&& 0x3f).toInt64.toUInt64).toInt64)) * (-49064778989728563 : Int64))), .second, .val (.ref b), .val (.int n), .val (.int (3 : Int32)), .val (.int (g 2))]) rfl ?_
            show Steps p.tables e below (T1.setTop (mkF m 60 #[.val (.ref a0), .val (.long ((vh ^^^ ((vh.toUInt64 >>> ((33 : Int32) &&& 0x3f).toInt64.toUInt64).toInt64)) * (-49064778989728563 : Int64))), .second, .val (.ref b), .val (.int n), .val (.int (3 : Int32)), .val (.int (g 2))] [])) t
            refine XS.lloadN X1.here hx rfl (hb hby d9_60) rfl ?_
            show Steps p.tables e below (T1.setTop (mkF m 61 #[.val (.ref a0), .val (.long ((vh ^^^ ((vh.toUInt64 >>> ((33 : Int32) &&& 0x3f).toInt64.toUInt64).toInt64)) * (-49064778989728563 : Int64))), .second, .val (.ref b), .val (.int n), .val (.int (3 : Int32)), .val (.int (g 2))] [(.long ((vh ^^^ ((vh.toUInt64 >>> ((33 : Int32) &&& 0x3f).toInt64.toUInt64).toInt64)) * (-49064778989728563 : Int64)))])) t
            refine XS.lloadN X1.here hx rfl (hb hby d9_61) rfl ?_
            show Steps p.tables e below (T1.setTop (mkF m 62 #[.val (.ref a0), .val (.long ((vh ^^^ ((vh.toUInt64 >>> ((33 : Int32) &&& 0x3f).toInt64.toUInt64).toInt64)) * (-49064778989728563 : Int64))), .second, .val (.ref b), .val (.int n), .val (.int (3 : Int32)), .val (.int (g 2))] [(.long ((vh ^^^ ((vh.toUInt64 >>> ((33 : Int32) &&& 0x3f).toInt64.toUInt64).toInt64)) * (-49064778989728563 : Int64))), (.long ((vh ^^^ ((vh.toUInt64 >>> ((33 : Int32) &&& 0x3f).toInt64.toUInt64).toInt64)) * (-49064778989728563 : Int64)))])) t
            refine XS.bipush X1.here hx rfl (hb hby d9_62) ?_
            show Steps p.tables e below (T1.setTop (mkF m 64 #[.val (.ref a0), .val (.long ((vh ^^^ ((vh.toUInt64 >>> ((33 : Int32) &&& 0x3f).toInt64.toUInt64).toInt64)) * (-49064778989728563 : Int64))), .second, .val (.ref b), .val (.int n), .val (.int (3 : Int32)), .val (.int (g 2))] [(.int (33 : Int32)), (.long ((vh ^^^ ((vh.toUInt64 >>> ((33 : Int32) &&& 0x3f).toInt64.toUInt64).toInt64)) * (-49064778989728563 : Int64))), (.long ((vh ^^^ ((vh.toUInt64 >>> ((33 : Int32) &&& 0x3f).toInt64.toUInt64).toInt64)) * (-49064778989728563 : Int64)))])) t
            refine XS.lushr X1.here hx rfl (hb hby d9_64) rfl ?_
            show Steps p.tables e below (T1.setTop (mkF m 65 #[.val (.ref a0), .val (.long ((vh ^^^ ((vh.toUInt64 >>> ((33 : Int32) &&& 0x3f).toInt64.toUInt64).toInt64)) * (-49064778989728563 : Int64))), .second, .val (.ref b), .val (.int n), .val (.int (3 : Int32)), .val (.int (g 2))] [(.long ((((vh ^^^ ((vh.toUInt64 >>> ((33 : Int32) &&& 0x3f).toInt64.toUInt64).toInt64)) * (-49064778989728563 : Int64)).toUInt64 >>> ((33 : Int32) &&& 0x3f).toInt64.toUInt64).toInt64)), (.long ((vh ^^^ ((vh.toUInt64 >>> ((33 : Int32) &&& 0x3f).toInt64.toUInt64).toInt64)) * (-49064778989728563 : Int64)))])) t
            refine XS.lxor X1.here hx rfl (hb hby d9_65) rfl ?_
            show Steps p.tables e below (T1.setTop (mkF m 66 #[.val (.ref a0), .val (.long ((vh ^^^ ((vh.toUInt64 >>> ((33 : Int32) &&& 0x3f).toInt64.toUInt64).toInt64)) * (-49064778989728563 : Int64))), .second, .val (.ref b), .val (.int n), .val (.int (3 : Int32)), .val (.int (g 2))] [(.long (((vh ^^^ ((vh.toUInt64 >>> ((33 : Int32) &&& 0x3f).toInt64.toUInt64).toInt64)) * (-49064778989728563 : Int64)) ^^^ ((((vh ^^^ ((vh.toUInt64 >>> ((33 : Int32) &&& 0x3f).toInt64.toUInt64).toInt64)) * (-49064778989728563 : Int64)).toUInt64 >>> ((33 : Int32) &&& 0x3f).toInt64.toUInt64).toInt64)))])) t
            refine X1.ldc2Long hx hown (mvT hZ (hw _ (List.mem_of_getElem? (i := 45) rfl))) (g := (mkF m 66 #[.val (.ref a0), .val (.long ((vh ^^^ ((vh.toUInt64 >>> ((33 : Int32) &&& 0x3f).toInt64.toUInt64).toInt64)) * (-49064778989728563 : Int64))), .second, .val (.ref b), .val (.int n), .val (.int (3 : Int32)), .val (.int (g 2))] [(.long (((vh ^^^ ((vh.toUInt64 >>> ((33 : Int32) &&& 0x3f).toInt64.toUInt64).toInt64)) * (-49064778989728563 : Int64)) ^^^ ((((vh ^^^ ((vh.toUInt64 >>> ((33 : Int32) &&& 0x3f).toInt64.toUInt64).toInt64)) * (-49064778989728563 : Int64)).toUInt64 >>> ((33 : Int32) &&& 0x3f).toInt64.toUInt64).toInt64)))])) rfl (hb hby d9_66) _ ?_
            show Steps p.tables e below (T1.setTop (mkF m 69 #[.val (.ref a0), .val (.long ((vh ^^^ ((vh.toUInt64 >>> ((33 : Int32) &&& 0x3f).toInt64.toUInt64).toInt64)) * (-49064778989728563 : Int64))), .second, .val (.ref b), .val (.int n), .val (.int (3 : Int32)), .val (.int (g 2))] [(.long (-4265267296055464877 : Int64)), (.long (((vh ^^^ ((vh.toUInt64 >>> ((33 : Int32) &&& 0x3f).toInt64.toUInt64).toInt64)) * (-49064778989728563 : Int64)) ^^^ ((((vh ^^^ ((vh.toUInt64 >>> ((33 : Int32) &&& 0x3f).toInt64.toUInt64).toInt64)) * (-49064778989728563 : Int64)).toUInt64 >>> ((33 : Int32) &&& 0x3f).toInt64.toUInt64).toInt64)))])) t
            refine XS.lmul X1.here hx rfl (hb hby d9_69) rfl ?_
            show Steps p.tables e below (T1.setTop (mkF m 70 #[.val (.ref a0), .val (.long ((vh ^^^ ((vh.toUInt64 >>> ((33 : Int32) &&& 0x3f).toInt64.toUInt64).toInt64)) * (-49064778989728563 : Int64))), .second, .val (.ref b), .val (.int n), .val (.int (3 : Int32)), .val (.int (g 2))] [(.long ((((vh ^^^ ((vh.toUInt64 >>> ((33 : Int32) &&& 0x3f).toInt64.toUInt64).toInt64)) * (-49064778989728563 : Int64)) ^^^ ((((vh ^^^ ((vh.toUInt64 >>> ((33 : Int32) &&& 0x3f).toInt64.toUInt64).toInt64)) * (-49064778989728563 : Int64)).toUInt64 >>> ((33 : Int32) &&& 0x3f).toInt64.toUInt64).toInt64)) * (-4265267296055464877 : Int64)))])) t
            refine XS.lstoreN X1.here hx rfl (hb hby d9_70) rfl (l' := #[.val (.ref a0), .val (.long ((((vh ^^^ ((vh.toUInt64 >>> ((33 : Int32) &&& 0x3f).toInt64.toUInt64).toInt64)) * (-49064778989728563 : Int64)) ^^^ ((((vh ^^^ ((vh.toUInt64 >>> ((33 : Int32) &&& 0x3f).toInt64.toUInt64).toInt64)) * (-49064778989728563 : Int64)).toUInt64 >>> ((33 : Int32) &&& 0x3f).toInt64.toUInt64).toInt64)) * (-4265267296055464877 : Int64))), .second, .val (.ref b), .val (.int n), .val (.int (3 : Int32)), .val (.int (g 2))]) rfl ?_
            show Steps p.tables e below (T1.setTop (mkF m 71 #[.val (.ref a0), .val (.long ((((vh ^^^ ((vh.toUInt64 >>> ((33 : Int32) &&& 0x3f).toInt64.toUInt64).toInt64)) * (-49064778989728563 : Int64)) ^^^ ((((vh ^^^ ((vh.toUInt64 >>> ((33 : Int32) &&& 0x3f).toInt64.toUInt64).toInt64)) * (-49064778989728563 : Int64)).toUInt64 >>> ((33 : Int32) &&& 0x3f).toInt64.toUInt64).toInt64)) * (-4265267296055464877 : Int64))), .second, .val (.ref b), .val (.int n), .val (.int (3 : Int32)), .val (.int (g 2))] [])) t
            refine XS.lloadN X1.here hx rfl (hb hby d9_71) rfl ?_
            show Steps p.tables e below (T1.setTop (mkF m 72 #[.val (.ref a0), .val (.long ((((vh ^^^ ((vh.toUInt64 >>> ((33 : Int32) &&& 0x3f).toInt64.toUInt64).toInt64)) * (-49064778989728563 : Int64)) ^^^ ((((vh ^^^ ((vh.toUInt64 >>> ((33 : Int32) &&& 0x3f).toInt64.toUInt64).toInt64)) * (-49064778989728563 : Int64)).toUInt64 >>> ((33 : Int32) &&& 0x3f).toInt64.toUInt64).toInt64)) * (-4265267296055464877 : Int64))), .second, .val (.ref b), .val (.int n), .val (.int (3 : Int32)), .val (.int (g 2))] [(.long ((((vh ^^^ ((vh.toUInt64 >>> ((33 : Int32) &&& 0x3f).toInt64.toUInt64).toInt64)) * (-49064778989728563 : Int64)) ^^^ ((((vh ^^^ ((vh.toUInt64 >>> ((33 : Int32) &&& 0x3f).toInt64.toUInt64).toInt64)) * (-49064778989728563 : Int64)).toUInt64 >>> ((33 : Int32) &&& 0x3f).toInt64.toUInt64).toInt64)) * (-4265267296055464877 : Int64)))])) t
            refine XS.lloadN X1.here hx rfl (hb hby d9_72) rfl ?_
            show Steps p.tables e below (T1.setTop (mkF m 73 #[.val (.ref a0), .val (.long ((((vh ^^^ ((vh.toUInt64 >>> ((33 : Int32) &&& 0x3f).toInt64.toUInt64).toInt64)) * (-49064778989728563 : Int64)) ^^^ ((((vh ^^^ ((vh.toUInt64 >>> ((33 : Int32) &&& 0x3f).toInt64.toUInt64).toInt64)) * (-49064778989728563 : Int64)).toUInt64 >>> ((33 : Int32) &&& 0x3f).toInt64.toUInt64).toInt64)) * (-4265267296055464877 : Int64))), .second, .val (.ref b), .val (.int n), .val (.int (3 : Int32)), .val (.int (g 2))] [(.long ((((vh ^^^ ((vh.toUInt64 >>> ((33 : Int32) &&& 0x3f).toInt64.toUInt64).toInt64)) * (-49064778989728563 : Int64)) ^^^ ((((vh ^^^ ((vh.toUInt64 >>> ((33 : Int32) &&& 0x3f).toInt64.toUInt64).toInt64)) * (-49064778989728563 : Int64)).toUInt64 >>> ((33 : Int32) &&& 0x3f).toInt64.toUInt64).toInt64)) * (-4265267296055464877 : Int64))), (.long ((((vh ^^^ ((vh.toUInt64 >>> ((33 : Int32) &&& 0x3f).toInt64.toUInt64).toInt64)) * (-49064778989728563 : Int64)) ^^^ ((((vh ^^^ ((vh.toUInt64 >>> ((33 : Int32) &&& 0x3f).toInt64.toUInt64).toInt64)) * (-49064778989728563 : Int64)).toUInt64 >>> ((33 : Int32) &&& 0x3f).toInt64.toUInt64).toInt64)) * (-4265267296055464877 : Int64)))])) t
            refine XS.bipush X1.here hx rfl (hb hby d9_73) ?_
            show Steps p.tables e below (T1.setTop (mkF m 75 #[.val (.ref a0), .val (.long ((((vh ^^^ ((vh.toUInt64 >>> ((33 : Int32) &&& 0x3f).toInt64.toUInt64).toInt64)) * (-49064778989728563 : Int64)) ^^^ ((((vh ^^^ ((vh.toUInt64 >>> ((33 : Int32) &&& 0x3f).toInt64.toUInt64).toInt64)) * (-49064778989728563 : Int64)).toUInt64 >>> ((33 : Int32) &&& 0x3f).toInt64.toUInt64).toInt64)) * (-4265267296055464877 : Int64))), .second, .val (.ref b), .val (.int n), .val (.int (3 : Int32)), .val (.int (g 2))] [(.int (33 : Int32)), (.long ((((vh ^^^ ((vh.toUInt64 >>> ((33 : Int32) &&& 0x3f).toInt64.toUInt64).toInt64)) * (-49064778989728563 : Int64)) ^^^ ((((vh ^^^ ((vh.toUInt64 >>> ((33 : Int32) &&& 0x3f).toInt64.toUInt64).toInt64)) * (-49064778989728563 : Int64)).toUInt64 >>> ((33 : Int32) &&& 0x3f).toInt64.toUInt64).toInt64)) * (-4265267296055464877 : Int64))), (.long ((((vh ^^^ ((vh.toUInt64 >>> ((33 : Int32) &&& 0x3f).toInt64.toUInt64).toInt64)) * (-49064778989728563 : Int64)) ^^^ ((((vh ^^^ ((vh.toUInt64 >>> ((33 : Int32) &&& 0x3f).toInt64.toUInt64).toInt64)) * (-49064778989728563 : Int64)).toUInt64 >>> ((33 : Int32) &&& 0x3f).toInt64.toUInt64).toInt64)) * (-4265267296055464877 : Int64)))])) t
            refine XS.lushr X1.here hx rfl (hb hby d9_75) rfl ?_
            show Steps p.tables e below (T1.setTop (mkF m 76 #[.val (.ref a0), .val (.long ((((vh ^^^ ((vh.toUInt64 >>> ((33 : Int32) &&& 0x3f).toInt64.toUInt64).toInt64)) * (-49064778989728563 : Int64)) ^^^ ((((vh ^^^ ((vh.toUInt64 >>> ((33 : Int32) &&& 0x3f).toInt64.toUInt64).toInt64)) * (-49064778989728563 : Int64)).toUInt64 >>> ((33 : Int32) &&& 0x3f).toInt64.toUInt64).toInt64)) * (-4265267296055464877 : Int64))), .second, .val (.ref b), .val (.int n), .val (.int (3 : Int32)), .val (.int (g 2))] [(.long ((((((vh ^^^ ((vh.toUInt64 >>> ((33 : Int32) &&& 0x3f).toInt64.toUInt64).toInt64)) * (-49064778989728563 : Int64)) ^^^ ((((vh ^^^ ((vh.toUInt64 >>> ((33 : Int32) &&& 0x3f).toInt64.toUInt64).toInt64)) * (-49064778989728563 : Int64)).toUInt64 >>> ((33 : Int32) &&& 0x3f).toInt64.toUInt64).toInt64)) * (-4265267296055464877 : Int64)).toUInt64 >>> ((33 : Int32) &&& 0x3f).toInt64.toUInt64).toInt64)), (.long ((((vh ^^^ ((vh.toUInt64 >>> ((33 : Int32) &&& 0x3f).toInt64.toUInt64).toInt64)) * (-49064778989728563 : Int64)) ^^^ ((((vh ^^^ ((vh.toUInt64 >>> ((33 : Int32) &&& 0x3f).toInt64.toUInt64).toInt64)) * (-49064778989728563 : Int64)).toUInt64 >>> ((33 : Int32) &&& 0x3f).toInt64.toUInt64).toInt64)) * (-4265267296055464877 : Int64)))])) t
            refine XS.lxor X1.here hx rfl (hb hby d9_76) rfl ?_
            exact kt
          obtain ⟨fs, hr, hrun, hended, hW, hsame⟩ := X1.leave (v := some (.long (((((vh ^^^ ((vh.toUInt64 >>> ((33 : Int32) &&& 0x3f).toInt64.toUInt64).toInt64)) * (-49064778989728563 : Int64)) ^^^ ((((vh ^^^ ((vh.toUInt64 >>> ((33 : Int32) &&& 0x3f).toInt64.toUInt64).toInt64)) * (-49064778989728563 : Int64)).toUInt64 >>> ((33 : Int32) &&& 0x3f).toInt64.toUInt64).toInt64)) * (-4265267296055464877 : Int64)) ^^^ ((((((vh ^^^ ((vh.toUInt64 >>> ((33 : Int32) &&& 0x3f).toInt64.toUInt64).toInt64)) * (-49064778989728563 : Int64)) ^^^ ((((vh ^^^ ((vh.toUInt64 >>> ((33 : Int32) &&& 0x3f).toInt64.toUInt64).toInt64)) * (-49064778989728563 : Int64)).toUInt64 >>> ((33 : Int32) &&& 0x3f).toInt64.toUInt64).toInt64)) * (-4265267296055464877 : Int64)).toUInt64 >>> ((33 : Int32) &&& 0x3f).toInt64.toUInt64).toInt64)))) (fun h => by rw [Bd.returns] at h; cases h)
          refine ⟨_, _, ?_, hrun, hended, _, _, rfl, ?_, ⟨_, rfl⟩, hW, hsame.mono (by decide) (by decide)⟩
          · exact own_retL X1 hx Bd.returns (hb hby d9_77) hr
          · show Q9 Z a0 b n g h0 n0 _ T1.heap _
            rw [e1]
            exact ⟨(by rw [own_hash, own_acc, if_pos hc20_3, if_pos hc20_5, if_pos hc20_7, if_neg hc20_9, h_vh]; rfl), N0, rfl⟩
      · refine own_by (A' := T1.setTop (mkF m 49 #[.val (.ref a0), .val (.long (((((-3750763034362895579 : Int64) ^^^ (((g 0) &&& (255 : Int32)).toInt64)) * (1099511628211 : Int64)) ^^^ (((g 1) &&& (255 : Int32)).toInt64)) * (1099511628211 : Int64))), .second, .val (.ref b), .val (.int n), .val (.int (2 : Int32)), .val (.int (g 1))] [])) (fun t kt => ?_) ?_
        · show Steps p.tables e below (T1.setTop (mkF m 20 #[.val (.ref a0), .val (.long (((((-3750763034362895579 : Int64) ^^^ (((g 0) &&& (255 : Int32)).toInt64)) * (1099511628211 : Int64)) ^^^ (((g 1) &&& (255 : Int32)).toInt64)) * (1099511628211 : Int64))), .second, .val (.ref b), .val (.int n), .val (.int (2 : Int32)), .val (.int (g 1))] [(.int n), (.int (2 : Int32))])) t
          refine XS.icmpYes X1.here hx rfl (pc0 := 20) (pc' := 49) rfl (hb hby d9_20) rfl (flt hc20_7).2.1 (by decide) (by decide) ?_
          exact kt
        generalize h_vh : (((((-3750763034362895579 : Int64) ^^^ (((g 0) &&& (255 : Int32)).toInt64)) * (1099511628211 : Int64)) ^^^ (((g 1) &&& (255 : Int32)).toInt64)) * (1099511628211 : Int64)) = vh
        refine own_by (A' := T1.setTop (mkF m 77 #[.val (.ref a0), .val (.long ((((vh ^^^ ((vh.toUInt64 >>> ((33 : Int32) &&& 0x3f).toInt64.toUInt64).toInt64)) * (-49064778989728563 : Int64)) ^^^ ((((vh ^^^ ((vh.toUInt64 >>> ((33 : Int32) &&& 0x3f).toInt64.toUInt64).toInt64)) * (-49064778989728563 : Int64)).toUInt64 >>> ((33 : Int32) &&& 0x3f).toInt64.toUInt64).toInt64)) * (-4265267296055464877 : Int64))), .second, .val (.ref b), .val (.int n), .val (.int (2 : Int32)), .val (.int (g 1))] [(.long (((((vh ^^^ ((vh.toUInt64 >>> ((33 : Int32) &&& 0x3f).toInt64.toUInt64).toInt64)) * (-49064778989728563 : Int64)) ^^^ ((((vh ^^^ ((vh.toUInt64 >>> ((33 : Int32) &&& 0x3f).toInt64.toUInt64).toInt64)) * (-49064778989728563 : Int64)).toUInt64 >>> ((33 : Int32) &&& 0x3f).toInt64.toUInt64).toInt64)) * (-4265267296055464877 : Int64)) ^^^ ((((((vh ^^^ ((vh.toUInt64 >>> ((33 : Int32) &&& 0x3f).toInt64.toUInt64).toInt64)) * (-49064778989728563 : Int64)) ^^^ ((((vh ^^^ ((vh.toUInt64 >>> ((33 : Int32) &&& 0x3f).toInt64.toUInt64).toInt64)) * (-49064778989728563 : Int64)).toUInt64 >>> ((33 : Int32) &&& 0x3f).toInt64.toUInt64).toInt64)) * (-4265267296055464877 : Int64)).toUInt64 >>> ((33 : Int32) &&& 0x3f).toInt64.toUInt64).toInt64)))])) (fun t kt => ?_) ?_
        · show Steps p.tables e below (T1.setTop (mkF m 49 #[.val (.ref a0), .val (.long vh), .second, .val (.ref b), .val (.int n), .val (.int (2 : Int32)), .val (.int (g 1))] [])) t
          refine XS.lloadN X1.here hx rfl (hb hby d9_49) rfl ?_
          show Steps p.tables e below (T1.setTop (mkF m 50 #[.val (.ref a0), .val (.long vh), .second, .val (.ref b), .val (.int n), .val (.int (2 : Int32)), .val (.int (g 1))] [(.long vh)])) t
          refine XS.lloadN X1.here hx rfl (hb hby d9_50) rfl ?_
          show Steps p.tables e below (T1.setTop (mkF m 51 #[.val (.ref a0), .val (.long vh), .second, .val (.ref b), .val (.int n), .val (.int (2 : Int32)), .val (.int (g 1))] [(.long vh), (.long vh)])) t
          refine XS.bipush X1.here hx rfl (hb hby d9_51) ?_
          show Steps p.tables e below (T1.setTop (mkF m 53 #[.val (.ref a0), .val (.long vh), .second, .val (.ref b), .val (.int n), .val (.int (2 : Int32)), .val (.int (g 1))] [(.int (33 : Int32)), (.long vh), (.long vh)])) t
          refine XS.lushr X1.here hx rfl (hb hby d9_53) rfl ?_
          show Steps p.tables e below (T1.setTop (mkF m 54 #[.val (.ref a0), .val (.long vh), .second, .val (.ref b), .val (.int n), .val (.int (2 : Int32)), .val (.int (g 1))] [(.long ((vh.toUInt64 >>> ((33 : Int32) &&& 0x3f).toInt64.toUInt64).toInt64)), (.long vh)])) t
          refine XS.lxor X1.here hx rfl (hb hby d9_54) rfl ?_
          show Steps p.tables e below (T1.setTop (mkF m 55 #[.val (.ref a0), .val (.long vh), .second, .val (.ref b), .val (.int n), .val (.int (2 : Int32)), .val (.int (g 1))] [(.long (vh ^^^ ((vh.toUInt64 >>> ((33 : Int32) &&& 0x3f).toInt64.toUInt64).toInt64)))])) t
          refine X1.ldc2Long hx hown (mvT hZ (hw _ (List.mem_of_getElem? (i := 44) rfl))) (g := (mkF m 55 #[.val (.ref a0), .val (.long vh), .second, .val (.ref b), .val (.int n), .val (.int (2 : Int32)), .val (.int (g 1))] [(.long (vh ^^^ ((vh.toUInt64 >>> ((33 : Int32) &&& 0x3f).toInt64.toUInt64).toInt64)))])) rfl (hb hby d9_55) _ ?_
          show Steps p.tables e below (T1.setTop (mkF m 58 #[.val (.ref a0), .val (.long vh), .second, .val (.ref b), .val (.int n), .val (.int (2 : Int32)), .val (.int (g 1))] [(.long (-49064778989728563 : Int64)), (.long (vh ^^^ ((vh.toUInt64 >>> ((33 : Int32) &&& 0x3f).toInt64.toUInt64).toInt64)))])) t
          refine XS.lmul X1.here hx rfl (hb hby d9_58) rfl ?_
          show Steps p.tables e below (T1.setTop (mkF m 59 #[.val (.ref a0), .val (.long vh), .second, .val (.ref b), .val (.int n), .val (.int (2 : Int32)), .val (.int (g 1))] [(.long ((vh ^^^ ((vh.toUInt64 >>> ((33 : Int32) &&& 0x3f).toInt64.toUInt64).toInt64)) * (-49064778989728563 : Int64)))])) t
          refine XS.lstoreN X1.here hx rfl (hb hby d9_59) rfl (l' := #[.val (.ref a0), .val (.long ((vh ^^^ ((vh.toUInt64 >>> ((33 : Int32) &&& 0x3f).toInt64.toUInt64).toInt64)) * (-49064778989728563 : Int64))), .second, .val (.ref b), .val (.int n), .val (.int (2 : Int32)), .val (.int (g 1))]) rfl ?_
          show Steps p.tables e below (T1.setTop (mkF m 60 #[.val (.ref a0), .val (.long ((vh ^^^ ((vh.toUInt64 >>> ((33 : Int32) &&& 0x3f).toInt64.toUInt64).toInt64)) * (-49064778989728563 : Int64))), .second, .val (.ref b), .val (.int n), .val (.int (2 : Int32)), .val (.int (g 1))] [])) t
          refine XS.lloadN X1.here hx rfl (hb hby d9_60) rfl ?_
          show Steps p.tables e below (T1.setTop (mkF m 61 #[.val (.ref a0), .val (.long ((vh ^^^ ((vh.toUInt64 >>> ((33 : Int32) &&& 0x3f).toInt64.toUInt64).toInt64)) * (-49064778989728563 : Int64))), .second, .val (.ref b), .val (.int n), .val (.int (2 : Int32)), .val (.int (g 1))] [(.long ((vh ^^^ ((vh.toUInt64 >>> ((33 : Int32) &&& 0x3f).toInt64.toUInt64).toInt64)) * (-49064778989728563 : Int64)))])) t
          refine XS.lloadN X1.here hx rfl (hb hby d9_61) rfl ?_
          show Steps p.tables e below (T1.setTop (mkF m 62 #[.val (.ref a0), .val (.long ((vh ^^^ ((vh.toUInt64 >>> ((33 : Int32) &&& 0x3f).toInt64.toUInt64).toInt64)) * (-49064778989728563 : Int64))), .second, .val (.ref b), .val (.int n), .val (.int (2 : Int32)), .val (.int (g 1))] [(.long ((vh ^^^ ((vh.toUInt64 >>> ((33 : Int32) &&& 0x3f).toInt64.toUInt64).toInt64)) * (-49064778989728563 : Int64))), (.long ((vh ^^^ ((vh.toUInt64 >>> ((33 : Int32) &&& 0x3f).toInt64.toUInt64).toInt64)) * (-49064778989728563 : Int64)))])) t
          refine XS.bipush X1.here hx rfl (hb hby d9_62) ?_
          show Steps p.tables e below (T1.setTop (mkF m 64 #[.val (.ref a0), .val (.long ((vh ^^^ ((vh.toUInt64 >>> ((33 : Int32) &&& 0x3f).toInt64.toUInt64).toInt64)) * (-49064778989728563 : Int64))), .second, .val (.ref b), .val (.int n), .val (.int (2 : Int32)), .val (.int (g 1))] [(.int (33 : Int32)), (.long ((vh ^^^ ((vh.toUInt64 >>> ((33 : Int32) &&& 0x3f).toInt64.toUInt64).toInt64)) * (-49064778989728563 : Int64))), (.long ((vh ^^^ ((vh.toUInt64 >>> ((33 : Int32) &&& 0x3f).toInt64.toUInt64).toInt64)) * (-49064778989728563 : Int64)))])) t
          refine XS.lushr X1.here hx rfl (hb hby d9_64) rfl ?_
          show Steps p.tables e below (T1.setTop (mkF m 65 #[.val (.ref a0), .val (.long ((vh ^^^ ((vh.toUInt64 >>> ((33 : Int32) &&& 0x3f).toInt64.toUInt64).toInt64)) * (-49064778989728563 : Int64))), .second, .val (.ref b), .val (.int n), .val (.int (2 : Int32)), .val (.int (g 1))] [(.long ((((vh ^^^ ((vh.toUInt64 >>> ((33 : Int32) &&& 0x3f).toInt64.toUInt64).toInt64)) * (-49064778989728563 : Int64)).toUInt64 >>> ((33 : Int32) &&& 0x3f).toInt64.toUInt64).toInt64)), (.long ((vh ^^^ ((vh.toUInt64 >>> ((33 : Int32) &&& 0x3f).toInt64.toUInt64).toInt64)) * (-49064778989728563 : Int64)))])) t
          refine XS.lxor X1.here hx rfl (hb hby d9_65) rfl ?_
          show Steps p.tables e below (T1.setTop (mkF m 66 #[.val (.ref a0), .val (.long ((vh ^^^ ((vh.toUInt64 >>> ((33 : Int32) &&& 0x3f).toInt64.toUInt64).toInt64)) * (-49064778989728563 : Int64))), .second, .val (.ref b), .val (.int n), .val (.int (2 : Int32)), .val (.int (g 1))] [(.long (((vh ^^^ ((vh.toUInt64 >>> ((33 : Int32) &&& 0x3f).toInt64.toUInt64).toInt64)) * (-49064778989728563 : Int64)) ^^^ ((((vh ^^^ ((vh.toUInt64 >>> ((33 : Int32) &&& 0x3f).toInt64.toUInt64).toInt64)) * (-49064778989728563 : Int64)).toUInt64 >>> ((33 : Int32) &&& 0x3f).toInt64.toUInt64).toInt64)))])) t
          refine X1.ldc2Long hx hown (mvT hZ (hw _ (List.mem_of_getElem? (i := 45) rfl))) (g := (mkF m 66 #[.val (.ref a0), .val (.long ((vh ^^^ ((vh.toUInt64 >>> ((33 : Int32) &&& 0x3f).toInt64.toUInt64).toInt64)) * (-49064778989728563 : Int64))), .second, .val (.ref b), .val (.int n), .val (.int (2 : Int32)), .val (.int (g 1))] [(.long (((vh ^^^ ((vh.toUInt64 >>> ((33 : Int32) &&& 0x3f).toInt64.toUInt64).toInt64)) * (-49064778989728563 : Int64)) ^^^ ((((vh ^^^ ((vh.toUInt64 >>> ((33 : Int32) &&& 0x3f).toInt64.toUInt64).toInt64)) * (-49064778989728563 : Int64)).toUInt64 >>> ((33 : Int32) &&& 0x3f).toInt64.toUInt64).toInt64)))])) rfl (hb hby d9_66) _ ?_
          show Steps p.tables e below (T1.setTop (mkF m 69 #[.val (.ref a0), .val (.long ((vh ^^^ ((vh.toUInt64 >>> ((33 : Int32) &&& 0x3f).toInt64.toUInt64).toInt64)) * (-49064778989728563 : Int64))), .second, .val (.ref b), .val (.int n), .val (.int (2 : Int32)), .val (.int (g 1))] [(.long (-4265267296055464877 : Int64)), (.long (((vh ^^^ ((vh.toUInt64 >>> ((33 : Int32) &&& 0x3f).toInt64.toUInt64).toInt64)) * (-49064778989728563 : Int64)) ^^^ ((((vh ^^^ ((vh.toUInt64 >>> ((33 : Int32) &&& 0x3f).toInt64.toUInt64).toInt64)) * (-49064778989728563 : Int64)).toUInt64 >>> ((33 : Int32) &&& 0x3f).toInt64.toUInt64).toInt64)))])) t
          refine XS.lmul X1.here hx rfl (hb hby d9_69) rfl ?_
          show Steps p.tables e below (T1.setTop (mkF m 70 #[.val (.ref a0), .val (.long ((vh ^^^ ((vh.toUInt64 >>> ((33 : Int32) &&& 0x3f).toInt64.toUInt64).toInt64)) * (-49064778989728563 : Int64))), .second, .val (.ref b), .val (.int n), .val (.int (2 : Int32)), .val (.int (g 1))] [(.long ((((vh ^^^ ((vh.toUInt64 >>> ((33 : Int32) &&& 0x3f).toInt64.toUInt64).toInt64)) * (-49064778989728563 : Int64)) ^^^ ((((vh ^^^ ((vh.toUInt64 >>> ((33 : Int32) &&& 0x3f).toInt64.toUInt64).toInt64)) * (-49064778989728563 : Int64)).toUInt64 >>> ((33 : Int32) &&& 0x3f).toInt64.toUInt64).toInt64)) * (-4265267296055464877 : Int64)))])) t
          refine XS.lstoreN X1.here hx rfl (hb hby d9_70) rfl (l' := #[.val (.ref a0), .val (.long ((((vh ^^^ ((vh.toUInt64 >>> ((33 : Int32) &&& 0x3f).toInt64.toUInt64).toInt64)) * (-49064778989728563 : Int64)) ^^^ ((((vh ^^^ ((vh.toUInt64 >>> ((33 : Int32) &&& 0x3f).toInt64.toUInt64).toInt64)) * (-49064778989728563 : Int64)).toUInt64 >>> ((33 : Int32) &&& 0x3f).toInt64.toUInt64).toInt64)) * (-4265267296055464877 : Int64))), .second, .val (.ref b), .val (.int n), .val (.int (2 : Int32)), .val (.int (g 1))]) rfl ?_
          show Steps p.tables e below (T1.setTop (mkF m 71 #[.val (.ref a0), .val (.long ((((vh ^^^ ((vh.toUInt64 >>> ((33 : Int32) &&& 0x3f).toInt64.toUInt64).toInt64)) * (-49064778989728563 : Int64)) ^^^ ((((vh ^^^ ((vh.toUInt64 >>> ((33 : Int32) &&& 0x3f).toInt64.toUInt64).toInt64)) * (-49064778989728563 : Int64)).toUInt64 >>> ((33 : Int32) &&& 0x3f).toInt64.toUInt64).toInt64)) * (-4265267296055464877 : Int64))), .second, .val (.ref b), .val (.int n), .val (.int (2 : Int32)), .val (.int (g 1))] [])) t
          refine XS.lloadN X1.here hx rfl (hb hby d9_71) rfl ?_
          show Steps p.tables e below (T1.setTop (mkF m 72 #[.val (.ref a0), .val (.long ((((vh ^^^ ((vh.toUInt64 >>> ((33 : Int32) &&& 0x3f).toInt64.toUInt64).toInt64)) * (-49064778989728563 : Int64)) ^^^ ((((vh ^^^ ((vh.toUInt64 >>> ((33 : Int32) &&& 0x3f).toInt64.toUInt64).toInt64)) * (-49064778989728563 : Int64)).toUInt64 >>> ((33 : Int32) &&& 0x3f).toInt64.toUInt64).toInt64)) * (-4265267296055464877 : Int64))), .second, .val (.ref b), .val (.int n), .val (.int (2 : Int32)), .val (.int (g 1))] [(.long ((((vh ^^^ ((vh.toUInt64 >>> ((33 : Int32) &&& 0x3f).toInt64.toUInt64).toInt64)) * (-49064778989728563 : Int64)) ^^^ ((((vh ^^^ ((vh.toUInt64 >>> ((33 : Int32) &&& 0x3f).toInt64.toUInt64).toInt64)) * (-49064778989728563 : Int64)).toUInt64 >>> ((33 : Int32) &&& 0x3f).toInt64.toUInt64).toInt64)) * (-4265267296055464877 : Int64)))])) t
          refine XS.lloadN X1.here hx rfl (hb hby d9_72) rfl ?_
          show Steps p.tables e below (T1.setTop (mkF m 73 #[.val (.ref a0), .val (.long ((((vh ^^^ ((vh.toUInt64 >>> ((33 : Int32) &&& 0x3f).toInt64.toUInt64).toInt64)) * (-49064778989728563 : Int64)) ^^^ ((((vh ^^^ ((vh.toUInt64 >>> ((33 : Int32) &&& 0x3f).toInt64.toUInt64).toInt64)) * (-49064778989728563 : Int64)).toUInt64 >>> ((33 : Int32) &&& 0x3f).toInt64.toUInt64).toInt64)) * (-4265267296055464877 : Int64))), .second, .val (.ref b), .val (.int n), .val (.int (2 : Int32)), .val (.int (g 1))] [(.long ((((vh ^^^ ((vh.toUInt64 >>> ((33 : Int32) &&& 0x3f).toInt64.toUInt64).toInt64)) * (-49064778989728563 : Int64)) ^^^ ((((vh ^^^ ((vh.toUInt64 >>> ((33 : Int32) &&& 0x3f).toInt64.toUInt64).toInt64)) * (-49064778989728563 : Int64)).toUInt64 >>> ((33 : Int32) &&& 0x3f).toInt64.toUInt64).toInt64)) * (-4265267296055464877 : Int64))), (.long ((((vh ^^^ ((vh.toUInt64 >>> ((33 : Int32) &&& 0x3f).toInt64.toUInt64).toInt64)) * (-49064778989728563 : Int64)) ^^^ ((((vh ^^^ ((vh.toUInt64 >>> ((33 : Int32) &&& 0x3f).toInt64.toUInt64).toInt64)) * (-49064778989728563 : Int64)).toUInt64 >>> ((33 : Int32) &&& 0x3f).toInt64.toUInt64).toInt64)) * (-4265267296055464877 : Int64)))])) t
          refine XS.bipush X1.here hx rfl (hb hby d9_73) ?_
          show Steps p.tables e below (T1.setTop (mkF m 75 #[.val (.ref a0), .val (.long ((((vh ^^^ ((vh.toUInt64 >>> ((33 : Int32) &&& 0x3f).toInt64.toUInt64).toInt64)) * (-49064778989728563 : Int64)) ^^^ ((((vh ^^^ ((vh.toUInt64 >>> ((33 : Int32) &&& 0x3f).toInt64.toUInt64).toInt64)) * (-49064778989728563 : Int64)).toUInt64 >>> ((33 : Int32) &&& 0x3f).toInt64.toUInt64).toInt64)) * (-4265267296055464877 : Int64))), .second, .val (.ref b), .val (.int n), .val (.int (2 : Int32)), .val (.int (g 1))] [(.int (33 : Int32)), (.long ((((vh ^^^ ((vh.toUInt64 >>> ((33 : Int32) &&& 0x3f).toInt64.toUInt64).toInt64)) * (-49064778989728563 : Int64)) ^^^ ((((vh ^^^ ((vh.toUInt64 >>> ((33 : Int32) &&& 0x3f).toInt64.toUInt64).toInt64)) * (-49064778989728563 : Int64)).toUInt64 >>> ((33 : Int32) &&& 0x3f).toInt64.toUInt64).toInt64)) * (-4265267296055464877 : Int64))), (.long ((((vh ^^^ ((vh.toUInt64 >>> ((33 : Int32) &&& 0x3f).toInt64.toUInt64).toInt64)) * (-49064778989728563 : Int64)) ^^^ ((((vh ^^^ ((vh.toUInt64 >>> ((33 : Int32) &&& 0x3f).toInt64.toUInt64).toInt64)) * (-49064778989728563 : Int64)).toUInt64 >>> ((33 : Int32) &&& 0x3f).toInt64.toUInt64).toInt64)) * (-4265267296055464877 : Int64)))])) t
          refine XS.lushr X1.here hx rfl (hb hby d9_75) rfl ?_
          show Steps p.tables e below (T1.setTop (mkF m 76 #[.val (.ref a0), .val (.long ((((vh ^^^ ((vh.toUInt64 >>> ((33 : Int32) &&& 0x3f).toInt64.toUInt64).toInt64)) * (-49064778989728563 : Int64)) ^^^ ((((vh ^^^ ((vh.toUInt64 >>> ((33 : Int32) &&& 0x3f).toInt64.toUInt64).toInt64)) * (-49064778989728563 : Int64)).toUInt64 >>> ((33 : Int32) &&& 0x3f).toInt64.toUInt64).toInt64)) * (-4265267296055464877 : Int64))), .second, .val (.ref b), .val (.int n), .val (.int (2 : Int32)), .val (.int (g 1))] [(.long ((((((vh ^^^ ((vh.toUInt64 >>> ((33 : Int32) &&& 0x3f).toInt64.toUInt64).toInt64)) * (-49064778989728563 : Int64)) ^^^ ((((vh ^^^ ((vh.toUInt64 >>> ((33 : Int32) &&& 0x3f).toInt64.toUInt64).toInt64)) * (-49064778989728563 : Int64)).toUInt64 >>> ((33 : Int32) &&& 0x3f).toInt64.toUInt64).toInt64)) * (-4265267296055464877 : Int64)).toUInt64 >>> ((33 : Int32) &&& 0x3f).toInt64.toUInt64).toInt64)), (.long ((((vh ^^^ ((vh.toUInt64 >>> ((33 : Int32) &&& 0x3f).toInt64.toUInt64).toInt64)) * (-49064778989728563 : Int64)) ^^^ ((((vh ^^^ ((vh.toUInt64 >>> ((33 : Int32) &&& 0x3f).toInt64.toUInt64).toInt64)) * (-49064778989728563 : Int64)).toUInt64 >>> ((33 : Int32) &&& 0x3f).toInt64.toUInt64).toInt64)) * (-4265267296055464877 : Int64)))])) t
          refine XS.lxor X1.here hx rfl (hb hby d9_76) rfl ?_
          exact kt
        obtain ⟨fs, hr, hrun, hended, hW, hsame⟩ := X1.leave (v := some (.long (((((vh ^^^ ((vh.toUInt64 >>> ((33 : Int32) &&& 0x3f).toInt64.toUInt64).toInt64)) * (-49064778989728563 : Int64)) ^^^ ((((vh ^^^ ((vh.toUInt64 >>> ((33 : Int32) &&& 0x3f).toInt64.toUInt64).toInt64)) * (-49064778989728563 : Int64)).toUInt64 >>> ((33 : Int32) &&& 0x3f).toInt64.toUInt64).toInt64)) * (-4265267296055464877 : Int64)) ^^^ ((((((vh ^^^ ((vh.toUInt64 >>> ((33 : Int32) &&& 0x3f).toInt64.toUInt64).toInt64)) * (-49064778989728563 : Int64)) ^^^ ((((vh ^^^ ((vh.toUInt64 >>> ((33 : Int32) &&& 0x3f).toInt64.toUInt64).toInt64)) * (-49064778989728563 : Int64)).toUInt64 >>> ((33 : Int32) &&& 0x3f).toInt64.toUInt64).toInt64)) * (-4265267296055464877 : Int64)).toUInt64 >>> ((33 : Int32) &&& 0x3f).toInt64.toUInt64).toInt64)))) (fun h => by rw [Bd.returns] at h; cases h)
        refine ⟨_, _, ?_, hrun, hended, _, _, rfl, ?_, ⟨_, rfl⟩, hW, hsame.mono (by decide) (by decide)⟩
        · exact own_retL X1 hx Bd.returns (hb hby d9_77) hr
        · show Q9 Z a0 b n g h0 n0 _ T1.heap _
          rw [e1]
          exact ⟨(by rw [own_hash, own_acc, if_pos hc20_3, if_pos hc20_5, if_neg hc20_7, h_vh]; rfl), N0, rfl⟩
    · refine own_by (A' := T1.setTop (mkF m 49 #[.val (.ref a0), .val (.long (((-3750763034362895579 : Int64) ^^^ (((g 0) &&& (255 : Int32)).toInt64)) * (1099511628211 : Int64))), .second, .val (.ref b), .val (.int n), .val (.int (1 : Int32)), .val (.int (g 0))] [])) (fun t kt => ?_) ?_
      · show Steps p.tables e below (T1.setTop (mkF m 20 #[.val (.ref a0), .val (.long (((-3750763034362895579 : Int64) ^^^ (((g 0) &&& (255 : Int32)).toInt64)) * (1099511628211 : Int64))), .second, .val (.ref b), .val (.int n), .val (.int (1 : Int32)), .val (.int (g 0))] [(.int n), (.int (1 : Int32))])) t
        refine XS.icmpYes X1.here hx rfl (pc0 := 20) (pc' := 49) rfl (hb hby d9_20) rfl (flt hc20_5).2.1 (by decide) (by decide) ?_
        exact kt
      generalize h_vh : (((-3750763034362895579 : Int64) ^^^ (((g 0) &&& (255 : Int32)).toInt64)) * (1099511628211 : Int64)) = vh
      refine own_by (A' := T1.setTop (mkF m 77 #[.val (.ref a0), .val (.long ((((vh ^^^ ((vh.toUInt64 >>> ((33 : Int32) &&& 0x3f).toInt64.toUInt64).toInt64)) * (-49064778989728563 : Int64)) ^^^ ((((vh ^^^ ((vh.toUInt64 >>> ((33 : Int32) &&& 0x3f).toInt64.toUInt64).toInt64)) * (-49064778989728563 : Int64)).toUInt64 >>> ((33 : Int32) &&& 0x3f).toInt64.toUInt64).toInt64)) * (-4265267296055464877 : Int64))), .second, .val (.ref b), .val (.int n), .val (.int (1 : Int32)), .val (.int (g 0))] [(.long (((((vh ^^^ ((vh.toUInt64 >>> ((33 : Int32) &&& 0x3f).toInt64.toUInt64).toInt64)) * (-49064778989728563 : Int64)) ^^^ ((((vh ^^^ ((vh.toUInt64 >>> ((33 : Int32) &&& 0x3f).toInt64.toUInt64).toInt64)) * (-49064778989728563 : Int64)).toUInt64 >>> ((33 : Int32) &&& 0x3f).toInt64.toUInt64).toInt64)) * (-4265267296055464877 : Int64)) ^^^ ((((((vh ^^^ ((vh.toUInt64 >>> ((33 : Int32) &&& 0x3f).toInt64.toUInt64).toInt64)) * (-49064778989728563 : Int64)) ^^^ ((((vh ^^^ ((vh.toUInt64 >>> ((33 : Int32) &&& 0x3f).toInt64.toUInt64).toInt64)) * (-49064778989728563 : Int64)).toUInt64 >>> ((33 : Int32) &&& 0x3f).toInt64.toUInt64).toInt64)) * (-4265267296055464877 : Int64)).toUInt64 >>> ((33 : Int32) &&& 0x3f).toInt64.toUInt64).toInt64)))])) (fun t kt => ?_) ?_
      · show Steps p.tables e below (T1.setTop (mkF m 49 #[.val (.ref a0), .val (.long vh), .second, .val (.ref b), .val (.int n), .val (.int (1 : Int32)), .val (.int (g 0))] [])) t
        refine XS.lloadN X1.here hx rfl (hb hby d9_49) rfl ?_
        show Steps p.tables e below (T1.setTop (mkF m 50 #[.val (.ref a0), .val (.long vh), .second, .val (.ref b), .val (.int n), .val (.int (1 : Int32)), .val (.int (g 0))] [(.long vh)])) t
        refine XS.lloadN X1.here hx rfl (hb hby d9_50) rfl ?_
        show Steps p.tables e below (T1.setTop (mkF m 51 #[.val (.ref a0), .val (.long vh), .second, .val (.ref b), .val (.int n), .val (.int (1 : Int32)), .val (.int (g 0))] [(.long vh), (.long vh)])) t
        refine XS.bipush X1.here hx rfl (hb hby d9_51) ?_
        show Steps p.tables e below (T1.setTop (mkF m 53 #[.val (.ref a0), .val (.long vh), .second, .val (.ref b), .val (.int n), .val (.int (1 : Int32)), .val (.int (g 0))] [(.int (33 : Int32)), (.long vh), (.long vh)])) t
        refine XS.lushr X1.here hx rfl (hb hby d9_53) rfl ?_
        show Steps p.tables e below (T1.setTop (mkF m 54 #[.val (.ref a0), .val (.long vh), .second, .val (.ref b), .val (.int n), .val (.int (1 : Int32)), .val (.int (g 0))] [(.long ((vh.toUInt64 >>> ((33 : Int32) &&& 0x3f).toInt64.toUInt64).toInt64)), (.long vh)])) t
        refine XS.lxor X1.here hx rfl (hb hby d9_54) rfl ?_
        show Steps p.tables e below (T1.setTop (mkF m 55 #[.val (.ref a0), .val (.long vh), .second, .val (.ref b), .val (.int n), .val (.int (1 : Int32)), .val (.int (g 0))] [(.long (vh ^^^ ((vh.toUInt64 >>> ((33 : Int32) &&& 0x3f).toInt64.toUInt64).toInt64)))])) t
        refine X1.ldc2Long hx hown (mvT hZ (hw _ (List.mem_of_getElem? (i := 44) rfl))) (g := (mkF m 55 #[.val (.ref a0), .val (.long vh), .second, .val (.ref b), .val (.int n), .val (.int (1 : Int32)), .val (.int (g 0))] [(.long (vh ^^^ ((vh.toUInt64 >>> ((33 : Int32) &&& 0x3f).toInt64.toUInt64).toInt64)))])) rfl (hb hby d9_55) _ ?_
        show Steps p.tables e below (T1.setTop (mkF m 58 #[.val (.ref a0), .val (.long vh), .second, .val (.ref b), .val (.int n), .val (.int (1 : Int32)), .val (.int (g 0))] [(.long (-49064778989728563 : Int64)), (.long (vh ^^^ ((vh.toUInt64 >>> ((33 : Int32) &&& 0x3f).toInt64.toUInt64).toInt64)))])) t
        refine XS.lmul X1.here hx rfl (hb hby d9_58) rfl ?_
        show Steps p.tables e below (T1.setTop (mkF m 59 #[.val (.ref a0), .val (.long vh), .second, .val (.ref b), .val (.int n), .val (.int (1 : Int32)), .val (.int (g 0))] [(.long ((vh ^^^ ((vh.toUInt64 >>> ((33 : Int32) &&& 0x3f).toInt64.toUInt64).toInt64)) * (-49064778989728563 : Int64)))])) t
        refine XS.lstoreN X1.here hx rfl (hb hby d9_59) rfl (l' := #[.val (.ref a0), .val (.long ((vh ^^^ ((vh.toUInt64 >>> ((33 : Int32) &&& 0x3f).toInt64.toUInt64).toInt64)) * (-49064778989728563 : Int64))), .second, .val (.ref b), .val (.int n), .val (.int (1 : Int32)), .val (.int (g 0))]) rfl ?_
        show Steps p.tables e below (T1.setTop (mkF m 60 #[.val (.ref a0), .val (.long ((vh ^^^ ((vh.toUInt64 >>> ((33 : Int32) &&& 0x3f).toInt64.toUInt64).toInt64)) * (-49064778989728563 : Int64))), .second, .val (.ref b), .val (.int n), .val (.int (1 : Int32)), .val (.int (g 0))] [])) t
        refine XS.lloadN X1.here hx rfl (hb hby d9_60) rfl ?_
        show Steps p.tables e below (T1.setTop (mkF m 61 #[.val (.ref a0), .val (.long ((vh ^^^ ((vh.toUInt64 >>> ((33 : Int32) &&& 0x3f).toInt64.toUInt64).toInt64)) * (-49064778989728563 : Int64))), .second, .val (.ref b), .val (.int n), .val (.int (1 : Int32)), .val (.int (g 0))] [(.long ((vh ^^^ ((vh.toUInt64 >>> ((33 : Int32) &&& 0x3f).toInt64.toUInt64).toInt64)) * (-49064778989728563 : Int64)))])) t
        refine XS.lloadN X1.here hx rfl (hb hby d9_61) rfl ?_
        show Steps p.tables e below (T1.setTop (mkF m 62 #[.val (.ref a0), .val (.long ((vh ^^^ ((vh.toUInt64 >>> ((33 : Int32) &&& 0x3f).toInt64.toUInt64).toInt64)) * (-49064778989728563 : Int64))), .second, .val (.ref b), .val (.int n), .val (.int (1 : Int32)), .val (.int (g 0))] [(.long ((vh ^^^ ((vh.toUInt64 >>> ((33 : Int32) &&& 0x3f).toInt64.toUInt64).toInt64)) * (-49064778989728563 : Int64))), (.long ((vh ^^^ ((vh.toUInt64 >>> ((33 : Int32) &&& 0x3f).toInt64.toUInt64).toInt64)) * (-49064778989728563 : Int64)))])) t
        refine XS.bipush X1.here hx rfl (hb hby d9_62) ?_
        show Steps p.tables e below (T1.setTop (mkF m 64 #[.val (.ref a0), .val (.long ((vh ^^^ ((vh.toUInt64 >>> ((33 : Int32) &&& 0x3f).toInt64.toUInt64).toInt64)) * (-49064778989728563 : Int64))), .second, .val (.ref b), .val (.int n), .val (.int (1 : Int32)), .val (.int (g 0))] [(.int (33 : Int32)), (.long ((vh ^^^ ((vh.toUInt64 >>> ((33 : Int32) &&& 0x3f).toInt64.toUInt64).toInt64)) * (-49064778989728563 : Int64))), (.long ((vh ^^^ ((vh.toUInt64 >>> ((33 : Int32) &&& 0x3f).toInt64.toUInt64).toInt64)) * (-49064778989728563 : Int64)))])) t
        refine XS.lushr X1.here hx rfl (hb hby d9_64) rfl ?_
        show Steps p.tables e below (T1.setTop (mkF m 65 #[.val (.ref a0), .val (.long ((vh ^^^ ((vh.toUInt64 >>> ((33 : Int32) &&& 0x3f).toInt64.toUInt64).toInt64)) * (-49064778989728563 : Int64))), .second, .val (.ref b), .val (.int n), .val (.int (1 : Int32)), .val (.int (g 0))] [(.long ((((vh ^^^ ((vh.toUInt64 >>> ((33 : Int32) &&& 0x3f).toInt64.toUInt64).toInt64)) * (-49064778989728563 : Int64)).toUInt64 >>> ((33 : Int32) &&& 0x3f).toInt64.toUInt64).toInt64)), (.long ((vh ^^^ ((vh.toUInt64 >>> ((33 : Int32) &&& 0x3f).toInt64.toUInt64).toInt64)) * (-49064778989728563 : Int64)))])) t
        refine XS.lxor X1.here hx rfl (hb hby d9_65) rfl ?_
        show Steps p.tables e below (T1.setTop (mkF m 66 #[.val (.ref a0), .val (.long ((vh ^^^ ((vh.toUInt64 >>> ((33 : Int32) &&& 0x3f).toInt64.toUInt64).toInt64)) * (-49064778989728563 : Int64))), .second, .val (.ref b), .val (.int n), .val (.int (1 : Int32)), .val (.int (g 0))] [(.long (((vh ^^^ ((vh.toUInt64 >>> ((33 : Int32) &&& 0x3f).toInt64.toUInt64).toInt64)) * (-49064778989728563 : Int64)) ^^^ ((((vh ^^^ ((vh.toUInt64 >>> ((33 : Int32) &&& 0x3f).toInt64.toUInt64).toInt64)) * (-49064778989728563 : Int64)).toUInt64 >>> ((33 : Int32) &&& 0x3f).toInt64.toUInt64).toInt64)))])) t
        refine X1.ldc2Long hx hown (mvT hZ (hw _ (List.mem_of_getElem? (i := 45) rfl))) (g := (mkF m 66 #[.val (.ref a0), .val (.long ((vh ^^^ ((vh.toUInt64 >>> ((33 : Int32) &&& 0x3f).toInt64.toUInt64).toInt64)) * (-49064778989728563 : Int64))), .second, .val (.ref b), .val (.int n), .val (.int (1 : Int32)), .val (.int (g 0))] [(.long (((vh ^^^ ((vh.toUInt64 >>> ((33 : Int32) &&& 0x3f).toInt64.toUInt64).toInt64)) * (-49064778989728563 : Int64)) ^^^ ((((vh ^^^ ((vh.toUInt64 >>> ((33 : Int32) &&& 0x3f).toInt64.toUInt64).toInt64)) * (-49064778989728563 : Int64)).toUInt64 >>> ((33 : Int32) &&& 0x3f).toInt64.toUInt64).toInt64)))])) rfl (hb hby d9_66) _ ?_
        show Steps p.tables e below (T1.setTop (mkF m 69 #[.val (.ref a0), .val (.long ((vh ^^^ ((vh.toUInt64 >>> ((33 : Int32) &&& 0x3f).toInt64.toUInt64).toInt64)) * (-49064778989728563 : Int64))), .second, .val (.ref b), .val (.int n), .val (.int (1 : Int32)), .val (.int (g 0))] [(.long (-4265267296055464877 : Int64)), (.long (((vh ^^^ ((vh.toUInt64 >>> ((33 : Int32) &&& 0x3f).toInt64.toUInt64).toInt64)) * (-49064778989728563 : Int64)) ^^^ ((((vh ^^^ ((vh.toUInt64 >>> ((33 : Int32) &&& 0x3f).toInt64.toUInt64).toInt64)) * (-49064778989728563 : Int64)).toUInt64 >>> ((33 : Int32) &&& 0x3f).toInt64.toUInt64).toInt64)))])) t
        refine XS.lmul X1.here hx rfl (hb hby d9_69) rfl ?_
        show Steps p.tables e below (T1.setTop (mkF m 70 #[.val (.ref a0), .val (.long ((vh ^^^ ((vh.toUInt64 >>> ((33 : Int32) &&& 0x3f).toInt64.toUInt64).toInt64)) * (-49064778989728563 : Int64))), .second, .val (.ref b), .val (.int n), .val (.int (1 : Int32)), .val (.int (g 0))] [(.long ((((vh ^^^ ((vh.toUInt64 >>> ((33 : Int32) &&& 0x3f).toInt64.toUInt64).toInt64)) * (-49064778989728563 : Int64)) ^^^ ((((vh ^^^ ((vh.toUInt64 >>> ((33 : Int32) &&& 0x3f).toInt64.toUInt64).toInt64)) * (-49064778989728563 : Int64)).toUInt64 >>> ((33 : Int32) &&& 0x3f).toInt64.toUInt64).toInt64)) * (-4265267296055464877 : Int64)))])) t
        refine XS.lstoreN X1.here hx rfl (hb hby d9_70) rfl (l' := #[.val (.ref a0), .val (.long ((((vh ^^^ ((vh.toUInt64 >>> ((33 : Int32) &&& 0x3f).toInt64.toUInt64).toInt64)) * (-49064778989728563 : Int64)) ^^^ ((((vh ^^^ ((vh.toUInt64 >>> ((33 : Int32) &&& 0x3f).toInt64.toUInt64).toInt64)) * (-49064778989728563 : Int64)).toUInt64 >>> ((33 : Int32) &&& 0x3f).toInt64.toUInt64).toInt64)) * (-4265267296055464877 : Int64))), .second, .val (.ref b), .val (.int n), .val (.int (1 : Int32)), .val (.int (g 0))]) rfl ?_
        show Steps p.tables e below (T1.setTop (mkF m 71 #[.val (.ref a0), .val (.long ((((vh ^^^ ((vh.toUInt64 >>> ((33 : Int32) &&& 0x3f).toInt64.toUInt64).toInt64)) * (-49064778989728563 : Int64)) ^^^ ((((vh ^^^ ((vh.toUInt64 >>> ((33 : Int32) &&& 0x3f).toInt64.toUInt64).toInt64)) * (-49064778989728563 : Int64)).toUInt64 >>> ((33 : Int32) &&& 0x3f).toInt64.toUInt64).toInt64)) * (-4265267296055464877 : Int64))), .second, .val (.ref b), .val (.int n), .val (.int (1 : Int32)), .val (.int (g 0))] [])) t
        refine XS.lloadN X1.here hx rfl (hb hby d9_71) rfl ?_
        show Steps p.tables e below (T1.setTop (mkF m 72 #[.val (.ref a0), .val (.long ((((vh ^^^ ((vh.toUInt64 >>> ((33 : Int32) &&& 0x3f).toInt64.toUInt64).toInt64)) * (-49064778989728563 : Int64)) ^^^ ((((vh ^^^ ((vh.toUInt64 >>> ((33 : Int32) &&& 0x3f).toInt64.toUInt64).toInt64)) * (-49064778989728563 : Int64)).toUInt64 >>> ((33 : Int32) &&& 0x3f).toInt64.toUInt64).toInt64)) * (-4265267296055464877 : Int64))), .second, .val (.ref b), .val (.int n), .val (.int (1 : Int32)), .val (.int (g 0))] [(.long ((((vh ^^^ ((vh.toUInt64 >>> ((33 : Int32) &&& 0x3f).toInt64.toUInt64).toInt64)) * (-49064778989728563 : Int64)) ^^^ ((((vh ^^^ ((vh.toUInt64 >>> ((33 : Int32) &&& 0x3f).toInt64.toUInt64).toInt64)) * (-49064778989728563 : Int64)).toUInt64 >>> ((33 : Int32) &&& 0x3f).toInt64.toUInt64).toInt64)) * (-4265267296055464877 : Int64)))])) t
        refine XS.lloadN X1.here hx rfl (hb hby d9_72) rfl ?_
        show Steps p.tables e below (T1.setTop (mkF m 73 #[.val (.ref a0), .val (.long ((((vh ^^^ ((vh.toUInt64 >>> ((33 : Int32) &&& 0x3f).toInt64.toUInt64).toInt64)) * (-49064778989728563 : Int64)) ^^^ ((((vh ^^^ ((vh.toUInt64 >>> ((33 : Int32) &&& 0x3f).toInt64.toUInt64).toInt64)) * (-49064778989728563 : Int64)).toUInt64 >>> ((33 : Int32) &&& 0x3f).toInt64.toUInt64).toInt64)) * (-4265267296055464877 : Int64))), .second, .val (.ref b), .val (.int n), .val (.int (1 : Int32)), .val (.int (g 0))] [(.long ((((vh ^^^ ((vh.toUInt64 >>> ((33 : Int32) &&& 0x3f).toInt64.toUInt64).toInt64)) * (-49064778989728563 : Int64)) ^^^ ((((vh ^^^ ((vh.toUInt64 >>> ((33 : Int32) &&& 0x3f).toInt64.toUInt64).toInt64)) * (-49064778989728563 : Int64)).toUInt64 >>> ((33 : Int32) &&& 0x3f).toInt64.toUInt64).toInt64)) * (-4265267296055464877 : Int64))), (.long ((((vh ^^^ ((vh.toUInt64 >>> ((33 : Int32) &&& 0x3f).toInt64.toUInt64).toInt64)) * (-49064778989728563 : Int64)) ^^^ ((((vh ^^^ ((vh.toUInt64 >>> ((33 : Int32) &&& 0x3f).toInt64.toUInt64).toInt64)) * (-49064778989728563 : Int64)).toUInt64 >>> ((33 : Int32) &&& 0x3f).toInt64.toUInt64).toInt64)) * (-4265267296055464877 : Int64)))])) t
        refine XS.bipush X1.here hx rfl (hb hby d9_73) ?_
        show Steps p.tables e below (T1.setTop (mkF m 75 #[.val (.ref a0), .val (.long ((((vh ^^^ ((vh.toUInt64 >>> ((33 : Int32) &&& 0x3f).toInt64.toUInt64).toInt64)) * (-49064778989728563 : Int64)) ^^^ ((((vh ^^^ ((vh.toUInt64 >>> ((33 : Int32) &&& 0x3f).toInt64.toUInt64).toInt64)) * (-49064778989728563 : Int64)).toUInt64 >>> ((33 : Int32) &&& 0x3f).toInt64.toUInt64).toInt64)) * (-4265267296055464877 : Int64))), .second, .val (.ref b), .val (.int n), .val (.int (1 : Int32)), .val (.int (g 0))] [(.int (33 : Int32)), (.long ((((vh ^^^ ((vh.toUInt64 >>> ((33 : Int32) &&& 0x3f).toInt64.toUInt64).toInt64)) * (-49064778989728563 : Int64)) ^^^ ((((vh ^^^ ((vh.toUInt64 >>> ((33 : Int32) &&& 0x3f).toInt64.toUInt64).toInt64)) * (-49064778989728563 : Int64)).toUInt64 >>> ((33 : Int32) &&& 0x3f).toInt64.toUInt64).toInt64)) * (-4265267296055464877 : Int64))), (.long ((((vh ^^^ ((vh.toUInt64 >>> ((33 : Int32) &&& 0x3f).toInt64.toUInt64).toInt64)) * (-49064778989728563 : Int64)) ^^^ ((((vh ^^^ ((vh.toUInt64 >>> ((33 : Int32) &&& 0x3f).toInt64.toUInt64).toInt64)) * (-49064778989728563 : Int64)).toUInt64 >>> ((33 : Int32) &&& 0x3f).toInt64.toUInt64).toInt64)) * (-4265267296055464877 : Int64)))])) t
        refine XS.lushr X1.here hx rfl (hb hby d9_75) rfl ?_
        show Steps p.tables e below (T1.setTop (mkF m 76 #[.val (.ref a0), .val (.long ((((vh ^^^ ((vh.toUInt64 >>> ((33 : Int32) &&& 0x3f).toInt64.toUInt64).toInt64)) * (-49064778989728563 : Int64)) ^^^ ((((vh ^^^ ((vh.toUInt64 >>> ((33 : Int32) &&& 0x3f).toInt64.toUInt64).toInt64)) * (-49064778989728563 : Int64)).toUInt64 >>> ((33 : Int32) &&& 0x3f).toInt64.toUInt64).toInt64)) * (-4265267296055464877 : Int64))), .second, .val (.ref b), .val (.int n), .val (.int (1 : Int32)), .val (.int (g 0))] [(.long ((((((vh ^^^ ((vh.toUInt64 >>> ((33 : Int32) &&& 0x3f).toInt64.toUInt64).toInt64)) * (-49064778989728563 : Int64)) ^^^ ((((vh ^^^ ((vh.toUInt64 >>> ((33 : Int32) &&& 0x3f).toInt64.toUInt64).toInt64)) * (-49064778989728563 : Int64)).toUInt64 >>> ((33 : Int32) &&& 0x3f).toInt64.toUInt64).toInt64)) * (-4265267296055464877 : Int64)).toUInt64 >>> ((33 : Int32) &&& 0x3f).toInt64.toUInt64).toInt64)), (.long ((((vh ^^^ ((vh.toUInt64 >>> ((33 : Int32) &&& 0x3f).toInt64.toUInt64).toInt64)) * (-49064778989728563 : Int64)) ^^^ ((((vh ^^^ ((vh.toUInt64 >>> ((33 : Int32) &&& 0x3f).toInt64.toUInt64).toInt64)) * (-49064778989728563 : Int64)).toUInt64 >>> ((33 : Int32) &&& 0x3f).toInt64.toUInt64).toInt64)) * (-4265267296055464877 : Int64)))])) t
        refine XS.lxor X1.here hx rfl (hb hby d9_76) rfl ?_
        exact kt
      obtain ⟨fs, hr, hrun, hended, hW, hsame⟩ := X1.leave (v := some (.long (((((vh ^^^ ((vh.toUInt64 >>> ((33 : Int32) &&& 0x3f).toInt64.toUInt64).toInt64)) * (-49064778989728563 : Int64)) ^^^ ((((vh ^^^ ((vh.toUInt64 >>> ((33 : Int32) &&& 0x3f).toInt64.toUInt64).toInt64)) * (-49064778989728563 : Int64)).toUInt64 >>> ((33 : Int32) &&& 0x3f).toInt64.toUInt64).toInt64)) * (-4265267296055464877 : Int64)) ^^^ ((((((vh ^^^ ((vh.toUInt64 >>> ((33 : Int32) &&& 0x3f).toInt64.toUInt64).toInt64)) * (-49064778989728563 : Int64)) ^^^ ((((vh ^^^ ((vh.toUInt64 >>> ((33 : Int32) &&& 0x3f).toInt64.toUInt64).toInt64)) * (-49064778989728563 : Int64)).toUInt64 >>> ((33 : Int32) &&& 0x3f).toInt64.toUInt64).toInt64)) * (-4265267296055464877 : Int64)).toUInt64 >>> ((33 : Int32) &&& 0x3f).toInt64.toUInt64).toInt64)))) (fun h => by rw [Bd.returns] at h; cases h)
      refine ⟨_, _, ?_, hrun, hended, _, _, rfl, ?_, ⟨_, rfl⟩, hW, hsame.mono (by decide) (by decide)⟩
      · exact own_retL X1 hx Bd.returns (hb hby d9_77) hr
      · show Q9 Z a0 b n g h0 n0 _ T1.heap _
        rw [e1]
        exact ⟨(by rw [own_hash, own_acc, if_pos hc20_3, if_neg hc20_5, h_vh]; rfl), N0, rfl⟩
  · refine own_by (A' := T1.setTop (mkF m 49 #[.val (.ref a0), .val (.long (-3750763034362895579 : Int64)), .second, .val (.ref b), .val (.int n), .val (.int (0 : Int32)), .unset] [])) (fun t kt => ?_) ?_
    · show Steps p.tables e below (T1.setTop (mkF m 20 #[.val (.ref a0), .val (.long (-3750763034362895579 : Int64)), .second, .val (.ref b), .val (.int n), .val (.int (0 : Int32)), .unset] [(.int n), (.int (0 : Int32))])) t
      refine XS.icmpYes X1.here hx rfl (pc0 := 20) (pc' := 49) rfl (hb hby d9_20) rfl (flt hc20_3).2.1 (by decide) (by decide) ?_
      exact kt
    generalize h_vh : (-3750763034362895579 : Int64) = vh
    refine own_by (A' := T1.setTop (mkF m 77 #[.val (.ref a0), .val (.long ((((vh ^^^ ((vh.toUInt64 >>> ((33 : Int32) &&& 0x3f).toInt64.toUInt64).toInt64)) * (-49064778989728563 : Int64)) ^^^ ((((vh ^^^ ((vh.toUInt64 >>> ((33 : Int32) &&& 0x3f).toInt64.toUInt64).toInt64)) * (-49064778989728563 : Int64)).toUInt64 >>> ((33 : Int32) &&& 0x3f).toInt64.toUInt64).toInt64)) * (-4265267296055464877 : Int64))), .second, .val (.ref b), .val (.int n), .val (.int (0 : Int32)), .unset] [(.long (((((vh ^^^ ((vh.toUInt64 >>> ((33 : Int32) &&& 0x3f).toInt64.toUInt64).toInt64)) * (-49064778989728563 : Int64)) ^^^ ((((vh ^^^ ((vh.toUInt64 >>> ((33 : Int32) &&& 0x3f).toInt64.toUInt64).toInt64)) * (-49064778989728563 : Int64)).toUInt64 >>> ((33 : Int32) &&& 0x3f).toInt64.toUInt64).toInt64)) * (-4265267296055464877 : Int64)) ^^^ ((((((vh ^^^ ((vh.toUInt64 >>> ((33 : Int32) &&& 0x3f).toInt64.toUInt64).toInt64)) * (-49064778989728563 : Int64)) ^^^ ((((vh ^^^ ((vh.toUInt64 >>> ((33 : Int32) &&& 0x3f).toInt64.toUInt64).toInt64)) * (-49064778989728563 : Int64)).toUInt64 >>> ((33 : Int32) &&& 0x3f).toInt64.toUInt64).toInt64)) * (-4265267296055464877 : Int64)).toUInt64 >>> ((33 : Int32) &&& 0x3f).toInt64.toUInt64).toInt64)))])) (fun t kt => ?_) ?_
    · show Steps p.tables e below (T1.setTop (mkF m 49 #[.val (.ref a0), .val (.long vh), .second, .val (.ref b), .val (.int n), .val (.int (0 : Int32)), .unset] [])) t
      refine XS.lloadN X1.here hx rfl (hb hby d9_49) rfl ?_
      show Steps p.tables e below (T1.setTop (mkF m 50 #[.val (.ref a0), .val (.long vh), .second, .val (.ref b), .val (.int n), .val (.int (0 : Int32)), .unset] [(.long vh)])) t
      refine XS.lloadN X1.here hx rfl (hb hby d9_50) rfl ?_
      show Steps p.tables e below (T1.setTop (mkF m 51 #[.val (.ref a0), .val (.long vh), .second, .val (.ref b), .val (.int n), .val (.int (0 : Int32)), .unset] [(.long vh), (.long vh)])) t
      refine XS.bipush X1.here hx rfl (hb hby d9_51) ?_
      show Steps p.tables e below (T1.setTop (mkF m 53 #[.val (.ref a0), .val (.long vh), .second, .val (.ref b), .val (.int n), .val (.int (0 : Int32)), .unset] [(.int (33 : Int32)), (.long vh), (.long vh)])) t
      refine XS.lushr X1.here hx rfl (hb hby d9_53) rfl ?_
      show Steps p.tables e below (T1.setTop (mkF m 54 #[.val (.ref a0), .val (.long vh), .second, .val (.ref b), .val (.int n), .val (.int (0 : Int32)), .unset] [(.long ((vh.toUInt64 >>> ((33 : Int32) &&& 0x3f).toInt64.toUInt64).toInt64)), (.long vh)])) t
      refine XS.lxor X1.here hx rfl (hb hby d9_54) rfl ?_
      show Steps p.tables e below (T1.setTop (mkF m 55 #[.val (.ref a0), .val (.long vh), .second, .val (.ref b), .val (.int n), .val (.int (0 : Int32)), .unset] [(.long (vh ^^^ ((vh.toUInt64 >>> ((33 : Int32) &&& 0x3f).toInt64.toUInt64).toInt64)))])) t
      refine X1.ldc2Long hx hown (mvT hZ (hw _ (List.mem_of_getElem? (i := 44) rfl))) (g := (mkF m 55 #[.val (.ref a0), .val (.long vh), .second, .val (.ref b), .val (.int n), .val (.int (0 : Int32)), .unset] [(.long (vh ^^^ ((vh.toUInt64 >>> ((33 : Int32) &&& 0x3f).toInt64.toUInt64).toInt64)))])) rfl (hb hby d9_55) _ ?_
      show Steps p.tables e below (T1.setTop (mkF m 58 #[.val (.ref a0), .val (.long vh), .second, .val (.ref b), .val (.int n), .val (.int (0 : Int32)), .unset] [(.long (-49064778989728563 : Int64)), (.long (vh ^^^ ((vh.toUInt64 >>> ((33 : Int32) &&& 0x3f).toInt64.toUInt64).toInt64)))])) t
      refine XS.lmul X1.here hx rfl (hb hby d9_58) rfl ?_
      show Steps p.tables e below (T1.setTop (mkF m 59 #[.val (.ref a0), .val (.long vh), .second, .val (.ref b), .val (.int n), .val (.int (0 : Int32)), .unset] [(.long ((vh ^^^ ((vh.toUInt64 >>> ((33 : Int32) &&& 0x3f).toInt64.toUInt64).toInt64)) * (-49064778989728563 : Int64)))])) t
      refine XS.lstoreN X1.here hx rfl (hb hby d9_59) rfl (l' := #[.val (.ref a0), .val (.long ((vh ^^^ ((vh.toUInt64 >>> ((33 : Int32) &&& 0x3f).toInt64.toUInt64).toInt64)) * (-49064778989728563 : Int64))), .second, .val (.ref b), .val (.int n), .val (.int (0 : Int32)), .unset]) rfl ?_
      show Steps p.tables e below (T1.setTop (mkF m 60 #[.val (.ref a0), .val (.long ((vh ^^^ ((vh.toUInt64 >>> ((33 : Int32) &&& 0x3f).toInt64.toUInt64).toInt64)) * (-49064778989728563 : Int64))), .second, .val (.ref b), .val (.int n), .val (.int (0 : Int32)), .unset] [])) t
      refine XS.lloadN X1.here hx rfl (hb hby d9_60) rfl ?_
      show Steps p.tables e below (T1.setTop (mkF m 61 #[.val (.ref a0), .val (.long ((vh ^^^ ((vh.toUInt64 >>> ((33 : Int32) &&& 0x3f).toInt64.toUInt64).toInt64)) * (-49064778989728563 : Int64))), .second, .val (.ref b), .val (.int n), .val (.int (0 : Int32)), .unset] [(.long ((vh ^^^ ((vh.toUInt64 >>> ((33 : Int32) &&& 0x3f).toInt64.toUInt64).toInt64)) * (-49064778989728563 : Int64)))])) t
      refine XS.lloadN X1.here hx rfl (hb hby d9_61) rfl ?_
      show Steps p.tables e below (T1.setTop (mkF m 62 #[.val (.ref a0), .val (.long ((vh ^^^ ((vh.toUInt64 >>> ((33 : Int32) &&& 0x3f).toInt64.toUInt64).toInt64)) * (-49064778989728563 : Int64))), .second, .val (.ref b), .val (.int n), .val (.int (0 : Int32)), .unset] [(.long ((vh ^^^ ((vh.toUInt64 >>> ((33 : Int32) &&& 0x3f).toInt64.toUInt64).toInt64)) * (-49064778989728563 : Int64))), (.long ((vh ^^^ ((vh.toUInt64 >>> ((33 : Int32) &&& 0x3f).toInt64.toUInt64).toInt64)) * (-49064778989728563 : Int64)))])) t
      refine XS.bipush X1.here hx rfl (hb hby d9_62) ?_
      show Steps p.tables e below (T1.setTop (mkF m 64 #[.val (.ref a0), .val (.long ((vh ^^^ ((vh.toUInt64 >>> ((33 : Int32) &&& 0x3f).toInt64.toUInt64).toInt64)) * (-49064778989728563 : Int64))), .second, .val (.ref b), .val (.int n), .val (.int (0 : Int32)), .unset] [(.int (33 : Int32)), (.long ((vh ^^^ ((vh.toUInt64 >>> ((33 : Int32) &&& 0x3f).toInt64.toUInt64).toInt64)) * (-49064778989728563 : Int64))), (.long ((vh ^^^ ((vh.toUInt64 >>> ((33 : Int32) &&& 0x3f).toInt64.toUInt64).toInt64)) * (-49064778989728563 : Int64)))])) t
      refine XS.lushr X1.here hx rfl (hb hby d9_64) rfl ?_
      show Steps p.tables e below (T1.setTop (mkF m 65 #[.val (.ref a0), .val (.long ((vh ^^^ ((vh.toUInt64 >>> ((33 : Int32) &&& 0x3f).toInt64.toUInt64).toInt64)) * (-49064778989728563 : Int64))), .second, .val (.ref b), .val (.int n), .val (.int (0 : Int32)), .unset] [(.long ((((vh ^^^ ((vh.toUInt64 >>> ((33 : Int32) &&& 0x3f).toInt64.toUInt64).toInt64)) * (-49064778989728563 : Int64)).toUInt64 >>> ((33 : Int32) &&& 0x3f).toInt64.toUInt64).toInt64)), (.long ((vh ^^^ ((vh.toUInt64 >>> ((33 : Int32) &&& 0x3f).toInt64.toUInt64).toInt64)) * (-49064778989728563 : Int64)))])) t
      refine XS.lxor X1.here hx rfl (hb hby d9_65) rfl ?_
      show Steps p.tables e below (T1.setTop (mkF m 66 #[.val (.ref a0), .val (.long ((vh ^^^ ((vh.toUInt64 >>> ((33 : Int32) &&& 0x3f).toInt64.toUInt64).toInt64)) * (-49064778989728563 : Int64))), .second, .val (.ref b), .val (.int n), .val (.int (0 : Int32)), .unset] [(.long (((vh ^^^ ((vh.toUInt64 >>> ((33 : Int32) &&& 0x3f).toInt64.toUInt64).toInt64)) * (-49064778989728563 : Int64)) ^^^ ((((vh ^^^ ((vh.toUInt64 >>> ((33 : Int32) &&& 0x3f).toInt64.toUInt64).toInt64)) * (-49064778989728563 : Int64)).toUInt64 >>> ((33 : Int32) &&& 0x3f).toInt64.toUInt64).toInt64)))])) t
      refine X1.ldc2Long hx hown (mvT hZ (hw _ (List.mem_of_getElem? (i := 45) rfl))) (g := (mkF m 66 #[.val (.ref a0), .val (.long ((vh ^^^ ((vh.toUInt64 >>> ((33 : Int32) &&& 0x3f).toInt64.toUInt64).toInt64)) * (-49064778989728563 : Int64))), .second, .val (.ref b), .val (.int n), .val (.int (0 : Int32)), .unset] [(.long (((vh ^^^ ((vh.toUInt64 >>> ((33 : Int32) &&& 0x3f).toInt64.toUInt64).toInt64)) * (-49064778989728563 : Int64)) ^^^ ((((vh ^^^ ((vh.toUInt64 >>> ((33 : Int32) &&& 0x3f).toInt64.toUInt64).toInt64)) * (-49064778989728563 : Int64)).toUInt64 >>> ((33 : Int32) &&& 0x3f).toInt64.toUInt64).toInt64)))])) rfl (hb hby d9_66) _ ?_
      show Steps p.tables e below (T1.setTop (mkF m 69 #[.val (.ref a0), .val (.long ((vh ^^^ ((vh.toUInt64 >>> ((33 : Int32) &&& 0x3f).toInt64.toUInt64).toInt64)) * (-49064778989728563 : Int64))), .second, .val (.ref b), .val (.int n), .val (.int (0 : Int32)), .unset] [(.long (-4265267296055464877 : Int64)), (.long (((vh ^^^ ((vh.toUInt64 >>> ((33 : Int32) &&& 0x3f).toInt64.toUInt64).toInt64)) * (-49064778989728563 : Int64)) ^^^ ((((vh ^^^ ((vh.toUInt64 >>> ((33 : Int32) &&& 0x3f).toInt64.toUInt64).toInt64)) * (-49064778989728563 : Int64)).toUInt64 >>> ((33 : Int32) &&& 0x3f).toInt64.toUInt64).toInt64)))])) t
      refine XS.lmul X1.here hx rfl (hb hby d9_69) rfl ?_
      show Steps p.tables e below (T1.setTop (mkF m 70 #[.val (.ref a0), .val (.long ((vh ^^^ ((vh.toUInt64 >>> ((33 : Int32) &&& 0x3f).toInt64.toUInt64).toInt64)) * (-49064778989728563 : Int64))), .second, .val (.ref b), .val (.int n), .val (.int (0 : Int32)), .unset] [(.long ((((vh ^^^ ((vh.toUInt64 >>> ((33 : Int32) &&& 0x3f).toInt64.toUInt64).toInt64)) * (-49064778989728563 : Int64)) ^^^ ((((vh ^^^ ((vh.toUInt64 >>> ((33 : Int32) &&& 0x3f).toInt64.toUInt64).toInt64)) * (-49064778989728563 : Int64)).toUInt64 >>> ((33 : Int32) &&& 0x3f).toInt64.toUInt64).toInt64)) * (-4265267296055464877 : Int64)))])) t
      refine XS.lstoreN X1.here hx rfl (hb hby d9_70) rfl (l' := #[.val (.ref a0), .val (.long ((((vh ^^^ ((vh.toUInt64 >>> ((33 : Int32) &&& 0x3f).toInt64.toUInt64).toInt64)) * (-49064778989728563 : Int64)) ^^^ ((((vh ^^^ ((vh.toUInt64 >>> ((33 : Int32) &&& 0x3f).toInt64.toUInt64).toInt64)) * (-49064778989728563 : Int64)).toUInt64 >>> ((33 : Int32) &&& 0x3f).toInt64.toUInt64).toInt64)) * (-4265267296055464877 : Int64))), .second, .val (.ref b), .val (.int n), .val (.int (0 : Int32)), .unset]) rfl ?_
      show Steps p.tables e below (T1.setTop (mkF m 71 #[.val (.ref a0), .val (.long ((((vh ^^^ ((vh.toUInt64 >>> ((33 : Int32) &&& 0x3f).toInt64.toUInt64).toInt64)) * (-49064778989728563 : Int64)) ^^^ ((((vh ^^^ ((vh.toUInt64 >>> ((33 : Int32) &&& 0x3f).toInt64.toUInt64).toInt64)) * (-49064778989728563 : Int64)).toUInt64 >>> ((33 : Int32) &&& 0x3f).toInt64.toUInt64).toInt64)) * (-4265267296055464877 : Int64))), .second, .val (.ref b), .val (.int n), .val (.int (0 : Int32)), .unset] [])) t
      refine XS.lloadN X1.here hx rfl (hb hby d9_71) rfl ?_
      show Steps p.tables e below (T1.setTop (mkF m 72 #[.val (.ref a0), .val (.long ((((vh ^^^ ((vh.toUInt64 >>> ((33 : Int32) &&& 0x3f).toInt64.toUInt64).toInt64)) * (-49064778989728563 : Int64)) ^^^ ((((vh ^^^ ((vh.toUInt64 >>> ((33 : Int32) &&& 0x3f).toInt64.toUInt64).toInt64)) * (-49064778989728563 : Int64)).toUInt64 >>> ((33 : Int32) &&& 0x3f).toInt64.toUInt64).toInt64)) * (-4265267296055464877 : Int64))), .second, .val (.ref b), .val (.int n), .val (.int (0 : Int32)), .unset] [(.long ((((vh ^^^ ((vh.toUInt64 >>> ((33 : Int32) &&& 0x3f).toInt64.toUInt64).toInt64)) * (-49064778989728563 : Int64)) ^^^ ((((vh ^^^ ((vh.toUInt64 >>> ((33 : Int32) &&& 0x3f).toInt64.toUInt64).toInt64)) * (-49064778989728563 : Int64)).toUInt64 >>> ((33 : Int32) &&& 0x3f).toInt64.toUInt64).toInt64)) * (-4265267296055464877 : Int64)))])) t
      refine XS.lloadN X1.here hx rfl (hb hby d9_72) rfl ?_
      show Steps p.tables e below (T1.setTop (mkF m 73 #[.val (.ref a0), .val (.long ((((vh ^^^ ((vh.toUInt64 >>> ((33 : Int32) &&& 0x3f).toInt64.toUInt64).toInt64)) * (-49064778989728563 : Int64)) ^^^ ((((vh ^^^ ((vh.toUInt64 >>> ((33 : Int32) &&& 0x3f).toInt64.toUInt64).toInt64)) * (-49064778989728563 : Int64)).toUInt64 >>> ((33 : Int32) &&& 0x3f).toInt64.toUInt64).toInt64)) * (-4265267296055464877 : Int64))), .second, .val (.ref b), .val (.int n), .val (.int (0 : Int32)), .unset] [(.long ((((vh ^^^ ((vh.toUInt64 >>> ((33 : Int32) &&& 0x3f).toInt64.toUInt64).toInt64)) * (-49064778989728563 : Int64)) ^^^ ((((vh ^^^ ((vh.toUInt64 >>> ((33 : Int32) &&& 0x3f).toInt64.toUInt64).toInt64)) * (-49064778989728563 : Int64)).toUInt64 >>> ((33 : Int32) &&& 0x3f).toInt64.toUInt64).toInt64)) * (-4265267296055464877 : Int64))), (.long ((((vh ^^^ ((vh.toUInt64 >>> ((33 : Int32) &&& 0x3f).toInt64.toUInt64).toInt64)) * (-49064778989728563 : Int64)) ^^^ ((((vh ^^^ ((vh.toUInt64 >>> ((33 : Int32) &&& 0x3f).toInt64.toUInt64).toInt64)) * (-49064778989728563 : Int64)).toUInt64 >>> ((33 : Int32) &&& 0x3f).toInt64.toUInt64).toInt64)) * (-4265267296055464877 : Int64)))])) t
      refine XS.bipush X1.here hx rfl (hb hby d9_73) ?_
      show Steps p.tables e below (T1.setTop (mkF m 75 #[.val (.ref a0), .val (.long ((((vh ^^^ ((vh.toUInt64 >>> ((33 : Int32) &&& 0x3f).toInt64.toUInt64).toInt64)) * (-49064778989728563 : Int64)) ^^^ ((((vh ^^^ ((vh.toUInt64 >>> ((33 : Int32) &&& 0x3f).toInt64.toUInt64).toInt64)) * (-49064778989728563 : Int64)).toUInt64 >>> ((33 : Int32) &&& 0x3f).toInt64.toUInt64).toInt64)) * (-4265267296055464877 : Int64))), .second, .val (.ref b), .val (.int n), .val (.int (0 : Int32)), .unset] [(.int (33 : Int32)), (.long ((((vh ^^^ ((vh.toUInt64 >>> ((33 : Int32) &&& 0x3f).toInt64.toUInt64).toInt64)) * (-49064778989728563 : Int64)) ^^^ ((((vh ^^^ ((vh.toUInt64 >>> ((33 : Int32) &&& 0x3f).toInt64.toUInt64).toInt64)) * (-49064778989728563 : Int64)).toUInt64 >>> ((33 : Int32) &&& 0x3f).toInt64.toUInt64).toInt64)) * (-4265267296055464877 : Int64))), (.long ((((vh ^^^ ((vh.toUInt64 >>> ((33 : Int32) &&& 0x3f).toInt64.toUInt64).toInt64)) * (-49064778989728563 : Int64)) ^^^ ((((vh ^^^ ((vh.toUInt64 >>> ((33 : Int32) &&& 0x3f).toInt64.toUInt64).toInt64)) * (-49064778989728563 : Int64)).toUInt64 >>> ((33 : Int32) &&& 0x3f).toInt64.toUInt64).toInt64)) * (-4265267296055464877 : Int64)))])) t
      refine XS.lushr X1.here hx rfl (hb hby d9_75) rfl ?_
      show Steps p.tables e below (T1.setTop (mkF m 76 #[.val (.ref a0), .val (.long ((((vh ^^^ ((vh.toUInt64 >>> ((33 : Int32) &&& 0x3f).toInt64.toUInt64).toInt64)) * (-49064778989728563 : Int64)) ^^^ ((((vh ^^^ ((vh.toUInt64 >>> ((33 : Int32) &&& 0x3f).toInt64.toUInt64).toInt64)) * (-49064778989728563 : Int64)).toUInt64 >>> ((33 : Int32) &&& 0x3f).toInt64.toUInt64).toInt64)) * (-4265267296055464877 : Int64))), .second, .val (.ref b), .val (.int n), .val (.int (0 : Int32)), .unset] [(.long ((((((vh ^^^ ((vh.toUInt64 >>> ((33 : Int32) &&& 0x3f).toInt64.toUInt64).toInt64)) * (-49064778989728563 : Int64)) ^^^ ((((vh ^^^ ((vh.toUInt64 >>> ((33 : Int32) &&& 0x3f).toInt64.toUInt64).toInt64)) * (-49064778989728563 : Int64)).toUInt64 >>> ((33 : Int32) &&& 0x3f).toInt64.toUInt64).toInt64)) * (-4265267296055464877 : Int64)).toUInt64 >>> ((33 : Int32) &&& 0x3f).toInt64.toUInt64).toInt64)), (.long ((((vh ^^^ ((vh.toUInt64 >>> ((33 : Int32) &&& 0x3f).toInt64.toUInt64).toInt64)) * (-49064778989728563 : Int64)) ^^^ ((((vh ^^^ ((vh.toUInt64 >>> ((33 : Int32) &&& 0x3f).toInt64.toUInt64).toInt64)) * (-49064778989728563 : Int64)).toUInt64 >>> ((33 : Int32) &&& 0x3f).toInt64.toUInt64).toInt64)) * (-4265267296055464877 : Int64)))])) t
      refine XS.lxor X1.here hx rfl (hb hby d9_76) rfl ?_
      exact kt
    obtain ⟨fs, hr, hrun, hended, hW, hsame⟩ := X1.leave (v := some (.long (((((vh ^^^ ((vh.toUInt64 >>> ((33 : Int32) &&& 0x3f).toInt64.toUInt64).toInt64)) * (-49064778989728563 : Int64)) ^^^ ((((vh ^^^ ((vh.toUInt64 >>> ((33 : Int32) &&& 0x3f).toInt64.toUInt64).toInt64)) * (-49064778989728563 : Int64)).toUInt64 >>> ((33 : Int32) &&& 0x3f).toInt64.toUInt64).toInt64)) * (-4265267296055464877 : Int64)) ^^^ ((((((vh ^^^ ((vh.toUInt64 >>> ((33 : Int32) &&& 0x3f).toInt64.toUInt64).toInt64)) * (-49064778989728563 : Int64)) ^^^ ((((vh ^^^ ((vh.toUInt64 >>> ((33 : Int32) &&& 0x3f).toInt64.toUInt64).toInt64)) * (-49064778989728563 : Int64)).toUInt64 >>> ((33 : Int32) &&& 0x3f).toInt64.toUInt64).toInt64)) * (-4265267296055464877 : Int64)).toUInt64 >>> ((33 : Int32) &&& 0x3f).toInt64.toUInt64).toInt64)))) (fun h => by rw [Bd.returns] at h; cases h)
    refine ⟨_, _, ?_, hrun, hended, _, _, rfl, ?_, ⟨_, rfl⟩, hW, hsame.mono (by decide) (by decide)⟩
    · exact own_retL X1 hx Bd.returns (hb hby d9_77) hr
    · show Q9 Z a0 b n g h0 n0 _ T1.heap _
      rw [e1]
      exact ⟨(by rw [own_hash, own_acc, if_neg hc20_3, h_vh]; rfl), N0, rfl⟩
theorem pd_7 : parseMethodDescriptor "()J" = some ⟨[], some .long⟩ := by decide +kernel
theorem d8_0 : decode prog_28_method_3_code 0 = .ok (.aload_n 0, 1) := by decide +kernel
theorem d8_1 : decode prog_28_method_3_code 1 = .ok (.invokevirtual 19, 3) := by decide +kernel
theorem d8_4 : decode prog_28_method_3_code 4 = .ok (.lstore_n 1, 1) := by decide +kernel
theorem d8_5 : decode prog_28_method_3_code 5 = .ok (.lload_n 1, 1) := by decide +kernel
theorem d8_6 : decode prog_28_method_3_code 6 = .ok (.lload_n 1, 1) := by decide +kernel
theorem d8_7 : decode prog_28_method_3_code 7 = .ok (.bipush 32, 2) := by decide +kernel
theorem d8_9 : decode prog_28_method_3_code 9 = .ok (.lushr, 1) := by decide +kernel
theorem d8_10 : decode prog_28_method_3_code 10 = .ok (.lxor, 1) := by decide +kernel
theorem d8_11 : decode prog_28_method_3_code 11 = .ok (.l2i, 1) := by decide +kernel
theorem d8_12 : decode prog_28_method_3_code 12 = .ok (.ireturn, 1) := by decide +kernel
theorem ef_rm8 (m : MethodId) (a0 : Addr) : entryFrame m #[(.ref a0)] 3 = mkF m 0 #[.val (.ref a0), .unset, .unset] [] := by first | (simp [entryFrame, mkF, argsToLocals, Value.category]; done) | rfl
def Q8 (Z : State) (a0 : Addr) (b : Addr) (n : Int32) (g : Nat → Int32) (h0 : Heap) (n0 : Nat) (v : Option Value) (h : Heap) (L : List Loc) : Prop := v = some (.int (own_f7 (own_hash n g))) ∧ Fr n0 L ∧ h = h0
set_option maxRecDepth 65536 in
set_option maxHeartbeats 40000000 in
theorem rm8 (l : Launch) (Z : State) (aw : Array Value) (hw : ∀ d ∈ tables_1, d.before aw Z = true) (ws : List Jvm.Cond) (a0 : Addr) (b : Addr) (n : Int32) (g : Nat → Int32) (h0 : Heap) (n0 : Nat) (Z0 : n0 ≤ h0.size) (E_a0 : Exa Z h0 a0 "com/example/honeyguide/honeyguide/index/Runs$Key") (F_a0 : Fld Z h0 a0 "com/example/honeyguide/honeyguide/index/Runs$Key" "bytes" "[B" (.ref b)) (V_b : AF Z h0 b .byte n (fun i => .int (g i))) (hn8 : n.toNatClampNeg ≤ 8) :
    MetFree l (⟨"com/example/honeyguide/honeyguide/index/Runs$Key", "hashCode", "()I"⟩ : MethodName) (head1 (Jvm.Cond.code (⟨"com/example/honeyguide/honeyguide/index/Runs$Key", "hashCode", "()I"⟩ : MethodName) prog_28_method_3_code 3 (some .int) :: ws) ({ frames := 1, cells := 0, slots := 0, locals := 18 } : Room)) (fun a U => a = #[(.ref a0)] ∧ Z.Warmed39 U.vm ∧ U.heap = h0) (fun _ _ _ _ _ => True) (fun _ U o U' => ∃ v L, o = .returned v ∧ Q8 Z a0 b n g h0 n0 v U'.heap L ∧ FrameEnd U o U' L ({ frames := 1, cells := 0, slots := 0, locals := 18 } : Room).cells ({ frames := 1, cells := 0, slots := 0, locals := 18 } : Room).slots) := by
  refine MetFree.of_bodySF (plainFor_of_name pn_4) hisR ?_
  intro p e s m args below meth c s₁ Bd hml0 hP hK
  obtain ⟨rfl, hZ, hh⟩ := hP
  have hx := Bd.exec
  have hby := Bd.bytes
  have hml : c.maxLocals = 3 := hml0
  have hown : s.vm.findClass "com/example/honeyguide/honeyguide/index/Runs$Key" = some m.cls := findClass_of_methodNamed Bd.named
  have hnm := (name_of_methodNamed Bd.named Bd.method).1
  have X0 : Stand p l e ({ frames := 1, cells := 0, slots := 0, locals := 18 } : Room) s m #[(.ref a0)] below meth c s₁ [] 0 0 := Stand.of_body Bd
  have e0 : s₁.heap = h0 := by rw [← hh, Bd.state]; rfl
  have N0 := Fr.nil n0
  have K0 : Keep h0 h0 [] := Keep.refl _ _
  refine own_by (A' := s₁.setTop (mkF m 0 #[.val (.ref a0), .unset, .unset] [])) (fun t k => castTop (ef_rm8 m a0) k) ?_
  refine own_by (A' := s₁.setTop (mkF m 1 #[.val (.ref a0), .unset, .unset] [(.ref a0)])) (fun t kt => ?_) ?_
  · show Steps p.tables e below (s₁.setTop (mkF m 0 #[.val (.ref a0), .unset, .unset] [])) t
    refine XS.aloadN X0.here hx rfl (hb hby d8_0) rfl rfl ?_
    exact kt
  obtain ⟨cq1, kq1, q1a, q1b, q1c⟩ := isOf hZ e0 E_a0
  obtain ⟨_, _, ⟨T1, L1, k1, n1⟩, -, X1, ⟨Lc1, hQ1, l1, y1, z1⟩, st1⟩ := X0.virtualBack hx (y := (⟨"com/example/honeyguide/honeyguide/index/Runs$Key", "hash", "()J"⟩ : MethodName)) (z := (⟨"com/example/honeyguide/honeyguide/index/Runs$Key", "hash", "()J"⟩ : MethodName)) hown (mvT hZ (hw _ (List.mem_of_getElem? (i := 38) rfl))) (mvT hZ (hw _ (List.mem_of_getElem? (i := 39) rfl))) (notFace_of_selects (args := #[]) (mvT hZ (hw _ (List.mem_of_getElem? (i := 41) rfl)))) (mvT hZ (hw _ (List.mem_of_getElem? (i := 41) rfl))) (mvT hZ (hw _ (List.mem_of_getElem? (i := 40) rfl))) (by decide) (backOf (W := 0) (rm9 l Z aw hw [] a0 b n g h0 n0 (Nat.le_trans Z0 K0.1) F_a0 V_b hn8) hZ (hw _ (List.mem_of_getElem? (i := 42) rfl)) (hw _ (List.mem_of_getElem? (i := 7) rfl)) (by decide) (by decide)) q1a q1c (g := (mkF m 1 #[.val (.ref a0), .unset, .unset] [(.ref a0)])) rfl (by rw [hml]; rfl) (Steps.refl _) (argsL := []) (rest := []) (lenOf pd_7 rfl) rfl (by show 2 * 0 + _ ≤ _; exact Nat.le_of_eq rfl) (hb hby d8_1) (fun _ _ => ⟨rfl, e0, (by decide : 0 + 0 ≤ _), (by decide : 0 + 0 ≤ _)⟩)
  dsimp only [Pt.U, Pt.locs, Pt.cells, Pt.slots] at X1 l1 y1 z1 st1 hQ1
  subst l1 y1 z1
  obtain ⟨rfl, N1q, e1⟩ := hQ1
  have N1 := Fr.app N0 N1q
  refine own_by (A' := T1.setTop (mkF m 4 #[.val (.ref a0), .unset, .unset] [(.long (own_hash n g))])) (fun t kt => st1.trans kt) ?_
  refine own_by (A' := T1.setTop (mkF m 12 #[.val (.ref a0), .val (.long (own_hash n g)), .second] [(.int (((own_hash n g) ^^^ (((own_hash n g).toUInt64 >>> ((32 : Int32) &&& 0x3f).toInt64.toUInt64).toInt64)).toInt32))])) (fun t kt => ?_) ?_
  · show Steps p.tables e below (T1.setTop (mkF m 4 #[.val (.ref a0), .unset, .unset] [(.long (own_hash n g))])) t
    refine XS.lstoreN X1.here hx rfl (hb hby d8_4) rfl (l' := #[.val (.ref a0), .val (.long (own_hash n g)), .second]) rfl ?_
    show Steps p.tables e below (T1.setTop (mkF m 5 #[.val (.ref a0), .val (.long (own_hash n g)), .second] [])) t
    refine XS.lloadN X1.here hx rfl (hb hby d8_5) rfl ?_
    show Steps p.tables e below (T1.setTop (mkF m 6 #[.val (.ref a0), .val (.long (own_hash n g)), .second] [(.long (own_hash n g))])) t
    refine XS.lloadN X1.here hx rfl (hb hby d8_6) rfl ?_
    show Steps p.tables e below (T1.setTop (mkF m 7 #[.val (.ref a0), .val (.long (own_hash n g)), .second] [(.long (own_hash n g)), (.long (own_hash n g))])) t
    refine XS.bipush X1.here hx rfl (hb hby d8_7) ?_
    show Steps p.tables e below (T1.setTop (mkF m 9 #[.val (.ref a0), .val (.long (own_hash n g)), .second] [(.int (32 : Int32)), (.long (own_hash n g)), (.long (own_hash n g))])) t
    refine XS.lushr X1.here hx rfl (hb hby d8_9) rfl ?_
    show Steps p.tables e below (T1.setTop (mkF m 10 #[.val (.ref a0), .val (.long (own_hash n g)), .second] [(.long (((own_hash n g).toUInt64 >>> ((32 : Int32) &&& 0x3f).toInt64.toUInt64).toInt64)), (.long (own_hash n g))])) t
    refine XS.lxor X1.here hx rfl (hb hby d8_10) rfl ?_
    show Steps p.tables e below (T1.setTop (mkF m 11 #[.val (.ref a0), .val (.long (own_hash n g)), .second] [(.long ((own_hash n g) ^^^ (((own_hash n g).toUInt64 >>> ((32 : Int32) &&& 0x3f).toInt64.toUInt64).toInt64)))])) t
    refine XS.l2i X1.here hx rfl (hb hby d8_11) rfl ?_
    exact kt
  obtain ⟨fs, hr, hrun, hended, hW, hsame⟩ := X1.leave (v := some (.int (((own_hash n g) ^^^ (((own_hash n g).toUInt64 >>> ((32 : Int32) &&& 0x3f).toInt64.toUInt64).toInt64)).toInt32))) (fun h => by rw [Bd.returns] at h; cases h)
  refine ⟨_, _, ?_, hrun, hended, _, _, rfl, ?_, ⟨_, rfl⟩, hW, hsame.mono (by decide) (by decide)⟩
  · exact retI X1 hx Bd.returns (hb hby d8_12) hr
  · show Q8 Z a0 b n g h0 n0 _ T1.heap _
    rw [e1]
    exact ⟨(by rw [own_f7]), N1, rfl⟩
theorem own_oct (x : Int64) : (nar .byte (nar .byte ((x.toInt32).toInt8.toInt32)) &&& (255 : Int32)) = (x &&& (255 : Int64)).toInt32 := by
  show ((x.toInt32.toInt8.toInt32.toInt8.toInt32.toInt8.toInt32) &&& (255 : Int32)) = _
  apply Int32.toInt_inj.mp
  have h0 := c_mask (x.toInt32.toInt8.toInt32.toInt8.toInt32.toInt8.toInt32) 255 8 (by decide) (by decide)
  have h1 := c_maskL x 255 8 (by decide) (by decide)
  have h2 := c_l2i x; have h3 := c_i2b x.toInt32; have h3' := c_i2b x.toInt32.toInt8.toInt32; have h3'' := c_i2b x.toInt32.toInt8.toInt32.toInt8.toInt32; have h4 := c_l2i (x &&& (255 : Int64)); have h5 := rng32 (x &&& (255 : Int64)).toInt32
  omega
theorem own_both (n : Int32) (b : Int64) : own_acc n (own_g b) = own_f5 n b := by
  simp only [own_acc, own_f5, own_f12, own_f11, own_g, own_f10, own_oct]
  rfl
theorem own_n (a : Int32) : ¬ ((a &&& (15 : Int32)) % (9 : Int32)) < 0 ∧ ((a &&& (15 : Int32)) % (9 : Int32)).toNatClampNeg ≤ 8 := by
  have h := c_mask a 15 4 (by decide) (by decide)
  have h2 := c_irem (a &&& (15 : Int32)) 9 9 (by decide)
  rw [Int32.lt_iff_toInt_lt, show (0 : Int32).toInt = 0 from by decide]; simp only [Int32.toNatClampNeg]
  omega
theorem pd_8 : parseMethodDescriptor "(IJ)[B" = some ⟨[.int, .long], some (.array .byte)⟩ := by decide +kernel
theorem pd_9 : parseMethodDescriptor "([B)V" = some ⟨[(.array .byte)], none⟩ := by decide +kernel
theorem pd_10 : parseMethodDescriptor "(IJ)J" = some ⟨[.int, .long], some .long⟩ := by decide +kernel
theorem pd_11 : parseMethodDescriptor "(J)J" = some ⟨[.long], some .long⟩ := by decide +kernel
theorem pd_12 : parseMethodDescriptor "(J)I" = some ⟨[.long], some .int⟩ := by decide +kernel
theorem pd_13 : parseMethodDescriptor "()I" = some ⟨[], some .int⟩ := by decide +kernel
theorem ef_rm0 (m : MethodId) (p0 : Int32) (q1 : Int64) : entryFrame m #[(.int p0), (.long q1)] maxLocals = mkF m 0 #[.val (.int p0), .val (.long q1), .second, .unset, .unset, .unset, .unset, .unset, .unset] [] := by first | (simp [entryFrame, mkF, argsToLocals, Value.category, maxLocals]; done) | rfl
def Q0 (Z : State) (p0 : Int32) (q1 : Int64) (h0 : Heap) (n0 : Nat) (v : Option Value) (h : Heap) (L : List Loc) : Prop := v = some (.int 1) ∧ Fr n0 L
set_option maxRecDepth 65536 in
set_option maxHeartbeats 40000000 in
theorem rm0 (l : Launch) (Z : State) (aw : Array Value) (hw : ∀ d ∈ tables_1, d.before aw Z = true) (ws : List Jvm.Cond) (p0 : Int32) (q1 : Int64) (h0 : Heap) (n0 : Nat) (Z0 : n0 ≤ h0.size) :
    MetFree l x (head1 (Jvm.Cond.code x code maxLocals ret :: ws) room_1) (fun a U => a = #[(.int p0), (.long q1)] ∧ Z.Warmed39 U.vm ∧ U.heap = h0) (fun _ _ _ _ _ => True) (fun _ U o U' => ∃ v L, o = .returned v ∧ Q0 Z p0 q1 h0 n0 v U'.heap L ∧ FrameEnd U o U' L 4 18) := by
  refine MetFree.of_bodySF (plainFor_of_name pn_0) hisR ?_
  intro p e s m args below meth c s₁ Bd hml0 hP hK
  obtain ⟨rfl, hZ, hh⟩ := hP
  have hx := Bd.exec
  have hby := Bd.bytes
  have hml : c.maxLocals = 9 := hml0
  have hown : s.vm.findClass "com/example/honeyguide/honeyguide/index/KeyHashCodePinLaw" = some m.cls := findClass_of_methodNamed Bd.named
  have hnm := (name_of_methodNamed Bd.named Bd.method).1
  have X0 : Stand p l e room_1 s m #[(.int p0), (.long q1)] below meth c s₁ [] 0 0 := Stand.of_body Bd
  have e0 : s₁.heap = h0 := by rw [← hh, Bd.state]; rfl
  have N0 := Fr.nil n0
  have K0 : Keep h0 h0 [] := Keep.refl _ _
  refine own_by (A' := s₁.setTop (mkF m 0 #[.val (.int p0), .val (.long q1), .second, .unset, .unset, .unset, .unset, .unset, .unset] [])) (fun t k => castTop (ef_rm0 m p0 q1) k) ?_
  refine own_by (A' := s₁.setTop (mkF m 8 #[.val (.int p0), .val (.long q1), .second, .val (.int ((p0 &&& (15 : Int32)) % (9 : Int32))), .unset, .unset, .unset, .unset, .unset] [])) (fun t kt => ?_) ?_
  · show Steps p.tables e below (s₁.setTop (mkF m 0 #[.val (.int p0), .val (.long q1), .second, .unset, .unset, .unset, .unset, .unset, .unset] [])) t
    refine XS.iloadN X0.here hx rfl (hb hby at_0) rfl ?_
    show Steps p.tables e below (s₁.setTop (mkF m 1 #[.val (.int p0), .val (.long q1), .second, .unset, .unset, .unset, .unset, .unset, .unset] [(.int p0)])) t
    refine XS.bipush X0.here hx rfl (hb hby at_1) ?_
    show Steps p.tables e below (s₁.setTop (mkF m 3 #[.val (.int p0), .val (.long q1), .second, .unset, .unset, .unset, .unset, .unset, .unset] [(.int (15 : Int32)), (.int p0)])) t
    refine XS.iand X0.here hx rfl (hb hby at_3) rfl ?_
    show Steps p.tables e below (s₁.setTop (mkF m 4 #[.val (.int p0), .val (.long q1), .second, .unset, .unset, .unset, .unset, .unset, .unset] [(.int (p0 &&& (15 : Int32)))])) t
    refine XS.bipush X0.here hx rfl (hb hby at_4) ?_
    show Steps p.tables e below (s₁.setTop (mkF m 6 #[.val (.int p0), .val (.long q1), .second, .unset, .unset, .unset, .unset, .unset, .unset] [(.int (9 : Int32)), (.int (p0 &&& (15 : Int32)))])) t
    refine iremM X0 hx rfl (hb hby at_6) rfl (by decide) ?_
    show Steps p.tables e below (s₁.setTop (mkF m 7 #[.val (.int p0), .val (.long q1), .second, .unset, .unset, .unset, .unset, .unset, .unset] [(.int ((p0 &&& (15 : Int32)) % (9 : Int32)))])) t
    refine XS.istoreN X0.here hx rfl (hb hby at_7) rfl (l' := #[.val (.int p0), .val (.long q1), .second, .val (.int ((p0 &&& (15 : Int32)) % (9 : Int32))), .unset, .unset, .unset, .unset, .unset]) rfl ?_
    exact kt
  generalize h_vn : ((p0 &&& (15 : Int32)) % (9 : Int32)) = vn
  have hn := own_n p0
  rw [h_vn] at hn
  refine own_by (A' := s₁.setTop (mkF m 10 #[.val (.int p0), .val (.long q1), .second, .val (.int vn), .unset, .unset, .unset, .unset, .unset] [(.long q1), (.int vn)])) (fun t kt => ?_) ?_
  · show Steps p.tables e below (s₁.setTop (mkF m 8 #[.val (.int p0), .val (.long q1), .second, .val (.int vn), .unset, .unset, .unset, .unset, .unset] [])) t
    refine XS.iloadN X0.here hx rfl (hb hby at_8) rfl ?_
    show Steps p.tables e below (s₁.setTop (mkF m 9 #[.val (.int p0), .val (.long q1), .second, .val (.int vn), .unset, .unset, .unset, .unset, .unset] [(.int vn)])) t
    refine XS.lloadN X0.here hx rfl (hb hby at_9) rfl ?_
    exact kt
  obtain ⟨_, _, ⟨T1, L1, k1, n1⟩, -, X1, ⟨Lc1, hQ1, l1, y1, z1⟩, st1⟩ := Jvm.LawKit.callS X0 hx (y := (⟨"com/example/honeyguide/honeyguide/index/KeyHashCodePinLaw", "fill", "(IJ)[B"⟩ : MethodName)) hown (mvT hZ (hw _ (List.mem_of_getElem? (i := 0) rfl))) (mvT hZ (hw _ (List.mem_of_getElem? (i := 1) rfl))) (mvT hZ (hw _ (List.mem_of_getElem? (i := 2) rfl))) (mvT hZ (hw _ (List.mem_of_getElem? (i := 3) rfl))) (by decide) (backOf (W := 0) (rm1 l Z aw hw [] vn q1 h0 n0 (Nat.le_trans Z0 K0.1) hn.1 hn.2) hZ (hw _ (List.mem_of_getElem? (i := 3) rfl)) (hw _ (List.mem_of_getElem? (i := 2) rfl)) (by decide) (by decide)) (g := (mkF m 10 #[.val (.int p0), .val (.long q1), .second, .val (.int vn), .unset, .unset, .unset, .unset, .unset] [(.long q1), (.int vn)])) rfl (by rw [hml]; rfl) (argsL := [(.int vn), (.long q1)]) (rest := []) (lenOf pd_8 rfl) rfl (by show 2 * 0 + _ ≤ _; exact Nat.le_of_eq rfl) (hb hby at_10) (fun _ _ => ⟨rfl, e0, (by decide : 0 + 1 ≤ _), (by decide : 0 + 8 ≤ _)⟩)
  dsimp only [Pt.U, Pt.locs, Pt.cells, Pt.slots] at X1 l1 y1 z1 st1 hQ1
  subst l1 y1 z1
  obtain ⟨b1, rfl, N1q, le1, Kq1, V1⟩ := hQ1
  have N1 := Fr.app N0 N1q
  have sz_b1 : h0.size ≤ b1 := Nat.le_trans K0.1 le1
  have g_b1 : n0 ≤ b1 := Nat.le_trans Z0 sz_b1
  have K1 : Keep h0 T1.heap [] := K0.trans Kq1 all0
  refine own_by (A' := T1.setTop (mkF m 13 #[.val (.int p0), .val (.long q1), .second, .val (.int vn), .unset, .unset, .unset, .unset, .unset] [(.ref b1)])) (fun t kt => st1 t kt) ?_
  refine own_by (A' := T1.setTop (mkF m 17 #[.val (.int p0), .val (.long q1), .second, .val (.int vn), .val (.ref b1), .unset, .unset, .unset, .unset] [(.long q1), (.int vn)])) (fun t kt => ?_) ?_
  · show Steps p.tables e below (T1.setTop (mkF m 13 #[.val (.int p0), .val (.long q1), .second, .val (.int vn), .unset, .unset, .unset, .unset, .unset] [(.ref b1)])) t
    refine XS.astore X1.here hx rfl (hb hby at_13) rfl rfl (l' := #[.val (.int p0), .val (.long q1), .second, .val (.int vn), .val (.ref b1), .unset, .unset, .unset, .unset]) rfl ?_
    show Steps p.tables e below (T1.setTop (mkF m 15 #[.val (.int p0), .val (.long q1), .second, .val (.int vn), .val (.ref b1), .unset, .unset, .unset, .unset] [])) t
    refine XS.iloadN X1.here hx rfl (hb hby at_15) rfl ?_
    show Steps p.tables e below (T1.setTop (mkF m 16 #[.val (.int p0), .val (.long q1), .second, .val (.int vn), .val (.ref b1), .unset, .unset, .unset, .unset] [(.int vn)])) t
    refine XS.lloadN X1.here hx rfl (hb hby at_16) rfl ?_
    exact kt
  obtain ⟨_, _, ⟨T2, L2, k2, n2⟩, -, X2, ⟨Lc2, hQ2, l2, y2, z2⟩, st2⟩ := Jvm.LawKit.callS X1 hx (y := (⟨"com/example/honeyguide/honeyguide/index/KeyHashCodePinLaw", "fill", "(IJ)[B"⟩ : MethodName)) hown (mvT hZ (hw _ (List.mem_of_getElem? (i := 0) rfl))) (mvT hZ (hw _ (List.mem_of_getElem? (i := 1) rfl))) (mvT hZ (hw _ (List.mem_of_getElem? (i := 2) rfl))) (mvT hZ (hw _ (List.mem_of_getElem? (i := 3) rfl))) (by decide) (backOf (W := 0) (rm1 l Z aw hw [] vn q1 T1.heap n0 (Nat.le_trans Z0 K1.1) hn.1 hn.2) hZ (hw _ (List.mem_of_getElem? (i := 3) rfl)) (hw _ (List.mem_of_getElem? (i := 2) rfl)) (by decide) (by decide)) (g := (mkF m 17 #[.val (.int p0), .val (.long q1), .second, .val (.int vn), .val (.ref b1), .unset, .unset, .unset, .unset] [(.long q1), (.int vn)])) rfl (by rw [hml]; rfl) (argsL := [(.int vn), (.long q1)]) (rest := []) (lenOf pd_8 rfl) rfl (by show 2 * 0 + _ ≤ _; exact Nat.le_of_eq rfl) (hb hby at_17) (fun _ _ => ⟨rfl, rfl, (by decide : 1 + 1 ≤ _), (by decide : 8 + 8 ≤ _)⟩)
  dsimp only [Pt.U, Pt.locs, Pt.cells, Pt.slots] at X2 l2 y2 z2 st2 hQ2
  subst l2 y2 z2
  obtain ⟨b2, rfl, N2q, le2, Kq2, V2⟩ := hQ2
  have N2 := Fr.app N1 N2q
  have sz_b2 : h0.size ≤ b2 := Nat.le_trans K1.1 le2
  have g_b2 : n0 ≤ b2 := Nat.le_trans Z0 sz_b2
  have K2 : Keep h0 T2.heap [] := K1.trans Kq2 all0
  refine own_by (A' := T2.setTop (mkF m 20 #[.val (.int p0), .val (.long q1), .second, .val (.int vn), .val (.ref b1), .unset, .unset, .unset, .unset] [(.ref b2)])) (fun t kt => st2 t kt) ?_
  refine own_by (A' := T2.setTop (mkF m 22 #[.val (.int p0), .val (.long q1), .second, .val (.int vn), .val (.ref b1), .val (.ref b2), .unset, .unset, .unset] [])) (fun t kt => ?_) ?_
  · show Steps p.tables e below (T2.setTop (mkF m 20 #[.val (.int p0), .val (.long q1), .second, .val (.int vn), .val (.ref b1), .unset, .unset, .unset, .unset] [(.ref b2)])) t
    refine XS.astore X2.here hx rfl (hb hby at_20) rfl rfl (l' := #[.val (.int p0), .val (.long q1), .second, .val (.int vn), .val (.ref b1), .val (.ref b2), .unset, .unset, .unset]) rfl ?_
    exact kt
  obtain ⟨T3, h3, X3, e3, E3, A3, D3, -, st3⟩ := newO X2 hx hZ hown (hw _ (List.mem_of_getElem? (i := 5) rfl)) (hw _ (List.mem_of_getElem? (i := 6) rfl)) (hw _ (List.mem_of_getElem? (i := 7) rfl)) rfl (g := (mkF m 22 #[.val (.int p0), .val (.long q1), .second, .val (.int vn), .val (.ref b1), .val (.ref b2), .unset, .unset, .unset] [])) rfl (hb hby at_22) (by decide) (by decide)
  obtain ⟨b3, g3⟩ : ∃ z, z = T2.heap.size := ⟨_, rfl⟩
  rw [← g3] at A3 D3 st3
  have sz_b3 : h0.size ≤ b3 := Nat.le_trans K2.1 (Nat.le_of_eq g3.symm)
  have g_b3 : n0 ≤ b3 := Nat.le_trans Z0 sz_b3
  have K3 : Keep h0 h3 [] := K2.ext E3
  have F_bytes_b3 : Fld Z h3 b3 "com/example/honeyguide/honeyguide/index/Runs$Key" "bytes" "[B" .null := D3 (Or.inr (hw _ (List.mem_of_getElem? (i := 20) rfl))) (ty := (.array .byte)) (by decide)
  refine own_by (A' := T3.setTop (mkF m 25 #[.val (.int p0), .val (.long q1), .second, .val (.int vn), .val (.ref b1), .val (.ref b2), .unset, .unset, .unset] [(.ref b3)])) (fun t kt => st3 t kt) ?_
  refine own_by (A' := T3.setTop (mkF m 28 #[.val (.int p0), .val (.long q1), .second, .val (.int vn), .val (.ref b1), .val (.ref b2), .unset, .unset, .unset] [(.ref b1), (.ref b3), (.ref b3)])) (fun t kt => ?_) ?_
  · show Steps p.tables e below (T3.setTop (mkF m 25 #[.val (.int p0), .val (.long q1), .second, .val (.int vn), .val (.ref b1), .val (.ref b2), .unset, .unset, .unset] [(.ref b3)])) t
    refine XS.dup X3.here hx rfl (hb hby at_25) rfl rfl ?_
    show Steps p.tables e below (T3.setTop (mkF m 26 #[.val (.int p0), .val (.long q1), .second, .val (.int vn), .val (.ref b1), .val (.ref b2), .unset, .unset, .unset] [(.ref b3), (.ref b3)])) t
    refine XS.aload X3.here hx rfl (hb hby at_26) rfl rfl ?_
    exact kt
  obtain ⟨_, _, ⟨T4, L4, k4, n4⟩, -, X4, ⟨Lc4, hQ4, l4, y4, z4⟩, st4⟩ := X3.specialBack hx (y := (⟨"com/example/honeyguide/honeyguide/index/Runs$Key", "<init>", "([B)V"⟩ : MethodName)) rfl hown (mvT hZ (hw _ (List.mem_of_getElem? (i := 8) rfl))) (mvT hZ (hw _ (List.mem_of_getElem? (i := 9) rfl))) (mvT hZ (hw _ (List.mem_of_getElem? (i := 10) rfl))) (by decide) (backOf (W := 1) (rm2 l Z aw hw [] b3 b1 h3 n0 (Nat.le_trans Z0 K3.1) A3 F_bytes_b3 g_b3) hZ (hw _ (List.mem_of_getElem? (i := 10) rfl)) (hw _ (List.mem_of_getElem? (i := 7) rfl)) (by decide) (by decide)) (g := (mkF m 28 #[.val (.int p0), .val (.long q1), .second, .val (.int vn), .val (.ref b1), .val (.ref b2), .unset, .unset, .unset] [(.ref b1), (.ref b3), (.ref b3)])) rfl (by rw [hml]; rfl) (Steps.refl _) (a := b3) (argsL := [(.ref b1)]) (rest := [(.ref b3)]) (lenOf pd_9 rfl) rfl (by show 2 * 0 + _ ≤ _; exact Nat.le_of_eq rfl) (hb hby at_28) (fun _ _ => ⟨rfl, e3, (by decide : 3 + 0 ≤ _), (by decide : 17 + 0 ≤ _)⟩)
  dsimp only [Pt.U, Pt.locs, Pt.cells, Pt.slots] at X4 l4 y4 z4 st4 hQ4
  subst l4 y4 z4
  obtain ⟨rfl, N4q, Kq4, GE4, GF4⟩ := hQ4
  have N4 := Fr.app N2 N4q
  have K4 : Keep h0 T4.heap [] := K3.trans Kq4 (allS (Or.inr sz_b3) all0)
  refine own_by (A' := T4.setTop (mkF m 31 #[.val (.int p0), .val (.long q1), .second, .val (.int vn), .val (.ref b1), .val (.ref b2), .unset, .unset, .unset] [(.ref b3)])) (fun t kt => st4.trans kt) ?_
  refine own_by (A' := T4.setTop (mkF m 33 #[.val (.int p0), .val (.long q1), .second, .val (.int vn), .val (.ref b1), .val (.ref b2), .val (.ref b3), .unset, .unset] [])) (fun t kt => ?_) ?_
  · show Steps p.tables e below (T4.setTop (mkF m 31 #[.val (.int p0), .val (.long q1), .second, .val (.int vn), .val (.ref b1), .val (.ref b2), .unset, .unset, .unset] [(.ref b3)])) t
    refine XS.astore X4.here hx rfl (hb hby at_31) rfl rfl (l' := #[.val (.int p0), .val (.long q1), .second, .val (.int vn), .val (.ref b1), .val (.ref b2), .val (.ref b3), .unset, .unset]) rfl ?_
    exact kt
  obtain ⟨T5, h5, X5, e5, E5, A5, D5, -, st5⟩ := newO X4 hx hZ hown (hw _ (List.mem_of_getElem? (i := 5) rfl)) (hw _ (List.mem_of_getElem? (i := 6) rfl)) (hw _ (List.mem_of_getElem? (i := 7) rfl)) rfl (g := (mkF m 33 #[.val (.int p0), .val (.long q1), .second, .val (.int vn), .val (.ref b1), .val (.ref b2), .val (.ref b3), .unset, .unset] [])) rfl (hb hby at_33) (by decide) (by decide)
  obtain ⟨b5, g5⟩ : ∃ z, z = T4.heap.size := ⟨_, rfl⟩
  rw [← g5] at A5 D5 st5
  have sz_b5 : h0.size ≤ b5 := Nat.le_trans K4.1 (Nat.le_of_eq g5.symm)
  have g_b5 : n0 ≤ b5 := Nat.le_trans Z0 sz_b5
  have K5 : Keep h0 h5 [] := K4.ext E5
  have F_bytes_b5 : Fld Z h5 b5 "com/example/honeyguide/honeyguide/index/Runs$Key" "bytes" "[B" .null := D5 (Or.inr (hw _ (List.mem_of_getElem? (i := 20) rfl))) (ty := (.array .byte)) (by decide)
  refine own_by (A' := T5.setTop (mkF m 36 #[.val (.int p0), .val (.long q1), .second, .val (.int vn), .val (.ref b1), .val (.ref b2), .val (.ref b3), .unset, .unset] [(.ref b5)])) (fun t kt => st5 t kt) ?_
  refine own_by (A' := T5.setTop (mkF m 39 #[.val (.int p0), .val (.long q1), .second, .val (.int vn), .val (.ref b1), .val (.ref b2), .val (.ref b3), .unset, .unset] [(.ref b2), (.ref b5), (.ref b5)])) (fun t kt => ?_) ?_
  · show Steps p.tables e below (T5.setTop (mkF m 36 #[.val (.int p0), .val (.long q1), .second, .val (.int vn), .val (.ref b1), .val (.ref b2), .val (.ref b3), .unset, .unset] [(.ref b5)])) t
    refine XS.dup X5.here hx rfl (hb hby at_36) rfl rfl ?_
    show Steps p.tables e below (T5.setTop (mkF m 37 #[.val (.int p0), .val (.long q1), .second, .val (.int vn), .val (.ref b1), .val (.ref b2), .val (.ref b3), .unset, .unset] [(.ref b5), (.ref b5)])) t
    refine XS.aload X5.here hx rfl (hb hby at_37) rfl rfl ?_
    exact kt
  obtain ⟨_, _, ⟨T6, L6, k6, n6⟩, -, X6, ⟨Lc6, hQ6, l6, y6, z6⟩, st6⟩ := X5.specialBack hx (y := (⟨"com/example/honeyguide/honeyguide/index/Runs$Key", "<init>", "([B)V"⟩ : MethodName)) rfl hown (mvT hZ (hw _ (List.mem_of_getElem? (i := 8) rfl))) (mvT hZ (hw _ (List.mem_of_getElem? (i := 9) rfl))) (mvT hZ (hw _ (List.mem_of_getElem? (i := 10) rfl))) (by decide) (backOf (W := 1) (rm2 l Z aw hw [] b5 b2 h5 n0 (Nat.le_trans Z0 K5.1) A5 F_bytes_b5 g_b5) hZ (hw _ (List.mem_of_getElem? (i := 10) rfl)) (hw _ (List.mem_of_getElem? (i := 7) rfl)) (by decide) (by decide)) (g := (mkF m 39 #[.val (.int p0), .val (.long q1), .second, .val (.int vn), .val (.ref b1), .val (.ref b2), .val (.ref b3), .unset, .unset] [(.ref b2), (.ref b5), (.ref b5)])) rfl (by rw [hml]; rfl) (Steps.refl _) (a := b5) (argsL := [(.ref b2)]) (rest := [(.ref b5)]) (lenOf pd_9 rfl) rfl (by show 2 * 0 + _ ≤ _; exact Nat.le_of_eq rfl) (hb hby at_39) (fun _ _ => ⟨rfl, e5, (by decide : 4 + 0 ≤ _), (by decide : 18 + 0 ≤ _)⟩)
  dsimp only [Pt.U, Pt.locs, Pt.cells, Pt.slots] at X6 l6 y6 z6 st6 hQ6
  subst l6 y6 z6
  obtain ⟨rfl, N6q, Kq6, GE6, GF6⟩ := hQ6
  have N6 := Fr.app N4 N6q
  have K6 : Keep h0 T6.heap [] := K5.trans Kq6 (allS (Or.inr sz_b5) all0)
  refine own_by (A' := T6.setTop (mkF m 42 #[.val (.int p0), .val (.long q1), .second, .val (.int vn), .val (.ref b1), .val (.ref b2), .val (.ref b3), .unset, .unset] [(.ref b5)])) (fun t kt => st6.trans kt) ?_
  refine own_by (A' := T6.setTop (mkF m 46 #[.val (.int p0), .val (.long q1), .second, .val (.int vn), .val (.ref b1), .val (.ref b2), .val (.ref b3), .val (.ref b5), .unset] [(.long q1), (.int vn)])) (fun t kt => ?_) ?_
  · show Steps p.tables e below (T6.setTop (mkF m 42 #[.val (.int p0), .val (.long q1), .second, .val (.int vn), .val (.ref b1), .val (.ref b2), .val (.ref b3), .unset, .unset] [(.ref b5)])) t
    refine XS.astore X6.here hx rfl (hb hby at_42) rfl rfl (l' := #[.val (.int p0), .val (.long q1), .second, .val (.int vn), .val (.ref b1), .val (.ref b2), .val (.ref b3), .val (.ref b5), .unset]) rfl ?_
    show Steps p.tables e below (T6.setTop (mkF m 44 #[.val (.int p0), .val (.long q1), .second, .val (.int vn), .val (.ref b1), .val (.ref b2), .val (.ref b3), .val (.ref b5), .unset] [])) t
    refine XS.iloadN X6.here hx rfl (hb hby at_44) rfl ?_
    show Steps p.tables e below (T6.setTop (mkF m 45 #[.val (.int p0), .val (.long q1), .second, .val (.int vn), .val (.ref b1), .val (.ref b2), .val (.ref b3), .val (.ref b5), .unset] [(.int vn)])) t
    refine XS.lloadN X6.here hx rfl (hb hby at_45) rfl ?_
    exact kt
  obtain ⟨_, _, ⟨T7, L7, k7, n7⟩, -, X7, ⟨Lc7, hQ7, l7, y7, z7⟩, st7⟩ := Jvm.LawKit.callS X6 hx (y := (⟨"com/example/honeyguide/honeyguide/index/KeyHashCodePinLaw", "fnv", "(IJ)J"⟩ : MethodName)) hown (mvT hZ (hw _ (List.mem_of_getElem? (i := 21) rfl))) (mvT hZ (hw _ (List.mem_of_getElem? (i := 22) rfl))) (mvT hZ (hw _ (List.mem_of_getElem? (i := 2) rfl))) (mvT hZ (hw _ (List.mem_of_getElem? (i := 23) rfl))) (by decide) (backOf (W := 0) (rm5 l Z aw hw [] vn q1 T6.heap n0 (Nat.le_trans Z0 K6.1) ) hZ (hw _ (List.mem_of_getElem? (i := 23) rfl)) (hw _ (List.mem_of_getElem? (i := 2) rfl)) (by decide) (by decide)) (g := (mkF m 46 #[.val (.int p0), .val (.long q1), .second, .val (.int vn), .val (.ref b1), .val (.ref b2), .val (.ref b3), .val (.ref b5), .unset] [(.long q1), (.int vn)])) rfl (by rw [hml]; rfl) (argsL := [(.int vn), (.long q1)]) (rest := []) (lenOf pd_10 rfl) rfl (by show 2 * 0 + _ ≤ _; exact Nat.le_of_eq rfl) (hb hby at_46) (fun _ _ => ⟨rfl, rfl, (by decide : 4 + 0 ≤ _), (by decide : 18 + 0 ≤ _)⟩)
  dsimp only [Pt.U, Pt.locs, Pt.cells, Pt.slots] at X7 l7 y7 z7 st7 hQ7
  subst l7 y7 z7
  obtain ⟨rfl, N7q, e7⟩ := hQ7
  have N7 := Fr.app N6 N7q
  refine own_by (A' := T7.setTop (mkF m 49 #[.val (.int p0), .val (.long q1), .second, .val (.int vn), .val (.ref b1), .val (.ref b2), .val (.ref b3), .val (.ref b5), .unset] [(.long (own_f5 vn q1))])) (fun t kt => st7 t kt) ?_
  obtain ⟨_, _, ⟨T8, L8, k8, n8⟩, -, X8, ⟨Lc8, hQ8, l8, y8, z8⟩, st8⟩ := Jvm.LawKit.callS X7 hx (y := (⟨"com/example/honeyguide/honeyguide/index/KeyHashCodePinLaw", "mix", "(J)J"⟩ : MethodName)) hown (mvT hZ (hw _ (List.mem_of_getElem? (i := 25) rfl))) (mvT hZ (hw _ (List.mem_of_getElem? (i := 26) rfl))) (mvT hZ (hw _ (List.mem_of_getElem? (i := 2) rfl))) (mvT hZ (hw _ (List.mem_of_getElem? (i := 27) rfl))) (by decide) (backOf (W := 0) (rm6 l Z aw hw [] (own_f5 vn q1) T6.heap n0 (Nat.le_trans Z0 K6.1) ) hZ (hw _ (List.mem_of_getElem? (i := 27) rfl)) (hw _ (List.mem_of_getElem? (i := 2) rfl)) (by decide) (by decide)) (g := (mkF m 49 #[.val (.int p0), .val (.long q1), .second, .val (.int vn), .val (.ref b1), .val (.ref b2), .val (.ref b3), .val (.ref b5), .unset] [(.long (own_f5 vn q1))])) rfl (by rw [hml]; rfl) (argsL := [(.long (own_f5 vn q1))]) (rest := []) (lenOf pd_11 rfl) rfl (by show 2 * 0 + _ ≤ _; exact Nat.le_of_eq rfl) (hb hby at_49) (fun _ _ => ⟨rfl, e7, (by decide : 4 + 0 ≤ _), (by decide : 18 + 0 ≤ _)⟩)
  dsimp only [Pt.U, Pt.locs, Pt.cells, Pt.slots] at X8 l8 y8 z8 st8 hQ8
  subst l8 y8 z8
  obtain ⟨rfl, N8q, e8⟩ := hQ8
  have N8 := Fr.app N7 N8q
  refine own_by (A' := T8.setTop (mkF m 52 #[.val (.int p0), .val (.long q1), .second, .val (.int vn), .val (.ref b1), .val (.ref b2), .val (.ref b3), .val (.ref b5), .unset] [(.long (own_f6 (own_f5 vn q1)))])) (fun t kt => st8 t kt) ?_
  obtain ⟨_, _, ⟨T9, L9, k9, n9⟩, -, X9, ⟨Lc9, hQ9, l9, y9, z9⟩, st9⟩ := Jvm.LawKit.callS X8 hx (y := (⟨"com/example/honeyguide/honeyguide/index/KeyHashCodePinLaw", "fold", "(J)I"⟩ : MethodName)) hown (mvT hZ (hw _ (List.mem_of_getElem? (i := 30) rfl))) (mvT hZ (hw _ (List.mem_of_getElem? (i := 31) rfl))) (mvT hZ (hw _ (List.mem_of_getElem? (i := 2) rfl))) (mvT hZ (hw _ (List.mem_of_getElem? (i := 32) rfl))) (by decide) (backOf (W := 0) (rm7 l Z aw hw [] (own_f6 (own_f5 vn q1)) T6.heap n0 (Nat.le_trans Z0 K6.1) ) hZ (hw _ (List.mem_of_getElem? (i := 32) rfl)) (hw _ (List.mem_of_getElem? (i := 2) rfl)) (by decide) (by decide)) (g := (mkF m 52 #[.val (.int p0), .val (.long q1), .second, .val (.int vn), .val (.ref b1), .val (.ref b2), .val (.ref b3), .val (.ref b5), .unset] [(.long (own_f6 (own_f5 vn q1)))])) rfl (by rw [hml]; rfl) (argsL := [(.long (own_f6 (own_f5 vn q1)))]) (rest := []) (lenOf pd_12 rfl) rfl (by show 2 * 0 + _ ≤ _; exact Nat.le_of_eq rfl) (hb hby at_52) (fun _ _ => ⟨rfl, e8, (by decide : 4 + 0 ≤ _), (by decide : 18 + 0 ≤ _)⟩)
  dsimp only [Pt.U, Pt.locs, Pt.cells, Pt.slots] at X9 l9 y9 z9 st9 hQ9
  subst l9 y9 z9
  obtain ⟨rfl, N9q, e9⟩ := hQ9
  have N9 := Fr.app N8 N9q
  refine own_by (A' := T9.setTop (mkF m 55 #[.val (.int p0), .val (.long q1), .second, .val (.int vn), .val (.ref b1), .val (.ref b2), .val (.ref b3), .val (.ref b5), .unset] [(.int (own_f7 (own_f6 (own_f5 vn q1))))])) (fun t kt => st9 t kt) ?_
  refine own_by (A' := T9.setTop (mkF m 59 #[.val (.int p0), .val (.long q1), .second, .val (.int vn), .val (.ref b1), .val (.ref b2), .val (.ref b3), .val (.ref b5), .val (.int (own_f7 (own_f6 (own_f5 vn q1))))] [(.ref b3)])) (fun t kt => ?_) ?_
  · show Steps p.tables e below (T9.setTop (mkF m 55 #[.val (.int p0), .val (.long q1), .second, .val (.int vn), .val (.ref b1), .val (.ref b2), .val (.ref b3), .val (.ref b5), .unset] [(.int (own_f7 (own_f6 (own_f5 vn q1))))])) t
    refine XS.istore X9.here hx rfl (hb hby at_55) rfl (l' := #[.val (.int p0), .val (.long q1), .second, .val (.int vn), .val (.ref b1), .val (.ref b2), .val (.ref b3), .val (.ref b5), .val (.int (own_f7 (own_f6 (own_f5 vn q1))))]) rfl ?_
    show Steps p.tables e below (T9.setTop (mkF m 57 #[.val (.int p0), .val (.long q1), .second, .val (.int vn), .val (.ref b1), .val (.ref b2), .val (.ref b3), .val (.ref b5), .val (.int (own_f7 (own_f6 (own_f5 vn q1))))] [])) t
    refine XS.aload X9.here hx rfl (hb hby at_57) rfl rfl ?_
    exact kt
  obtain ⟨cq10, kq10, q10a, q10b, q10c⟩ := isOf hZ e9 ((GE4.ext E5).keep Kq6)
  obtain ⟨_, _, ⟨T10, L10, k10, n10⟩, -, X10, ⟨Lc10, hQ10, l10, y10, z10⟩, st10⟩ := X9.virtualBack hx (y := (⟨"com/example/honeyguide/honeyguide/index/Runs$Key", "hashCode", "()I"⟩ : MethodName)) (z := (⟨"com/example/honeyguide/honeyguide/index/Runs$Key", "hashCode", "()I"⟩ : MethodName)) hown (mvT hZ (hw _ (List.mem_of_getElem? (i := 33) rfl))) (mvT hZ (hw _ (List.mem_of_getElem? (i := 34) rfl))) (notFace_of_selects (args := #[]) (mvT hZ (hw _ (List.mem_of_getElem? (i := 36) rfl)))) (mvT hZ (hw _ (List.mem_of_getElem? (i := 36) rfl))) (mvT hZ (hw _ (List.mem_of_getElem? (i := 35) rfl))) (by decide) (backOf (W := 0) (rm8 l Z aw hw [] b3 b1 vn (own_g q1) T6.heap n0 (Nat.le_trans Z0 K6.1) ((GE4.ext E5).keep Kq6) ((GF4.ext E5).keep Kq6 (ninS (Nat.ne_of_lt (Nat.lt_of_lt_of_le (GE4).lt (Nat.le_of_eq g5.symm))) nin0)) (((((V1.keep Kq2 nin0).ext E3).keep Kq4 (ninS (Nat.ne_of_lt (Nat.lt_of_lt_of_le ((V1.keep Kq2 nin0)).lt (Nat.le_of_eq g3.symm))) nin0)).ext E5).keep Kq6 (ninS (Nat.ne_of_lt (Nat.lt_of_lt_of_le ((((V1.keep Kq2 nin0).ext E3).keep Kq4 (ninS (Nat.ne_of_lt (Nat.lt_of_lt_of_le ((V1.keep Kq2 nin0)).lt (Nat.le_of_eq g3.symm))) nin0))).lt (Nat.le_of_eq g5.symm))) nin0)) hn.2) hZ (hw _ (List.mem_of_getElem? (i := 37) rfl)) (hw _ (List.mem_of_getElem? (i := 7) rfl)) (by decide) (by decide)) q10a q10c (g := (mkF m 59 #[.val (.int p0), .val (.long q1), .second, .val (.int vn), .val (.ref b1), .val (.ref b2), .val (.ref b3), .val (.ref b5), .val (.int (own_f7 (own_f6 (own_f5 vn q1))))] [(.ref b3)])) rfl (by rw [hml]; rfl) (Steps.refl _) (argsL := []) (rest := []) (lenOf pd_13 rfl) rfl (by show 2 * 0 + _ ≤ _; exact Nat.le_of_eq rfl) (hb hby at_59) (fun _ _ => ⟨rfl, e9, (by decide : 4 + 0 ≤ _), (by decide : 18 + 0 ≤ _)⟩)
  dsimp only [Pt.U, Pt.locs, Pt.cells, Pt.slots] at X10 l10 y10 z10 st10 hQ10
  subst l10 y10 z10
  obtain ⟨rfl, N10q, e10⟩ := hQ10
  have N10 := Fr.app N9 N10q
  refine own_by (A' := T10.setTop (mkF m 62 #[.val (.int p0), .val (.long q1), .second, .val (.int vn), .val (.ref b1), .val (.ref b2), .val (.ref b3), .val (.ref b5), .val (.int (own_f7 (own_f6 (own_f5 vn q1))))] [(.int (own_f7 (own_hash vn (own_g q1))))])) (fun t kt => st10.trans kt) ?_
  refine own_by (A' := T10.setTop (mkF m 64 #[.val (.int p0), .val (.long q1), .second, .val (.int vn), .val (.ref b1), .val (.ref b2), .val (.ref b3), .val (.ref b5), .val (.int (own_f7 (own_f6 (own_f5 vn q1))))] [(.int (own_f7 (own_f6 (own_f5 vn q1)))), (.int (own_f7 (own_hash vn (own_g q1))))])) (fun t kt => ?_) ?_
  · show Steps p.tables e below (T10.setTop (mkF m 62 #[.val (.int p0), .val (.long q1), .second, .val (.int vn), .val (.ref b1), .val (.ref b2), .val (.ref b3), .val (.ref b5), .val (.int (own_f7 (own_f6 (own_f5 vn q1))))] [(.int (own_f7 (own_hash vn (own_g q1))))])) t
    refine XS.iload X10.here hx rfl (hb hby at_62) rfl ?_
    exact kt
  have own_e : own_f7 (own_hash vn (own_g q1)) = own_f7 (own_f6 (own_f5 vn q1)) := by rw [own_hash, own_both]
  have hc64_11 : (own_f7 (own_hash vn (own_g q1))) = (own_f7 (own_f6 (own_f5 vn q1))) := own_e
  refine own_by (A' := T10.setTop (mkF m 69 #[.val (.int p0), .val (.long q1), .second, .val (.int vn), .val (.ref b1), .val (.ref b2), .val (.ref b3), .val (.ref b5), .val (.int (own_f7 (own_f6 (own_f5 vn q1))))] [(.ref b5)])) (fun t kt => ?_) ?_
  · show Steps p.tables e below (T10.setTop (mkF m 64 #[.val (.int p0), .val (.long q1), .second, .val (.int vn), .val (.ref b1), .val (.ref b2), .val (.ref b3), .val (.ref b5), .val (.int (own_f7 (own_f6 (own_f5 vn q1))))] [(.int (own_f7 (own_f6 (own_f5 vn q1)))), (.int (own_f7 (own_hash vn (own_g q1))))])) t
    refine XS.icmpNo X10.here hx rfl (hb hby at_64) rfl (teq hc64_11).2 ?_
    show Steps p.tables e below (T10.setTop (mkF m 67 #[.val (.int p0), .val (.long q1), .second, .val (.int vn), .val (.ref b1), .val (.ref b2), .val (.ref b3), .val (.ref b5), .val (.int (own_f7 (own_f6 (own_f5 vn q1))))] [])) t
    refine XS.aload X10.here hx rfl (hb hby at_67) rfl rfl ?_
    exact kt
  obtain ⟨cq12, kq12, q12a, q12b, q12c⟩ := isOf hZ e10 GE6
  obtain ⟨_, _, ⟨T12, L12, k12, n12⟩, -, X12, ⟨Lc12, hQ12, l12, y12, z12⟩, st12⟩ := X10.virtualBack hx (y := (⟨"com/example/honeyguide/honeyguide/index/Runs$Key", "hashCode", "()I"⟩ : MethodName)) (z := (⟨"com/example/honeyguide/honeyguide/index/Runs$Key", "hashCode", "()I"⟩ : MethodName)) hown (mvT hZ (hw _ (List.mem_of_getElem? (i := 33) rfl))) (mvT hZ (hw _ (List.mem_of_getElem? (i := 34) rfl))) (notFace_of_selects (args := #[]) (mvT hZ (hw _ (List.mem_of_getElem? (i := 36) rfl)))) (mvT hZ (hw _ (List.mem_of_getElem? (i := 36) rfl))) (mvT hZ (hw _ (List.mem_of_getElem? (i := 35) rfl))) (by decide) (backOf (W := 0) (rm8 l Z aw hw [] b5 b2 vn (own_g q1) T6.heap n0 (Nat.le_trans Z0 K6.1) GE6 GF6 ((((V2.ext E3).keep Kq4 (ninS (Nat.ne_of_lt (Nat.lt_of_lt_of_le (V2).lt (Nat.le_of_eq g3.symm))) nin0)).ext E5).keep Kq6 (ninS (Nat.ne_of_lt (Nat.lt_of_lt_of_le (((V2.ext E3).keep Kq4 (ninS (Nat.ne_of_lt (Nat.lt_of_lt_of_le (V2).lt (Nat.le_of_eq g3.symm))) nin0))).lt (Nat.le_of_eq g5.symm))) nin0)) hn.2) hZ (hw _ (List.mem_of_getElem? (i := 37) rfl)) (hw _ (List.mem_of_getElem? (i := 7) rfl)) (by decide) (by decide)) q12a q12c (g := (mkF m 69 #[.val (.int p0), .val (.long q1), .second, .val (.int vn), .val (.ref b1), .val (.ref b2), .val (.ref b3), .val (.ref b5), .val (.int (own_f7 (own_f6 (own_f5 vn q1))))] [(.ref b5)])) rfl (by rw [hml]; rfl) (Steps.refl _) (argsL := []) (rest := []) (lenOf pd_13 rfl) rfl (by show 2 * 0 + _ ≤ _; exact Nat.le_of_eq rfl) (hb hby at_69) (fun _ _ => ⟨rfl, e10, (by decide : 4 + 0 ≤ _), (by decide : 18 + 0 ≤ _)⟩)
  dsimp only [Pt.U, Pt.locs, Pt.cells, Pt.slots] at X12 l12 y12 z12 st12 hQ12
  subst l12 y12 z12
  obtain ⟨rfl, N12q, e12⟩ := hQ12
  have N12 := Fr.app N10 N12q
  refine own_by (A' := T12.setTop (mkF m 72 #[.val (.int p0), .val (.long q1), .second, .val (.int vn), .val (.ref b1), .val (.ref b2), .val (.ref b3), .val (.ref b5), .val (.int (own_f7 (own_f6 (own_f5 vn q1))))] [(.int (own_f7 (own_hash vn (own_g q1))))])) (fun t kt => st12.trans kt) ?_
  refine own_by (A' := T12.setTop (mkF m 74 #[.val (.int p0), .val (.long q1), .second, .val (.int vn), .val (.ref b1), .val (.ref b2), .val (.ref b3), .val (.ref b5), .val (.int (own_f7 (own_f6 (own_f5 vn q1))))] [(.int (own_f7 (own_f6 (own_f5 vn q1)))), (.int (own_f7 (own_hash vn (own_g q1))))])) (fun t kt => ?_) ?_
  · show Steps p.tables e below (T12.setTop (mkF m 72 #[.val (.int p0), .val (.long q1), .second, .val (.int vn), .val (.ref b1), .val (.ref b2), .val (.ref b3), .val (.ref b5), .val (.int (own_f7 (own_f6 (own_f5 vn q1))))] [(.int (own_f7 (own_hash vn (own_g q1))))])) t
    refine XS.iload X12.here hx rfl (hb hby at_72) rfl ?_
    exact kt
  have hc74_13 : (own_f7 (own_hash vn (own_g q1))) = (own_f7 (own_f6 (own_f5 vn q1))) := own_e
  refine own_by (A' := T12.setTop (mkF m 82 #[.val (.int p0), .val (.long q1), .second, .val (.int vn), .val (.ref b1), .val (.ref b2), .val (.ref b3), .val (.ref b5), .val (.int (own_f7 (own_f6 (own_f5 vn q1))))] [(.int (1 : Int32))])) (fun t kt => ?_) ?_
  · show Steps p.tables e below (T12.setTop (mkF m 74 #[.val (.int p0), .val (.long q1), .second, .val (.int vn), .val (.ref b1), .val (.ref b2), .val (.ref b3), .val (.ref b5), .val (.int (own_f7 (own_f6 (own_f5 vn q1))))] [(.int (own_f7 (own_f6 (own_f5 vn q1)))), (.int (own_f7 (own_hash vn (own_g q1))))])) t
    refine XS.icmpNo X12.here hx rfl (hb hby at_74) rfl (teq hc74_13).2 ?_
    show Steps p.tables e below (T12.setTop (mkF m 77 #[.val (.int p0), .val (.long q1), .second, .val (.int vn), .val (.ref b1), .val (.ref b2), .val (.ref b3), .val (.ref b5), .val (.int (own_f7 (own_f6 (own_f5 vn q1))))] [])) t
    refine XS.iconst X12.here hx rfl (hb hby at_77) ?_
    show Steps p.tables e below (T12.setTop (mkF m 78 #[.val (.int p0), .val (.long q1), .second, .val (.int vn), .val (.ref b1), .val (.ref b2), .val (.ref b3), .val (.ref b5), .val (.int (own_f7 (own_f6 (own_f5 vn q1))))] [(.int (1 : Int32))])) t
    refine XS.goto X12.here hx rfl (pc0 := 78) (pc' := 82) rfl (hb hby at_78) (by decide) (by decide) ?_
    exact kt
  obtain ⟨fs, hr, hrun, hended, hW, hsame⟩ := X12.leave (v := some (.int (1 : Int32))) (fun h => by rw [Bd.returns] at h; cases h)
  refine ⟨_, _, ?_, hrun, hended, _, _, rfl, ?_, ⟨_, rfl⟩, hW, hsame.mono (by decide) (by decide)⟩
  · exact retN X12 hx (t := .boolean) Bd.returns (by simp) (hb hby at_82) hr
  · show Q0 Z p0 q1 h0 n0 _ T12.heap _
    rw [e12]
    exact ⟨rfl, N12⟩
set_option maxRecDepth 65536 in
set_option maxHeartbeats 40000000 in
theorem comes_1 {Post : Tables → Env → Array Value → State → Outcome → State → Prop} (hpost : ∀ tb e args s v u, (limb_1_1.after args s (.returned v) u = true ∧ limb_1_2.after args s (.returned v) u = true ∧ True) → FrameEnd s (.returned v) u (Jvm.fieldLocs frame_1_writes args s ++ Jvm.arrayLocs frame_1_arrays args s ++ Jvm.staticLocs frame_1_statics s) 16 128 → Post tb e args s (.returned v) u) :
    ArmFor flags0 classFile x code maxLocals ret World_1 tables_1 room_1 Calls_1 rest_1 Pre_1 Post := by
  intro l hfl _ _ p e ha hc hk s m args below hf hA hF happ hP
  obtain ⟨hcalls, hrest, hpre⟩ := hP
  obtain ⟨-, -, -, hnamed, -, -, -, hat⟩ := (Spec.applies_iff hf).mp happ
  obtain ⟨hg, hn⟩ := and_e (Cond.before_iff.mp (show (Jvm.Cond.and given_1 narrow_1).before args s = true from hpre))
  obtain ⟨ga1, ga2⟩ := and_e hg
  obtain ⟨ga3, ga4⟩ := and_e ga2
  obtain ⟨w0, w1, rfl⟩ : ∃ w0 w1 : Value, args = #[w0, w1] := by
    have hs : args.size = 2 := by simpa [Cond.value, given_1] using ga1
    obtain ⟨L⟩ := args
    match L, hs with
    | [w0, w1], _ => exact ⟨w0, w1, rfl⟩
  have hw := fun d (hd : d ∈ tables_1) => atoms_spec (ws := Jvm.Cond.code x code maxLocals ret :: tables_1) hat d (List.mem_cons_of_mem _ hd)
  have hfit : Fit s := fun {y c} hc i hi => by
    obtain ⟨ha, rfl⟩ := Array.getElem?_eq_some_iff.mp hc
    have q := List.all_eq_true.mp ((Array.all_eq_true_iff_forall_mem.mp hF) _ (Array.getElem_mem ha)) i (List.mem_range.mpr hi)
    simpa [Array.getElem?_eq_getElem hi] using q
  obtain ⟨i0, ei0⟩ := is_v ga3
  obtain rfl : w0 = (.int i0) := Option.some.inj ei0
  obtain ⟨i1, ei1⟩ := isL_v ga4
  obtain rfl : w1 = (.long i1) := Option.some.inj ei1
  obtain ⟨n, o, h1, h2, h3, _, L, rfl, ⟨rfl, N⟩, hq⟩ := rm0 l s _ hw tables_1 i0 i1  s.heap s.heap.size (Nat.le_refl _)  p e ha hc hk s m _ below hf ((Spec.applies_iff_loose hf).mp happ).1 ⟨rfl, State.Warmed39.refl s, rfl⟩ trivial
  refine ⟨n, _, h1, h2, h3, hpost _ _ _ _ _ _ ⟨Cond.after_iff.mpr rfl, Cond.after_iff.mpr (eq_i res_at (Term.int_eval (1)) rfl), trivial⟩ ⟨hq.1, hq.2.1, (hq.2.2.sift fun y hy => Or.inr (N y hy)).mono (by decide) (by decide)⟩⟩
theorem main_1_1 : Claimed_1_1 := comes_1 fun _ _ _ _ _ _ h hF => ⟨h.1, hF⟩
theorem main_1_2 : Claimed_1_2 := comes_1 fun _ _ _ _ _ _ h hF => ⟨h.2.1, hF⟩
end Jvm.Pilot.@@N@@
namespace Jvm.Pilot.@@N@@
open Jvm Jvm.ClassFile Sem Op Lib Jvm.Free Jvm.Stand Jvm.Pilot.@@N@@.Jvm.D
/-! MADE BY PROGRAM (witnessworld.py) out of the Statement's table words and the real class files: 11 classes; the members and pool entries that the words name. The judged class is class 1, her method 1. -/
namespace start1
open Jvm.ClassFile
def u (s : String) : CpInfo := .utf8 (stringToUtf16 s)
/-- a pool by its gaps: so many unusable entries, then the entry; so many at the end -/
def gap : Nat → List CpInfo → List CpInfo
  | 0, r => r
  | n + 1, r => .unusable :: gap n r
def poolList (es : List (Nat × CpInfo)) (last : Nat) : List CpInfo := es.foldr (fun e r => gap e.1 (e.2 :: r)) (gap last [])
def pool (es : List (Nat × CpInfo)) (last : Nat) : Array CpInfo := ⟨poolList es last⟩
def fileOf (pool : Array CpInfo) (this : Nat) (attrs : Array Attribute := #[]) (ms : Array MethodInfo := #[]) (fl : Nat := 33) (sup : Nat := 0) (ifs : Array Nat := #[]) (fds : Array FieldInfo := #[]) : ClassFile where
  minorVersion := 0
  majorVersion := 65
  constantPool := pool
  accessFlags := fl
  thisClass := this
  superClass := sup
  interfaces := ifs
  fields := fds
  methods := ms
  attributes := attrs
def plain (name : String) (sup : Option ClassId) : Class where
  name := name
  kind := .ordinary
  loader := none
  accessFlags := 33
  super := sup
  interfaces := #[]
  cf := none
  fields := #[]
  methods := #[]
  instanceTypes := #[]
  staticTypes := #[]
  resolved := #[]
  callSites := []
  init := .initialized
  statics := none
  mirror := none

def pool0 : Array CpInfo := pool [(5, u "<init>"), (0, u "()V"), (1, .class_ 10), (1, u "java/lang/Object")] 113

def k0c0 : Code := { maxStack := 0, maxLocals := 1, code := object_method_1_code, exceptionTable := #[], attributes := #[] }
def k0m0 : Method := { name := "<init>", desc := "()V", sig := { parameters := [], returnType := none }, accessFlags := 1, code := some k0c0 }
/-- java/lang/Object -/
def k0 : Class := { plain "java/lang/Object" none with
  accessFlags := 33
  interfaces := #[]
  cf := some (fileOf pool0 8 #[] #[{ accessFlags := 1, nameIndex := 5, descriptorIndex := 6, attributes := #[] }] 33 0 #[] #[])
  fields := #[]
  methods := #[k0m0]
  instanceTypes := #[]
  staticTypes := #[]
  resolved := Array.replicate 124 none
  statics := none }

def pool1 : Array CpInfo := pool [(2, .class_ 4), (1, u "java/lang/Object"), (0, u "<init>"), (0, u "()V"), (0, .methodref 8 9), (0, .class_ 10), (0, .nameAndType 11 12), (0, u "com/example/honeyguide/honeyguide/index/KeyHashCodePinLaw"), (0, u "fill"), (0, u "(IJ)[B"), (0, .class_ 14), (0, u "com/example/honeyguide/honeyguide/index/Runs$Key"), (0, .methodref 13 16), (0, .nameAndType 5 17), (0, u "([B)V"), (0, .methodref 8 19), (0, .nameAndType 20 21), (0, u "fnv"), (0, u "(IJ)J"), (0, .methodref 8 23), (0, .nameAndType 24 25), (0, u "mix"), (0, u "(J)J"), (0, .methodref 8 27), (0, .nameAndType 28 29), (0, u "fold"), (0, u "(J)I"), (0, .methodref 13 31), (0, .nameAndType 32 33), (0, u "hashCode"), (0, u "()I"), (0, .methodref 8 35), (0, .nameAndType 36 37), (0, u "at"), (0, u "(JI)B"), (0, .long 255), (1, .long 1099511628211), (1, .long 14695981039346656037), (1, .methodref 8 45), (0, .nameAndType 46 47), (0, u "octet"), (0, u "(JI)I"), (0, .methodref 8 49), (0, .nameAndType 50 51), (0, u "step"), (0, u "(JI)J"), (0, .long 18397679294719823053), (1, .long 14181476777654086739), (3, u "law"), (0, u "(IJ)Z")] 9

def k1m0 : Method := { name := "<init>", desc := "()V", sig := { parameters := [], returnType := none }, accessFlags := 1, code := none }
def k1c1 : Code := { maxStack := 3, maxLocals := 9, code := code, exceptionTable := #[], attributes := #[] }
def k1m1 : Method := { name := "law", desc := "(IJ)Z", sig := { parameters := [.int, .long], returnType := some .boolean }, accessFlags := 9, code := some k1c1 }
def k1c2 : Code := { maxStack := 4, maxLocals := 3, code := method_3_code, exceptionTable := #[], attributes := #[] }
def k1m2 : Method := { name := "at", desc := "(JI)B", sig := { parameters := [.long, .int], returnType := some .byte }, accessFlags := 10, code := some k1c2 }
def k1c3 : Code := { maxStack := 5, maxLocals := 4, code := method_4_code, exceptionTable := #[], attributes := #[] }
def k1m3 : Method := { name := "fill", desc := "(IJ)[B", sig := { parameters := [.int, .long], returnType := some (.array .byte) }, accessFlags := 10, code := some k1c3 }
def k1c4 : Code := { maxStack := 4, maxLocals := 3, code := method_5_code, exceptionTable := #[], attributes := #[] }
def k1m4 : Method := { name := "octet", desc := "(JI)I", sig := { parameters := [.long, .int], returnType := some .int }, accessFlags := 10, code := some k1c4 }
def k1c5 : Code := { maxStack := 4, maxLocals := 3, code := method_6_code, exceptionTable := #[], attributes := #[] }
def k1m5 : Method := { name := "step", desc := "(JI)J", sig := { parameters := [.long, .int], returnType := some .long }, accessFlags := 10, code := some k1c5 }
def k1c6 : Code := { maxStack := 5, maxLocals := 5, code := method_7_code, exceptionTable := #[], attributes := #[] }
def k1m6 : Method := { name := "fnv", desc := "(IJ)J", sig := { parameters := [.int, .long], returnType := some .long }, accessFlags := 10, code := some k1c6 }
def k1c7 : Code := { maxStack := 5, maxLocals := 4, code := method_8_code, exceptionTable := #[], attributes := #[] }
def k1m7 : Method := { name := "mix", desc := "(J)J", sig := { parameters := [.long], returnType := some .long }, accessFlags := 10, code := some k1c7 }
def k1c8 : Code := { maxStack := 5, maxLocals := 2, code := method_9_code, exceptionTable := #[], attributes := #[] }
def k1m8 : Method := { name := "fold", desc := "(J)I", sig := { parameters := [.long], returnType := some .int }, accessFlags := 10, code := some k1c8 }
/-- com/example/honeyguide/honeyguide/index/KeyHashCodePinLaw -/
def k1 : Class := { plain "com/example/honeyguide/honeyguide/index/KeyHashCodePinLaw" (some 0) with
  accessFlags := 49
  interfaces := #[]
  cf := some (fileOf pool1 8 #[] #[{ accessFlags := 1, nameIndex := 5, descriptorIndex := 6, attributes := #[] }, { accessFlags := 9, nameIndex := 58, descriptorIndex := 59, attributes := #[] }, { accessFlags := 10, nameIndex := 36, descriptorIndex := 37, attributes := #[] }, { accessFlags := 10, nameIndex := 11, descriptorIndex := 12, attributes := #[] }, { accessFlags := 10, nameIndex := 46, descriptorIndex := 47, attributes := #[] }, { accessFlags := 10, nameIndex := 50, descriptorIndex := 51, attributes := #[] }, { accessFlags := 10, nameIndex := 20, descriptorIndex := 21, attributes := #[] }, { accessFlags := 10, nameIndex := 24, descriptorIndex := 25, attributes := #[] }, { accessFlags := 10, nameIndex := 28, descriptorIndex := 29, attributes := #[] }] 49 2 #[] #[])
  fields := #[]
  methods := #[k1m0, k1m1, k1m2, k1m3, k1m4, k1m5, k1m6, k1m7, k1m8]
  instanceTypes := #[]
  staticTypes := #[]
  resolved := Array.replicate 69 none
  statics := none }

def pool2 : Array CpInfo := pool [(1, .methodref 2 3), (0, .class_ 4), (0, .nameAndType 5 6), (0, u "java/lang/Object"), (0, u "<init>"), (0, u "()V"), (0, .class_ 8), (0, u "java/lang/Record")] 13

def k2c0 : Code := { maxStack := 1, maxLocals := 1, code := jdk_30_method_1_code, exceptionTable := #[], attributes := #[] }
def k2m0 : Method := { name := "<init>", desc := "()V", sig := { parameters := [], returnType := none }, accessFlags := 4, code := some k2c0 }
/-- java/lang/Record -/
def k2 : Class := { plain "java/lang/Record" (some 0) with
  accessFlags := 1057
  interfaces := #[]
  cf := some (fileOf pool2 7 #[] #[{ accessFlags := 4, nameIndex := 5, descriptorIndex := 6, attributes := #[] }] 1057 2 #[] #[])
  fields := #[]
  methods := #[k2m0]
  instanceTypes := #[]
  staticTypes := #[]
  resolved := Array.replicate 22 none
  statics := none }

def pool3 : Array CpInfo := pool [(1, .class_ 2), (0, u "java/lang/Comparable"), (0, .class_ 4), (0, u "java/lang/Object")] 7

/-- java/lang/Comparable -/
def k3 : Class := { plain "java/lang/Comparable" (some 0) with
  accessFlags := 1537
  interfaces := #[]
  cf := some (fileOf pool3 1 #[] #[] 1537 3 #[] #[])
  fields := #[]
  methods := #[]
  instanceTypes := #[]
  staticTypes := #[]
  resolved := Array.replicate 12 none
  statics := none }

def pool4 : Array CpInfo := pool [(1, .methodref 2 3), (0, .class_ 4), (0, .nameAndType 5 6), (0, u "java/lang/Record"), (0, u "<init>"), (0, u "()V"), (0, .fieldref 8 9), (0, .class_ 10), (0, .nameAndType 11 12), (0, u "com/example/honeyguide/honeyguide/index/Runs$Key"), (0, u "bytes"), (0, u "[B"), (6, .methodref 8 20), (0, .nameAndType 21 22), (0, u "hash"), (0, u "()J"), (2, .long 14695981039346656037), (1, .long 1099511628211), (1, .long 18397679294719823053), (1, .long 14181476777654086739), (13, .class_ 46), (0, u "java/lang/Comparable"), (0, u "([B)V"), (5, u "hashCode"), (0, u "()I"), (9, .class_ 65), (0, u "com/example/honeyguide/honeyguide/index/Runs")] 18

def k4c0 : Code := { maxStack := 2, maxLocals := 2, code := prog_28_method_1_code, exceptionTable := #[], attributes := #[] }
def k4m0 : Method := { name := "<init>", desc := "([B)V", sig := { parameters := [(.array .byte)], returnType := none }, accessFlags := 0, code := some k4c0 }
def k4c1 : Code := { maxStack := 5, maxLocals := 3, code := prog_28_method_3_code, exceptionTable := #[], attributes := #[] }
def k4m1 : Method := { name := "hashCode", desc := "()I", sig := { parameters := [], returnType := some .int }, accessFlags := 1, code := some k4c1 }
def k4c2 : Code := { maxStack := 5, maxLocals := 7, code := prog_28_method_4_code, exceptionTable := #[], attributes := #[] }
def k4m2 : Method := { name := "hash", desc := "()J", sig := { parameters := [], returnType := some .long }, accessFlags := 0, code := some k4c2 }
/-- com/example/honeyguide/honeyguide/index/Runs$Key -/
def k4 : Class := { plain "com/example/honeyguide/honeyguide/index/Runs$Key" (some 2) with
  accessFlags := 48
  interfaces := #[3]
  cf := some (fileOf pool4 8 #[.nestHost 64] #[{ accessFlags := 0, nameIndex := 5, descriptorIndex := 47, attributes := #[] }, { accessFlags := 1, nameIndex := 53, descriptorIndex := 54, attributes := #[] }, { accessFlags := 0, nameIndex := 21, descriptorIndex := 22, attributes := #[] }] 48 2 #[45] #[{ accessFlags := 18, nameIndex := 11, descriptorIndex := 12, attributes := #[] }])
  fields := #[{ name := "bytes", type := (.array .byte), accessFlags := 18, slot := 0, constantValue := 0 }]
  methods := #[k4m0, k4m1, k4m2]
  instanceTypes := #[(.array .byte)]
  staticTypes := #[]
  resolved := Array.replicate 84 none
  statics := none }

def pool5 : Array CpInfo := pool [(1, u "java/lang/Cloneable"), (0, .class_ 1), (0, u "java/lang/Object"), (0, .class_ 3)] 3

/-- java/lang/Cloneable -/
def k5 : Class := { plain "java/lang/Cloneable" (some 0) with
  accessFlags := 1537
  interfaces := #[]
  cf := some (fileOf pool5 2 #[] #[] 1537 4 #[] #[])
  fields := #[]
  methods := #[]
  instanceTypes := #[]
  staticTypes := #[]
  resolved := Array.replicate 8 none
  statics := none }

def pool6 : Array CpInfo := pool [(1, u "java/io/Serializable"), (0, .class_ 1), (0, u "java/lang/Object"), (0, .class_ 3)] 3

/-- java/io/Serializable -/
def k6 : Class := { plain "java/io/Serializable" (some 0) with
  accessFlags := 1537
  interfaces := #[]
  cf := some (fileOf pool6 2 #[] #[] 1537 4 #[] #[])
  fields := #[]
  methods := #[]
  instanceTypes := #[]
  staticTypes := #[]
  resolved := Array.replicate 8 none
  statics := none }

/-- the primitive byte -/
def k7 : Class := { plain "byte" none with kind := .primitive 'B', accessFlags := 0x411 }
/-- [B -/
def k8 : Class := { plain "[B" (some 0) with kind := .array 7 .byte, interfaces := #[5, 6], accessFlags := 1041 }

/-- the primitive int -/
def k9 : Class := { plain "int" none with kind := .primitive 'I', accessFlags := 0x411 }
/-- [I -/
def k10 : Class := { plain "[I" (some 0) with kind := .array 9 .int, interfaces := #[5, 6], accessFlags := 1041 }

def heap : Heap := #[]
def classes : Array Class := #[k0, k1, k2, k3, k4, k5, k6, k7, k8, k9, k10]
def interned : List (Array UInt16 × Addr) := []
def slotsUsed : Nat := 0
def theMethod : MethodId := ⟨1, 1⟩
def args0 : Array Value := #[.int 7, .long 9]
def aboutOver (below : List Frame) : State where
  vm := { classes := classes, interned := interned.toArray }
  heap := heap
  slotsUsed := slotsUsed
  threads := #[{ frames := .invoking theMethod args0 :: below }]
def below0 : List Frame := [.native { method := ⟨0, 0⟩, args := #[] }]
def about1 : State := aboutOver below0
def p0 : Program := .bare "" "" ""
def e0 : Env := launch0.env 0 0 0
theorem w_frames : about1.frames = Frame.invoking theMethod args0 :: below0 := rfl
set_option maxRecDepth 65536 in
theorem w_args : argsFit about1.vm theMethod args0 = true := by decide +kernel
set_option maxRecDepth 65536 in
theorem w_heap : heapFits about1 = true := by decide +kernel
set_option maxRecDepth 65536 in
theorem w_runnable : about1.curStatus? = some .runnable := by decide +kernel
set_option maxRecDepth 65536 in
theorem w_alone : about1.alone = true := by decide +kernel
set_option maxRecDepth 65536 in
theorem w_named : about1.methodNamed? x = some theMethod := by decide +kernel
set_option maxRecDepth 65536 in
theorem w_hears : about1.hears theMethod below0 = true := by decide +kernel
set_option maxRecDepth 65536 in
theorem w_ripe : about1.ripe theMethod args0 below0 = true := by decide +kernel
theorem w_running : about1.status = .running := rfl
set_option maxRecDepth 65536 in
theorem w_room : about1.hasRoom e0.platform room_1 = true :=
  launch0.hasRoom_least _ room_1 (by decide +kernel) (by decide +kernel) (by decide +kernel) (by decide +kernel) (by decide +kernel) (by decide +kernel)
theorem allAtoms_all (ts : List Jvm.Cond) (a : Array Jvm.Value) (st : Jvm.State) : (allAtoms ts).before a st = ts.all (fun c => c.before a st) := by
  induction ts with
  | nil => rfl
  | cons c t ih =>
    show (Jvm.Cond.and c (allAtoms t)).before a st = _
    rw [Jvm.Cond.before_and, ih, List.all_cons]
def words1 : List Jvm.Cond := Jvm.Cond.code x code maxLocals ret :: tables_1
/-- a 'code' word, met by the world's own term for the bytes: nothing is compared byte by byte -/
theorem code_word {y : MethodName} {bytes : ByteArray} {mx : Nat} {rt : Option FieldType} {a : Array Value} {s : State} {m : MethodId} {meth : Method} {c : Code} (h1 : s.methodNamed? y = some m) (h2 : s.vm.method? m = some meth) (h3 : meth.code = some c) (h4 : c.code = bytes)
    (h5 : (c.maxLocals == mx && c.exceptionTable.isEmpty && decide (c.maxStack ≤ mostOperands) && decide (meth.sig.returnType = rt) && !meth.locks && decide (parseMethodDescriptor y.desc = some meth.sig)) = true) : (Jvm.Cond.code y bytes mx rt).before a s = true := by
  simp only [Bool.and_eq_true, beq_iff_eq, Bool.not_eq_true', decide_eq_true_eq] at h5
  obtain ⟨⟨⟨⟨⟨g1, g2⟩, g3⟩, g4⟩, g5⟩, g6⟩ := h5
  simp [Cond.before, Cond.holds, Cond.value, h1, h2, h3, h4, g1, g2, g3, g4, g5, g6]
def isCode : Jvm.Cond → Bool
  | .code _ _ _ _ => true
  | _ => false
theorem all_split {L : List Jvm.Cond} {P : Jvm.Cond → Bool} (h1 : L.all (fun c => isCode c || P c) = true) (h2 : ∀ c ∈ L.filter isCode, P c = true) : L.all P = true := by
  refine List.all_eq_true.mpr fun c hc => ?_
  have h := List.all_eq_true.mp h1 c hc
  rcases Bool.eq_false_or_eq_true (isCode c) with hi | hi
  · exact h2 c (List.mem_filter.mpr ⟨hc, hi⟩)
  · simpa [hi] using h
set_option maxRecDepth 65536 in
theorem w_c0 : (Jvm.Cond.code x code maxLocals ret).before args0 about1 = true := code_word (m := ⟨1, 1⟩) (meth := k1m1) (c := k1c1) (by decide +kernel) rfl rfl rfl (by decide +kernel)
set_option maxRecDepth 65536 in
theorem w_c1 : (Jvm.Cond.code ({ cls := "com/example/honeyguide/honeyguide/index/KeyHashCodePinLaw", name := "fill", desc := "(IJ)[B" } : Jvm.MethodName) method_4_code (4 : Nat) (Option.some (Jvm.ClassFile.FieldType.array Jvm.ClassFile.FieldType.byte))).before args0 about1 = true := code_word (m := ⟨1, 3⟩) (meth := k1m3) (c := k1c3) (by decide +kernel) rfl rfl rfl (by decide +kernel)
set_option maxRecDepth 65536 in
theorem w_c2 : (Jvm.Cond.code ({ cls := "com/example/honeyguide/honeyguide/index/Runs$Key", name := "<init>", desc := "([B)V" } : Jvm.MethodName) prog_28_method_1_code (2 : Nat) (Option.none : Option Jvm.ClassFile.FieldType)).before args0 about1 = true := code_word (m := ⟨4, 0⟩) (meth := k4m0) (c := k4c0) (by decide +kernel) rfl rfl rfl (by decide +kernel)
set_option maxRecDepth 65536 in
theorem w_c3 : (Jvm.Cond.code ({ cls := "java/lang/Record", name := "<init>", desc := "()V" } : Jvm.MethodName) jdk_30_method_1_code (1 : Nat) (Option.none : Option Jvm.ClassFile.FieldType)).before args0 about1 = true := code_word (m := ⟨2, 0⟩) (meth := k2m0) (c := k2c0) (by decide +kernel) rfl rfl rfl (by decide +kernel)
set_option maxRecDepth 65536 in
theorem w_c4 : (Jvm.Cond.code ({ cls := "java/lang/Object", name := "<init>", desc := "()V" } : Jvm.MethodName) object_method_1_code (1 : Nat) (Option.none : Option Jvm.ClassFile.FieldType)).before args0 about1 = true := code_word (m := ⟨0, 0⟩) (meth := k0m0) (c := k0c0) (by decide +kernel) rfl rfl rfl (by decide +kernel)
set_option maxRecDepth 65536 in
theorem w_c5 : (Jvm.Cond.code ({ cls := "com/example/honeyguide/honeyguide/index/KeyHashCodePinLaw", name := "fnv", desc := "(IJ)J" } : Jvm.MethodName) method_7_code (5 : Nat) (Option.some Jvm.ClassFile.FieldType.long)).before args0 about1 = true := code_word (m := ⟨1, 6⟩) (meth := k1m6) (c := k1c6) (by decide +kernel) rfl rfl rfl (by decide +kernel)
set_option maxRecDepth 65536 in
theorem w_c6 : (Jvm.Cond.code ({ cls := "com/example/honeyguide/honeyguide/index/KeyHashCodePinLaw", name := "mix", desc := "(J)J" } : Jvm.MethodName) method_8_code (4 : Nat) (Option.some Jvm.ClassFile.FieldType.long)).before args0 about1 = true := code_word (m := ⟨1, 7⟩) (meth := k1m7) (c := k1c7) (by decide +kernel) rfl rfl rfl (by decide +kernel)
set_option maxRecDepth 65536 in
theorem w_c7 : (Jvm.Cond.code ({ cls := "com/example/honeyguide/honeyguide/index/KeyHashCodePinLaw", name := "fold", desc := "(J)I" } : Jvm.MethodName) method_9_code (2 : Nat) (Option.some Jvm.ClassFile.FieldType.int)).before args0 about1 = true := code_word (m := ⟨1, 8⟩) (meth := k1m8) (c := k1c8) (by decide +kernel) rfl rfl rfl (by decide +kernel)
set_option maxRecDepth 65536 in
theorem w_c8 : (Jvm.Cond.code ({ cls := "com/example/honeyguide/honeyguide/index/Runs$Key", name := "hashCode", desc := "()I" } : Jvm.MethodName) prog_28_method_3_code (3 : Nat) (Option.some Jvm.ClassFile.FieldType.int)).before args0 about1 = true := code_word (m := ⟨4, 1⟩) (meth := k4m1) (c := k4c1) (by decide +kernel) rfl rfl rfl (by decide +kernel)
set_option maxRecDepth 65536 in
theorem w_c9 : (Jvm.Cond.code ({ cls := "com/example/honeyguide/honeyguide/index/Runs$Key", name := "hash", desc := "()J" } : Jvm.MethodName) prog_28_method_4_code (7 : Nat) (Option.some Jvm.ClassFile.FieldType.long)).before args0 about1 = true := code_word (m := ⟨4, 2⟩) (meth := k4m2) (c := k4c2) (by decide +kernel) rfl rfl rfl (by decide +kernel)
set_option maxRecDepth 65536 in
theorem w_c10 : (Jvm.Cond.code ({ cls := "com/example/honeyguide/honeyguide/index/KeyHashCodePinLaw", name := "at", desc := "(JI)B" } : Jvm.MethodName) method_3_code (3 : Nat) (Option.some Jvm.ClassFile.FieldType.byte)).before args0 about1 = true := code_word (m := ⟨1, 2⟩) (meth := k1m2) (c := k1c2) (by decide +kernel) rfl rfl rfl (by decide +kernel)
set_option maxRecDepth 65536 in
theorem w_c11 : (Jvm.Cond.code ({ cls := "com/example/honeyguide/honeyguide/index/KeyHashCodePinLaw", name := "octet", desc := "(JI)I" } : Jvm.MethodName) method_5_code (3 : Nat) (Option.some Jvm.ClassFile.FieldType.int)).before args0 about1 = true := code_word (m := ⟨1, 4⟩) (meth := k1m4) (c := k1c4) (by decide +kernel) rfl rfl rfl (by decide +kernel)
set_option maxRecDepth 65536 in
theorem w_c12 : (Jvm.Cond.code ({ cls := "com/example/honeyguide/honeyguide/index/KeyHashCodePinLaw", name := "step", desc := "(JI)J" } : Jvm.MethodName) method_6_code (3 : Nat) (Option.some Jvm.ClassFile.FieldType.long)).before args0 about1 = true := code_word (m := ⟨1, 5⟩) (meth := k1m5) (c := k1c5) (by decide +kernel) rfl rfl rfl (by decide +kernel)
def codes1 : List Jvm.Cond := [Jvm.Cond.code x code maxLocals ret, Jvm.Cond.code ({ cls := "com/example/honeyguide/honeyguide/index/KeyHashCodePinLaw", name := "fill", desc := "(IJ)[B" } : Jvm.MethodName) method_4_code (4 : Nat) (Option.some (Jvm.ClassFile.FieldType.array Jvm.ClassFile.FieldType.byte)), Jvm.Cond.code ({ cls := "com/example/honeyguide/honeyguide/index/Runs$Key", name := "<init>", desc := "([B)V" } : Jvm.MethodName) prog_28_method_1_code (2 : Nat) (Option.none : Option Jvm.ClassFile.FieldType), Jvm.Cond.code ({ cls := "java/lang/Record", name := "<init>", desc := "()V" } : Jvm.MethodName) jdk_30_method_1_code (1 : Nat) (Option.none : Option Jvm.ClassFile.FieldType), Jvm.Cond.code ({ cls := "java/lang/Object", name := "<init>", desc := "()V" } : Jvm.MethodName) object_method_1_code (1 : Nat) (Option.none : Option Jvm.ClassFile.FieldType), Jvm.Cond.code ({ cls := "com/example/honeyguide/honeyguide/index/KeyHashCodePinLaw", name := "fnv", desc := "(IJ)J" } : Jvm.MethodName) method_7_code (5 : Nat) (Option.some Jvm.ClassFile.FieldType.long), Jvm.Cond.code ({ cls := "com/example/honeyguide/honeyguide/index/KeyHashCodePinLaw", name := "mix", desc := "(J)J" } : Jvm.MethodName) method_8_code (4 : Nat) (Option.some Jvm.ClassFile.FieldType.long), Jvm.Cond.code ({ cls := "com/example/honeyguide/honeyguide/index/KeyHashCodePinLaw", name := "fold", desc := "(J)I" } : Jvm.MethodName) method_9_code (2 : Nat) (Option.some Jvm.ClassFile.FieldType.int), Jvm.Cond.code ({ cls := "com/example/honeyguide/honeyguide/index/Runs$Key", name := "hashCode", desc := "()I" } : Jvm.MethodName) prog_28_method_3_code (3 : Nat) (Option.some Jvm.ClassFile.FieldType.int), Jvm.Cond.code ({ cls := "com/example/honeyguide/honeyguide/index/Runs$Key", name := "hash", desc := "()J" } : Jvm.MethodName) prog_28_method_4_code (7 : Nat) (Option.some Jvm.ClassFile.FieldType.long), Jvm.Cond.code ({ cls := "com/example/honeyguide/honeyguide/index/KeyHashCodePinLaw", name := "at", desc := "(JI)B" } : Jvm.MethodName) method_3_code (3 : Nat) (Option.some Jvm.ClassFile.FieldType.byte), Jvm.Cond.code ({ cls := "com/example/honeyguide/honeyguide/index/KeyHashCodePinLaw", name := "octet", desc := "(JI)I" } : Jvm.MethodName) method_5_code (3 : Nat) (Option.some Jvm.ClassFile.FieldType.int), Jvm.Cond.code ({ cls := "com/example/honeyguide/honeyguide/index/KeyHashCodePinLaw", name := "step", desc := "(JI)J" } : Jvm.MethodName) method_6_code (3 : Nat) (Option.some Jvm.ClassFile.FieldType.long)]
set_option maxRecDepth 65536 in
theorem codes_eq : words1.filter isCode = codes1 := rfl
theorem w_codes : ∀ c ∈ words1.filter isCode, c.before args0 about1 = true := by
  rw [codes_eq]
  intro c hc
  simp only [codes1, List.mem_cons, List.not_mem_nil, or_false] at hc
  rcases hc with rfl | rfl | rfl | rfl | rfl | rfl | rfl | rfl | rfl | rfl | rfl | rfl | rfl
  · exact w_c0
  · exact w_c1
  · exact w_c2
  · exact w_c3
  · exact w_c4
  · exact w_c5
  · exact w_c6
  · exact w_c7
  · exact w_c8
  · exact w_c9
  · exact w_c10
  · exact w_c11
  · exact w_c12
set_option maxRecDepth 65536 in
theorem w_t1 : (words1.take 24).all (fun c => isCode c || c.before args0 about1) = true := by decide +kernel
set_option maxRecDepth 65536 in
theorem w_t2 : ((words1.drop 24).take 24).all (fun c => isCode c || c.before args0 about1) = true := by decide +kernel
set_option maxRecDepth 65536 in
theorem w_t3 : ((words1.drop 24).drop 24).all (fun c => isCode c || c.before args0 about1) = true := by decide +kernel
theorem w_tables : (allAtoms (Jvm.Cond.code x code maxLocals ret :: tables_1)).before args0 about1 = true := by
  rw [allAtoms_all]
  show words1.all (fun c => c.before args0 about1) = true
  refine all_split ?_ w_codes
  rw [← List.take_append_drop 24 words1, List.all_append, w_t1, ← List.take_append_drop 24 (words1.drop 24), List.all_append, w_t2, w_t3]
  rfl
set_option maxRecDepth 65536 in
theorem w_case : (Jvm.Cond.and given_1 narrow_1).before args0 about1 = true := by decide +kernel
theorem w_applies : (headSpec (Jvm.Cond.code x code maxLocals ret :: tables_1) room_1).applies x e0.platform about1 = true :=
  (Spec.applies_iff w_frames).mpr ⟨w_running, w_runnable, w_alone, w_named, w_hears, w_ripe, w_room, w_tables⟩
theorem atStart : AtStart classFile x code maxLocals ret World_1 tables_1 room_1 Calls_1 rest_1 Pre_1 launch0 p0 e0 about1 theMethod args0 below0 :=
  ⟨lists_1, trivial, launch0.admits_env _ _ _, launch0.least_env, fairChoices_fair.cas, fairChoices_fair.clock, w_frames, w_args, w_heap, w_applies, trivial, trivial, w_case⟩
end start1
theorem witness_1 : WitnessClaimed_1 := ⟨start1.p0, start1.e0, start1.about1, start1.theMethod, start1.args0, start1.below0, start1.atStart⟩
end Jvm.Pilot.@@N@@
