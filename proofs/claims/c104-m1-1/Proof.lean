import JvmDerived
import JvmDerived.Pilot.@@N@@Statement
import JvmDerived.Pilot.@@N@@Code
set_option linter.unusedVariables false
set_option linter.unusedSimpArgs false
namespace Jvm.RoadKit
open Sem ClassFile Op Lib Jvm.Stand Jvm.Free Jvm.LawKit
section New
variable {p : Program} {l : Launch} {e : Env} {R : Room} {s : State} {m : MethodId} {args : Array Value} {below : List Frame} {meth : Method} {c : Code} {T : State} {locs : List Loc} {cells slots : Nat}
theorem retI (X : Stand p l e R s m args below meth c T locs cells slots) (hx : p.tables.exec = Jvm.exec) {pc : Nat} {Ls : Array Slot} {z : Int32} {rest : List Value} (hret : meth.sig.returnType = some .int) (hd : decode c.code pc = .ok (.ireturn, 1)) {fs : List Frame}
    (hl : ∀ (f : JFrame) (acts : List Action), f.method = m → f.locked = none → f.entered = [] → (doReturn e (T.setTop f) acts (some (.int z))).1 = T.setFrames fs) : Steps p.tables e below (T.setTop (mkF m pc Ls (.int z :: rest))) (T.setFrames fs) :=
  retOut X hx hret rfl (Or.inl ⟨rfl, Or.inl rfl, _, rfl⟩) hd hl
theorem own_retL (X : Stand p l e R s m args below meth c T locs cells slots) (hx : p.tables.exec = Jvm.exec) {pc : Nat} {Ls : Array Slot} {z : Int64} {rest : List Value} (hret : meth.sig.returnType = some .long) (hd : decode c.code pc = .ok (.lreturn, 1)) {fs : List Frame}
    (hl : ∀ (f : JFrame) (acts : List Action), f.method = m → f.locked = none → f.entered = [] → (doReturn e (T.setTop f) acts (some (.long z))).1 = T.setFrames fs) : Steps p.tables e below (T.setTop (mkF m pc Ls (.long z :: rest))) (T.setFrames fs) :=
  retOut X hx hret rfl (Or.inr (Or.inl ⟨rfl, rfl, _, rfl⟩)) hd hl
theorem own_retA (X : Stand p l e R s m args below meth c T locs cells slots) (hx : p.tables.exec = Jvm.exec) {pc : Nat} {Ls : Array Slot} {z : Addr} {rest : List Value} {t : FieldType} (hret : meth.sig.returnType = some t) (ht : t.isReference = true) (hd : decode c.code pc = .ok (.areturn, 1)) {fs : List Frame}
    (hl : ∀ (f : JFrame) (acts : List Action), f.method = m → f.locked = none → f.entered = [] → (doReturn e (T.setTop f) acts (some (.ref z))).1 = T.setFrames fs) : Steps p.tables e below (T.setTop (mkF m pc Ls (.ref z :: rest))) (T.setFrames fs) :=
  retOut X hx hret (by cases t <;> first | rfl | (cases ht; done)) (Or.inr (Or.inr (Or.inr (Or.inr ⟨rfl, ht, rfl⟩)))) hd hl
theorem own_lrem {g : JFrame} {target : State} (X : Stand p l e R s m args below meth c T locs cells slots) (hx : p.tables.exec = Jvm.exec) (hg : g.method = m) {x y : Int64} {rest : List Value} (hd : decode c.code g.pc = .ok (.lrem, 1)) (hs : g.stack = .long y :: .long x :: rest) (hy : y ≠ 0)
    (hr : Steps p.tables e below (T.setTop { g with pc := g.pc + 1, stack := .long (x % y) :: rest }) target) : Steps p.tables e below (T.setTop g) target :=
  XS.lrem X.here hx hg hd hs hy (by rw [lrem_mod]; exact hr)
end New
/-- one step of a walk whose end is still to be found -/
theorem own_by {tb : Tables} {e : Env} {below : List Frame} {A A' : State} {P : State → Outcome → Prop} (k : ∀ t, Steps tb e below A' t → Steps tb e below A t) (h : ∃ s₂ o, Steps tb e below A' s₂ ∧ P s₂ o) : ∃ s₂ o, Steps tb e below A s₂ ∧ P s₂ o := by
  obtain ⟨s₂, o, h1, h2⟩ := h; exact ⟨s₂, o, k _ h1, h2⟩
theorem own_st {tb : Tables} {e : Env} {below : List Frame} {A A' t : State} (k : ∀ t, Steps tb e below A' t → Steps tb e below A t) (h : Steps tb e below A' t) : Steps tb e below A t := k _ h
/-- all roads that meet again -/
theorem own_cut {tb : Tables} {e : Env} {below : List Frame} {A : State} {P : State → Outcome → Prop} {Φ : State → Prop} (h1 : (∀ A', Φ A' → ∃ s₂ o, Steps tb e below A' s₂ ∧ P s₂ o) → ∃ s₂ o, Steps tb e below A s₂ ∧ P s₂ o) (h2 : ∀ A', Φ A' → ∃ s₂ o, Steps tb e below A' s₂ ∧ P s₂ o) : ∃ s₂ o, Steps tb e below A s₂ ∧ P s₂ o := h1 h2
/-- an array: its kind, its length, and what each place holds -/
def AF (Z : State) (h : Heap) (a : Addr) (ty : FieldType) (n : Int32) (f : Nat → Value) : Prop := ∃ c : Cell, Arr Z h a c ty ∧ c.slots.size = n.toNatClampNeg ∧ ¬ n < 0 ∧ ∀ i, i < c.slots.size → c.slots[i]? = some (f i)
section AFs
variable {Z : State} {h h' : Heap} {a b : Addr} {ty : FieldType} {n : Int32} {f f' : Nat → Value} {v : Value} {sl : Nat} {ws : List Addr}
theorem AF.lt (F : AF Z h a ty n f) : a < h.size := by obtain ⟨c, A, -⟩ := F; exact A.lt
theorem AF.ext (F : AF Z h a ty n f) (E : Ext h h') : AF Z h' a ty n f := by obtain ⟨c, A, r⟩ := F; exact ⟨c, A.ext E, r⟩
theorem AF.other (F : AF Z h b ty n f) (W : Wr h h' a sl v) (q : b ≠ a) : AF Z h' b ty n f := by obtain ⟨c, A, r⟩ := F; exact ⟨c, A.other W q, r⟩
theorem AF.keep (F : AF Z h a ty n f) (K : Keep h h' ws) (q : a ∉ ws) : AF Z h' a ty n f := by obtain ⟨c, A, r⟩ := F; exact ⟨c, ⟨K.2.1 a c A.1 q, A.2⟩, r⟩
theorem AF.to (F : AF Z h a ty n f) (q : ∀ i, i < n.toNatClampNeg → f i = f' i) : AF Z h a ty n f' := by
  obtain ⟨c, A, S, M, H⟩ := F; exact ⟨c, A, S, M, fun i hi => by rw [← q i (S ▸ hi)]; exact H i hi⟩
theorem AF.new {k : ClassId} (A : Arr Z h a (newA k ty n) ty) (q : ¬ n < 0) : AF Z h a ty n (fun _ => defaultValue ty) := ⟨_, A, sz_new _ _ _, q, fun i hi => by rw [sz_new] at hi; simp [newA, hi]⟩
theorem AF.set {c : Cell} {j : Int32} (A : Arr Z h a c ty) (S : c.slots.size = n.toNatClampNeg) (M : ¬ n < 0) (H : ∀ i, i < c.slots.size → c.slots[i]? = some (f i)) (hj : ¬ (j < 0 ∨ c.slots.size ≤ j.toNatClampNeg)) (W : Wr h h' a j.toNatClampNeg v) :
    AF Z h' a ty n (fun i => if i = j.toNatClampNeg then v else f i) := by
  refine ⟨_, A.same W, by rw [sz_set]; exact S, M, fun i hi => ?_⟩
  rw [sz_set] at hi
  have hj' : j.toNatClampNeg < c.slots.size := Nat.lt_of_not_le fun q => hj (Or.inr q)
  by_cases u : i = j.toNatClampNeg
  · subst u; simp [Cell.setSlot, hj']
  · have := H i hi; simp only [Cell.setSlot, if_neg u]
    rw [Array.getElem?_setIfInBounds_ne (Ne.symm u)]; exact this
end AFs
end Jvm.RoadKit
namespace Jvm.Pilot.@@N@@
open Jvm Jvm.ClassFile Sem Op Lib Jvm.Free Jvm.Stand Jvm.LawKit Jvm.RoadKit Bundle Jvm.Pilot.@@N@@.Jvm.D
def own_f1 (p0 : Int32) : Int32 := (if p0 = (9 : Int32) then (nar .char (32 : Int32)) else (if p0 = (160 : Int32) then (nar .char (32 : Int32)) else (if p0 = (8208 : Int32) then (nar .char (45 : Int32)) else (if p0 = (8209 : Int32) then (nar .char (45 : Int32)) else (if p0 = (8210 : Int32) then (nar .char (45 : Int32)) else (if p0 = (8211 : Int32) then (nar .char (45 : Int32)) else (if p0 = (8722 : Int32) then (nar .char (45 : Int32)) else (nar .char p0))))))))
theorem pn_0 : plainName "com/example/bookland/bookland/Spelling" = true := by first | (simp [plainName, overriddenIn]; done) | decide +kernel
theorem d1_0 : decode prog_32_method_4_code 0 = .ok (.iload_n 0, 1) := by decide +kernel
theorem d1_1 : decode prog_32_method_4_code 1 = .ok (.lookupswitch 77 #[(9, 72), (160, 72), (8208, 67), (8209, 67), (8210, 67), (8211, 67), (8722, 67)], 67) := by decide +kernel
theorem d1_68 : decode prog_32_method_4_code 68 = .ok (.bipush 45, 2) := by decide +kernel
theorem d1_70 : decode prog_32_method_4_code 70 = .ok (.goto 9, 3) := by decide +kernel
theorem d1_73 : decode prog_32_method_4_code 73 = .ok (.bipush 32, 2) := by decide +kernel
theorem d1_75 : decode prog_32_method_4_code 75 = .ok (.goto 4, 3) := by decide +kernel
theorem d1_78 : decode prog_32_method_4_code 78 = .ok (.iload_n 0, 1) := by decide +kernel
theorem d1_79 : decode prog_32_method_4_code 79 = .ok (.ireturn, 1) := by decide +kernel
theorem ef_rm1 (m : MethodId) (p0 : Int32) : entryFrame m #[(.int p0)] 1 = mkF m 0 #[.val (.int p0)] [] := by first | (simp [entryFrame, mkF, argsToLocals, Value.category]; done) | rfl
def Q1 (Z : State) (p0 : Int32) (h0 : Heap) (n0 : Nat) (v : Option Value) (h : Heap) (L : List Loc) : Prop := v = some (.int (own_f1 p0)) ∧ Fr n0 L ∧ h = h0
set_option maxRecDepth 65536 in
set_option maxHeartbeats 40000000 in
theorem rm1 (l : Launch) (Z : State) (aw : Array Value) (hw : ∀ d ∈ tables_1, d.before aw Z = true) (ws : List Jvm.Cond) (p0 : Int32) (h0 : Heap) (n0 : Nat) (Z0 : n0 ≤ h0.size) :
    MetFree l (⟨"com/example/bookland/bookland/Spelling", "readAs", "(C)C"⟩ : MethodName) (head1 (Jvm.Cond.code (⟨"com/example/bookland/bookland/Spelling", "readAs", "(C)C"⟩ : MethodName) prog_32_method_4_code 1 (some .char) :: ws) ({ frames := 0, cells := 0, slots := 0, locals := 0 } : Room)) (fun a U => a = #[(.int p0)] ∧ Z.Warmed39 U.vm ∧ U.heap = h0) (fun _ _ _ _ _ => True) (fun _ U o U' => ∃ v L, o = .returned v ∧ Q1 Z p0 h0 n0 v U'.heap L ∧ FrameEnd U o U' L ({ frames := 0, cells := 0, slots := 0, locals := 0 } : Room).cells ({ frames := 0, cells := 0, slots := 0, locals := 0 } : Room).slots) := by
  refine MetFree.of_bodySF (plainFor_of_name pn_0) hisR ?_
  intro p e s m args below meth c s₁ Bd hml0 hP hK
  obtain ⟨rfl, hZ, hh⟩ := hP
  have hx := Bd.exec
  have hby := Bd.bytes
  have hml : c.maxLocals = 1 := hml0
  have hown : s.vm.findClass "com/example/bookland/bookland/Spelling" = some m.cls := findClass_of_methodNamed Bd.named
  have hnm := (name_of_methodNamed Bd.named Bd.method).1
  have X0 : Stand p l e ({ frames := 0, cells := 0, slots := 0, locals := 0 } : Room) s m #[(.int p0)] below meth c s₁ [] 0 0 := Stand.of_body Bd
  have e0 : s₁.heap = h0 := by rw [← hh, Bd.state]; rfl
  have N0 := Fr.nil n0
  have K0 : Keep h0 h0 [] := Keep.refl _ _
  refine own_by (A' := s₁.setTop (mkF m 0 #[.val (.int p0)] [])) (fun t k => castTop (ef_rm1 m p0) k) ?_
  refine own_by (A' := s₁.setTop (mkF m 1 #[.val (.int p0)] [(.int p0)])) (fun t kt => ?_) ?_
  · show Steps p.tables e below (s₁.setTop (mkF m 0 #[.val (.int p0)] [])) t
    refine XS.iloadN X0.here hx rfl (hb hby d1_0) rfl ?_
    exact kt
  by_cases hk1_1 : p0 = (9 : Int32)
  · refine own_by (A' := s₁.setTop (mkF m 79 #[.val (.int p0)] [(.int (32 : Int32))])) (fun t kt => ?_) ?_
    · show Steps p.tables e below (s₁.setTop (mkF m 1 #[.val (.int p0)] [(.int p0)])) t
      refine X0.lookupswitchHit hx (g := (mkF m 1 #[.val (.int p0)] [(.int p0)])) rfl rfl (hb hby d1_1) (by decide) (a := 9) (off := 72) (by rw [hk1_1]; decide) (by show (0 : Int) ≤ ((1 : Nat) : Int) + (72 : Int); decide) _ ?_
      show Steps p.tables e below (s₁.setTop (mkF m 73 #[.val (.int p0)] [])) t
      refine XS.bipush X0.here hx rfl (hb hby d1_73) ?_
      show Steps p.tables e below (s₁.setTop (mkF m 75 #[.val (.int p0)] [(.int (32 : Int32))])) t
      refine XS.goto X0.here hx rfl (pc0 := 75) (pc' := 79) rfl (hb hby d1_75) (by decide) (by decide) ?_
      exact kt
    obtain ⟨fs, hr, hrun, hended, hW, hsame⟩ := X0.leave (v := some (.int (nar .char (32 : Int32)))) (fun h => by rw [Bd.returns] at h; cases h)
    refine ⟨_, _, ?_, hrun, hended, _, _, rfl, ?_, ⟨_, rfl⟩, hW, hsame.mono (by decide) (by decide)⟩
    · exact retN X0 hx (t := .char) Bd.returns (by simp) (hb hby d1_79) hr
    · show Q1 Z p0 h0 n0 _ s₁.heap _
      rw [e0]
      exact ⟨(by rw [own_f1, if_pos hk1_1]), N0, rfl⟩
  · by_cases hk1_2 : p0 = (160 : Int32)
    · refine own_by (A' := s₁.setTop (mkF m 79 #[.val (.int p0)] [(.int (32 : Int32))])) (fun t kt => ?_) ?_
      · show Steps p.tables e below (s₁.setTop (mkF m 1 #[.val (.int p0)] [(.int p0)])) t
        refine X0.lookupswitchHit hx (g := (mkF m 1 #[.val (.int p0)] [(.int p0)])) rfl rfl (hb hby d1_1) (by decide) (a := 160) (off := 72) (by rw [hk1_2]; decide) (by show (0 : Int) ≤ ((1 : Nat) : Int) + (72 : Int); decide) _ ?_
        show Steps p.tables e below (s₁.setTop (mkF m 73 #[.val (.int p0)] [])) t
        refine XS.bipush X0.here hx rfl (hb hby d1_73) ?_
        show Steps p.tables e below (s₁.setTop (mkF m 75 #[.val (.int p0)] [(.int (32 : Int32))])) t
        refine XS.goto X0.here hx rfl (pc0 := 75) (pc' := 79) rfl (hb hby d1_75) (by decide) (by decide) ?_
        exact kt
      obtain ⟨fs, hr, hrun, hended, hW, hsame⟩ := X0.leave (v := some (.int (nar .char (32 : Int32)))) (fun h => by rw [Bd.returns] at h; cases h)
      refine ⟨_, _, ?_, hrun, hended, _, _, rfl, ?_, ⟨_, rfl⟩, hW, hsame.mono (by decide) (by decide)⟩
      · exact retN X0 hx (t := .char) Bd.returns (by simp) (hb hby d1_79) hr
      · show Q1 Z p0 h0 n0 _ s₁.heap _
        rw [e0]
        exact ⟨(by rw [own_f1, if_neg hk1_1, if_pos hk1_2]), N0, rfl⟩
    · by_cases hk1_3 : p0 = (8208 : Int32)
      · refine own_by (A' := s₁.setTop (mkF m 79 #[.val (.int p0)] [(.int (45 : Int32))])) (fun t kt => ?_) ?_
        · show Steps p.tables e below (s₁.setTop (mkF m 1 #[.val (.int p0)] [(.int p0)])) t
          refine X0.lookupswitchHit hx (g := (mkF m 1 #[.val (.int p0)] [(.int p0)])) rfl rfl (hb hby d1_1) (by decide) (a := 8208) (off := 67) (by rw [hk1_3]; decide) (by show (0 : Int) ≤ ((1 : Nat) : Int) + (67 : Int); decide) _ ?_
          show Steps p.tables e below (s₁.setTop (mkF m 68 #[.val (.int p0)] [])) t
          refine XS.bipush X0.here hx rfl (hb hby d1_68) ?_
          show Steps p.tables e below (s₁.setTop (mkF m 70 #[.val (.int p0)] [(.int (45 : Int32))])) t
          refine XS.goto X0.here hx rfl (pc0 := 70) (pc' := 79) rfl (hb hby d1_70) (by decide) (by decide) ?_
          exact kt
        obtain ⟨fs, hr, hrun, hended, hW, hsame⟩ := X0.leave (v := some (.int (nar .char (45 : Int32)))) (fun h => by rw [Bd.returns] at h; cases h)
        refine ⟨_, _, ?_, hrun, hended, _, _, rfl, ?_, ⟨_, rfl⟩, hW, hsame.mono (by decide) (by decide)⟩
        · exact retN X0 hx (t := .char) Bd.returns (by simp) (hb hby d1_79) hr
        · show Q1 Z p0 h0 n0 _ s₁.heap _
          rw [e0]
          exact ⟨(by rw [own_f1, if_neg hk1_1, if_neg hk1_2, if_pos hk1_3]), N0, rfl⟩
      · by_cases hk1_4 : p0 = (8209 : Int32)
        · refine own_by (A' := s₁.setTop (mkF m 79 #[.val (.int p0)] [(.int (45 : Int32))])) (fun t kt => ?_) ?_
          · show Steps p.tables e below (s₁.setTop (mkF m 1 #[.val (.int p0)] [(.int p0)])) t
            refine X0.lookupswitchHit hx (g := (mkF m 1 #[.val (.int p0)] [(.int p0)])) rfl rfl (hb hby d1_1) (by decide) (a := 8209) (off := 67) (by rw [hk1_4]; decide) (by show (0 : Int) ≤ ((1 : Nat) : Int) + (67 : Int); decide) _ ?_
            show Steps p.tables e below (s₁.setTop (mkF m 68 #[.val (.int p0)] [])) t
            refine XS.bipush X0.here hx rfl (hb hby d1_68) ?_
            show Steps p.tables e below (s₁.setTop (mkF m 70 #[.val (.int p0)] [(.int (45 : Int32))])) t
            refine XS.goto X0.here hx rfl (pc0 := 70) (pc' := 79) rfl (hb hby d1_70) (by decide) (by decide) ?_
            exact kt
          obtain ⟨fs, hr, hrun, hended, hW, hsame⟩ := X0.leave (v := some (.int (nar .char (45 : Int32)))) (fun h => by rw [Bd.returns] at h; cases h)
          refine ⟨_, _, ?_, hrun, hended, _, _, rfl, ?_, ⟨_, rfl⟩, hW, hsame.mono (by decide) (by decide)⟩
          · exact retN X0 hx (t := .char) Bd.returns (by simp) (hb hby d1_79) hr
          · show Q1 Z p0 h0 n0 _ s₁.heap _
            rw [e0]
            exact ⟨(by rw [own_f1, if_neg hk1_1, if_neg hk1_2, if_neg hk1_3, if_pos hk1_4]), N0, rfl⟩
        · by_cases hk1_5 : p0 = (8210 : Int32)
          · refine own_by (A' := s₁.setTop (mkF m 79 #[.val (.int p0)] [(.int (45 : Int32))])) (fun t kt => ?_) ?_
            · show Steps p.tables e below (s₁.setTop (mkF m 1 #[.val (.int p0)] [(.int p0)])) t
              refine X0.lookupswitchHit hx (g := (mkF m 1 #[.val (.int p0)] [(.int p0)])) rfl rfl (hb hby d1_1) (by decide) (a := 8210) (off := 67) (by rw [hk1_5]; decide) (by show (0 : Int) ≤ ((1 : Nat) : Int) + (67 : Int); decide) _ ?_
              show Steps p.tables e below (s₁.setTop (mkF m 68 #[.val (.int p0)] [])) t
              refine XS.bipush X0.here hx rfl (hb hby d1_68) ?_
              show Steps p.tables e below (s₁.setTop (mkF m 70 #[.val (.int p0)] [(.int (45 : Int32))])) t
              refine XS.goto X0.here hx rfl (pc0 := 70) (pc' := 79) rfl (hb hby d1_70) (by decide) (by decide) ?_
              exact kt
            obtain ⟨fs, hr, hrun, hended, hW, hsame⟩ := X0.leave (v := some (.int (nar .char (45 : Int32)))) (fun h => by rw [Bd.returns] at h; cases h)
            refine ⟨_, _, ?_, hrun, hended, _, _, rfl, ?_, ⟨_, rfl⟩, hW, hsame.mono (by decide) (by decide)⟩
            · exact retN X0 hx (t := .char) Bd.returns (by simp) (hb hby d1_79) hr
            · show Q1 Z p0 h0 n0 _ s₁.heap _
              rw [e0]
              exact ⟨(by rw [own_f1, if_neg hk1_1, if_neg hk1_2, if_neg hk1_3, if_neg hk1_4, if_pos hk1_5]), N0, rfl⟩
          · by_cases hk1_6 : p0 = (8211 : Int32)
            · refine own_by (A' := s₁.setTop (mkF m 79 #[.val (.int p0)] [(.int (45 : Int32))])) (fun t kt => ?_) ?_
              · show Steps p.tables e below (s₁.setTop (mkF m 1 #[.val (.int p0)] [(.int p0)])) t
                refine X0.lookupswitchHit hx (g := (mkF m 1 #[.val (.int p0)] [(.int p0)])) rfl rfl (hb hby d1_1) (by decide) (a := 8211) (off := 67) (by rw [hk1_6]; decide) (by show (0 : Int) ≤ ((1 : Nat) : Int) + (67 : Int); decide) _ ?_
                show Steps p.tables e below (s₁.setTop (mkF m 68 #[.val (.int p0)] [])) t
                refine XS.bipush X0.here hx rfl (hb hby d1_68) ?_
                show Steps p.tables e below (s₁.setTop (mkF m 70 #[.val (.int p0)] [(.int (45 : Int32))])) t
                refine XS.goto X0.here hx rfl (pc0 := 70) (pc' := 79) rfl (hb hby d1_70) (by decide) (by decide) ?_
                exact kt
              obtain ⟨fs, hr, hrun, hended, hW, hsame⟩ := X0.leave (v := some (.int (nar .char (45 : Int32)))) (fun h => by rw [Bd.returns] at h; cases h)
              refine ⟨_, _, ?_, hrun, hended, _, _, rfl, ?_, ⟨_, rfl⟩, hW, hsame.mono (by decide) (by decide)⟩
              · exact retN X0 hx (t := .char) Bd.returns (by simp) (hb hby d1_79) hr
              · show Q1 Z p0 h0 n0 _ s₁.heap _
                rw [e0]
                exact ⟨(by rw [own_f1, if_neg hk1_1, if_neg hk1_2, if_neg hk1_3, if_neg hk1_4, if_neg hk1_5, if_pos hk1_6]), N0, rfl⟩
            · by_cases hk1_7 : p0 = (8722 : Int32)
              · refine own_by (A' := s₁.setTop (mkF m 79 #[.val (.int p0)] [(.int (45 : Int32))])) (fun t kt => ?_) ?_
                · show Steps p.tables e below (s₁.setTop (mkF m 1 #[.val (.int p0)] [(.int p0)])) t
                  refine X0.lookupswitchHit hx (g := (mkF m 1 #[.val (.int p0)] [(.int p0)])) rfl rfl (hb hby d1_1) (by decide) (a := 8722) (off := 67) (by rw [hk1_7]; decide) (by show (0 : Int) ≤ ((1 : Nat) : Int) + (67 : Int); decide) _ ?_
                  show Steps p.tables e below (s₁.setTop (mkF m 68 #[.val (.int p0)] [])) t
                  refine XS.bipush X0.here hx rfl (hb hby d1_68) ?_
                  show Steps p.tables e below (s₁.setTop (mkF m 70 #[.val (.int p0)] [(.int (45 : Int32))])) t
                  refine XS.goto X0.here hx rfl (pc0 := 70) (pc' := 79) rfl (hb hby d1_70) (by decide) (by decide) ?_
                  exact kt
                obtain ⟨fs, hr, hrun, hended, hW, hsame⟩ := X0.leave (v := some (.int (nar .char (45 : Int32)))) (fun h => by rw [Bd.returns] at h; cases h)
                refine ⟨_, _, ?_, hrun, hended, _, _, rfl, ?_, ⟨_, rfl⟩, hW, hsame.mono (by decide) (by decide)⟩
                · exact retN X0 hx (t := .char) Bd.returns (by simp) (hb hby d1_79) hr
                · show Q1 Z p0 h0 n0 _ s₁.heap _
                  rw [e0]
                  exact ⟨(by rw [own_f1, if_neg hk1_1, if_neg hk1_2, if_neg hk1_3, if_neg hk1_4, if_neg hk1_5, if_neg hk1_6, if_pos hk1_7]), N0, rfl⟩
              · refine own_by (A' := s₁.setTop (mkF m 79 #[.val (.int p0)] [(.int p0)])) (fun t kt => ?_) ?_
                · show Steps p.tables e below (s₁.setTop (mkF m 1 #[.val (.int p0)] [(.int p0)])) t
                  refine X0.lookupswitchMiss hx (g := (mkF m 1 #[.val (.int p0)] [(.int p0)])) rfl rfl (hb hby d1_1) (by decide) (by show _ = _; exact (find_miss (by intro q hq; simp only [List.mem_cons, List.not_mem_nil, or_false] at hq; rcases hq with rfl | rfl | rfl | rfl | rfl | rfl | rfl <;> intro e <;> first | exact hk1_1 (Int32.toInt_inj.mp (e.symm.trans (by decide))) | exact hk1_2 (Int32.toInt_inj.mp (e.symm.trans (by decide))) | exact hk1_3 (Int32.toInt_inj.mp (e.symm.trans (by decide))) | exact hk1_4 (Int32.toInt_inj.mp (e.symm.trans (by decide))) | exact hk1_5 (Int32.toInt_inj.mp (e.symm.trans (by decide))) | exact hk1_6 (Int32.toInt_inj.mp (e.symm.trans (by decide))) | exact hk1_7 (Int32.toInt_inj.mp (e.symm.trans (by decide)))))) (by show (0 : Int) ≤ ((1 : Nat) : Int) + (77 : Int); decide) _ ?_
                  show Steps p.tables e below (s₁.setTop (mkF m 78 #[.val (.int p0)] [])) t
                  refine XS.iloadN X0.here hx rfl (hb hby d1_78) rfl ?_
                  exact kt
                obtain ⟨fs, hr, hrun, hended, hW, hsame⟩ := X0.leave (v := some (.int (nar .char p0))) (fun h => by rw [Bd.returns] at h; cases h)
                refine ⟨_, _, ?_, hrun, hended, _, _, rfl, ?_, ⟨_, rfl⟩, hW, hsame.mono (by decide) (by decide)⟩
                · exact retN X0 hx (t := .char) Bd.returns (by simp) (hb hby d1_79) hr
                · show Q1 Z p0 h0 n0 _ s₁.heap _
                  rw [e0]
                  exact ⟨(by rw [own_f1, if_neg hk1_1, if_neg hk1_2, if_neg hk1_3, if_neg hk1_4, if_neg hk1_5, if_neg hk1_6, if_neg hk1_7]), N0, rfl⟩
theorem own_narc (u : Int32) (h0 : 0 ≤ u.toInt) (h1 : u.toInt < 65536) : u.toUInt32.toUInt16.toUInt32.toInt32 = u := by
  have := c_i2c u
  exact Int32.toInt_inj.mp (by omega)
theorem own_nar (u : Int32) (h0 : 0 ≤ u.toInt) (h1 : u.toInt < 65536) : nar .char u = u := own_narc u h0 h1
theorem own_n32 : nar .char (32 : Int32) = 32 := by decide
theorem own_n45 : nar .char (45 : Int32) = 45 := by decide
theorem own_rng (x : Int32) : 0 ≤ (x &&& (65535 : Int32)).toInt ∧ (x &&& (65535 : Int32)).toInt < 65536 := by
  have := c_mask x 65535 16 (by decide) (by decide)
  omega
theorem own_twice (u : Int32) (h0 : 0 ≤ u.toInt) (h1 : u.toInt < 65536) : own_f1 (own_f1 u) = own_f1 u := by
  have e := own_nar u h0 h1
  have h : own_f1 u = 32 ∨ own_f1 u = 45 ∨ own_f1 u = u := by
    simp only [own_f1, own_n32, own_n45, e]
    repeat' split
    all_goals simp
  rcases h with h | h | h
  · rw [h]; decide
  · rw [h]; decide
  · rw [h]; exact h

theorem pn_1 : plainName "com/example/bookland/bookland/SpellingReadAsPinLaw" = true := by first | (simp [plainName, overriddenIn]; done) | decide +kernel
theorem pd_2 : parseMethodDescriptor "(C)C" = some ⟨[.char], some .char⟩ := by decide +kernel
theorem ef_rm0 (m : MethodId) (p0 : Int32) : entryFrame m #[(.int p0)] maxLocals = mkF m 0 #[.val (.int p0), .unset, .unset, .unset, .unset] [] := by first | (simp [entryFrame, mkF, argsToLocals, Value.category, maxLocals]; done) | rfl
def Q0 (Z : State) (p0 : Int32) (h0 : Heap) (n0 : Nat) (v : Option Value) (h : Heap) (L : List Loc) : Prop := v = some (.int 1) ∧ Fr n0 L
set_option maxRecDepth 65536 in
set_option maxHeartbeats 40000000 in
theorem rm0 (l : Launch) (Z : State) (aw : Array Value) (hw : ∀ d ∈ tables_1, d.before aw Z = true) (ws : List Jvm.Cond) (p0 : Int32) (h0 : Heap) (n0 : Nat) (Z0 : n0 ≤ h0.size) :
    MetFree l x (head1 (Jvm.Cond.code x code maxLocals ret :: ws) room_1) (fun a U => a = #[(.int p0)] ∧ Z.Warmed39 U.vm ∧ U.heap = h0) (fun _ _ _ _ _ => True) (fun _ U o U' => ∃ v L, o = .returned v ∧ Q0 Z p0 h0 n0 v U'.heap L ∧ FrameEnd U o U' L 0 0) := by
  refine MetFree.of_bodySF (plainFor_of_name pn_1) hisR ?_
  intro p e s m args below meth c s₁ Bd hml0 hP hK
  obtain ⟨rfl, hZ, hh⟩ := hP
  have hx := Bd.exec
  have hby := Bd.bytes
  have hml : c.maxLocals = 5 := hml0
  have hown : s.vm.findClass "com/example/bookland/bookland/SpellingReadAsPinLaw" = some m.cls := findClass_of_methodNamed Bd.named
  have hnm := (name_of_methodNamed Bd.named Bd.method).1
  have X0 : Stand p l e room_1 s m #[(.int p0)] below meth c s₁ [] 0 0 := Stand.of_body Bd
  have e0 : s₁.heap = h0 := by rw [← hh, Bd.state]; rfl
  have N0 := Fr.nil n0
  have K0 : Keep h0 h0 [] := Keep.refl _ _
  refine own_by (A' := s₁.setTop (mkF m 0 #[.val (.int p0), .unset, .unset, .unset, .unset] [])) (fun t k => castTop (ef_rm0 m p0) k) ?_
  refine own_by (A' := s₁.setTop (mkF m 12 #[.val (.int p0), .val (.int (p0 &&& (65535 : Int32))), .val (.int ((p0 &&& (65535 : Int32)).toUInt32.toUInt16.toUInt32.toInt32)), .unset, .unset] [(.int (8208 : Int32)), (.int (p0 &&& (65535 : Int32)))])) (fun t kt => ?_) ?_
  · show Steps p.tables e below (s₁.setTop (mkF m 0 #[.val (.int p0), .unset, .unset, .unset, .unset] [])) t
    refine XS.iloadN X0.here hx rfl (hb hby at_0) rfl ?_
    show Steps p.tables e below (s₁.setTop (mkF m 1 #[.val (.int p0), .unset, .unset, .unset, .unset] [(.int p0)])) t
    refine X0.ldcInt hx hown (mvT hZ (hw _ (List.mem_of_getElem? (i := 0) rfl))) (g := (mkF m 1 #[.val (.int p0), .unset, .unset, .unset, .unset] [(.int p0)])) rfl (hb hby at_1) _ ?_
    show Steps p.tables e below (s₁.setTop (mkF m 3 #[.val (.int p0), .unset, .unset, .unset, .unset] [(.int (65535 : Int32)), (.int p0)])) t
    refine XS.iand X0.here hx rfl (hb hby at_3) rfl ?_
    show Steps p.tables e below (s₁.setTop (mkF m 4 #[.val (.int p0), .unset, .unset, .unset, .unset] [(.int (p0 &&& (65535 : Int32)))])) t
    refine XS.istoreN X0.here hx rfl (hb hby at_4) rfl (l' := #[.val (.int p0), .val (.int (p0 &&& (65535 : Int32))), .unset, .unset, .unset]) rfl ?_
    show Steps p.tables e below (s₁.setTop (mkF m 5 #[.val (.int p0), .val (.int (p0 &&& (65535 : Int32))), .unset, .unset, .unset] [])) t
    refine XS.iloadN X0.here hx rfl (hb hby at_5) rfl ?_
    show Steps p.tables e below (s₁.setTop (mkF m 6 #[.val (.int p0), .val (.int (p0 &&& (65535 : Int32))), .unset, .unset, .unset] [(.int (p0 &&& (65535 : Int32)))])) t
    refine XS.i2c X0.here hx rfl (hb hby at_6) rfl ?_
    show Steps p.tables e below (s₁.setTop (mkF m 7 #[.val (.int p0), .val (.int (p0 &&& (65535 : Int32))), .unset, .unset, .unset] [(.int ((p0 &&& (65535 : Int32)).toUInt32.toUInt16.toUInt32.toInt32))])) t
    refine XS.istoreN X0.here hx rfl (hb hby at_7) rfl (l' := #[.val (.int p0), .val (.int (p0 &&& (65535 : Int32))), .val (.int ((p0 &&& (65535 : Int32)).toUInt32.toUInt16.toUInt32.toInt32)), .unset, .unset]) rfl ?_
    show Steps p.tables e below (s₁.setTop (mkF m 8 #[.val (.int p0), .val (.int (p0 &&& (65535 : Int32))), .val (.int ((p0 &&& (65535 : Int32)).toUInt32.toUInt16.toUInt32.toInt32)), .unset, .unset] [])) t
    refine XS.iloadN X0.here hx rfl (hb hby at_8) rfl ?_
    show Steps p.tables e below (s₁.setTop (mkF m 9 #[.val (.int p0), .val (.int (p0 &&& (65535 : Int32))), .val (.int ((p0 &&& (65535 : Int32)).toUInt32.toUInt16.toUInt32.toInt32)), .unset, .unset] [(.int (p0 &&& (65535 : Int32)))])) t
    refine XS.sipush X0.here hx rfl (hb hby at_9) ?_
    exact kt
  refine own_by (A' := s₁.setTop (mkF m 56 #[.val (.int p0), .val (.int (p0 &&& (65535 : Int32))), .val (.int ((p0 &&& (65535 : Int32)).toUInt32.toUInt16.toUInt32.toInt32)), .val (.int (if (p0 &&& (65535 : Int32)) < (8208 : Int32) then (if (p0 &&& (65535 : Int32)) = (8722 : Int32) then (45 : Int32) else (if (p0 &&& (65535 : Int32)) = (160 : Int32) then (32 : Int32) else (if (p0 &&& (65535 : Int32)) = (9 : Int32) then (32 : Int32) else ((p0 &&& (65535 : Int32)).toUInt32.toUInt16.toUInt32.toInt32)))) else (if (8211 : Int32) < (p0 &&& (65535 : Int32)) then (if (p0 &&& (65535 : Int32)) = (8722 : Int32) then (45 : Int32) else (if (p0 &&& (65535 : Int32)) = (160 : Int32) then (32 : Int32) else (if (p0 &&& (65535 : Int32)) = (9 : Int32) then (32 : Int32) else ((p0 &&& (65535 : Int32)).toUInt32.toUInt16.toUInt32.toInt32)))) else (45 : Int32)))), .unset] [])) (fun t kt => ?_) ?_
  · show Steps p.tables e below (s₁.setTop (mkF m 12 #[.val (.int p0), .val (.int (p0 &&& (65535 : Int32))), .val (.int ((p0 &&& (65535 : Int32)).toUInt32.toUInt16.toUInt32.toInt32)), .unset, .unset] [(.int (8208 : Int32)), (.int (p0 &&& (65535 : Int32)))])) t
    by_cases hj12_1 : (p0 &&& (65535 : Int32)) < (8208 : Int32)
    · rw [if_pos hj12_1] at kt
      show Steps p.tables e below (s₁.setTop (mkF m 12 #[.val (.int p0), .val (.int (p0 &&& (65535 : Int32))), .val (.int ((p0 &&& (65535 : Int32)).toUInt32.toUInt16.toUInt32.toInt32)), .unset, .unset] [(.int (8208 : Int32)), (.int (p0 &&& (65535 : Int32)))])) t
      refine XS.icmpYes X0.here hx rfl (pc0 := 12) (pc' := 22) rfl (hb hby at_12) rfl (tlt hj12_1).1 (by decide) (by decide) ?_
      show Steps p.tables e below (s₁.setTop (mkF m 22 #[.val (.int p0), .val (.int (p0 &&& (65535 : Int32))), .val (.int ((p0 &&& (65535 : Int32)).toUInt32.toUInt16.toUInt32.toInt32)), .unset, .unset] [])) t
      refine XS.iloadN X0.here hx rfl (hb hby at_22) rfl ?_
      show Steps p.tables e below (s₁.setTop (mkF m 23 #[.val (.int p0), .val (.int (p0 &&& (65535 : Int32))), .val (.int ((p0 &&& (65535 : Int32)).toUInt32.toUInt16.toUInt32.toInt32)), .unset, .unset] [(.int (p0 &&& (65535 : Int32)))])) t
      refine XS.sipush X0.here hx rfl (hb hby at_23) ?_
      refine own_st (A' := s₁.setTop (mkF m 56 #[.val (.int p0), .val (.int (p0 &&& (65535 : Int32))), .val (.int ((p0 &&& (65535 : Int32)).toUInt32.toUInt16.toUInt32.toInt32)), .val (.int (if (p0 &&& (65535 : Int32)) = (8722 : Int32) then (45 : Int32) else (if (p0 &&& (65535 : Int32)) = (160 : Int32) then (32 : Int32) else (if (p0 &&& (65535 : Int32)) = (9 : Int32) then (32 : Int32) else ((p0 &&& (65535 : Int32)).toUInt32.toUInt16.toUInt32.toInt32))))), .unset] [])) (fun t kt => ?_) ?_
      · show Steps p.tables e below (s₁.setTop (mkF m 26 #[.val (.int p0), .val (.int (p0 &&& (65535 : Int32))), .val (.int ((p0 &&& (65535 : Int32)).toUInt32.toUInt16.toUInt32.toInt32)), .unset, .unset] [(.int (8722 : Int32)), (.int (p0 &&& (65535 : Int32)))])) t
        by_cases hj26_2 : (p0 &&& (65535 : Int32)) = (8722 : Int32)
        · rw [if_pos hj26_2] at kt
          show Steps p.tables e below (s₁.setTop (mkF m 26 #[.val (.int p0), .val (.int (p0 &&& (65535 : Int32))), .val (.int ((p0 &&& (65535 : Int32)).toUInt32.toUInt16.toUInt32.toInt32)), .unset, .unset] [(.int (8722 : Int32)), (.int (p0 &&& (65535 : Int32)))])) t
          refine XS.icmpNo X0.here hx rfl (hb hby at_26) rfl (teq hj26_2).2 ?_
          show Steps p.tables e below (s₁.setTop (mkF m 29 #[.val (.int p0), .val (.int (p0 &&& (65535 : Int32))), .val (.int ((p0 &&& (65535 : Int32)).toUInt32.toUInt16.toUInt32.toInt32)), .unset, .unset] [])) t
          refine XS.bipush X0.here hx rfl (hb hby at_29) ?_
          show Steps p.tables e below (s₁.setTop (mkF m 31 #[.val (.int p0), .val (.int (p0 &&& (65535 : Int32))), .val (.int ((p0 &&& (65535 : Int32)).toUInt32.toUInt16.toUInt32.toInt32)), .unset, .unset] [(.int (45 : Int32))])) t
          refine XS.istoreN X0.here hx rfl (hb hby at_31) rfl (l' := #[.val (.int p0), .val (.int (p0 &&& (65535 : Int32))), .val (.int ((p0 &&& (65535 : Int32)).toUInt32.toUInt16.toUInt32.toInt32)), .val (.int (45 : Int32)), .unset]) rfl ?_
          show Steps p.tables e below (s₁.setTop (mkF m 32 #[.val (.int p0), .val (.int (p0 &&& (65535 : Int32))), .val (.int ((p0 &&& (65535 : Int32)).toUInt32.toUInt16.toUInt32.toInt32)), .val (.int (45 : Int32)), .unset] [])) t
          refine XS.goto X0.here hx rfl (pc0 := 32) (pc' := 56) rfl (hb hby at_32) (by decide) (by decide) ?_
          exact kt
        · rw [if_neg hj26_2] at kt
          show Steps p.tables e below (s₁.setTop (mkF m 26 #[.val (.int p0), .val (.int (p0 &&& (65535 : Int32))), .val (.int ((p0 &&& (65535 : Int32)).toUInt32.toUInt16.toUInt32.toInt32)), .unset, .unset] [(.int (8722 : Int32)), (.int (p0 &&& (65535 : Int32)))])) t
          refine XS.icmpYes X0.here hx rfl (pc0 := 26) (pc' := 35) rfl (hb hby at_26) rfl (feq hj26_2).2 (by decide) (by decide) ?_
          show Steps p.tables e below (s₁.setTop (mkF m 35 #[.val (.int p0), .val (.int (p0 &&& (65535 : Int32))), .val (.int ((p0 &&& (65535 : Int32)).toUInt32.toUInt16.toUInt32.toInt32)), .unset, .unset] [])) t
          refine XS.iloadN X0.here hx rfl (hb hby at_35) rfl ?_
          show Steps p.tables e below (s₁.setTop (mkF m 36 #[.val (.int p0), .val (.int (p0 &&& (65535 : Int32))), .val (.int ((p0 &&& (65535 : Int32)).toUInt32.toUInt16.toUInt32.toInt32)), .unset, .unset] [(.int (p0 &&& (65535 : Int32)))])) t
          refine XS.sipush X0.here hx rfl (hb hby at_36) ?_
          refine own_st (A' := s₁.setTop (mkF m 56 #[.val (.int p0), .val (.int (p0 &&& (65535 : Int32))), .val (.int ((p0 &&& (65535 : Int32)).toUInt32.toUInt16.toUInt32.toInt32)), .val (.int (if (p0 &&& (65535 : Int32)) = (160 : Int32) then (32 : Int32) else (if (p0 &&& (65535 : Int32)) = (9 : Int32) then (32 : Int32) else ((p0 &&& (65535 : Int32)).toUInt32.toUInt16.toUInt32.toInt32)))), .unset] [])) (fun t kt => ?_) ?_
          · show Steps p.tables e below (s₁.setTop (mkF m 39 #[.val (.int p0), .val (.int (p0 &&& (65535 : Int32))), .val (.int ((p0 &&& (65535 : Int32)).toUInt32.toUInt16.toUInt32.toInt32)), .unset, .unset] [(.int (160 : Int32)), (.int (p0 &&& (65535 : Int32)))])) t
            by_cases hj39_3 : (p0 &&& (65535 : Int32)) = (160 : Int32)
            · rw [if_pos hj39_3] at kt
              show Steps p.tables e below (s₁.setTop (mkF m 39 #[.val (.int p0), .val (.int (p0 &&& (65535 : Int32))), .val (.int ((p0 &&& (65535 : Int32)).toUInt32.toUInt16.toUInt32.toInt32)), .unset, .unset] [(.int (160 : Int32)), (.int (p0 &&& (65535 : Int32)))])) t
              refine XS.icmpYes X0.here hx rfl (pc0 := 39) (pc' := 48) rfl (hb hby at_39) rfl (teq hj39_3).1 (by decide) (by decide) ?_
              show Steps p.tables e below (s₁.setTop (mkF m 48 #[.val (.int p0), .val (.int (p0 &&& (65535 : Int32))), .val (.int ((p0 &&& (65535 : Int32)).toUInt32.toUInt16.toUInt32.toInt32)), .unset, .unset] [])) t
              refine XS.bipush X0.here hx rfl (hb hby at_48) ?_
              show Steps p.tables e below (s₁.setTop (mkF m 50 #[.val (.int p0), .val (.int (p0 &&& (65535 : Int32))), .val (.int ((p0 &&& (65535 : Int32)).toUInt32.toUInt16.toUInt32.toInt32)), .unset, .unset] [(.int (32 : Int32))])) t
              refine XS.istoreN X0.here hx rfl (hb hby at_50) rfl (l' := #[.val (.int p0), .val (.int (p0 &&& (65535 : Int32))), .val (.int ((p0 &&& (65535 : Int32)).toUInt32.toUInt16.toUInt32.toInt32)), .val (.int (32 : Int32)), .unset]) rfl ?_
              show Steps p.tables e below (s₁.setTop (mkF m 51 #[.val (.int p0), .val (.int (p0 &&& (65535 : Int32))), .val (.int ((p0 &&& (65535 : Int32)).toUInt32.toUInt16.toUInt32.toInt32)), .val (.int (32 : Int32)), .unset] [])) t
              refine XS.goto X0.here hx rfl (pc0 := 51) (pc' := 56) rfl (hb hby at_51) (by decide) (by decide) ?_
              exact kt
            · rw [if_neg hj39_3] at kt
              show Steps p.tables e below (s₁.setTop (mkF m 39 #[.val (.int p0), .val (.int (p0 &&& (65535 : Int32))), .val (.int ((p0 &&& (65535 : Int32)).toUInt32.toUInt16.toUInt32.toInt32)), .unset, .unset] [(.int (160 : Int32)), (.int (p0 &&& (65535 : Int32)))])) t
              refine XS.icmpNo X0.here hx rfl (hb hby at_39) rfl (feq hj39_3).1 ?_
              show Steps p.tables e below (s₁.setTop (mkF m 42 #[.val (.int p0), .val (.int (p0 &&& (65535 : Int32))), .val (.int ((p0 &&& (65535 : Int32)).toUInt32.toUInt16.toUInt32.toInt32)), .unset, .unset] [])) t
              refine XS.iloadN X0.here hx rfl (hb hby at_42) rfl ?_
              show Steps p.tables e below (s₁.setTop (mkF m 43 #[.val (.int p0), .val (.int (p0 &&& (65535 : Int32))), .val (.int ((p0 &&& (65535 : Int32)).toUInt32.toUInt16.toUInt32.toInt32)), .unset, .unset] [(.int (p0 &&& (65535 : Int32)))])) t
              refine XS.bipush X0.here hx rfl (hb hby at_43) ?_
              refine own_st (A' := s₁.setTop (mkF m 56 #[.val (.int p0), .val (.int (p0 &&& (65535 : Int32))), .val (.int ((p0 &&& (65535 : Int32)).toUInt32.toUInt16.toUInt32.toInt32)), .val (.int (if (p0 &&& (65535 : Int32)) = (9 : Int32) then (32 : Int32) else ((p0 &&& (65535 : Int32)).toUInt32.toUInt16.toUInt32.toInt32))), .unset] [])) (fun t kt => ?_) ?_
              · show Steps p.tables e below (s₁.setTop (mkF m 45 #[.val (.int p0), .val (.int (p0 &&& (65535 : Int32))), .val (.int ((p0 &&& (65535 : Int32)).toUInt32.toUInt16.toUInt32.toInt32)), .unset, .unset] [(.int (9 : Int32)), (.int (p0 &&& (65535 : Int32)))])) t
                by_cases hj45_4 : (p0 &&& (65535 : Int32)) = (9 : Int32)
                · rw [if_pos hj45_4] at kt
                  show Steps p.tables e below (s₁.setTop (mkF m 45 #[.val (.int p0), .val (.int (p0 &&& (65535 : Int32))), .val (.int ((p0 &&& (65535 : Int32)).toUInt32.toUInt16.toUInt32.toInt32)), .unset, .unset] [(.int (9 : Int32)), (.int (p0 &&& (65535 : Int32)))])) t
                  refine XS.icmpNo X0.here hx rfl (hb hby at_45) rfl (teq hj45_4).2 ?_
                  show Steps p.tables e below (s₁.setTop (mkF m 48 #[.val (.int p0), .val (.int (p0 &&& (65535 : Int32))), .val (.int ((p0 &&& (65535 : Int32)).toUInt32.toUInt16.toUInt32.toInt32)), .unset, .unset] [])) t
                  refine XS.bipush X0.here hx rfl (hb hby at_48) ?_
                  show Steps p.tables e below (s₁.setTop (mkF m 50 #[.val (.int p0), .val (.int (p0 &&& (65535 : Int32))), .val (.int ((p0 &&& (65535 : Int32)).toUInt32.toUInt16.toUInt32.toInt32)), .unset, .unset] [(.int (32 : Int32))])) t
                  refine XS.istoreN X0.here hx rfl (hb hby at_50) rfl (l' := #[.val (.int p0), .val (.int (p0 &&& (65535 : Int32))), .val (.int ((p0 &&& (65535 : Int32)).toUInt32.toUInt16.toUInt32.toInt32)), .val (.int (32 : Int32)), .unset]) rfl ?_
                  show Steps p.tables e below (s₁.setTop (mkF m 51 #[.val (.int p0), .val (.int (p0 &&& (65535 : Int32))), .val (.int ((p0 &&& (65535 : Int32)).toUInt32.toUInt16.toUInt32.toInt32)), .val (.int (32 : Int32)), .unset] [])) t
                  refine XS.goto X0.here hx rfl (pc0 := 51) (pc' := 56) rfl (hb hby at_51) (by decide) (by decide) ?_
                  exact kt
                · rw [if_neg hj45_4] at kt
                  show Steps p.tables e below (s₁.setTop (mkF m 45 #[.val (.int p0), .val (.int (p0 &&& (65535 : Int32))), .val (.int ((p0 &&& (65535 : Int32)).toUInt32.toUInt16.toUInt32.toInt32)), .unset, .unset] [(.int (9 : Int32)), (.int (p0 &&& (65535 : Int32)))])) t
                  refine XS.icmpYes X0.here hx rfl (pc0 := 45) (pc' := 54) rfl (hb hby at_45) rfl (feq hj45_4).2 (by decide) (by decide) ?_
                  show Steps p.tables e below (s₁.setTop (mkF m 54 #[.val (.int p0), .val (.int (p0 &&& (65535 : Int32))), .val (.int ((p0 &&& (65535 : Int32)).toUInt32.toUInt16.toUInt32.toInt32)), .unset, .unset] [])) t
                  refine XS.iloadN X0.here hx rfl (hb hby at_54) rfl ?_
                  show Steps p.tables e below (s₁.setTop (mkF m 55 #[.val (.int p0), .val (.int (p0 &&& (65535 : Int32))), .val (.int ((p0 &&& (65535 : Int32)).toUInt32.toUInt16.toUInt32.toInt32)), .unset, .unset] [(.int ((p0 &&& (65535 : Int32)).toUInt32.toUInt16.toUInt32.toInt32))])) t
                  refine XS.istoreN X0.here hx rfl (hb hby at_55) rfl (l' := #[.val (.int p0), .val (.int (p0 &&& (65535 : Int32))), .val (.int ((p0 &&& (65535 : Int32)).toUInt32.toUInt16.toUInt32.toInt32)), .val (.int ((p0 &&& (65535 : Int32)).toUInt32.toUInt16.toUInt32.toInt32)), .unset]) rfl ?_
                  exact kt
              exact kt
          exact kt
      exact kt
    · rw [if_neg hj12_1] at kt
      show Steps p.tables e below (s₁.setTop (mkF m 12 #[.val (.int p0), .val (.int (p0 &&& (65535 : Int32))), .val (.int ((p0 &&& (65535 : Int32)).toUInt32.toUInt16.toUInt32.toInt32)), .unset, .unset] [(.int (8208 : Int32)), (.int (p0 &&& (65535 : Int32)))])) t
      refine XS.icmpNo X0.here hx rfl (hb hby at_12) rfl (flt hj12_1).1 ?_
      show Steps p.tables e below (s₁.setTop (mkF m 15 #[.val (.int p0), .val (.int (p0 &&& (65535 : Int32))), .val (.int ((p0 &&& (65535 : Int32)).toUInt32.toUInt16.toUInt32.toInt32)), .unset, .unset] [])) t
      refine XS.iloadN X0.here hx rfl (hb hby at_15) rfl ?_
      show Steps p.tables e below (s₁.setTop (mkF m 16 #[.val (.int p0), .val (.int (p0 &&& (65535 : Int32))), .val (.int ((p0 &&& (65535 : Int32)).toUInt32.toUInt16.toUInt32.toInt32)), .unset, .unset] [(.int (p0 &&& (65535 : Int32)))])) t
      refine XS.sipush X0.here hx rfl (hb hby at_16) ?_
      refine own_st (A' := s₁.setTop (mkF m 56 #[.val (.int p0), .val (.int (p0 &&& (65535 : Int32))), .val (.int ((p0 &&& (65535 : Int32)).toUInt32.toUInt16.toUInt32.toInt32)), .val (.int (if (8211 : Int32) < (p0 &&& (65535 : Int32)) then (if (p0 &&& (65535 : Int32)) = (8722 : Int32) then (45 : Int32) else (if (p0 &&& (65535 : Int32)) = (160 : Int32) then (32 : Int32) else (if (p0 &&& (65535 : Int32)) = (9 : Int32) then (32 : Int32) else ((p0 &&& (65535 : Int32)).toUInt32.toUInt16.toUInt32.toInt32)))) else (45 : Int32))), .unset] [])) (fun t kt => ?_) ?_
      · show Steps p.tables e below (s₁.setTop (mkF m 19 #[.val (.int p0), .val (.int (p0 &&& (65535 : Int32))), .val (.int ((p0 &&& (65535 : Int32)).toUInt32.toUInt16.toUInt32.toInt32)), .unset, .unset] [(.int (8211 : Int32)), (.int (p0 &&& (65535 : Int32)))])) t
        by_cases hj19_5 : (8211 : Int32) < (p0 &&& (65535 : Int32))
        · rw [if_pos hj19_5] at kt
          show Steps p.tables e below (s₁.setTop (mkF m 19 #[.val (.int p0), .val (.int (p0 &&& (65535 : Int32))), .val (.int ((p0 &&& (65535 : Int32)).toUInt32.toUInt16.toUInt32.toInt32)), .unset, .unset] [(.int (8211 : Int32)), (.int (p0 &&& (65535 : Int32)))])) t
          refine XS.icmpNo X0.here hx rfl (hb hby at_19) rfl (tlt hj19_5).2.2.2 ?_
          show Steps p.tables e below (s₁.setTop (mkF m 22 #[.val (.int p0), .val (.int (p0 &&& (65535 : Int32))), .val (.int ((p0 &&& (65535 : Int32)).toUInt32.toUInt16.toUInt32.toInt32)), .unset, .unset] [])) t
          refine XS.iloadN X0.here hx rfl (hb hby at_22) rfl ?_
          show Steps p.tables e below (s₁.setTop (mkF m 23 #[.val (.int p0), .val (.int (p0 &&& (65535 : Int32))), .val (.int ((p0 &&& (65535 : Int32)).toUInt32.toUInt16.toUInt32.toInt32)), .unset, .unset] [(.int (p0 &&& (65535 : Int32)))])) t
          refine XS.sipush X0.here hx rfl (hb hby at_23) ?_
          refine own_st (A' := s₁.setTop (mkF m 56 #[.val (.int p0), .val (.int (p0 &&& (65535 : Int32))), .val (.int ((p0 &&& (65535 : Int32)).toUInt32.toUInt16.toUInt32.toInt32)), .val (.int (if (p0 &&& (65535 : Int32)) = (8722 : Int32) then (45 : Int32) else (if (p0 &&& (65535 : Int32)) = (160 : Int32) then (32 : Int32) else (if (p0 &&& (65535 : Int32)) = (9 : Int32) then (32 : Int32) else ((p0 &&& (65535 : Int32)).toUInt32.toUInt16.toUInt32.toInt32))))), .unset] [])) (fun t kt => ?_) ?_
          · show Steps p.tables e below (s₁.setTop (mkF m 26 #[.val (.int p0), .val (.int (p0 &&& (65535 : Int32))), .val (.int ((p0 &&& (65535 : Int32)).toUInt32.toUInt16.toUInt32.toInt32)), .unset, .unset] [(.int (8722 : Int32)), (.int (p0 &&& (65535 : Int32)))])) t
            by_cases hj26_6 : (p0 &&& (65535 : Int32)) = (8722 : Int32)
            · rw [if_pos hj26_6] at kt
              show Steps p.tables e below (s₁.setTop (mkF m 26 #[.val (.int p0), .val (.int (p0 &&& (65535 : Int32))), .val (.int ((p0 &&& (65535 : Int32)).toUInt32.toUInt16.toUInt32.toInt32)), .unset, .unset] [(.int (8722 : Int32)), (.int (p0 &&& (65535 : Int32)))])) t
              refine XS.icmpNo X0.here hx rfl (hb hby at_26) rfl (teq hj26_6).2 ?_
              show Steps p.tables e below (s₁.setTop (mkF m 29 #[.val (.int p0), .val (.int (p0 &&& (65535 : Int32))), .val (.int ((p0 &&& (65535 : Int32)).toUInt32.toUInt16.toUInt32.toInt32)), .unset, .unset] [])) t
              refine XS.bipush X0.here hx rfl (hb hby at_29) ?_
              show Steps p.tables e below (s₁.setTop (mkF m 31 #[.val (.int p0), .val (.int (p0 &&& (65535 : Int32))), .val (.int ((p0 &&& (65535 : Int32)).toUInt32.toUInt16.toUInt32.toInt32)), .unset, .unset] [(.int (45 : Int32))])) t
              refine XS.istoreN X0.here hx rfl (hb hby at_31) rfl (l' := #[.val (.int p0), .val (.int (p0 &&& (65535 : Int32))), .val (.int ((p0 &&& (65535 : Int32)).toUInt32.toUInt16.toUInt32.toInt32)), .val (.int (45 : Int32)), .unset]) rfl ?_
              show Steps p.tables e below (s₁.setTop (mkF m 32 #[.val (.int p0), .val (.int (p0 &&& (65535 : Int32))), .val (.int ((p0 &&& (65535 : Int32)).toUInt32.toUInt16.toUInt32.toInt32)), .val (.int (45 : Int32)), .unset] [])) t
              refine XS.goto X0.here hx rfl (pc0 := 32) (pc' := 56) rfl (hb hby at_32) (by decide) (by decide) ?_
              exact kt
            · rw [if_neg hj26_6] at kt
              show Steps p.tables e below (s₁.setTop (mkF m 26 #[.val (.int p0), .val (.int (p0 &&& (65535 : Int32))), .val (.int ((p0 &&& (65535 : Int32)).toUInt32.toUInt16.toUInt32.toInt32)), .unset, .unset] [(.int (8722 : Int32)), (.int (p0 &&& (65535 : Int32)))])) t
              refine XS.icmpYes X0.here hx rfl (pc0 := 26) (pc' := 35) rfl (hb hby at_26) rfl (feq hj26_6).2 (by decide) (by decide) ?_
              show Steps p.tables e below (s₁.setTop (mkF m 35 #[.val (.int p0), .val (.int (p0 &&& (65535 : Int32))), .val (.int ((p0 &&& (65535 : Int32)).toUInt32.toUInt16.toUInt32.toInt32)), .unset, .unset] [])) t
              refine XS.iloadN X0.here hx rfl (hb hby at_35) rfl ?_
              show Steps p.tables e below (s₁.setTop (mkF m 36 #[.val (.int p0), .val (.int (p0 &&& (65535 : Int32))), .val (.int ((p0 &&& (65535 : Int32)).toUInt32.toUInt16.toUInt32.toInt32)), .unset, .unset] [(.int (p0 &&& (65535 : Int32)))])) t
              refine XS.sipush X0.here hx rfl (hb hby at_36) ?_
              refine own_st (A' := s₁.setTop (mkF m 56 #[.val (.int p0), .val (.int (p0 &&& (65535 : Int32))), .val (.int ((p0 &&& (65535 : Int32)).toUInt32.toUInt16.toUInt32.toInt32)), .val (.int (if (p0 &&& (65535 : Int32)) = (160 : Int32) then (32 : Int32) else (if (p0 &&& (65535 : Int32)) = (9 : Int32) then (32 : Int32) else ((p0 &&& (65535 : Int32)).toUInt32.toUInt16.toUInt32.toInt32)))), .unset] [])) (fun t kt => ?_) ?_
              · show Steps p.tables e below (s₁.setTop (mkF m 39 #[.val (.int p0), .val (.int (p0 &&& (65535 : Int32))), .val (.int ((p0 &&& (65535 : Int32)).toUInt32.toUInt16.toUInt32.toInt32)), .unset, .unset] [(.int (160 : Int32)), (.int (p0 &&& (65535 : Int32)))])) t
                by_cases hj39_7 : (p0 &&& (65535 : Int32)) = (160 : Int32)
                · rw [if_pos hj39_7] at kt
                  show Steps p.tables e below (s₁.setTop (mkF m 39 #[.val (.int p0), .val (.int (p0 &&& (65535 : Int32))), .val (.int ((p0 &&& (65535 : Int32)).toUInt32.toUInt16.toUInt32.toInt32)), .unset, .unset] [(.int (160 : Int32)), (.int (p0 &&& (65535 : Int32)))])) t
                  refine XS.icmpYes X0.here hx rfl (pc0 := 39) (pc' := 48) rfl (hb hby at_39) rfl (teq hj39_7).1 (by decide) (by decide) ?_
                  show Steps p.tables e below (s₁.setTop (mkF m 48 #[.val (.int p0), .val (.int (p0 &&& (65535 : Int32))), .val (.int ((p0 &&& (65535 : Int32)).toUInt32.toUInt16.toUInt32.toInt32)), .unset, .unset] [])) t
                  refine XS.bipush X0.here hx rfl (hb hby at_48) ?_
                  show Steps p.tables e below (s₁.setTop (mkF m 50 #[.val (.int p0), .val (.int (p0 &&& (65535 : Int32))), .val (.int ((p0 &&& (65535 : Int32)).toUInt32.toUInt16.toUInt32.toInt32)), .unset, .unset] [(.int (32 : Int32))])) t
                  refine XS.istoreN X0.here hx rfl (hb hby at_50) rfl (l' := #[.val (.int p0), .val (.int (p0 &&& (65535 : Int32))), .val (.int ((p0 &&& (65535 : Int32)).toUInt32.toUInt16.toUInt32.toInt32)), .val (.int (32 : Int32)), .unset]) rfl ?_
                  show Steps p.tables e below (s₁.setTop (mkF m 51 #[.val (.int p0), .val (.int (p0 &&& (65535 : Int32))), .val (.int ((p0 &&& (65535 : Int32)).toUInt32.toUInt16.toUInt32.toInt32)), .val (.int (32 : Int32)), .unset] [])) t
                  refine XS.goto X0.here hx rfl (pc0 := 51) (pc' := 56) rfl (hb hby at_51) (by decide) (by decide) ?_
                  exact kt
                · rw [if_neg hj39_7] at kt
                  show Steps p.tables e below (s₁.setTop (mkF m 39 #[.val (.int p0), .val (.int (p0 &&& (65535 : Int32))), .val (.int ((p0 &&& (65535 : Int32)).toUInt32.toUInt16.toUInt32.toInt32)), .unset, .unset] [(.int (160 : Int32)), (.int (p0 &&& (65535 : Int32)))])) t
                  refine XS.icmpNo X0.here hx rfl (hb hby at_39) rfl (feq hj39_7).1 ?_
                  show Steps p.tables e below (s₁.setTop (mkF m 42 #[.val (.int p0), .val (.int (p0 &&& (65535 : Int32))), .val (.int ((p0 &&& (65535 : Int32)).toUInt32.toUInt16.toUInt32.toInt32)), .unset, .unset] [])) t
                  refine XS.iloadN X0.here hx rfl (hb hby at_42) rfl ?_
                  show Steps p.tables e below (s₁.setTop (mkF m 43 #[.val (.int p0), .val (.int (p0 &&& (65535 : Int32))), .val (.int ((p0 &&& (65535 : Int32)).toUInt32.toUInt16.toUInt32.toInt32)), .unset, .unset] [(.int (p0 &&& (65535 : Int32)))])) t
                  refine XS.bipush X0.here hx rfl (hb hby at_43) ?_
                  refine own_st (A' := s₁.setTop (mkF m 56 #[.val (.int p0), .val (.int (p0 &&& (65535 : Int32))), .val (.int ((p0 &&& (65535 : Int32)).toUInt32.toUInt16.toUInt32.toInt32)), .val (.int (if (p0 &&& (65535 : Int32)) = (9 : Int32) then (32 : Int32) else ((p0 &&& (65535 : Int32)).toUInt32.toUInt16.toUInt32.toInt32))), .unset] [])) (fun t kt => ?_) ?_
                  · show Steps p.tables e below (s₁.setTop (mkF m 45 #[.val (.int p0), .val (.int (p0 &&& (65535 : Int32))), .val (.int ((p0 &&& (65535 : Int32)).toUInt32.toUInt16.toUInt32.toInt32)), .unset, .unset] [(.int (9 : Int32)), (.int (p0 &&& (65535 : Int32)))])) t
                    by_cases hj45_8 : (p0 &&& (65535 : Int32)) = (9 : Int32)
                    · rw [if_pos hj45_8] at kt
                      show Steps p.tables e below (s₁.setTop (mkF m 45 #[.val (.int p0), .val (.int (p0 &&& (65535 : Int32))), .val (.int ((p0 &&& (65535 : Int32)).toUInt32.toUInt16.toUInt32.toInt32)), .unset, .unset] [(.int (9 : Int32)), (.int (p0 &&& (65535 : Int32)))])) t
                      refine XS.icmpNo X0.here hx rfl (hb hby at_45) rfl (teq hj45_8).2 ?_
                      show Steps p.tables e below (s₁.setTop (mkF m 48 #[.val (.int p0), .val (.int (p0 &&& (65535 : Int32))), .val (.int ((p0 &&& (65535 : Int32)).toUInt32.toUInt16.toUInt32.toInt32)), .unset, .unset] [])) t
                      refine XS.bipush X0.here hx rfl (hb hby at_48) ?_
                      show Steps p.tables e below (s₁.setTop (mkF m 50 #[.val (.int p0), .val (.int (p0 &&& (65535 : Int32))), .val (.int ((p0 &&& (65535 : Int32)).toUInt32.toUInt16.toUInt32.toInt32)), .unset, .unset] [(.int (32 : Int32))])) t
                      refine XS.istoreN X0.here hx rfl (hb hby at_50) rfl (l' := #[.val (.int p0), .val (.int (p0 &&& (65535 : Int32))), .val (.int ((p0 &&& (65535 : Int32)).toUInt32.toUInt16.toUInt32.toInt32)), .val (.int (32 : Int32)), .unset]) rfl ?_
                      show Steps p.tables e below (s₁.setTop (mkF m 51 #[.val (.int p0), .val (.int (p0 &&& (65535 : Int32))), .val (.int ((p0 &&& (65535 : Int32)).toUInt32.toUInt16.toUInt32.toInt32)), .val (.int (32 : Int32)), .unset] [])) t
                      refine XS.goto X0.here hx rfl (pc0 := 51) (pc' := 56) rfl (hb hby at_51) (by decide) (by decide) ?_
                      exact kt
                    · rw [if_neg hj45_8] at kt
                      show Steps p.tables e below (s₁.setTop (mkF m 45 #[.val (.int p0), .val (.int (p0 &&& (65535 : Int32))), .val (.int ((p0 &&& (65535 : Int32)).toUInt32.toUInt16.toUInt32.toInt32)), .unset, .unset] [(.int (9 : Int32)), (.int (p0 &&& (65535 : Int32)))])) t
                      refine XS.icmpYes X0.here hx rfl (pc0 := 45) (pc' := 54) rfl (hb hby at_45) rfl (feq hj45_8).2 (by decide) (by decide) ?_
                      show Steps p.tables e below (s₁.setTop (mkF m 54 #[.val (.int p0), .val (.int (p0 &&& (65535 : Int32))), .val (.int ((p0 &&& (65535 : Int32)).toUInt32.toUInt16.toUInt32.toInt32)), .unset, .unset] [])) t
                      refine XS.iloadN X0.here hx rfl (hb hby at_54) rfl ?_
                      show Steps p.tables e below (s₁.setTop (mkF m 55 #[.val (.int p0), .val (.int (p0 &&& (65535 : Int32))), .val (.int ((p0 &&& (65535 : Int32)).toUInt32.toUInt16.toUInt32.toInt32)), .unset, .unset] [(.int ((p0 &&& (65535 : Int32)).toUInt32.toUInt16.toUInt32.toInt32))])) t
                      refine XS.istoreN X0.here hx rfl (hb hby at_55) rfl (l' := #[.val (.int p0), .val (.int (p0 &&& (65535 : Int32))), .val (.int ((p0 &&& (65535 : Int32)).toUInt32.toUInt16.toUInt32.toInt32)), .val (.int ((p0 &&& (65535 : Int32)).toUInt32.toUInt16.toUInt32.toInt32)), .unset]) rfl ?_
                      exact kt
                  exact kt
              exact kt
          exact kt
        · rw [if_neg hj19_5] at kt
          show Steps p.tables e below (s₁.setTop (mkF m 19 #[.val (.int p0), .val (.int (p0 &&& (65535 : Int32))), .val (.int ((p0 &&& (65535 : Int32)).toUInt32.toUInt16.toUInt32.toInt32)), .unset, .unset] [(.int (8211 : Int32)), (.int (p0 &&& (65535 : Int32)))])) t
          refine XS.icmpYes X0.here hx rfl (pc0 := 19) (pc' := 29) rfl (hb hby at_19) rfl (flt hj19_5).2.2.2 (by decide) (by decide) ?_
          show Steps p.tables e below (s₁.setTop (mkF m 29 #[.val (.int p0), .val (.int (p0 &&& (65535 : Int32))), .val (.int ((p0 &&& (65535 : Int32)).toUInt32.toUInt16.toUInt32.toInt32)), .unset, .unset] [])) t
          refine XS.bipush X0.here hx rfl (hb hby at_29) ?_
          show Steps p.tables e below (s₁.setTop (mkF m 31 #[.val (.int p0), .val (.int (p0 &&& (65535 : Int32))), .val (.int ((p0 &&& (65535 : Int32)).toUInt32.toUInt16.toUInt32.toInt32)), .unset, .unset] [(.int (45 : Int32))])) t
          refine XS.istoreN X0.here hx rfl (hb hby at_31) rfl (l' := #[.val (.int p0), .val (.int (p0 &&& (65535 : Int32))), .val (.int ((p0 &&& (65535 : Int32)).toUInt32.toUInt16.toUInt32.toInt32)), .val (.int (45 : Int32)), .unset]) rfl ?_
          show Steps p.tables e below (s₁.setTop (mkF m 32 #[.val (.int p0), .val (.int (p0 &&& (65535 : Int32))), .val (.int ((p0 &&& (65535 : Int32)).toUInt32.toUInt16.toUInt32.toInt32)), .val (.int (45 : Int32)), .unset] [])) t
          refine XS.goto X0.here hx rfl (pc0 := 32) (pc' := 56) rfl (hb hby at_32) (by decide) (by decide) ?_
          exact kt
      exact kt
  refine own_by (A' := s₁.setTop (mkF m 57 #[.val (.int p0), .val (.int (p0 &&& (65535 : Int32))), .val (.int ((p0 &&& (65535 : Int32)).toUInt32.toUInt16.toUInt32.toInt32)), .val (.int (if (p0 &&& (65535 : Int32)) < (8208 : Int32) then (if (p0 &&& (65535 : Int32)) = (8722 : Int32) then (45 : Int32) else (if (p0 &&& (65535 : Int32)) = (160 : Int32) then (32 : Int32) else (if (p0 &&& (65535 : Int32)) = (9 : Int32) then (32 : Int32) else ((p0 &&& (65535 : Int32)).toUInt32.toUInt16.toUInt32.toInt32)))) else (if (8211 : Int32) < (p0 &&& (65535 : Int32)) then (if (p0 &&& (65535 : Int32)) = (8722 : Int32) then (45 : Int32) else (if (p0 &&& (65535 : Int32)) = (160 : Int32) then (32 : Int32) else (if (p0 &&& (65535 : Int32)) = (9 : Int32) then (32 : Int32) else ((p0 &&& (65535 : Int32)).toUInt32.toUInt16.toUInt32.toInt32)))) else (45 : Int32)))), .unset] [(.int ((p0 &&& (65535 : Int32)).toUInt32.toUInt16.toUInt32.toInt32))])) (fun t kt => ?_) ?_
  · show Steps p.tables e below (s₁.setTop (mkF m 56 #[.val (.int p0), .val (.int (p0 &&& (65535 : Int32))), .val (.int ((p0 &&& (65535 : Int32)).toUInt32.toUInt16.toUInt32.toInt32)), .val (.int (if (p0 &&& (65535 : Int32)) < (8208 : Int32) then (if (p0 &&& (65535 : Int32)) = (8722 : Int32) then (45 : Int32) else (if (p0 &&& (65535 : Int32)) = (160 : Int32) then (32 : Int32) else (if (p0 &&& (65535 : Int32)) = (9 : Int32) then (32 : Int32) else ((p0 &&& (65535 : Int32)).toUInt32.toUInt16.toUInt32.toInt32)))) else (if (8211 : Int32) < (p0 &&& (65535 : Int32)) then (if (p0 &&& (65535 : Int32)) = (8722 : Int32) then (45 : Int32) else (if (p0 &&& (65535 : Int32)) = (160 : Int32) then (32 : Int32) else (if (p0 &&& (65535 : Int32)) = (9 : Int32) then (32 : Int32) else ((p0 &&& (65535 : Int32)).toUInt32.toUInt16.toUInt32.toInt32)))) else (45 : Int32)))), .unset] [])) t
    refine XS.iloadN X0.here hx rfl (hb hby at_56) rfl ?_
    exact kt
  obtain ⟨_, _, ⟨T9, L9, k9, n9⟩, -, X9, ⟨Lc9, hQ9, l9, y9, z9⟩, st9⟩ := Jvm.LawKit.callS X0 hx (y := (⟨"com/example/bookland/bookland/Spelling", "readAs", "(C)C"⟩ : MethodName)) hown (mvT hZ (hw _ (List.mem_of_getElem? (i := 1) rfl))) (mvT hZ (hw _ (List.mem_of_getElem? (i := 2) rfl))) (mvT hZ (hw _ (List.mem_of_getElem? (i := 3) rfl))) (mvT hZ (hw _ (List.mem_of_getElem? (i := 4) rfl))) (by decide) (backOf (W := 0) (rm1 l Z aw hw [] ((p0 &&& (65535 : Int32)).toUInt32.toUInt16.toUInt32.toInt32) h0 n0 (Nat.le_trans Z0 K0.1) ) hZ (hw _ (List.mem_of_getElem? (i := 4) rfl)) (hw _ (List.mem_of_getElem? (i := 3) rfl)) (by decide) (by decide)) (g := (mkF m 57 #[.val (.int p0), .val (.int (p0 &&& (65535 : Int32))), .val (.int ((p0 &&& (65535 : Int32)).toUInt32.toUInt16.toUInt32.toInt32)), .val (.int (if (p0 &&& (65535 : Int32)) < (8208 : Int32) then (if (p0 &&& (65535 : Int32)) = (8722 : Int32) then (45 : Int32) else (if (p0 &&& (65535 : Int32)) = (160 : Int32) then (32 : Int32) else (if (p0 &&& (65535 : Int32)) = (9 : Int32) then (32 : Int32) else ((p0 &&& (65535 : Int32)).toUInt32.toUInt16.toUInt32.toInt32)))) else (if (8211 : Int32) < (p0 &&& (65535 : Int32)) then (if (p0 &&& (65535 : Int32)) = (8722 : Int32) then (45 : Int32) else (if (p0 &&& (65535 : Int32)) = (160 : Int32) then (32 : Int32) else (if (p0 &&& (65535 : Int32)) = (9 : Int32) then (32 : Int32) else ((p0 &&& (65535 : Int32)).toUInt32.toUInt16.toUInt32.toInt32)))) else (45 : Int32)))), .unset] [(.int ((p0 &&& (65535 : Int32)).toUInt32.toUInt16.toUInt32.toInt32))])) rfl (by rw [hml]; rfl) (argsL := [(.int ((p0 &&& (65535 : Int32)).toUInt32.toUInt16.toUInt32.toInt32))]) (rest := []) (lenOf pd_2 rfl) rfl (by show 2 * 0 + _ ≤ _; exact Nat.le_of_eq rfl) (hb hby at_57) (fun _ _ => ⟨rfl, e0, (by decide : 0 + 0 ≤ _), (by decide : 0 + 0 ≤ _)⟩)
  dsimp only [Pt.U, Pt.locs, Pt.cells, Pt.slots] at X9 l9 y9 z9 st9 hQ9
  subst l9 y9 z9
  obtain ⟨rfl, N9q, e9⟩ := hQ9
  have N9 := Fr.app N0 N9q
  refine own_by (A' := T9.setTop (mkF m 60 #[.val (.int p0), .val (.int (p0 &&& (65535 : Int32))), .val (.int ((p0 &&& (65535 : Int32)).toUInt32.toUInt16.toUInt32.toInt32)), .val (.int (if (p0 &&& (65535 : Int32)) < (8208 : Int32) then (if (p0 &&& (65535 : Int32)) = (8722 : Int32) then (45 : Int32) else (if (p0 &&& (65535 : Int32)) = (160 : Int32) then (32 : Int32) else (if (p0 &&& (65535 : Int32)) = (9 : Int32) then (32 : Int32) else ((p0 &&& (65535 : Int32)).toUInt32.toUInt16.toUInt32.toInt32)))) else (if (8211 : Int32) < (p0 &&& (65535 : Int32)) then (if (p0 &&& (65535 : Int32)) = (8722 : Int32) then (45 : Int32) else (if (p0 &&& (65535 : Int32)) = (160 : Int32) then (32 : Int32) else (if (p0 &&& (65535 : Int32)) = (9 : Int32) then (32 : Int32) else ((p0 &&& (65535 : Int32)).toUInt32.toUInt16.toUInt32.toInt32)))) else (45 : Int32)))), .unset] [(.int (own_f1 ((p0 &&& (65535 : Int32)).toUInt32.toUInt16.toUInt32.toInt32)))])) (fun t kt => st9 t kt) ?_
  refine own_by (A' := T9.setTop (mkF m 65 #[.val (.int p0), .val (.int (p0 &&& (65535 : Int32))), .val (.int ((p0 &&& (65535 : Int32)).toUInt32.toUInt16.toUInt32.toInt32)), .val (.int (if (p0 &&& (65535 : Int32)) < (8208 : Int32) then (if (p0 &&& (65535 : Int32)) = (8722 : Int32) then (45 : Int32) else (if (p0 &&& (65535 : Int32)) = (160 : Int32) then (32 : Int32) else (if (p0 &&& (65535 : Int32)) = (9 : Int32) then (32 : Int32) else ((p0 &&& (65535 : Int32)).toUInt32.toUInt16.toUInt32.toInt32)))) else (if (8211 : Int32) < (p0 &&& (65535 : Int32)) then (if (p0 &&& (65535 : Int32)) = (8722 : Int32) then (45 : Int32) else (if (p0 &&& (65535 : Int32)) = (160 : Int32) then (32 : Int32) else (if (p0 &&& (65535 : Int32)) = (9 : Int32) then (32 : Int32) else ((p0 &&& (65535 : Int32)).toUInt32.toUInt16.toUInt32.toInt32)))) else (45 : Int32)))), .val (.int (own_f1 ((p0 &&& (65535 : Int32)).toUInt32.toUInt16.toUInt32.toInt32)))] [(.int (if (p0 &&& (65535 : Int32)) < (8208 : Int32) then (if (p0 &&& (65535 : Int32)) = (8722 : Int32) then (45 : Int32) else (if (p0 &&& (65535 : Int32)) = (160 : Int32) then (32 : Int32) else (if (p0 &&& (65535 : Int32)) = (9 : Int32) then (32 : Int32) else ((p0 &&& (65535 : Int32)).toUInt32.toUInt16.toUInt32.toInt32)))) else (if (8211 : Int32) < (p0 &&& (65535 : Int32)) then (if (p0 &&& (65535 : Int32)) = (8722 : Int32) then (45 : Int32) else (if (p0 &&& (65535 : Int32)) = (160 : Int32) then (32 : Int32) else (if (p0 &&& (65535 : Int32)) = (9 : Int32) then (32 : Int32) else ((p0 &&& (65535 : Int32)).toUInt32.toUInt16.toUInt32.toInt32)))) else (45 : Int32)))), (.int (own_f1 ((p0 &&& (65535 : Int32)).toUInt32.toUInt16.toUInt32.toInt32)))])) (fun t kt => ?_) ?_
  · show Steps p.tables e below (T9.setTop (mkF m 60 #[.val (.int p0), .val (.int (p0 &&& (65535 : Int32))), .val (.int ((p0 &&& (65535 : Int32)).toUInt32.toUInt16.toUInt32.toInt32)), .val (.int (if (p0 &&& (65535 : Int32)) < (8208 : Int32) then (if (p0 &&& (65535 : Int32)) = (8722 : Int32) then (45 : Int32) else (if (p0 &&& (65535 : Int32)) = (160 : Int32) then (32 : Int32) else (if (p0 &&& (65535 : Int32)) = (9 : Int32) then (32 : Int32) else ((p0 &&& (65535 : Int32)).toUInt32.toUInt16.toUInt32.toInt32)))) else (if (8211 : Int32) < (p0 &&& (65535 : Int32)) then (if (p0 &&& (65535 : Int32)) = (8722 : Int32) then (45 : Int32) else (if (p0 &&& (65535 : Int32)) = (160 : Int32) then (32 : Int32) else (if (p0 &&& (65535 : Int32)) = (9 : Int32) then (32 : Int32) else ((p0 &&& (65535 : Int32)).toUInt32.toUInt16.toUInt32.toInt32)))) else (45 : Int32)))), .unset] [(.int (own_f1 ((p0 &&& (65535 : Int32)).toUInt32.toUInt16.toUInt32.toInt32)))])) t
    refine XS.istore X9.here hx rfl (hb hby at_60) rfl (l' := #[.val (.int p0), .val (.int (p0 &&& (65535 : Int32))), .val (.int ((p0 &&& (65535 : Int32)).toUInt32.toUInt16.toUInt32.toInt32)), .val (.int (if (p0 &&& (65535 : Int32)) < (8208 : Int32) then (if (p0 &&& (65535 : Int32)) = (8722 : Int32) then (45 : Int32) else (if (p0 &&& (65535 : Int32)) = (160 : Int32) then (32 : Int32) else (if (p0 &&& (65535 : Int32)) = (9 : Int32) then (32 : Int32) else ((p0 &&& (65535 : Int32)).toUInt32.toUInt16.toUInt32.toInt32)))) else (if (8211 : Int32) < (p0 &&& (65535 : Int32)) then (if (p0 &&& (65535 : Int32)) = (8722 : Int32) then (45 : Int32) else (if (p0 &&& (65535 : Int32)) = (160 : Int32) then (32 : Int32) else (if (p0 &&& (65535 : Int32)) = (9 : Int32) then (32 : Int32) else ((p0 &&& (65535 : Int32)).toUInt32.toUInt16.toUInt32.toInt32)))) else (45 : Int32)))), .val (.int (own_f1 ((p0 &&& (65535 : Int32)).toUInt32.toUInt16.toUInt32.toInt32)))]) rfl ?_
    show Steps p.tables e below (T9.setTop (mkF m 62 #[.val (.int p0), .val (.int (p0 &&& (65535 : Int32))), .val (.int ((p0 &&& (65535 : Int32)).toUInt32.toUInt16.toUInt32.toInt32)), .val (.int (if (p0 &&& (65535 : Int32)) < (8208 : Int32) then (if (p0 &&& (65535 : Int32)) = (8722 : Int32) then (45 : Int32) else (if (p0 &&& (65535 : Int32)) = (160 : Int32) then (32 : Int32) else (if (p0 &&& (65535 : Int32)) = (9 : Int32) then (32 : Int32) else ((p0 &&& (65535 : Int32)).toUInt32.toUInt16.toUInt32.toInt32)))) else (if (8211 : Int32) < (p0 &&& (65535 : Int32)) then (if (p0 &&& (65535 : Int32)) = (8722 : Int32) then (45 : Int32) else (if (p0 &&& (65535 : Int32)) = (160 : Int32) then (32 : Int32) else (if (p0 &&& (65535 : Int32)) = (9 : Int32) then (32 : Int32) else ((p0 &&& (65535 : Int32)).toUInt32.toUInt16.toUInt32.toInt32)))) else (45 : Int32)))), .val (.int (own_f1 ((p0 &&& (65535 : Int32)).toUInt32.toUInt16.toUInt32.toInt32)))] [])) t
    refine XS.iload X9.here hx rfl (hb hby at_62) rfl ?_
    show Steps p.tables e below (T9.setTop (mkF m 64 #[.val (.int p0), .val (.int (p0 &&& (65535 : Int32))), .val (.int ((p0 &&& (65535 : Int32)).toUInt32.toUInt16.toUInt32.toInt32)), .val (.int (if (p0 &&& (65535 : Int32)) < (8208 : Int32) then (if (p0 &&& (65535 : Int32)) = (8722 : Int32) then (45 : Int32) else (if (p0 &&& (65535 : Int32)) = (160 : Int32) then (32 : Int32) else (if (p0 &&& (65535 : Int32)) = (9 : Int32) then (32 : Int32) else ((p0 &&& (65535 : Int32)).toUInt32.toUInt16.toUInt32.toInt32)))) else (if (8211 : Int32) < (p0 &&& (65535 : Int32)) then (if (p0 &&& (65535 : Int32)) = (8722 : Int32) then (45 : Int32) else (if (p0 &&& (65535 : Int32)) = (160 : Int32) then (32 : Int32) else (if (p0 &&& (65535 : Int32)) = (9 : Int32) then (32 : Int32) else ((p0 &&& (65535 : Int32)).toUInt32.toUInt16.toUInt32.toInt32)))) else (45 : Int32)))), .val (.int (own_f1 ((p0 &&& (65535 : Int32)).toUInt32.toUInt16.toUInt32.toInt32)))] [(.int (own_f1 ((p0 &&& (65535 : Int32)).toUInt32.toUInt16.toUInt32.toInt32)))])) t
    refine XS.iloadN X9.here hx rfl (hb hby at_64) rfl ?_
    exact kt
  have own_one : (own_f1 ((p0 &&& (65535 : Int32)).toUInt32.toUInt16.toUInt32.toInt32)) = (if (p0 &&& (65535 : Int32)) < (8208 : Int32) then (if (p0 &&& (65535 : Int32)) = (8722 : Int32) then (45 : Int32) else (if (p0 &&& (65535 : Int32)) = (160 : Int32) then (32 : Int32) else (if (p0 &&& (65535 : Int32)) = (9 : Int32) then (32 : Int32) else ((p0 &&& (65535 : Int32)).toUInt32.toUInt16.toUInt32.toInt32)))) else (if (8211 : Int32) < (p0 &&& (65535 : Int32)) then (if (p0 &&& (65535 : Int32)) = (8722 : Int32) then (45 : Int32) else (if (p0 &&& (65535 : Int32)) = (160 : Int32) then (32 : Int32) else (if (p0 &&& (65535 : Int32)) = (9 : Int32) then (32 : Int32) else ((p0 &&& (65535 : Int32)).toUInt32.toUInt16.toUInt32.toInt32)))) else (45 : Int32))) := by
    have r := own_rng p0
    rw [own_narc _ r.1 r.2]
    generalize (p0 &&& (65535 : Int32)) = u at *
    have e := own_nar u r.1 r.2
    simp only [own_f1, own_n32, own_n45, e, ← Int32.toInt_inj, Int32.lt_iff_toInt_lt, Int32.reduceToInt]
    repeat' split
    all_goals first | rfl | (exfalso; omega)
  have hc65_10 : (own_f1 ((p0 &&& (65535 : Int32)).toUInt32.toUInt16.toUInt32.toInt32)) = (if (p0 &&& (65535 : Int32)) < (8208 : Int32) then (if (p0 &&& (65535 : Int32)) = (8722 : Int32) then (45 : Int32) else (if (p0 &&& (65535 : Int32)) = (160 : Int32) then (32 : Int32) else (if (p0 &&& (65535 : Int32)) = (9 : Int32) then (32 : Int32) else ((p0 &&& (65535 : Int32)).toUInt32.toUInt16.toUInt32.toInt32)))) else (if (8211 : Int32) < (p0 &&& (65535 : Int32)) then (if (p0 &&& (65535 : Int32)) = (8722 : Int32) then (45 : Int32) else (if (p0 &&& (65535 : Int32)) = (160 : Int32) then (32 : Int32) else (if (p0 &&& (65535 : Int32)) = (9 : Int32) then (32 : Int32) else ((p0 &&& (65535 : Int32)).toUInt32.toUInt16.toUInt32.toInt32)))) else (45 : Int32))) := own_one
  refine own_by (A' := T9.setTop (mkF m 70 #[.val (.int p0), .val (.int (p0 &&& (65535 : Int32))), .val (.int ((p0 &&& (65535 : Int32)).toUInt32.toUInt16.toUInt32.toInt32)), .val (.int (if (p0 &&& (65535 : Int32)) < (8208 : Int32) then (if (p0 &&& (65535 : Int32)) = (8722 : Int32) then (45 : Int32) else (if (p0 &&& (65535 : Int32)) = (160 : Int32) then (32 : Int32) else (if (p0 &&& (65535 : Int32)) = (9 : Int32) then (32 : Int32) else ((p0 &&& (65535 : Int32)).toUInt32.toUInt16.toUInt32.toInt32)))) else (if (8211 : Int32) < (p0 &&& (65535 : Int32)) then (if (p0 &&& (65535 : Int32)) = (8722 : Int32) then (45 : Int32) else (if (p0 &&& (65535 : Int32)) = (160 : Int32) then (32 : Int32) else (if (p0 &&& (65535 : Int32)) = (9 : Int32) then (32 : Int32) else ((p0 &&& (65535 : Int32)).toUInt32.toUInt16.toUInt32.toInt32)))) else (45 : Int32)))), .val (.int (own_f1 ((p0 &&& (65535 : Int32)).toUInt32.toUInt16.toUInt32.toInt32)))] [(.int (own_f1 ((p0 &&& (65535 : Int32)).toUInt32.toUInt16.toUInt32.toInt32)))])) (fun t kt => ?_) ?_
  · show Steps p.tables e below (T9.setTop (mkF m 65 #[.val (.int p0), .val (.int (p0 &&& (65535 : Int32))), .val (.int ((p0 &&& (65535 : Int32)).toUInt32.toUInt16.toUInt32.toInt32)), .val (.int (if (p0 &&& (65535 : Int32)) < (8208 : Int32) then (if (p0 &&& (65535 : Int32)) = (8722 : Int32) then (45 : Int32) else (if (p0 &&& (65535 : Int32)) = (160 : Int32) then (32 : Int32) else (if (p0 &&& (65535 : Int32)) = (9 : Int32) then (32 : Int32) else ((p0 &&& (65535 : Int32)).toUInt32.toUInt16.toUInt32.toInt32)))) else (if (8211 : Int32) < (p0 &&& (65535 : Int32)) then (if (p0 &&& (65535 : Int32)) = (8722 : Int32) then (45 : Int32) else (if (p0 &&& (65535 : Int32)) = (160 : Int32) then (32 : Int32) else (if (p0 &&& (65535 : Int32)) = (9 : Int32) then (32 : Int32) else ((p0 &&& (65535 : Int32)).toUInt32.toUInt16.toUInt32.toInt32)))) else (45 : Int32)))), .val (.int (own_f1 ((p0 &&& (65535 : Int32)).toUInt32.toUInt16.toUInt32.toInt32)))] [(.int (if (p0 &&& (65535 : Int32)) < (8208 : Int32) then (if (p0 &&& (65535 : Int32)) = (8722 : Int32) then (45 : Int32) else (if (p0 &&& (65535 : Int32)) = (160 : Int32) then (32 : Int32) else (if (p0 &&& (65535 : Int32)) = (9 : Int32) then (32 : Int32) else ((p0 &&& (65535 : Int32)).toUInt32.toUInt16.toUInt32.toInt32)))) else (if (8211 : Int32) < (p0 &&& (65535 : Int32)) then (if (p0 &&& (65535 : Int32)) = (8722 : Int32) then (45 : Int32) else (if (p0 &&& (65535 : Int32)) = (160 : Int32) then (32 : Int32) else (if (p0 &&& (65535 : Int32)) = (9 : Int32) then (32 : Int32) else ((p0 &&& (65535 : Int32)).toUInt32.toUInt16.toUInt32.toInt32)))) else (45 : Int32)))), (.int (own_f1 ((p0 &&& (65535 : Int32)).toUInt32.toUInt16.toUInt32.toInt32)))])) t
    refine XS.icmpNo X9.here hx rfl (hb hby at_65) rfl (teq hc65_10).2 ?_
    show Steps p.tables e below (T9.setTop (mkF m 68 #[.val (.int p0), .val (.int (p0 &&& (65535 : Int32))), .val (.int ((p0 &&& (65535 : Int32)).toUInt32.toUInt16.toUInt32.toInt32)), .val (.int (if (p0 &&& (65535 : Int32)) < (8208 : Int32) then (if (p0 &&& (65535 : Int32)) = (8722 : Int32) then (45 : Int32) else (if (p0 &&& (65535 : Int32)) = (160 : Int32) then (32 : Int32) else (if (p0 &&& (65535 : Int32)) = (9 : Int32) then (32 : Int32) else ((p0 &&& (65535 : Int32)).toUInt32.toUInt16.toUInt32.toInt32)))) else (if (8211 : Int32) < (p0 &&& (65535 : Int32)) then (if (p0 &&& (65535 : Int32)) = (8722 : Int32) then (45 : Int32) else (if (p0 &&& (65535 : Int32)) = (160 : Int32) then (32 : Int32) else (if (p0 &&& (65535 : Int32)) = (9 : Int32) then (32 : Int32) else ((p0 &&& (65535 : Int32)).toUInt32.toUInt16.toUInt32.toInt32)))) else (45 : Int32)))), .val (.int (own_f1 ((p0 &&& (65535 : Int32)).toUInt32.toUInt16.toUInt32.toInt32)))] [])) t
    refine XS.iload X9.here hx rfl (hb hby at_68) rfl ?_
    exact kt
  obtain ⟨_, _, ⟨T11, L11, k11, n11⟩, -, X11, ⟨Lc11, hQ11, l11, y11, z11⟩, st11⟩ := Jvm.LawKit.callS X9 hx (y := (⟨"com/example/bookland/bookland/Spelling", "readAs", "(C)C"⟩ : MethodName)) hown (mvT hZ (hw _ (List.mem_of_getElem? (i := 1) rfl))) (mvT hZ (hw _ (List.mem_of_getElem? (i := 2) rfl))) (mvT hZ (hw _ (List.mem_of_getElem? (i := 3) rfl))) (mvT hZ (hw _ (List.mem_of_getElem? (i := 4) rfl))) (by decide) (backOf (W := 0) (rm1 l Z aw hw [] (own_f1 ((p0 &&& (65535 : Int32)).toUInt32.toUInt16.toUInt32.toInt32)) h0 n0 (Nat.le_trans Z0 K0.1) ) hZ (hw _ (List.mem_of_getElem? (i := 4) rfl)) (hw _ (List.mem_of_getElem? (i := 3) rfl)) (by decide) (by decide)) (g := (mkF m 70 #[.val (.int p0), .val (.int (p0 &&& (65535 : Int32))), .val (.int ((p0 &&& (65535 : Int32)).toUInt32.toUInt16.toUInt32.toInt32)), .val (.int (if (p0 &&& (65535 : Int32)) < (8208 : Int32) then (if (p0 &&& (65535 : Int32)) = (8722 : Int32) then (45 : Int32) else (if (p0 &&& (65535 : Int32)) = (160 : Int32) then (32 : Int32) else (if (p0 &&& (65535 : Int32)) = (9 : Int32) then (32 : Int32) else ((p0 &&& (65535 : Int32)).toUInt32.toUInt16.toUInt32.toInt32)))) else (if (8211 : Int32) < (p0 &&& (65535 : Int32)) then (if (p0 &&& (65535 : Int32)) = (8722 : Int32) then (45 : Int32) else (if (p0 &&& (65535 : Int32)) = (160 : Int32) then (32 : Int32) else (if (p0 &&& (65535 : Int32)) = (9 : Int32) then (32 : Int32) else ((p0 &&& (65535 : Int32)).toUInt32.toUInt16.toUInt32.toInt32)))) else (45 : Int32)))), .val (.int (own_f1 ((p0 &&& (65535 : Int32)).toUInt32.toUInt16.toUInt32.toInt32)))] [(.int (own_f1 ((p0 &&& (65535 : Int32)).toUInt32.toUInt16.toUInt32.toInt32)))])) rfl (by rw [hml]; rfl) (argsL := [(.int (own_f1 ((p0 &&& (65535 : Int32)).toUInt32.toUInt16.toUInt32.toInt32)))]) (rest := []) (lenOf pd_2 rfl) rfl (by show 2 * 0 + _ ≤ _; exact Nat.le_of_eq rfl) (hb hby at_70) (fun _ _ => ⟨rfl, e9, (by decide : 0 + 0 ≤ _), (by decide : 0 + 0 ≤ _)⟩)
  dsimp only [Pt.U, Pt.locs, Pt.cells, Pt.slots] at X11 l11 y11 z11 st11 hQ11
  subst l11 y11 z11
  obtain ⟨rfl, N11q, e11⟩ := hQ11
  have N11 := Fr.app N9 N11q
  refine own_by (A' := T11.setTop (mkF m 73 #[.val (.int p0), .val (.int (p0 &&& (65535 : Int32))), .val (.int ((p0 &&& (65535 : Int32)).toUInt32.toUInt16.toUInt32.toInt32)), .val (.int (if (p0 &&& (65535 : Int32)) < (8208 : Int32) then (if (p0 &&& (65535 : Int32)) = (8722 : Int32) then (45 : Int32) else (if (p0 &&& (65535 : Int32)) = (160 : Int32) then (32 : Int32) else (if (p0 &&& (65535 : Int32)) = (9 : Int32) then (32 : Int32) else ((p0 &&& (65535 : Int32)).toUInt32.toUInt16.toUInt32.toInt32)))) else (if (8211 : Int32) < (p0 &&& (65535 : Int32)) then (if (p0 &&& (65535 : Int32)) = (8722 : Int32) then (45 : Int32) else (if (p0 &&& (65535 : Int32)) = (160 : Int32) then (32 : Int32) else (if (p0 &&& (65535 : Int32)) = (9 : Int32) then (32 : Int32) else ((p0 &&& (65535 : Int32)).toUInt32.toUInt16.toUInt32.toInt32)))) else (45 : Int32)))), .val (.int (own_f1 ((p0 &&& (65535 : Int32)).toUInt32.toUInt16.toUInt32.toInt32)))] [(.int (own_f1 (own_f1 ((p0 &&& (65535 : Int32)).toUInt32.toUInt16.toUInt32.toInt32))))])) (fun t kt => st11 t kt) ?_
  refine own_by (A' := T11.setTop (mkF m 75 #[.val (.int p0), .val (.int (p0 &&& (65535 : Int32))), .val (.int ((p0 &&& (65535 : Int32)).toUInt32.toUInt16.toUInt32.toInt32)), .val (.int (if (p0 &&& (65535 : Int32)) < (8208 : Int32) then (if (p0 &&& (65535 : Int32)) = (8722 : Int32) then (45 : Int32) else (if (p0 &&& (65535 : Int32)) = (160 : Int32) then (32 : Int32) else (if (p0 &&& (65535 : Int32)) = (9 : Int32) then (32 : Int32) else ((p0 &&& (65535 : Int32)).toUInt32.toUInt16.toUInt32.toInt32)))) else (if (8211 : Int32) < (p0 &&& (65535 : Int32)) then (if (p0 &&& (65535 : Int32)) = (8722 : Int32) then (45 : Int32) else (if (p0 &&& (65535 : Int32)) = (160 : Int32) then (32 : Int32) else (if (p0 &&& (65535 : Int32)) = (9 : Int32) then (32 : Int32) else ((p0 &&& (65535 : Int32)).toUInt32.toUInt16.toUInt32.toInt32)))) else (45 : Int32)))), .val (.int (own_f1 ((p0 &&& (65535 : Int32)).toUInt32.toUInt16.toUInt32.toInt32)))] [(.int (own_f1 ((p0 &&& (65535 : Int32)).toUInt32.toUInt16.toUInt32.toInt32))), (.int (own_f1 (own_f1 ((p0 &&& (65535 : Int32)).toUInt32.toUInt16.toUInt32.toInt32))))])) (fun t kt => ?_) ?_
  · show Steps p.tables e below (T11.setTop (mkF m 73 #[.val (.int p0), .val (.int (p0 &&& (65535 : Int32))), .val (.int ((p0 &&& (65535 : Int32)).toUInt32.toUInt16.toUInt32.toInt32)), .val (.int (if (p0 &&& (65535 : Int32)) < (8208 : Int32) then (if (p0 &&& (65535 : Int32)) = (8722 : Int32) then (45 : Int32) else (if (p0 &&& (65535 : Int32)) = (160 : Int32) then (32 : Int32) else (if (p0 &&& (65535 : Int32)) = (9 : Int32) then (32 : Int32) else ((p0 &&& (65535 : Int32)).toUInt32.toUInt16.toUInt32.toInt32)))) else (if (8211 : Int32) < (p0 &&& (65535 : Int32)) then (if (p0 &&& (65535 : Int32)) = (8722 : Int32) then (45 : Int32) else (if (p0 &&& (65535 : Int32)) = (160 : Int32) then (32 : Int32) else (if (p0 &&& (65535 : Int32)) = (9 : Int32) then (32 : Int32) else ((p0 &&& (65535 : Int32)).toUInt32.toUInt16.toUInt32.toInt32)))) else (45 : Int32)))), .val (.int (own_f1 ((p0 &&& (65535 : Int32)).toUInt32.toUInt16.toUInt32.toInt32)))] [(.int (own_f1 (own_f1 ((p0 &&& (65535 : Int32)).toUInt32.toUInt16.toUInt32.toInt32))))])) t
    refine XS.iload X11.here hx rfl (hb hby at_73) rfl ?_
    exact kt
  have own_two : (own_f1 (own_f1 ((p0 &&& (65535 : Int32)).toUInt32.toUInt16.toUInt32.toInt32))) = (own_f1 ((p0 &&& (65535 : Int32)).toUInt32.toUInt16.toUInt32.toInt32)) := own_twice _ (c_i2c _).2.1 (c_i2c _).2.2
  have hc75_12 : (own_f1 (own_f1 ((p0 &&& (65535 : Int32)).toUInt32.toUInt16.toUInt32.toInt32))) = (own_f1 ((p0 &&& (65535 : Int32)).toUInt32.toUInt16.toUInt32.toInt32)) := own_two
  refine own_by (A' := T11.setTop (mkF m 83 #[.val (.int p0), .val (.int (p0 &&& (65535 : Int32))), .val (.int ((p0 &&& (65535 : Int32)).toUInt32.toUInt16.toUInt32.toInt32)), .val (.int (if (p0 &&& (65535 : Int32)) < (8208 : Int32) then (if (p0 &&& (65535 : Int32)) = (8722 : Int32) then (45 : Int32) else (if (p0 &&& (65535 : Int32)) = (160 : Int32) then (32 : Int32) else (if (p0 &&& (65535 : Int32)) = (9 : Int32) then (32 : Int32) else ((p0 &&& (65535 : Int32)).toUInt32.toUInt16.toUInt32.toInt32)))) else (if (8211 : Int32) < (p0 &&& (65535 : Int32)) then (if (p0 &&& (65535 : Int32)) = (8722 : Int32) then (45 : Int32) else (if (p0 &&& (65535 : Int32)) = (160 : Int32) then (32 : Int32) else (if (p0 &&& (65535 : Int32)) = (9 : Int32) then (32 : Int32) else ((p0 &&& (65535 : Int32)).toUInt32.toUInt16.toUInt32.toInt32)))) else (45 : Int32)))), .val (.int (own_f1 ((p0 &&& (65535 : Int32)).toUInt32.toUInt16.toUInt32.toInt32)))] [(.int (1 : Int32))])) (fun t kt => ?_) ?_
  · show Steps p.tables e below (T11.setTop (mkF m 75 #[.val (.int p0), .val (.int (p0 &&& (65535 : Int32))), .val (.int ((p0 &&& (65535 : Int32)).toUInt32.toUInt16.toUInt32.toInt32)), .val (.int (if (p0 &&& (65535 : Int32)) < (8208 : Int32) then (if (p0 &&& (65535 : Int32)) = (8722 : Int32) then (45 : Int32) else (if (p0 &&& (65535 : Int32)) = (160 : Int32) then (32 : Int32) else (if (p0 &&& (65535 : Int32)) = (9 : Int32) then (32 : Int32) else ((p0 &&& (65535 : Int32)).toUInt32.toUInt16.toUInt32.toInt32)))) else (if (8211 : Int32) < (p0 &&& (65535 : Int32)) then (if (p0 &&& (65535 : Int32)) = (8722 : Int32) then (45 : Int32) else (if (p0 &&& (65535 : Int32)) = (160 : Int32) then (32 : Int32) else (if (p0 &&& (65535 : Int32)) = (9 : Int32) then (32 : Int32) else ((p0 &&& (65535 : Int32)).toUInt32.toUInt16.toUInt32.toInt32)))) else (45 : Int32)))), .val (.int (own_f1 ((p0 &&& (65535 : Int32)).toUInt32.toUInt16.toUInt32.toInt32)))] [(.int (own_f1 ((p0 &&& (65535 : Int32)).toUInt32.toUInt16.toUInt32.toInt32))), (.int (own_f1 (own_f1 ((p0 &&& (65535 : Int32)).toUInt32.toUInt16.toUInt32.toInt32))))])) t
    refine XS.icmpNo X11.here hx rfl (hb hby at_75) rfl (teq hc75_12).2 ?_
    show Steps p.tables e below (T11.setTop (mkF m 78 #[.val (.int p0), .val (.int (p0 &&& (65535 : Int32))), .val (.int ((p0 &&& (65535 : Int32)).toUInt32.toUInt16.toUInt32.toInt32)), .val (.int (if (p0 &&& (65535 : Int32)) < (8208 : Int32) then (if (p0 &&& (65535 : Int32)) = (8722 : Int32) then (45 : Int32) else (if (p0 &&& (65535 : Int32)) = (160 : Int32) then (32 : Int32) else (if (p0 &&& (65535 : Int32)) = (9 : Int32) then (32 : Int32) else ((p0 &&& (65535 : Int32)).toUInt32.toUInt16.toUInt32.toInt32)))) else (if (8211 : Int32) < (p0 &&& (65535 : Int32)) then (if (p0 &&& (65535 : Int32)) = (8722 : Int32) then (45 : Int32) else (if (p0 &&& (65535 : Int32)) = (160 : Int32) then (32 : Int32) else (if (p0 &&& (65535 : Int32)) = (9 : Int32) then (32 : Int32) else ((p0 &&& (65535 : Int32)).toUInt32.toUInt16.toUInt32.toInt32)))) else (45 : Int32)))), .val (.int (own_f1 ((p0 &&& (65535 : Int32)).toUInt32.toUInt16.toUInt32.toInt32)))] [])) t
    refine XS.iconst X11.here hx rfl (hb hby at_78) ?_
    show Steps p.tables e below (T11.setTop (mkF m 79 #[.val (.int p0), .val (.int (p0 &&& (65535 : Int32))), .val (.int ((p0 &&& (65535 : Int32)).toUInt32.toUInt16.toUInt32.toInt32)), .val (.int (if (p0 &&& (65535 : Int32)) < (8208 : Int32) then (if (p0 &&& (65535 : Int32)) = (8722 : Int32) then (45 : Int32) else (if (p0 &&& (65535 : Int32)) = (160 : Int32) then (32 : Int32) else (if (p0 &&& (65535 : Int32)) = (9 : Int32) then (32 : Int32) else ((p0 &&& (65535 : Int32)).toUInt32.toUInt16.toUInt32.toInt32)))) else (if (8211 : Int32) < (p0 &&& (65535 : Int32)) then (if (p0 &&& (65535 : Int32)) = (8722 : Int32) then (45 : Int32) else (if (p0 &&& (65535 : Int32)) = (160 : Int32) then (32 : Int32) else (if (p0 &&& (65535 : Int32)) = (9 : Int32) then (32 : Int32) else ((p0 &&& (65535 : Int32)).toUInt32.toUInt16.toUInt32.toInt32)))) else (45 : Int32)))), .val (.int (own_f1 ((p0 &&& (65535 : Int32)).toUInt32.toUInt16.toUInt32.toInt32)))] [(.int (1 : Int32))])) t
    refine XS.goto X11.here hx rfl (pc0 := 79) (pc' := 83) rfl (hb hby at_79) (by decide) (by decide) ?_
    exact kt
  obtain ⟨fs, hr, hrun, hended, hW, hsame⟩ := X11.leave (v := some (.int (1 : Int32))) (fun h => by rw [Bd.returns] at h; cases h)
  refine ⟨_, _, ?_, hrun, hended, _, _, rfl, ?_, ⟨_, rfl⟩, hW, hsame.mono (by decide) (by decide)⟩
  · exact retN X11 hx (t := .boolean) Bd.returns (by simp) (hb hby at_83) hr
  · show Q0 Z p0 h0 n0 _ T11.heap _
    rw [e11]
    exact ⟨rfl, N11⟩
set_option maxRecDepth 65536 in
set_option maxHeartbeats 40000000 in
theorem comes_1 {Post : Tables → Env → Array Value → State → Outcome → State → Prop} (hpost : ∀ tb e args s v u, (limb_1_1.after args s (.returned v) u = true ∧ limb_1_2.after args s (.returned v) u = true ∧ True) → FrameEnd s (.returned v) u (Jvm.fieldLocs frame_1_writes args s ++ Jvm.arrayLocs frame_1_arrays args s ++ Jvm.staticLocs frame_1_statics s) 0 0 → Post tb e args s (.returned v) u) :
    ArmFor flags0 classFile x code maxLocals ret World_1 tables_1 room_1 Calls_1 rest_1 Pre_1 Post := by
  intro l hfl _ _ p e ha hc hk s m args below hf hA hF happ hP
  obtain ⟨hcalls, hrest, hpre⟩ := hP
  obtain ⟨-, -, -, hnamed, -, -, -, hat⟩ := (Spec.applies_iff hf).mp happ
  obtain ⟨hg, hn⟩ := and_e (Cond.before_iff.mp (show (Jvm.Cond.and given_1 narrow_1).before args s = true from hpre))
  obtain ⟨ga1, ga2⟩ := and_e hg
  obtain ⟨w0, rfl⟩ : ∃ w0 : Value, args = #[w0] := by
    have hs : args.size = 1 := by simpa [Cond.value, given_1] using ga1
    obtain ⟨L⟩ := args
    match L, hs with
    | [w0], _ => exact ⟨w0, rfl⟩
  have hw := fun d (hd : d ∈ tables_1) => atoms_spec (ws := Jvm.Cond.code x code maxLocals ret :: tables_1) hat d (List.mem_cons_of_mem _ hd)
  have hfit : Fit s := fun {y c} hc i hi => by
    obtain ⟨ha, rfl⟩ := Array.getElem?_eq_some_iff.mp hc
    have q := List.all_eq_true.mp ((Array.all_eq_true_iff_forall_mem.mp hF) _ (Array.getElem_mem ha)) i (List.mem_range.mpr hi)
    simpa [Array.getElem?_eq_getElem hi] using q
  obtain ⟨i0, ei0⟩ := is_v ga2
  obtain rfl : w0 = (.int i0) := Option.some.inj ei0
  obtain ⟨n, o, h1, h2, h3, _, L, rfl, ⟨rfl, N⟩, hq⟩ := rm0 l s _ hw tables_1 i0  s.heap s.heap.size (Nat.le_refl _)  p e ha hc hk s m _ below hf ((Spec.applies_iff_loose hf).mp happ).1 ⟨rfl, State.Warmed39.refl s, rfl⟩ trivial
  refine ⟨n, _, h1, h2, h3, hpost _ _ _ _ _ _ ⟨Cond.after_iff.mpr rfl, Cond.after_iff.mpr (eq_i res_at (Term.int_eval (1)) rfl), trivial⟩ ⟨hq.1, hq.2.1, (hq.2.2.sift fun y hy => Or.inr (N y hy)).mono (by decide) (by decide)⟩⟩
theorem main_1_1 : Claimed_1_1 := comes_1 fun _ _ _ _ _ _ h hF => ⟨h.1, hF⟩
theorem main_1_2 : Claimed_1_2 := comes_1 fun _ _ _ _ _ _ h hF => ⟨h.2.1, hF⟩
end Jvm.Pilot.@@N@@
namespace Jvm.Pilot.@@N@@
open Jvm Jvm.ClassFile Sem Op Lib Jvm.Free Jvm.Stand Jvm.Pilot.@@N@@.Jvm.D
/-! MADE BY PROGRAM (witnessworld.py) out of the Statement's table words and the real class files: 9 classes; the members and pool entries that the words name. The judged class is class 1, her method 1. -/
namespace start1
open Jvm.ClassFile
def u (s : String) : CpInfo := .utf8 (stringToUtf16 s)
/-- a pool by its gaps: so many unusable entries, then the entry; so many at the end -/
def gap : Nat → List CpInfo → List CpInfo
  | 0, r => r
  | n + 1, r => .unusable :: gap n r
def poolList (es : List (Nat × CpInfo)) (last : Nat) : List CpInfo := es.foldr (fun e r => gap e.1 (e.2 :: r)) (gap last [])
def pool (es : List (Nat × CpInfo)) (last : Nat) : Array CpInfo := ⟨poolList es last⟩
def fileOf (pool : Array CpInfo) (this : Nat) (attrs : Array Attribute := #[]) (ms : Array MethodInfo := #[]) (fl : Nat := 33) (sup : Nat := 0) (ifs : Array Nat := #[]) (fds : Array FieldInfo := #[]) : ClassFile where
  minorVersion := 0
  majorVersion := 65
  constantPool := pool
  accessFlags := fl
  thisClass := this
  superClass := sup
  interfaces := ifs
  fields := fds
  methods := ms
  attributes := attrs
def plain (name : String) (sup : Option ClassId) : Class where
  name := name
  kind := .ordinary
  loader := none
  accessFlags := 33
  super := sup
  interfaces := #[]
  cf := none
  fields := #[]
  methods := #[]
  instanceTypes := #[]
  staticTypes := #[]
  resolved := #[]
  callSites := []
  init := .initialized
  statics := none
  mirror := none

def pool0 : Array CpInfo := pool [(5, u "<init>"), (0, u "()V"), (1, .class_ 10), (1, u "java/lang/Object")] 113

def k0m0 : Method := { name := "<init>", desc := "()V", sig := { parameters := [], returnType := none }, accessFlags := 1, code := none }
/-- java/lang/Object -/
def k0 : Class := { plain "java/lang/Object" none with
  accessFlags := 33
  interfaces := #[]
  cf := some (fileOf pool0 8 #[] #[{ accessFlags := 1, nameIndex := 5, descriptorIndex := 6, attributes := #[] }] 33 0 #[] #[])
  fields := #[]
  methods := #[k0m0]
  instanceTypes := #[]
  staticTypes := #[]
  resolved := Array.replicate 124 none
  statics := none }

def pool1 : Array CpInfo := pool [(2, .class_ 4), (1, u "java/lang/Object"), (0, u "<init>"), (0, u "()V"), (0, .integer 65535), (0, .methodref 9 10), (0, .class_ 11), (0, .nameAndType 12 13), (0, u "com/example/bookland/bookland/Spelling"), (0, u "readAs"), (0, u "(C)C"), (0, .class_ 15), (0, u "com/example/bookland/bookland/SpellingReadAsPinLaw"), (2, u "law"), (0, u "(I)Z")] 3

def k1m0 : Method := { name := "<init>", desc := "()V", sig := { parameters := [], returnType := none }, accessFlags := 2, code := none }
def k1c1 : Code := { maxStack := 2, maxLocals := 5, code := code, exceptionTable := #[], attributes := #[] }
def k1m1 : Method := { name := "law", desc := "(I)Z", sig := { parameters := [.int], returnType := some .boolean }, accessFlags := 9, code := some k1c1 }
/-- com/example/bookland/bookland/SpellingReadAsPinLaw -/
def k1 : Class := { plain "com/example/bookland/bookland/SpellingReadAsPinLaw" (some 0) with
  accessFlags := 49
  interfaces := #[]
  cf := some (fileOf pool1 14 #[] #[{ accessFlags := 2, nameIndex := 5, descriptorIndex := 6, attributes := #[] }, { accessFlags := 9, nameIndex := 18, descriptorIndex := 19, attributes := #[] }] 49 2 #[] #[])
  fields := #[]
  methods := #[k1m0, k1m1]
  instanceTypes := #[]
  staticTypes := #[]
  resolved := Array.replicate 23 none
  statics := none }

def pool2 : Array CpInfo := pool [(2, .class_ 4), (1, u "java/lang/Object"), (3, .class_ 10), (1, u "com/example/bookland/bookland/Spelling$Part"), (1, u "Lcom/example/bookland/bookland/Spelling$Part;"), (1, .class_ 16), (1, u "com/example/bookland/bookland/Spelling"), (0, u "part"), (2, u "kept"), (0, u "[C"), (2, u "labels"), (0, u "Lcom/example/bookland/bookland/Labels;"), (7, u "length"), (21, u "readAs"), (0, u "(C)C"), (18, u "label"), (0, u "Lcom/example/bookland/bookland/Labels$Reading;"), (15, u "I"), (2, u "spaces"), (2, u "hyphens"), (8, u "LONGEST")] 17

def k2c0 : Code := { maxStack := 1, maxLocals := 1, code := prog_32_method_4_code, exceptionTable := #[], attributes := #[] }
def k2m0 : Method := { name := "readAs", desc := "(C)C", sig := { parameters := [.char], returnType := some .char }, accessFlags := 8, code := some k2c0 }
/-- com/example/bookland/bookland/Spelling -/
def k2 : Class := { plain "com/example/bookland/bookland/Spelling" (some 0) with
  accessFlags := 48
  interfaces := #[]
  cf := some (fileOf pool2 14 #[.nestMembers #[8]] #[{ accessFlags := 8, nameIndex := 55, descriptorIndex := 56, attributes := #[] }] 48 2 #[] #[{ accessFlags := 24, nameIndex := 107, descriptorIndex := 92, attributes := #[] }, { accessFlags := 18, nameIndex := 24, descriptorIndex := 25, attributes := #[] }, { accessFlags := 2, nameIndex := 17, descriptorIndex := 12, attributes := #[] }, { accessFlags := 2, nameIndex := 75, descriptorIndex := 76, attributes := #[] }, { accessFlags := 18, nameIndex := 20, descriptorIndex := 21, attributes := #[] }, { accessFlags := 2, nameIndex := 33, descriptorIndex := 92, attributes := #[] }, { accessFlags := 2, nameIndex := 95, descriptorIndex := 92, attributes := #[] }, { accessFlags := 2, nameIndex := 98, descriptorIndex := 92, attributes := #[] }])
  fields := #[{ name := "LONGEST", type := .int, accessFlags := 24, slot := 0, constantValue := 0 }, { name := "labels", type := (.object "com/example/bookland/bookland/Labels"), accessFlags := 18, slot := 0, constantValue := 0 }, { name := "part", type := (.object "com/example/bookland/bookland/Spelling$Part"), accessFlags := 2, slot := 1, constantValue := 0 }, { name := "label", type := (.object "com/example/bookland/bookland/Labels$Reading"), accessFlags := 2, slot := 2, constantValue := 0 }, { name := "kept", type := (.array .char), accessFlags := 18, slot := 3, constantValue := 0 }, { name := "length", type := .int, accessFlags := 2, slot := 4, constantValue := 0 }, { name := "spaces", type := .int, accessFlags := 2, slot := 5, constantValue := 0 }, { name := "hyphens", type := .int, accessFlags := 2, slot := 6, constantValue := 0 }]
  methods := #[k2m0]
  instanceTypes := #[(.object "com/example/bookland/bookland/Labels"), (.object "com/example/bookland/bookland/Spelling$Part"), (.object "com/example/bookland/bookland/Labels$Reading"), (.array .char), .int, .int, .int]
  staticTypes := #[.int]
  resolved := Array.replicate 125 none
  statics := none }

def pool3 : Array CpInfo := pool [(1, u "java/lang/Cloneable"), (0, .class_ 1), (0, u "java/lang/Object"), (0, .class_ 3)] 3

/-- java/lang/Cloneable -/
def k3 : Class := { plain "java/lang/Cloneable" (some 0) with
  accessFlags := 1537
  interfaces := #[]
  cf := some (fileOf pool3 2 #[] #[] 1537 4 #[] #[])
  fields := #[]
  methods := #[]
  instanceTypes := #[]
  staticTypes := #[]
  resolved := Array.replicate 8 none
  statics := none }

def pool4 : Array CpInfo := pool [(1, u "java/io/Serializable"), (0, .class_ 1), (0, u "java/lang/Object"), (0, .class_ 3)] 3

/-- java/io/Serializable -/
def k4 : Class := { plain "java/io/Serializable" (some 0) with
  accessFlags := 1537
  interfaces := #[]
  cf := some (fileOf pool4 2 #[] #[] 1537 4 #[] #[])
  fields := #[]
  methods := #[]
  instanceTypes := #[]
  staticTypes := #[]
  resolved := Array.replicate 8 none
  statics := none }

/-- the primitive byte -/
def k5 : Class := { plain "byte" none with kind := .primitive 'B', accessFlags := 0x411 }
/-- [B -/
def k6 : Class := { plain "[B" (some 0) with kind := .array 5 .byte, interfaces := #[3, 4], accessFlags := 1041 }

/-- the primitive int -/
def k7 : Class := { plain "int" none with kind := .primitive 'I', accessFlags := 0x411 }
/-- [I -/
def k8 : Class := { plain "[I" (some 0) with kind := .array 7 .int, interfaces := #[3, 4], accessFlags := 1041 }

def heap : Heap := #[]
def classes : Array Class := #[k0, k1, k2, k3, k4, k5, k6, k7, k8]
def interned : List (Array UInt16 × Addr) := []
def slotsUsed : Nat := 0
def theMethod : MethodId := ⟨1, 1⟩
def args0 : Array Value := #[.int 7]
def aboutOver (below : List Frame) : State where
  vm := { classes := classes, interned := interned.toArray }
  heap := heap
  slotsUsed := slotsUsed
  threads := #[{ frames := .invoking theMethod args0 :: below }]
def below0 : List Frame := [.native { method := ⟨0, 0⟩, args := #[] }]
def about1 : State := aboutOver below0
def p0 : Program := .bare "" "" ""
def e0 : Env := launch0.env 0 0 0
theorem w_frames : about1.frames = Frame.invoking theMethod args0 :: below0 := rfl
set_option maxRecDepth 65536 in
theorem w_args : argsFit about1.vm theMethod args0 = true := by decide +kernel
set_option maxRecDepth 65536 in
theorem w_heap : heapFits about1 = true := by decide +kernel
set_option maxRecDepth 65536 in
theorem w_runnable : about1.curStatus? = some .runnable := by decide +kernel
set_option maxRecDepth 65536 in
theorem w_alone : about1.alone = true := by decide +kernel
set_option maxRecDepth 65536 in
theorem w_named : about1.methodNamed? x = some theMethod := by decide +kernel
set_option maxRecDepth 65536 in
theorem w_hears : about1.hears theMethod below0 = true := by decide +kernel
set_option maxRecDepth 65536 in
theorem w_ripe : about1.ripe theMethod args0 below0 = true := by decide +kernel
theorem w_running : about1.status = .running := rfl
set_option maxRecDepth 65536 in
theorem w_room : about1.hasRoom e0.platform room_1 = true :=
  launch0.hasRoom_least _ room_1 (by decide +kernel) (by decide +kernel) (by decide +kernel) (by decide +kernel) (by decide +kernel) (by decide +kernel)
theorem allAtoms_all (ts : List Jvm.Cond) (a : Array Jvm.Value) (st : Jvm.State) : (allAtoms ts).before a st = ts.all (fun c => c.before a st) := by
  induction ts with
  | nil => rfl
  | cons c t ih =>
    show (Jvm.Cond.and c (allAtoms t)).before a st = _
    rw [Jvm.Cond.before_and, ih, List.all_cons]
def words1 : List Jvm.Cond := Jvm.Cond.code x code maxLocals ret :: tables_1
/-- a 'code' word, met by the world's own term for the bytes: nothing is compared byte by byte -/
theorem code_word {y : MethodName} {bytes : ByteArray} {mx : Nat} {rt : Option FieldType} {a : Array Value} {s : State} {m : MethodId} {meth : Method} {c : Code} (h1 : s.methodNamed? y = some m) (h2 : s.vm.method? m = some meth) (h3 : meth.code = some c) (h4 : c.code = bytes)
    (h5 : (c.maxLocals == mx && c.exceptionTable.isEmpty && decide (c.maxStack ≤ mostOperands) && decide (meth.sig.returnType = rt) && !meth.locks && decide (parseMethodDescriptor y.desc = some meth.sig)) = true) : (Jvm.Cond.code y bytes mx rt).before a s = true := by
  simp only [Bool.and_eq_true, beq_iff_eq, Bool.not_eq_true', decide_eq_true_eq] at h5
  obtain ⟨⟨⟨⟨⟨g1, g2⟩, g3⟩, g4⟩, g5⟩, g6⟩ := h5
  simp [Cond.before, Cond.holds, Cond.value, h1, h2, h3, h4, g1, g2, g3, g4, g5, g6]
def isCode : Jvm.Cond → Bool
  | .code _ _ _ _ => true
  | _ => false
theorem all_split {L : List Jvm.Cond} {P : Jvm.Cond → Bool} (h1 : L.all (fun c => isCode c || P c) = true) (h2 : ∀ c ∈ L.filter isCode, P c = true) : L.all P = true := by
  refine List.all_eq_true.mpr fun c hc => ?_
  have h := List.all_eq_true.mp h1 c hc
  rcases Bool.eq_false_or_eq_true (isCode c) with hi | hi
  · exact h2 c (List.mem_filter.mpr ⟨hc, hi⟩)
  · simpa [hi] using h
set_option maxRecDepth 65536 in
theorem w_c0 : (Jvm.Cond.code x code maxLocals ret).before args0 about1 = true := code_word (m := ⟨1, 1⟩) (meth := k1m1) (c := k1c1) (by decide +kernel) rfl rfl rfl (by decide +kernel)
set_option maxRecDepth 65536 in
theorem w_c1 : (Jvm.Cond.code ({ cls := "com/example/bookland/bookland/Spelling", name := "readAs", desc := "(C)C" } : Jvm.MethodName) prog_32_method_4_code (1 : Nat) (Option.some Jvm.ClassFile.FieldType.char)).before args0 about1 = true := code_word (m := ⟨2, 0⟩) (meth := k2m0) (c := k2c0) (by decide +kernel) rfl rfl rfl (by decide +kernel)
def codes1 : List Jvm.Cond := [Jvm.Cond.code x code maxLocals ret, Jvm.Cond.code ({ cls := "com/example/bookland/bookland/Spelling", name := "readAs", desc := "(C)C" } : Jvm.MethodName) prog_32_method_4_code (1 : Nat) (Option.some Jvm.ClassFile.FieldType.char)]
set_option maxRecDepth 65536 in
theorem codes_eq : words1.filter isCode = codes1 := rfl
theorem w_codes : ∀ c ∈ words1.filter isCode, c.before args0 about1 = true := by
  rw [codes_eq]
  intro c hc
  simp only [codes1, List.mem_cons, List.not_mem_nil, or_false] at hc
  rcases hc with rfl | rfl
  · exact w_c0
  · exact w_c1
set_option maxRecDepth 65536 in
theorem w_t1 : words1.all (fun c => isCode c || c.before args0 about1) = true := by decide +kernel
theorem w_tables : (allAtoms (Jvm.Cond.code x code maxLocals ret :: tables_1)).before args0 about1 = true := by
  rw [allAtoms_all]
  show words1.all (fun c => c.before args0 about1) = true
  refine all_split ?_ w_codes
  rw [w_t1]
set_option maxRecDepth 65536 in
theorem w_case : (Jvm.Cond.and given_1 narrow_1).before args0 about1 = true := by decide +kernel
theorem w_applies : (headSpec (Jvm.Cond.code x code maxLocals ret :: tables_1) room_1).applies x e0.platform about1 = true :=
  (Spec.applies_iff w_frames).mpr ⟨w_running, w_runnable, w_alone, w_named, w_hears, w_ripe, w_room, w_tables⟩
theorem atStart : AtStart classFile x code maxLocals ret World_1 tables_1 room_1 Calls_1 rest_1 Pre_1 launch0 p0 e0 about1 theMethod args0 below0 :=
  ⟨lists_1, trivial, launch0.admits_env _ _ _, launch0.least_env, fairChoices_fair.cas, fairChoices_fair.clock, w_frames, w_args, w_heap, w_applies, trivial, trivial, w_case⟩
end start1
theorem witness_1 : WitnessClaimed_1 := ⟨start1.p0, start1.e0, start1.about1, start1.theMethod, start1.args0, start1.below0, start1.atStart⟩
end Jvm.Pilot.@@N@@
