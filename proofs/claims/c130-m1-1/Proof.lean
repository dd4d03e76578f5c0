import JvmDerived
import JvmDerived.Pilot.@@N@@Statement
import JvmDerived.Pilot.@@N@@Code
set_option linter.unusedVariables false
set_option linter.unusedSimpArgs false
namespace Jvm.RoadKit
open Sem ClassFile Op Lib Jvm.Stand Jvm.Free Jvm.LawKit
section New
variable {p : Program} {l : Launch} {e : Env} {R : Room} {s : State} {m : MethodId} {args : Array Value} {below : List Frame} {meth : Method} {c : Code} {T : State} {locs : List Loc} {cells slots : Nat}
theorem retI (X : Stand p l e R s m args below meth c T locs cells slots) (hx : p.tables.exec = Jvm.exec) {pc : Nat} {Ls : Array Slot} {z : Int32} {rest : List Value} (hret : meth.sig.returnType = some .int) (hd : decode c.code pc = .ok (.ireturn, 1)) {fs : List Frame}
    (hl : ∀ (f : JFrame) (acts : List Action), f.method = m → f.locked = none → f.entered = [] → (doReturn e (T.setTop f) acts (some (.int z))).1 = T.setFrames fs) : Steps p.tables e below (T.setTop (mkF m pc Ls (.int z :: rest))) (T.setFrames fs) :=
  retOut X hx hret rfl (Or.inl ⟨rfl, Or.inl rfl, _, rfl⟩) hd hl
theorem own_retL (X : Stand p l e R s m args below meth c T locs cells slots) (hx : p.tables.exec = Jvm.exec) {pc : Nat} {Ls : Array Slot} {z : Int64} {rest : List Value} (hret : meth.sig.returnType = some .long) (hd : decode c.code pc = .ok (.lreturn, 1)) {fs : List Frame}
    (hl : ∀ (f : JFrame) (acts : List Action), f.method = m → f.locked = none → f.entered = [] → (doReturn e (T.setTop f) acts (some (.long z))).1 = T.setFrames fs) : Steps p.tables e below (T.setTop (mkF m pc Ls (.long z :: rest))) (T.setFrames fs) :=
  retOut X hx hret rfl (Or.inr (Or.inl ⟨rfl, rfl, _, rfl⟩)) hd hl
theorem own_retA (X : Stand p l e R s m args below meth c T locs cells slots) (hx : p.tables.exec = Jvm.exec) {pc : Nat} {Ls : Array Slot} {z : Addr} {rest : List Value} {t : FieldType} (hret : meth.sig.returnType = some t) (ht : t.isReference = true) (hd : decode c.code pc = .ok (.areturn, 1)) {fs : List Frame}
    (hl : ∀ (f : JFrame) (acts : List Action), f.method = m → f.locked = none → f.entered = [] → (doReturn e (T.setTop f) acts (some (.ref z))).1 = T.setFrames fs) : Steps p.tables e below (T.setTop (mkF m pc Ls (.ref z :: rest))) (T.setFrames fs) :=
  retOut X hx hret (by cases t <;> first | rfl | (cases ht; done)) (Or.inr (Or.inr (Or.inr (Or.inr ⟨rfl, ht, rfl⟩)))) hd hl
theorem own_lrem {g : JFrame} {target : State} (X : Stand p l e R s m args below meth c T locs cells slots) (hx : p.tables.exec = Jvm.exec) (hg : g.method = m) {x y : Int64} {rest : List Value} (hd : decode c.code g.pc = .ok (.lrem, 1)) (hs : g.stack = .long y :: .long x :: rest) (hy : y ≠ 0)
    (hr : Steps p.tables e below (T.setTop { g with pc := g.pc + 1, stack := .long (x % y) :: rest }) target) : Steps p.tables e below (T.setTop g) target :=
  XS.lrem X.here hx hg hd hs hy (by rw [lrem_mod]; exact hr)
end New
/-- one step of a walk whose end is still to be found -/
theorem own_by {tb : Tables} {e : Env} {below : List Frame} {A A' : State} {P : State → Outcome → Prop} (k : ∀ t, Steps tb e below A' t → Steps tb e below A t) (h : ∃ s₂ o, Steps tb e below A' s₂ ∧ P s₂ o) : ∃ s₂ o, Steps tb e below A s₂ ∧ P s₂ o := by
  obtain ⟨s₂, o, h1, h2⟩ := h; exact ⟨s₂, o, k _ h1, h2⟩
theorem own_stp {tb : Tables} {e : Env} {below : List Frame} {A A' t : State} (k : ∀ t, Steps tb e below A' t → Steps tb e below A t) (h : Steps tb e below A' t) : Steps tb e below A t := k _ h
/-- all roads that meet again -/
theorem own_cut {tb : Tables} {e : Env} {below : List Frame} {A : State} {P : State → Outcome → Prop} {Φ : State → Prop} (h1 : (∀ A', Φ A' → ∃ s₂ o, Steps tb e below A' s₂ ∧ P s₂ o) → ∃ s₂ o, Steps tb e below A s₂ ∧ P s₂ o) (h2 : ∀ A', Φ A' → ∃ s₂ o, Steps tb e below A' s₂ ∧ P s₂ o) : ∃ s₂ o, Steps tb e below A s₂ ∧ P s₂ o := h1 h2
/-- an array: its kind, its length, and what each place holds -/
def AF (Z : State) (h : Heap) (a : Addr) (ty : FieldType) (n : Int32) (f : Nat → Value) : Prop := ∃ c : Cell, Arr Z h a c ty ∧ c.slots.size = n.toNatClampNeg ∧ ¬ n < 0 ∧ ∀ i, i < c.slots.size → c.slots[i]? = some (f i)
section AFs
variable {Z : State} {h h' : Heap} {a b : Addr} {ty : FieldType} {n : Int32} {f f' : Nat → Value} {v : Value} {sl : Nat} {ws : List Addr}
theorem AF.lt (F : AF Z h a ty n f) : a < h.size := by obtain ⟨c, A, -⟩ := F; exact A.lt
theorem AF.ext (F : AF Z h a ty n f) (E : Ext h h') : AF Z h' a ty n f := by obtain ⟨c, A, r⟩ := F; exact ⟨c, A.ext E, r⟩
theorem AF.other (F : AF Z h b ty n f) (W : Wr h h' a sl v) (q : b ≠ a) : AF Z h' b ty n f := by obtain ⟨c, A, r⟩ := F; exact ⟨c, A.other W q, r⟩
theorem AF.keep (F : AF Z h a ty n f) (K : Keep h h' ws) (q : a ∉ ws) : AF Z h' a ty n f := by obtain ⟨c, A, r⟩ := F; exact ⟨c, ⟨K.2.1 a c A.1 q, A.2⟩, r⟩
theorem AF.to (F : AF Z h a ty n f) (q : ∀ i, i < n.toNatClampNeg → f i = f' i) : AF Z h a ty n f' := by
  obtain ⟨c, A, S, M, H⟩ := F; exact ⟨c, A, S, M, fun i hi => by rw [← q i (S ▸ hi)]; exact H i hi⟩
theorem AF.new {k : ClassId} (A : Arr Z h a (newA k ty n) ty) (q : ¬ n < 0) : AF Z h a ty n (fun _ => defaultValue ty) := ⟨_, A, sz_new _ _ _, q, fun i hi => by rw [sz_new] at hi; simp [newA, hi]⟩
theorem AF.set {c : Cell} {j : Int32} (A : Arr Z h a c ty) (S : c.slots.size = n.toNatClampNeg) (M : ¬ n < 0) (H : ∀ i, i < c.slots.size → c.slots[i]? = some (f i)) (hj : ¬ (j < 0 ∨ c.slots.size ≤ j.toNatClampNeg)) (W : Wr h h' a j.toNatClampNeg v) :
    AF Z h' a ty n (fun i => if i = j.toNatClampNeg then v else f i) := by
  refine ⟨_, A.same W, by rw [sz_set]; exact S, M, fun i hi => ?_⟩
  rw [sz_set] at hi
  have hj' : j.toNatClampNeg < c.slots.size := Nat.lt_of_not_le fun q => hj (Or.inr q)
  by_cases u : i = j.toNatClampNeg
  · subst u; simp [Cell.setSlot, hj']
  · have := H i hi; simp only [Cell.setSlot, if_neg u]
    rw [Array.getElem?_setIfInBounds_ne (Ne.symm u)]; exact this
end AFs
end Jvm.RoadKit
namespace Jvm.Pilot.@@N@@
open Jvm Jvm.ClassFile Sem Op Lib Jvm.Free Jvm.Stand Jvm.LawKit Jvm.RoadKit Bundle Jvm.Pilot.@@N@@.Jvm.D
def own_pw : Nat → Int64
  | 0 => 1
  | 1 => 10
  | 2 => 100
  | 3 => 1000
  | 4 => 10000
  | 5 => 100000
  | 6 => 1000000
  | 7 => 10000000
  | 8 => 100000000
  | 9 => 1000000000
  | 10 => 10000000000
  | 11 => 100000000000
  | 12 => 1000000000000
  | 13 => 10000000000000
  | 14 => 100000000000000
  | 15 => 1000000000000000
  | 16 => 10000000000000000
  | 17 => 100000000000000000
  | _ => 1000000000000000000
def own_fd (q0 : Int64) : Int32 := (if ((q0 % (1000000000 : Int64)) % (1000000000 : Int64)) = (0 : Int64) then (0 : Int32) else (if ((q0 % (1000000000 : Int64)) % (100000000 : Int64)) = (0 : Int64) then (1 : Int32) else (if ((q0 % (1000000000 : Int64)) % (10000000 : Int64)) = (0 : Int64) then (2 : Int32) else (if ((q0 % (1000000000 : Int64)) % (1000000 : Int64)) = (0 : Int64) then (3 : Int32) else (if ((q0 % (1000000000 : Int64)) % (100000 : Int64)) = (0 : Int64) then (4 : Int32) else (if ((q0 % (1000000000 : Int64)) % (10000 : Int64)) = (0 : Int64) then (5 : Int32) else (if ((q0 % (1000000000 : Int64)) % (1000 : Int64)) = (0 : Int64) then (6 : Int32) else (if ((q0 % (1000000000 : Int64)) % (100 : Int64)) = (0 : Int64) then (7 : Int32) else (if ((q0 % (1000000000 : Int64)) % (10 : Int64)) = (0 : Int64) then (8 : Int32) else (9 : Int32))))))))))
theorem own_mod1 (x : Int64) : x % (1 : Int64) = (0 : Int64) := by
  apply Int64.toInt_inj.mp
  rw [Int64.toInt_mod, show (1 : Int64).toInt = 1 from by decide, Int.tmod_one]; decide
theorem pn_0 : plainName "com/example/matchline/matchline/decimal/Nanos" = true := by first | (simp [plainName, overriddenIn]; done) | decide +kernel
theorem d1_0 : decode prog_1_method_14_code 0 = .ok (.lload_n 0, 1) := by decide +kernel
theorem d1_1 : decode prog_1_method_14_code 1 = .ok (.ldc2_w 11, 3) := by decide +kernel
theorem d1_4 : decode prog_1_method_14_code 4 = .ok (.lrem, 1) := by decide +kernel
theorem d1_5 : decode prog_1_method_14_code 5 = .ok (.lstore_n 2, 1) := by decide +kernel
theorem d1_6 : decode prog_1_method_14_code 6 = .ok (.iconst 0, 1) := by decide +kernel
theorem d1_7 : decode prog_1_method_14_code 7 = .ok (.istore 4, 2) := by decide +kernel
theorem d1_9 : decode prog_1_method_14_code 9 = .ok (.lload_n 2, 1) := by decide +kernel
theorem d1_10 : decode prog_1_method_14_code 10 = .ok (.getstatic 50, 3) := by decide +kernel
theorem d1_13 : decode prog_1_method_14_code 13 = .ok (.bipush 9, 2) := by decide +kernel
theorem d1_15 : decode prog_1_method_14_code 15 = .ok (.iload 4, 2) := by decide +kernel
theorem d1_17 : decode prog_1_method_14_code 17 = .ok (.isub, 1) := by decide +kernel
theorem d1_18 : decode prog_1_method_14_code 18 = .ok (.laload, 1) := by decide +kernel
theorem d1_19 : decode prog_1_method_14_code 19 = .ok (.lrem, 1) := by decide +kernel
theorem d1_20 : decode prog_1_method_14_code 20 = .ok (.lconst 0, 1) := by decide +kernel
theorem d1_21 : decode prog_1_method_14_code 21 = .ok (.lcmp, 1) := by decide +kernel
theorem d1_22 : decode prog_1_method_14_code 22 = .ok (.ifCond .eq 9, 3) := by decide +kernel
theorem d1_25 : decode prog_1_method_14_code 25 = .ok (.iinc 4 1, 3) := by decide +kernel
theorem d1_28 : decode prog_1_method_14_code 28 = .ok (.goto (-19), 3) := by decide +kernel
theorem d1_31 : decode prog_1_method_14_code 31 = .ok (.iload 4, 2) := by decide +kernel
theorem d1_33 : decode prog_1_method_14_code 33 = .ok (.ireturn, 1) := by decide +kernel
theorem ef_rm1 (m : MethodId) (q0 : Int64) : entryFrame m #[(.long q0)] 5 = mkF m 0 #[.val (.long q0), .second, .unset, .unset, .unset] [] := by first | (simp [entryFrame, mkF, argsToLocals, Value.category]; done) | rfl
def Q1 (Z : State) (q0 : Int64) (r : Addr) (h0 : Heap) (n0 : Nat) (v : Option Value) (h : Heap) (L : List Loc) : Prop := v = some (.int (own_fd q0)) ∧ Fr n0 L ∧ h = h0
set_option maxRecDepth 65536 in
set_option maxHeartbeats 40000000 in
theorem rm1 (l : Launch) (Z : State) (aw : Array Value) (hw : ∀ d ∈ tables_1, d.before aw Z = true) (ws : List Jvm.Cond) (q0 : Int64) (r : Addr) (h0 : Heap) (n0 : Nat) (Z0 : n0 ≤ h0.size) (S_P : Sta Z h0 "com/example/matchline/matchline/decimal/Nanos" "POWERS_OF_TEN" "[J" (.ref r)) (V_r : AF Z h0 r .long (19 : Int32) (fun i => .long (own_pw i))) :
    MetFree l (⟨"com/example/matchline/matchline/decimal/Nanos", "fractionDigits", "(J)I"⟩ : MethodName) (head1 (Jvm.Cond.code (⟨"com/example/matchline/matchline/decimal/Nanos", "fractionDigits", "(J)I"⟩ : MethodName) prog_1_method_14_code 5 (some .int) :: ws) ({ frames := 0, cells := 0, slots := 0, locals := 0 } : Room)) (fun a U => a = #[(.long q0)] ∧ Z.Warmed39 U.vm ∧ U.heap = h0) (fun _ _ _ _ _ => True) (fun _ U o U' => ∃ v L, o = .returned v ∧ Q1 Z q0 r h0 n0 v U'.heap L ∧ FrameEnd U o U' L ({ frames := 0, cells := 0, slots := 0, locals := 0 } : Room).cells ({ frames := 0, cells := 0, slots := 0, locals := 0 } : Room).slots) := by
  refine MetFree.of_bodySF (plainFor_of_name pn_0) hisR ?_
  intro p e s m args below meth c s₁ Bd hml0 hP hK
  obtain ⟨rfl, hZ, hh⟩ := hP
  have hx := Bd.exec
  have hby := Bd.bytes
  have hml : c.maxLocals = 5 := hml0
  have hown : s.vm.findClass "com/example/matchline/matchline/decimal/Nanos" = some m.cls := findClass_of_methodNamed Bd.named
  have hnm := (name_of_methodNamed Bd.named Bd.method).1
  have X0 : Stand p l e ({ frames := 0, cells := 0, slots := 0, locals := 0 } : Room) s m #[(.long q0)] below meth c s₁ [] 0 0 := Stand.of_body Bd
  have e0 : s₁.heap = h0 := by rw [← hh, Bd.state]; rfl
  have N0 := Fr.nil n0
  have K0 : Keep h0 h0 [] := Keep.refl _ _
  refine own_by (A' := s₁.setTop (mkF m 0 #[.val (.long q0), .second, .unset, .unset, .unset] [])) (fun t k => castTop (ef_rm1 m q0) k) ?_
  refine own_by (A' := s₁.setTop (mkF m 10 #[.val (.long q0), .second, .val (.long (q0 % (1000000000 : Int64))), .second, .val (.int (0 : Int32))] [(.long (q0 % (1000000000 : Int64)))])) (fun t kt => ?_) ?_
  · show Steps p.tables e below (s₁.setTop (mkF m 0 #[.val (.long q0), .second, .unset, .unset, .unset] [])) t
    refine XS.lloadN X0.here hx rfl (hb hby d1_0) rfl ?_
    show Steps p.tables e below (s₁.setTop (mkF m 1 #[.val (.long q0), .second, .unset, .unset, .unset] [(.long q0)])) t
    refine X0.ldc2Long hx hown (mvT hZ (hw _ (List.mem_of_getElem? (i := 16) rfl))) (g := (mkF m 1 #[.val (.long q0), .second, .unset, .unset, .unset] [(.long q0)])) rfl (hb hby d1_1) _ ?_
    show Steps p.tables e below (s₁.setTop (mkF m 4 #[.val (.long q0), .second, .unset, .unset, .unset] [(.long (1000000000 : Int64)), (.long q0)])) t
    refine own_lrem X0 hx rfl (hb hby d1_4) rfl (by decide) ?_
    show Steps p.tables e below (s₁.setTop (mkF m 5 #[.val (.long q0), .second, .unset, .unset, .unset] [(.long (q0 % (1000000000 : Int64)))])) t
    refine XS.lstoreN X0.here hx rfl (hb hby d1_5) rfl (l' := #[.val (.long q0), .second, .val (.long (q0 % (1000000000 : Int64))), .second, .unset]) rfl ?_
    show Steps p.tables e below (s₁.setTop (mkF m 6 #[.val (.long q0), .second, .val (.long (q0 % (1000000000 : Int64))), .second, .unset] [])) t
    refine XS.iconst X0.here hx rfl (hb hby d1_6) ?_
    show Steps p.tables e below (s₁.setTop (mkF m 7 #[.val (.long q0), .second, .val (.long (q0 % (1000000000 : Int64))), .second, .unset] [(.int (0 : Int32))])) t
    refine XS.istore X0.here hx rfl (hb hby d1_7) rfl (l' := #[.val (.long q0), .second, .val (.long (q0 % (1000000000 : Int64))), .second, .val (.int (0 : Int32))]) rfl ?_
    show Steps p.tables e below (s₁.setTop (mkF m 9 #[.val (.long q0), .second, .val (.long (q0 % (1000000000 : Int64))), .second, .val (.int (0 : Int32))] [])) t
    refine XS.lloadN X0.here hx rfl (hb hby d1_9) rfl ?_
    exact kt
  obtain ⟨T1, X1, e1, st1⟩ := getS2 X0 hx hZ hown (host := "") (Or.inl (hw _ (List.mem_of_getElem? (i := 17) rfl))) Via.refl e0 S_P (g := (mkF m 10 #[.val (.long q0), .second, .val (.long (q0 % (1000000000 : Int64))), .second, .val (.int (0 : Int32))] [(.long (q0 % (1000000000 : Int64)))])) rfl (hb hby d1_10)
  refine own_by (A' := T1.setTop (mkF m 13 #[.val (.long q0), .second, .val (.long (q0 % (1000000000 : Int64))), .second, .val (.int (0 : Int32))] [(.ref r), (.long (q0 % (1000000000 : Int64)))])) (fun t kt => st1 t kt) ?_
  refine own_by (A' := T1.setTop (mkF m 18 #[.val (.long q0), .second, .val (.long (q0 % (1000000000 : Int64))), .second, .val (.int (0 : Int32))] [(.int (9 : Int32)), (.ref r), (.long (q0 % (1000000000 : Int64)))])) (fun t kt => ?_) ?_
  · show Steps p.tables e below (T1.setTop (mkF m 13 #[.val (.long q0), .second, .val (.long (q0 % (1000000000 : Int64))), .second, .val (.int (0 : Int32))] [(.ref r), (.long (q0 % (1000000000 : Int64)))])) t
    refine XS.bipush X1.here hx rfl (hb hby d1_13) ?_
    show Steps p.tables e below (T1.setTop (mkF m 15 #[.val (.long q0), .second, .val (.long (q0 % (1000000000 : Int64))), .second, .val (.int (0 : Int32))] [(.int (9 : Int32)), (.ref r), (.long (q0 % (1000000000 : Int64)))])) t
    refine XS.iload X1.here hx rfl (hb hby d1_15) rfl ?_
    show Steps p.tables e below (T1.setTop (mkF m 17 #[.val (.long q0), .second, .val (.long (q0 % (1000000000 : Int64))), .second, .val (.int (0 : Int32))] [(.int (0 : Int32)), (.int (9 : Int32)), (.ref r), (.long (q0 % (1000000000 : Int64)))])) t
    refine XS.isub X1.here hx rfl (hb hby d1_17) rfl ?_
    exact kt
  obtain ⟨cl2, Ar2, Sz2, Mn2, Ha2⟩ := id V_r
  have hin2 := inb_of (j := (9 : Int32)) Sz2 ⟨by decide, by decide⟩
  have hat2 : cl2.slots[((9 : Int32)).toNatClampNeg]? = some (.long (1000000000 : Int64)) := (Ha2 _ (Nat.lt_of_not_le fun q => hin2 (Or.inr q))).trans (congrArg some rfl)
  refine own_by (A' := T1.setTop (mkF m 22 #[.val (.long q0), .second, .val (.long (q0 % (1000000000 : Int64))), .second, .val (.int (0 : Int32))] [(.int (lcmpW ((q0 % (1000000000 : Int64)) % (1000000000 : Int64)) (0 : Int64)))])) (fun t kt => ?_) ?_
  · show Steps p.tables e below (T1.setTop (mkF m 18 #[.val (.long q0), .second, .val (.long (q0 % (1000000000 : Int64))), .second, .val (.int (0 : Int32))] [(.int (9 : Int32)), (.ref r), (.long (q0 % (1000000000 : Int64)))])) t
    refine X1.laload hx (j := (9 : Int32)) (v := (.long (1000000000 : Int64))) (by rw [e1]; exact Ar2.1) (State.isArrayOf_alike hZ.alike Ar2.2.1) Ar2.2.2 hin2 hat2 (g := (mkF m 18 #[.val (.long q0), .second, .val (.long (q0 % (1000000000 : Int64))), .second, .val (.int (0 : Int32))] [(.int (9 : Int32)), (.ref r), (.long (q0 % (1000000000 : Int64)))])) rfl rfl (hb hby d1_18) _ ?_
    show Steps p.tables e below (T1.setTop (mkF m 19 #[.val (.long q0), .second, .val (.long (q0 % (1000000000 : Int64))), .second, .val (.int (0 : Int32))] [(.long (1000000000 : Int64)), (.long (q0 % (1000000000 : Int64)))])) t
    refine own_lrem X1 hx rfl (hb hby d1_19) rfl (by decide) ?_
    show Steps p.tables e below (T1.setTop (mkF m 20 #[.val (.long q0), .second, .val (.long (q0 % (1000000000 : Int64))), .second, .val (.int (0 : Int32))] [(.long ((q0 % (1000000000 : Int64)) % (1000000000 : Int64)))])) t
    refine XS.lconst X1.here hx rfl (hb hby d1_20) ?_
    show Steps p.tables e below (T1.setTop (mkF m 21 #[.val (.long q0), .second, .val (.long (q0 % (1000000000 : Int64))), .second, .val (.int (0 : Int32))] [(.long (0 : Int64)), (.long ((q0 % (1000000000 : Int64)) % (1000000000 : Int64)))])) t
    refine XS.lcmp X1.here hx rfl (hb hby d1_21) rfl ?_
    exact kt
  by_cases hc22_3 : ((q0 % (1000000000 : Int64)) % (1000000000 : Int64)) = (0 : Int64)
  · refine own_by (A' := T1.setTop (mkF m 33 #[.val (.long q0), .second, .val (.long (q0 % (1000000000 : Int64))), .second, .val (.int (0 : Int32))] [(.int (0 : Int32))])) (fun t kt => ?_) ?_
    · show Steps p.tables e below (T1.setTop (mkF m 22 #[.val (.long q0), .second, .val (.long (q0 % (1000000000 : Int64))), .second, .val (.int (0 : Int32))] [(.int (lcmpW ((q0 % (1000000000 : Int64)) % (1000000000 : Int64)) (0 : Int64)))])) t
      refine XS.ifYes X1.here hx rfl (pc0 := 22) (pc' := 31) rfl (hb hby d1_22) rfl ((if0 _ _).trans (teq ((lw_eq _ _).mpr hc22_3)).1) (by decide) (by decide) ?_
      show Steps p.tables e below (T1.setTop (mkF m 31 #[.val (.long q0), .second, .val (.long (q0 % (1000000000 : Int64))), .second, .val (.int (0 : Int32))] [])) t
      refine XS.iload X1.here hx rfl (hb hby d1_31) rfl ?_
      exact kt
    obtain ⟨fs, hr, hrun, hended, hW, hsame⟩ := X1.leave (v := some (.int (0 : Int32))) (fun h => by rw [Bd.returns] at h; cases h)
    refine ⟨_, _, ?_, hrun, hended, _, _, rfl, ?_, ⟨_, rfl⟩, hW, hsame.mono (by decide) (by decide)⟩
    · exact retI X1 hx Bd.returns (hb hby d1_33) hr
    · show Q1 Z q0 r h0 n0 _ T1.heap _
      rw [e1]
      exact ⟨(by rw [own_fd, if_pos hc22_3]), N0, rfl⟩
  · refine own_by (A' := T1.setTop (mkF m 10 #[.val (.long q0), .second, .val (.long (q0 % (1000000000 : Int64))), .second, .val (.int (1 : Int32))] [(.long (q0 % (1000000000 : Int64)))])) (fun t kt => ?_) ?_
    · show Steps p.tables e below (T1.setTop (mkF m 22 #[.val (.long q0), .second, .val (.long (q0 % (1000000000 : Int64))), .second, .val (.int (0 : Int32))] [(.int (lcmpW ((q0 % (1000000000 : Int64)) % (1000000000 : Int64)) (0 : Int64)))])) t
      refine XS.ifNo X1.here hx rfl (hb hby d1_22) rfl ((if0 _ _).trans (feq (fun q => hc22_3 ((lw_eq _ _).mp q))).1) ?_
      show Steps p.tables e below (T1.setTop (mkF m 25 #[.val (.long q0), .second, .val (.long (q0 % (1000000000 : Int64))), .second, .val (.int (0 : Int32))] [])) t
      refine XS.iinc X1.here hx rfl (hb hby d1_25) rfl (l' := #[.val (.long q0), .second, .val (.long (q0 % (1000000000 : Int64))), .second, .val (.int (1 : Int32))]) rfl ?_
      show Steps p.tables e below (T1.setTop (mkF m 28 #[.val (.long q0), .second, .val (.long (q0 % (1000000000 : Int64))), .second, .val (.int (1 : Int32))] [])) t
      refine XS.goto X1.here hx rfl (pc0 := 28) (pc' := 9) rfl (hb hby d1_28) (by decide) (by decide) ?_
      show Steps p.tables e below (T1.setTop (mkF m 9 #[.val (.long q0), .second, .val (.long (q0 % (1000000000 : Int64))), .second, .val (.int (1 : Int32))] [])) t
      refine XS.lloadN X1.here hx rfl (hb hby d1_9) rfl ?_
      exact kt
    obtain ⟨T4, X4, e4, st4⟩ := getS2 X1 hx hZ hown (host := "") (Or.inl (hw _ (List.mem_of_getElem? (i := 17) rfl))) Via.refl e1 S_P (g := (mkF m 10 #[.val (.long q0), .second, .val (.long (q0 % (1000000000 : Int64))), .second, .val (.int (1 : Int32))] [(.long (q0 % (1000000000 : Int64)))])) rfl (hb hby d1_10)
    refine own_by (A' := T4.setTop (mkF m 13 #[.val (.long q0), .second, .val (.long (q0 % (1000000000 : Int64))), .second, .val (.int (1 : Int32))] [(.ref r), (.long (q0 % (1000000000 : Int64)))])) (fun t kt => st4 t kt) ?_
    refine own_by (A' := T4.setTop (mkF m 18 #[.val (.long q0), .second, .val (.long (q0 % (1000000000 : Int64))), .second, .val (.int (1 : Int32))] [(.int (8 : Int32)), (.ref r), (.long (q0 % (1000000000 : Int64)))])) (fun t kt => ?_) ?_
    · show Steps p.tables e below (T4.setTop (mkF m 13 #[.val (.long q0), .second, .val (.long (q0 % (1000000000 : Int64))), .second, .val (.int (1 : Int32))] [(.ref r), (.long (q0 % (1000000000 : Int64)))])) t
      refine XS.bipush X4.here hx rfl (hb hby d1_13) ?_
      show Steps p.tables e below (T4.setTop (mkF m 15 #[.val (.long q0), .second, .val (.long (q0 % (1000000000 : Int64))), .second, .val (.int (1 : Int32))] [(.int (9 : Int32)), (.ref r), (.long (q0 % (1000000000 : Int64)))])) t
      refine XS.iload X4.here hx rfl (hb hby d1_15) rfl ?_
      show Steps p.tables e below (T4.setTop (mkF m 17 #[.val (.long q0), .second, .val (.long (q0 % (1000000000 : Int64))), .second, .val (.int (1 : Int32))] [(.int (1 : Int32)), (.int (9 : Int32)), (.ref r), (.long (q0 % (1000000000 : Int64)))])) t
      refine XS.isub X4.here hx rfl (hb hby d1_17) rfl ?_
      exact kt
    obtain ⟨cl5, Ar5, Sz5, Mn5, Ha5⟩ := id V_r
    have hin5 := inb_of (j := (8 : Int32)) Sz5 ⟨by decide, by decide⟩
    have hat5 : cl5.slots[((8 : Int32)).toNatClampNeg]? = some (.long (100000000 : Int64)) := (Ha5 _ (Nat.lt_of_not_le fun q => hin5 (Or.inr q))).trans (congrArg some rfl)
    refine own_by (A' := T4.setTop (mkF m 22 #[.val (.long q0), .second, .val (.long (q0 % (1000000000 : Int64))), .second, .val (.int (1 : Int32))] [(.int (lcmpW ((q0 % (1000000000 : Int64)) % (100000000 : Int64)) (0 : Int64)))])) (fun t kt => ?_) ?_
    · show Steps p.tables e below (T4.setTop (mkF m 18 #[.val (.long q0), .second, .val (.long (q0 % (1000000000 : Int64))), .second, .val (.int (1 : Int32))] [(.int (8 : Int32)), (.ref r), (.long (q0 % (1000000000 : Int64)))])) t
      refine X4.laload hx (j := (8 : Int32)) (v := (.long (100000000 : Int64))) (by rw [e4]; exact Ar5.1) (State.isArrayOf_alike hZ.alike Ar5.2.1) Ar5.2.2 hin5 hat5 (g := (mkF m 18 #[.val (.long q0), .second, .val (.long (q0 % (1000000000 : Int64))), .second, .val (.int (1 : Int32))] [(.int (8 : Int32)), (.ref r), (.long (q0 % (1000000000 : Int64)))])) rfl rfl (hb hby d1_18) _ ?_
      show Steps p.tables e below (T4.setTop (mkF m 19 #[.val (.long q0), .second, .val (.long (q0 % (1000000000 : Int64))), .second, .val (.int (1 : Int32))] [(.long (100000000 : Int64)), (.long (q0 % (1000000000 : Int64)))])) t
      refine own_lrem X4 hx rfl (hb hby d1_19) rfl (by decide) ?_
      show Steps p.tables e below (T4.setTop (mkF m 20 #[.val (.long q0), .second, .val (.long (q0 % (1000000000 : Int64))), .second, .val (.int (1 : Int32))] [(.long ((q0 % (1000000000 : Int64)) % (100000000 : Int64)))])) t
      refine XS.lconst X4.here hx rfl (hb hby d1_20) ?_
      show Steps p.tables e below (T4.setTop (mkF m 21 #[.val (.long q0), .second, .val (.long (q0 % (1000000000 : Int64))), .second, .val (.int (1 : Int32))] [(.long (0 : Int64)), (.long ((q0 % (1000000000 : Int64)) % (100000000 : Int64)))])) t
      refine XS.lcmp X4.here hx rfl (hb hby d1_21) rfl ?_
      exact kt
    by_cases hc22_6 : ((q0 % (1000000000 : Int64)) % (100000000 : Int64)) = (0 : Int64)
    · refine own_by (A' := T4.setTop (mkF m 33 #[.val (.long q0), .second, .val (.long (q0 % (1000000000 : Int64))), .second, .val (.int (1 : Int32))] [(.int (1 : Int32))])) (fun t kt => ?_) ?_
      · show Steps p.tables e below (T4.setTop (mkF m 22 #[.val (.long q0), .second, .val (.long (q0 % (1000000000 : Int64))), .second, .val (.int (1 : Int32))] [(.int (lcmpW ((q0 % (1000000000 : Int64)) % (100000000 : Int64)) (0 : Int64)))])) t
        refine XS.ifYes X4.here hx rfl (pc0 := 22) (pc' := 31) rfl (hb hby d1_22) rfl ((if0 _ _).trans (teq ((lw_eq _ _).mpr hc22_6)).1) (by decide) (by decide) ?_
        show Steps p.tables e below (T4.setTop (mkF m 31 #[.val (.long q0), .second, .val (.long (q0 % (1000000000 : Int64))), .second, .val (.int (1 : Int32))] [])) t
        refine XS.iload X4.here hx rfl (hb hby d1_31) rfl ?_
        exact kt
      obtain ⟨fs, hr, hrun, hended, hW, hsame⟩ := X4.leave (v := some (.int (1 : Int32))) (fun h => by rw [Bd.returns] at h; cases h)
      refine ⟨_, _, ?_, hrun, hended, _, _, rfl, ?_, ⟨_, rfl⟩, hW, hsame.mono (by decide) (by decide)⟩
      · exact retI X4 hx Bd.returns (hb hby d1_33) hr
      · show Q1 Z q0 r h0 n0 _ T4.heap _
        rw [e4]
        exact ⟨(by rw [own_fd, if_neg hc22_3, if_pos hc22_6]), N0, rfl⟩
    · refine own_by (A' := T4.setTop (mkF m 10 #[.val (.long q0), .second, .val (.long (q0 % (1000000000 : Int64))), .second, .val (.int (2 : Int32))] [(.long (q0 % (1000000000 : Int64)))])) (fun t kt => ?_) ?_
      · show Steps p.tables e below (T4.setTop (mkF m 22 #[.val (.long q0), .second, .val (.long (q0 % (1000000000 : Int64))), .second, .val (.int (1 : Int32))] [(.int (lcmpW ((q0 % (1000000000 : Int64)) % (100000000 : Int64)) (0 : Int64)))])) t
        refine XS.ifNo X4.here hx rfl (hb hby d1_22) rfl ((if0 _ _).trans (feq (fun q => hc22_6 ((lw_eq _ _).mp q))).1) ?_
        show Steps p.tables e below (T4.setTop (mkF m 25 #[.val (.long q0), .second, .val (.long (q0 % (1000000000 : Int64))), .second, .val (.int (1 : Int32))] [])) t
        refine XS.iinc X4.here hx rfl (hb hby d1_25) rfl (l' := #[.val (.long q0), .second, .val (.long (q0 % (1000000000 : Int64))), .second, .val (.int (2 : Int32))]) rfl ?_
        show Steps p.tables e below (T4.setTop (mkF m 28 #[.val (.long q0), .second, .val (.long (q0 % (1000000000 : Int64))), .second, .val (.int (2 : Int32))] [])) t
        refine XS.goto X4.here hx rfl (pc0 := 28) (pc' := 9) rfl (hb hby d1_28) (by decide) (by decide) ?_
        show Steps p.tables e below (T4.setTop (mkF m 9 #[.val (.long q0), .second, .val (.long (q0 % (1000000000 : Int64))), .second, .val (.int (2 : Int32))] [])) t
        refine XS.lloadN X4.here hx rfl (hb hby d1_9) rfl ?_
        exact kt
      obtain ⟨T7, X7, e7, st7⟩ := getS2 X4 hx hZ hown (host := "") (Or.inl (hw _ (List.mem_of_getElem? (i := 17) rfl))) Via.refl e4 S_P (g := (mkF m 10 #[.val (.long q0), .second, .val (.long (q0 % (1000000000 : Int64))), .second, .val (.int (2 : Int32))] [(.long (q0 % (1000000000 : Int64)))])) rfl (hb hby d1_10)
      refine own_by (A' := T7.setTop (mkF m 13 #[.val (.long q0), .second, .val (.long (q0 % (1000000000 : Int64))), .second, .val (.int (2 : Int32))] [(.ref r), (.long (q0 % (1000000000 : Int64)))])) (fun t kt => st7 t kt) ?_
      refine own_by (A' := T7.setTop (mkF m 18 #[.val (.long q0), .second, .val (.long (q0 % (1000000000 : Int64))), .second, .val (.int (2 : Int32))] [(.int (7 : Int32)), (.ref r), (.long (q0 % (1000000000 : Int64)))])) (fun t kt => ?_) ?_
      · show Steps p.tables e below (T7.setTop (mkF m 13 #[.val (.long q0), .second, .val (.long (q0 % (1000000000 : Int64))), .second, .val (.int (2 : Int32))] [(.ref r), (.long (q0 % (1000000000 : Int64)))])) t
        refine XS.bipush X7.here hx rfl (hb hby d1_13) ?_
        show Steps p.tables e below (T7.setTop (mkF m 15 #[.val (.long q0), .second, .val (.long (q0 % (1000000000 : Int64))), .second, .val (.int (2 : Int32))] [(.int (9 : Int32)), (.ref r), (.long (q0 % (1000000000 : Int64)))])) t
        refine XS.iload X7.here hx rfl (hb hby d1_15) rfl ?_
        show Steps p.tables e below (T7.setTop (mkF m 17 #[.val (.long q0), .second, .val (.long (q0 % (1000000000 : Int64))), .second, .val (.int (2 : Int32))] [(.int (2 : Int32)), (.int (9 : Int32)), (.ref r), (.long (q0 % (1000000000 : Int64)))])) t
        refine XS.isub X7.here hx rfl (hb hby d1_17) rfl ?_
        exact kt
      obtain ⟨cl8, Ar8, Sz8, Mn8, Ha8⟩ := id V_r
      have hin8 := inb_of (j := (7 : Int32)) Sz8 ⟨by decide, by decide⟩
      have hat8 : cl8.slots[((7 : Int32)).toNatClampNeg]? = some (.long (10000000 : Int64)) := (Ha8 _ (Nat.lt_of_not_le fun q => hin8 (Or.inr q))).trans (congrArg some rfl)
      refine own_by (A' := T7.setTop (mkF m 22 #[.val (.long q0), .second, .val (.long (q0 % (1000000000 : Int64))), .second, .val (.int (2 : Int32))] [(.int (lcmpW ((q0 % (1000000000 : Int64)) % (10000000 : Int64)) (0 : Int64)))])) (fun t kt => ?_) ?_
      · show Steps p.tables e below (T7.setTop (mkF m 18 #[.val (.long q0), .second, .val (.long (q0 % (1000000000 : Int64))), .second, .val (.int (2 : Int32))] [(.int (7 : Int32)), (.ref r), (.long (q0 % (1000000000 : Int64)))])) t
        refine X7.laload hx (j := (7 : Int32)) (v := (.long (10000000 : Int64))) (by rw [e7]; exact Ar8.1) (State.isArrayOf_alike hZ.alike Ar8.2.1) Ar8.2.2 hin8 hat8 (g := (mkF m 18 #[.val (.long q0), .second, .val (.long (q0 % (1000000000 : Int64))), .second, .val (.int (2 : Int32))] [(.int (7 : Int32)), (.ref r), (.long (q0 % (1000000000 : Int64)))])) rfl rfl (hb hby d1_18) _ ?_
        show Steps p.tables e below (T7.setTop (mkF m 19 #[.val (.long q0), .second, .val (.long (q0 % (1000000000 : Int64))), .second, .val (.int (2 : Int32))] [(.long (10000000 : Int64)), (.long (q0 % (1000000000 : Int64)))])) t
        refine own_lrem X7 hx rfl (hb hby d1_19) rfl (by decide) ?_
        show Steps p.tables e below (T7.setTop (mkF m 20 #[.val (.long q0), .second, .val (.long (q0 % (1000000000 : Int64))), .second, .val (.int (2 : Int32))] [(.long ((q0 % (1000000000 : Int64)) % (10000000 : Int64)))])) t
        refine XS.lconst X7.here hx rfl (hb hby d1_20) ?_
        show Steps p.tables e below (T7.setTop (mkF m 21 #[.val (.long q0), .second, .val (.long (q0 % (1000000000 : Int64))), .second, .val (.int (2 : Int32))] [(.long (0 : Int64)), (.long ((q0 % (1000000000 : Int64)) % (10000000 : Int64)))])) t
        refine XS.lcmp X7.here hx rfl (hb hby d1_21) rfl ?_
        exact kt
      by_cases hc22_9 : ((q0 % (1000000000 : Int64)) % (10000000 : Int64)) = (0 : Int64)
      · refine own_by (A' := T7.setTop (mkF m 33 #[.val (.long q0), .second, .val (.long (q0 % (1000000000 : Int64))), .second, .val (.int (2 : Int32))] [(.int (2 : Int32))])) (fun t kt => ?_) ?_
        · show Steps p.tables e below (T7.setTop (mkF m 22 #[.val (.long q0), .second, .val (.long (q0 % (1000000000 : Int64))), .second, .val (.int (2 : Int32))] [(.int (lcmpW ((q0 % (1000000000 : Int64)) % (10000000 : Int64)) (0 : Int64)))])) t
          refine XS.ifYes X7.here hx rfl (pc0 := 22) (pc' := 31) rfl (hb hby d1_22) rfl ((if0 _ _).trans (teq ((lw_eq _ _).mpr hc22_9)).1) (by decide) (by decide) ?_
          show Steps p.tables e below (T7.setTop (mkF m 31 #[.val (.long q0), .second, .val (.long (q0 % (1000000000 : Int64))), .second, .val (.int (2 : Int32))] [])) t
          refine XS.iload X7.here hx rfl (hb hby d1_31) rfl ?_
          exact kt
        obtain ⟨fs, hr, hrun, hended, hW, hsame⟩ := X7.leave (v := some (.int (2 : Int32))) (fun h => by rw [Bd.returns] at h; cases h)
        refine ⟨_, _, ?_, hrun, hended, _, _, rfl, ?_, ⟨_, rfl⟩, hW, hsame.mono (by decide) (by decide)⟩
        · exact retI X7 hx Bd.returns (hb hby d1_33) hr
        · show Q1 Z q0 r h0 n0 _ T7.heap _
          rw [e7]
          exact ⟨(by rw [own_fd, if_neg hc22_3, if_neg hc22_6, if_pos hc22_9]), N0, rfl⟩
      · refine own_by (A' := T7.setTop (mkF m 10 #[.val (.long q0), .second, .val (.long (q0 % (1000000000 : Int64))), .second, .val (.int (3 : Int32))] [(.long (q0 % (1000000000 : Int64)))])) (fun t kt => ?_) ?_
        · show Steps p.tables e below (T7.setTop (mkF m 22 #[.val (.long q0), .second, .val (.long (q0 % (1000000000 : Int64))), .second, .val (.int (2 : Int32))] [(.int (lcmpW ((q0 % (1000000000 : Int64)) % (10000000 : Int64)) (0 : Int64)))])) t
          refine XS.ifNo X7.here hx rfl (hb hby d1_22) rfl ((if0 _ _).trans (feq (fun q => hc22_9 ((lw_eq _ _).mp q))).1) ?_
          show Steps p.tables e below (T7.setTop (mkF m 25 #[.val (.long q0), .second, .val (.long (q0 % (1000000000 : Int64))), .second, .val (.int (2 : Int32))] [])) t
          refine XS.iinc X7.here hx rfl (hb hby d1_25) rfl (l' := #[.val (.long q0), .second, .val (.long (q0 % (1000000000 : Int64))), .second, .val (.int (3 : Int32))]) rfl ?_
          show Steps p.tables e below (T7.setTop (mkF m 28 #[.val (.long q0), .second, .val (.long (q0 % (1000000000 : Int64))), .second, .val (.int (3 : Int32))] [])) t
          refine XS.goto X7.here hx rfl (pc0 := 28) (pc' := 9) rfl (hb hby d1_28) (by decide) (by decide) ?_
          show Steps p.tables e below (T7.setTop (mkF m 9 #[.val (.long q0), .second, .val (.long (q0 % (1000000000 : Int64))), .second, .val (.int (3 : Int32))] [])) t
          refine XS.lloadN X7.here hx rfl (hb hby d1_9) rfl ?_
          exact kt
        obtain ⟨T10, X10, e10, st10⟩ := getS2 X7 hx hZ hown (host := "") (Or.inl (hw _ (List.mem_of_getElem? (i := 17) rfl))) Via.refl e7 S_P (g := (mkF m 10 #[.val (.long q0), .second, .val (.long (q0 % (1000000000 : Int64))), .second, .val (.int (3 : Int32))] [(.long (q0 % (1000000000 : Int64)))])) rfl (hb hby d1_10)
        refine own_by (A' := T10.setTop (mkF m 13 #[.val (.long q0), .second, .val (.long (q0 % (1000000000 : Int64))), .second, .val (.int (3 : Int32))] [(.ref r), (.long (q0 % (1000000000 : Int64)))])) (fun t kt => st10 t kt) ?_
        refine own_by (A' := T10.setTop (mkF m 18 #[.val (.long q0), .second, .val (.long (q0 % (1000000000 : Int64))), .second, .val (.int (3 : Int32))] [(.int (6 : Int32)), (.ref r), (.long (q0 % (1000000000 : Int64)))])) (fun t kt => ?_) ?_
        · show Steps p.tables e below (T10.setTop (mkF m 13 #[.val (.long q0), .second, .val (.long (q0 % (1000000000 : Int64))), .second, .val (.int (3 : Int32))] [(.ref r), (.long (q0 % (1000000000 : Int64)))])) t
          refine XS.bipush X10.here hx rfl (hb hby d1_13) ?_
          show Steps p.tables e below (T10.setTop (mkF m 15 #[.val (.long q0), .second, .val (.long (q0 % (1000000000 : Int64))), .second, .val (.int (3 : Int32))] [(.int (9 : Int32)), (.ref r), (.long (q0 % (1000000000 : Int64)))])) t
          refine XS.iload X10.here hx rfl (hb hby d1_15) rfl ?_
          show Steps p.tables e below (T10.setTop (mkF m 17 #[.val (.long q0), .second, .val (.long (q0 % (1000000000 : Int64))), .second, .val (.int (3 : Int32))] [(.int (3 : Int32)), (.int (9 : Int32)), (.ref r), (.long (q0 % (1000000000 : Int64)))])) t
          refine XS.isub X10.here hx rfl (hb hby d1_17) rfl ?_
          exact kt
        obtain ⟨cl11, Ar11, Sz11, Mn11, Ha11⟩ := id V_r
        have hin11 := inb_of (j := (6 : Int32)) Sz11 ⟨by decide, by decide⟩
        have hat11 : cl11.slots[((6 : Int32)).toNatClampNeg]? = some (.long (1000000 : Int64)) := (Ha11 _ (Nat.lt_of_not_le fun q => hin11 (Or.inr q))).trans (congrArg some rfl)
        refine own_by (A' := T10.setTop (mkF m 22 #[.val (.long q0), .second, .val (.long (q0 % (1000000000 : Int64))), .second, .val (.int (3 : Int32))] [(.int (lcmpW ((q0 % (1000000000 : Int64)) % (1000000 : Int64)) (0 : Int64)))])) (fun t kt => ?_) ?_
        · show Steps p.tables e below (T10.setTop (mkF m 18 #[.val (.long q0), .second, .val (.long (q0 % (1000000000 : Int64))), .second, .val (.int (3 : Int32))] [(.int (6 : Int32)), (.ref r), (.long (q0 % (1000000000 : Int64)))])) t
          refine X10.laload hx (j := (6 : Int32)) (v := (.long (1000000 : Int64))) (by rw [e10]; exact Ar11.1) (State.isArrayOf_alike hZ.alike Ar11.2.1) Ar11.2.2 hin11 hat11 (g := (mkF m 18 #[.val (.long q0), .second, .val (.long (q0 % (1000000000 : Int64))), .second, .val (.int (3 : Int32))] [(.int (6 : Int32)), (.ref r), (.long (q0 % (1000000000 : Int64)))])) rfl rfl (hb hby d1_18) _ ?_
          show Steps p.tables e below (T10.setTop (mkF m 19 #[.val (.long q0), .second, .val (.long (q0 % (1000000000 : Int64))), .second, .val (.int (3 : Int32))] [(.long (1000000 : Int64)), (.long (q0 % (1000000000 : Int64)))])) t
          refine own_lrem X10 hx rfl (hb hby d1_19) rfl (by decide) ?_
          show Steps p.tables e below (T10.setTop (mkF m 20 #[.val (.long q0), .second, .val (.long (q0 % (1000000000 : Int64))), .second, .val (.int (3 : Int32))] [(.long ((q0 % (1000000000 : Int64)) % (1000000 : Int64)))])) t
          refine XS.lconst X10.here hx rfl (hb hby d1_20) ?_
          show Steps p.tables e below (T10.setTop (mkF m 21 #[.val (.long q0), .second, .val (.long (q0 % (1000000000 : Int64))), .second, .val (.int (3 : Int32))] [(.long (0 : Int64)), (.long ((q0 % (1000000000 : Int64)) % (1000000 : Int64)))])) t
          refine XS.lcmp X10.here hx rfl (hb hby d1_21) rfl ?_
          exact kt
        by_cases hc22_12 : ((q0 % (1000000000 : Int64)) % (1000000 : Int64)) = (0 : Int64)
        · refine own_by (A' := T10.setTop (mkF m 33 #[.val (.long q0), .second, .val (.long (q0 % (1000000000 : Int64))), .second, .val (.int (3 : Int32))] [(.int (3 : Int32))])) (fun t kt => ?_) ?_
          · show Steps p.tables e below (T10.setTop (mkF m 22 #[.val (.long q0), .second, .val (.long (q0 % (1000000000 : Int64))), .second, .val (.int (3 : Int32))] [(.int (lcmpW ((q0 % (1000000000 : Int64)) % (1000000 : Int64)) (0 : Int64)))])) t
            refine XS.ifYes X10.here hx rfl (pc0 := 22) (pc' := 31) rfl (hb hby d1_22) rfl ((if0 _ _).trans (teq ((lw_eq _ _).mpr hc22_12)).1) (by decide) (by decide) ?_
            show Steps p.tables e below (T10.setTop (mkF m 31 #[.val (.long q0), .second, .val (.long (q0 % (1000000000 : Int64))), .second, .val (.int (3 : Int32))] [])) t
            refine XS.iload X10.here hx rfl (hb hby d1_31) rfl ?_
            exact kt
          obtain ⟨fs, hr, hrun, hended, hW, hsame⟩ := X10.leave (v := some (.int (3 : Int32))) (fun h => by rw [Bd.returns] at h; cases h)
          refine ⟨_, _, ?_, hrun, hended, _, _, rfl, ?_, ⟨_, rfl⟩, hW, hsame.mono (by decide) (by decide)⟩
          · exact retI X10 hx Bd.returns (hb hby d1_33) hr
          · show Q1 Z q0 r h0 n0 _ T10.heap _
            rw [e10]
            exact ⟨(by rw [own_fd, if_neg hc22_3, if_neg hc22_6, if_neg hc22_9, if_pos hc22_12]), N0, rfl⟩
        · refine own_by (A' := T10.setTop (mkF m 10 #[.val (.long q0), .second, .val (.long (q0 % (1000000000 : Int64))), .second, .val (.int (4 : Int32))] [(.long (q0 % (1000000000 : Int64)))])) (fun t kt => ?_) ?_
          · show Steps p.tables e below (T10.setTop (mkF m 22 #[.val (.long q0), .second, .val (.long (q0 % (1000000000 : Int64))), .second, .val (.int (3 : Int32))] [(.int (lcmpW ((q0 % (1000000000 : Int64)) % (1000000 : Int64)) (0 : Int64)))])) t
            refine XS.ifNo X10.here hx rfl (hb hby d1_22) rfl ((if0 _ _).trans (feq (fun q => hc22_12 ((lw_eq _ _).mp q))).1) ?_
            show Steps p.tables e below (T10.setTop (mkF m 25 #[.val (.long q0), .second, .val (.long (q0 % (1000000000 : Int64))), .second, .val (.int (3 : Int32))] [])) t
            refine XS.iinc X10.here hx rfl (hb hby d1_25) rfl (l' := #[.val (.long q0), .second, .val (.long (q0 % (1000000000 : Int64))), .second, .val (.int (4 : Int32))]) rfl ?_
            show Steps p.tables e below (T10.setTop (mkF m 28 #[.val (.long q0), .second, .val (.long (q0 % (1000000000 : Int64))), .second, .val (.int (4 : Int32))] [])) t
            refine XS.goto X10.here hx rfl (pc0 := 28) (pc' := 9) rfl (hb hby d1_28) (by decide) (by decide) ?_
            show Steps p.tables e below (T10.setTop (mkF m 9 #[.val (.long q0), .second, .val (.long (q0 % (1000000000 : Int64))), .second, .val (.int (4 : Int32))] [])) t
            refine XS.lloadN X10.here hx rfl (hb hby d1_9) rfl ?_
            exact kt
          obtain ⟨T13, X13, e13, st13⟩ := getS2 X10 hx hZ hown (host := "") (Or.inl (hw _ (List.mem_of_getElem? (i := 17) rfl))) Via.refl e10 S_P (g := (mkF m 10 #[.val (.long q0), .second, .val (.long (q0 % (1000000000 : Int64))), .second, .val (.int (4 : Int32))] [(.long (q0 % (1000000000 : Int64)))])) rfl (hb hby d1_10)
          refine own_by (A' := T13.setTop (mkF m 13 #[.val (.long q0), .second, .val (.long (q0 % (1000000000 : Int64))), .second, .val (.int (4 : Int32))] [(.ref r), (.long (q0 % (1000000000 : Int64)))])) (fun t kt => st13 t kt) ?_
          refine own_by (A' := T13.setTop (mkF m 18 #[.val (.long q0), .second, .val (.long (q0 % (1000000000 : Int64))), .second, .val (.int (4 : Int32))] [(.int (5 : Int32)), (.ref r), (.long (q0 % (1000000000 : Int64)))])) (fun t kt => ?_) ?_
          · show Steps p.tables e below (T13.setTop (mkF m 13 #[.val (.long q0), .second, .val (.long (q0 % (1000000000 : Int64))), .second, .val (.int (4 : Int32))] [(.ref r), (.long (q0 % (1000000000 : Int64)))])) t
            refine XS.bipush X13.here hx rfl (hb hby d1_13) ?_
            show Steps p.tables e below (T13.setTop (mkF m 15 #[.val (.long q0), .second, .val (.long (q0 % (1000000000 : Int64))), .second, .val (.int (4 : Int32))] [(.int (9 : Int32)), (.ref r), (.long (q0 % (1000000000 : Int64)))])) t
            refine XS.iload X13.here hx rfl (hb hby d1_15) rfl ?_
            show Steps p.tables e below (T13.setTop (mkF m 17 #[.val (.long q0), .second, .val (.long (q0 % (1000000000 : Int64))), .second, .val (.int (4 : Int32))] [(.int (4 : Int32)), (.int (9 : Int32)), (.ref r), (.long (q0 % (1000000000 : Int64)))])) t
            refine XS.isub X13.here hx rfl (hb hby d1_17) rfl ?_
            exact kt
          obtain ⟨cl14, Ar14, Sz14, Mn14, Ha14⟩ := id V_r
          have hin14 := inb_of (j := (5 : Int32)) Sz14 ⟨by decide, by decide⟩
          have hat14 : cl14.slots[((5 : Int32)).toNatClampNeg]? = some (.long (100000 : Int64)) := (Ha14 _ (Nat.lt_of_not_le fun q => hin14 (Or.inr q))).trans (congrArg some rfl)
          refine own_by (A' := T13.setTop (mkF m 22 #[.val (.long q0), .second, .val (.long (q0 % (1000000000 : Int64))), .second, .val (.int (4 : Int32))] [(.int (lcmpW ((q0 % (1000000000 : Int64)) % (100000 : Int64)) (0 : Int64)))])) (fun t kt => ?_) ?_
          · show Steps p.tables e below (T13.setTop (mkF m 18 #[.val (.long q0), .second, .val (.long (q0 % (1000000000 : Int64))), .second, .val (.int (4 : Int32))] [(.int (5 : Int32)), (.ref r), (.long (q0 % (1000000000 : Int64)))])) t
            refine X13.laload hx (j := (5 : Int32)) (v := (.long (100000 : Int64))) (by rw [e13]; exact Ar14.1) (State.isArrayOf_alike hZ.alike Ar14.2.1) Ar14.2.2 hin14 hat14 (g := (mkF m 18 #[.val (.long q0), .second, .val (.long (q0 % (1000000000 : Int64))), .second, .val (.int (4 : Int32))] [(.int (5 : Int32)), (.ref r), (.long (q0 % (1000000000 : Int64)))])) rfl rfl (hb hby d1_18) _ ?_
            show Steps p.tables e below (T13.setTop (mkF m 19 #[.val (.long q0), .second, .val (.long (q0 % (1000000000 : Int64))), .second, .val (.int (4 : Int32))] [(.long (100000 : Int64)), (.long (q0 % (1000000000 : Int64)))])) t
            refine own_lrem X13 hx rfl (hb hby d1_19) rfl (by decide) ?_
            show Steps p.tables e below (T13.setTop (mkF m 20 #[.val (.long q0), .second, .val (.long (q0 % (1000000000 : Int64))), .second, .val (.int (4 : Int32))] [(.long ((q0 % (1000000000 : Int64)) % (100000 : Int64)))])) t
            refine XS.lconst X13.here hx rfl (hb hby d1_20) ?_
            show Steps p.tables e below (T13.setTop (mkF m 21 #[.val (.long q0), .second, .val (.long (q0 % (1000000000 : Int64))), .second, .val (.int (4 : Int32))] [(.long (0 : Int64)), (.long ((q0 % (1000000000 : Int64)) % (100000 : Int64)))])) t
            refine XS.lcmp X13.here hx rfl (hb hby d1_21) rfl ?_
            exact kt
          by_cases hc22_15 : ((q0 % (1000000000 : Int64)) % (100000 : Int64)) = (0 : Int64)
          · refine own_by (A' := T13.setTop (mkF m 33 #[.val (.long q0), .second, .val (.long (q0 % (1000000000 : Int64))), .second, .val (.int (4 : Int32))] [(.int (4 : Int32))])) (fun t kt => ?_) ?_
            · show Steps p.tables e below (T13.setTop (mkF m 22 #[.val (.long q0), .second, .val (.long (q0 % (1000000000 : Int64))), .second, .val (.int (4 : Int32))] [(.int (lcmpW ((q0 % (1000000000 : Int64)) % (100000 : Int64)) (0 : Int64)))])) t
              refine XS.ifYes X13.here hx rfl (pc0 := 22) (pc' := 31) rfl (hb hby d1_22) rfl ((if0 _ _).trans (teq ((lw_eq _ _).mpr hc22_15)).1) (by decide) (by decide) ?_
              show Steps p.tables e below (T13.setTop (mkF m 31 #[.val (.long q0), .second, .val (.long (q0 % (1000000000 : Int64))), .second, .val (.int (4 : Int32))] [])) t
              refine XS.iload X13.here hx rfl (hb hby d1_31) rfl ?_
              exact kt
            obtain ⟨fs, hr, hrun, hended, hW, hsame⟩ := X13.leave (v := some (.int (4 : Int32))) (fun h => by rw [Bd.returns] at h; cases h)
            refine ⟨_, _, ?_, hrun, hended, _, _, rfl, ?_, ⟨_, rfl⟩, hW, hsame.mono (by decide) (by decide)⟩
            · exact retI X13 hx Bd.returns (hb hby d1_33) hr
            · show Q1 Z q0 r h0 n0 _ T13.heap _
              rw [e13]
              exact ⟨(by rw [own_fd, if_neg hc22_3, if_neg hc22_6, if_neg hc22_9, if_neg hc22_12, if_pos hc22_15]), N0, rfl⟩
          · refine own_by (A' := T13.setTop (mkF m 10 #[.val (.long q0), .second, .val (.long (q0 % (1000000000 : Int64))), .second, .val (.int (5 : Int32))] [(.long (q0 % (1000000000 : Int64)))])) (fun t kt => ?_) ?_
            · show Steps p.tables e below (T13.setTop (mkF m 22 #[.val (.long q0), .second, .val (.long (q0 % (1000000000 : Int64))), .second, .val (.int (4 : Int32))] [(.int (lcmpW ((q0 % (1000000000 : Int64)) % (100000 : Int64)) (0 : Int64)))])) t
              refine XS.ifNo X13.here hx rfl (hb hby d1_22) rfl ((if0 _ _).trans (feq (fun q => hc22_15 ((lw_eq _ _).mp q))).1) ?_
              show Steps p.tables e below (T13.setTop (mkF m 25 #[.val (.long q0), .second, .val (.long (q0 % (1000000000 : Int64))), .second, .val (.int (4 : Int32))] [])) t
              refine XS.iinc X13.here hx rfl (hb hby d1_25) rfl (l' := #[.val (.long q0), .second, .val (.long (q0 % (1000000000 : Int64))), .second, .val (.int (5 : Int32))]) rfl ?_
              show Steps p.tables e below (T13.setTop (mkF m 28 #[.val (.long q0), .second, .val (.long (q0 % (1000000000 : Int64))), .second, .val (.int (5 : Int32))] [])) t
              refine XS.goto X13.here hx rfl (pc0 := 28) (pc' := 9) rfl (hb hby d1_28) (by decide) (by decide) ?_
              show Steps p.tables e below (T13.setTop (mkF m 9 #[.val (.long q0), .second, .val (.long (q0 % (1000000000 : Int64))), .second, .val (.int (5 : Int32))] [])) t
              refine XS.lloadN X13.here hx rfl (hb hby d1_9) rfl ?_
              exact kt
            obtain ⟨T16, X16, e16, st16⟩ := getS2 X13 hx hZ hown (host := "") (Or.inl (hw _ (List.mem_of_getElem? (i := 17) rfl))) Via.refl e13 S_P (g := (mkF m 10 #[.val (.long q0), .second, .val (.long (q0 % (1000000000 : Int64))), .second, .val (.int (5 : Int32))] [(.long (q0 % (1000000000 : Int64)))])) rfl (hb hby d1_10)
            refine own_by (A' := T16.setTop (mkF m 13 #[.val (.long q0), .second, .val (.long (q0 % (1000000000 : Int64))), .second, .val (.int (5 : Int32))] [(.ref r), (.long (q0 % (1000000000 : Int64)))])) (fun t kt => st16 t kt) ?_
            refine own_by (A' := T16.setTop (mkF m 18 #[.val (.long q0), .second, .val (.long (q0 % (1000000000 : Int64))), .second, .val (.int (5 : Int32))] [(.int (4 : Int32)), (.ref r), (.long (q0 % (1000000000 : Int64)))])) (fun t kt => ?_) ?_
            · show Steps p.tables e below (T16.setTop (mkF m 13 #[.val (.long q0), .second, .val (.long (q0 % (1000000000 : Int64))), .second, .val (.int (5 : Int32))] [(.ref r), (.long (q0 % (1000000000 : Int64)))])) t
              refine XS.bipush X16.here hx rfl (hb hby d1_13) ?_
              show Steps p.tables e below (T16.setTop (mkF m 15 #[.val (.long q0), .second, .val (.long (q0 % (1000000000 : Int64))), .second, .val (.int (5 : Int32))] [(.int (9 : Int32)), (.ref r), (.long (q0 % (1000000000 : Int64)))])) t
              refine XS.iload X16.here hx rfl (hb hby d1_15) rfl ?_
              show Steps p.tables e below (T16.setTop (mkF m 17 #[.val (.long q0), .second, .val (.long (q0 % (1000000000 : Int64))), .second, .val (.int (5 : Int32))] [(.int (5 : Int32)), (.int (9 : Int32)), (.ref r), (.long (q0 % (1000000000 : Int64)))])) t
              refine XS.isub X16.here hx rfl (hb hby d1_17) rfl ?_
              exact kt
            obtain ⟨cl17, Ar17, Sz17, Mn17, Ha17⟩ := id V_r
            have hin17 := inb_of (j := (4 : Int32)) Sz17 ⟨by decide, by decide⟩
            have hat17 : cl17.slots[((4 : Int32)).toNatClampNeg]? = some (.long (10000 : Int64)) := (Ha17 _ (Nat.lt_of_not_le fun q => hin17 (Or.inr q))).trans (congrArg some rfl)
            refine own_by (A' := T16.setTop (mkF m 22 #[.val (.long q0), .second, .val (.long (q0 % (1000000000 : Int64))), .second, .val (.int (5 : Int32))] [(.int (lcmpW ((q0 % (1000000000 : Int64)) % (10000 : Int64)) (0 : Int64)))])) (fun t kt => ?_) ?_
            · show Steps p.tables e below (T16.setTop (mkF m 18 #[.val (.long q0), .second, .val (.long (q0 % (1000000000 : Int64))), .second, .val (.int (5 : Int32))] [(.int (4 : Int32)), (.ref r), (.long (q0 % (1000000000 : Int64)))])) t
              refine X16.laload hx (j := (4 : Int32)) (v := (.long (10000 : Int64))) (by rw [e16]; exact Ar17.1) (State.isArrayOf_alike hZ.alike Ar17.2.1) Ar17.2.2 hin17 hat17 (g := (mkF m 18 #[.val (.long q0), .second, .val (.long (q0 % (1000000000 : Int64))), .second, .val (.int (5 : Int32))] [(.int (4 : Int32)), (.ref r), (.long (q0 % (1000000000 : Int64)))])) rfl rfl (hb hby d1_18) _ ?_
              show Steps p.tables e below (T16.setTop (mkF m 19 #[.val (.long q0), .second, .val (.long (q0 % (1000000000 : Int64))), .second, .val (.int (5 : Int32))] [(.long (10000 : Int64)), (.long (q0 % (1000000000 : Int64)))])) t
              refine own_lrem X16 hx rfl (hb hby d1_19) rfl (by decide) ?_
              show Steps p.tables e below (T16.setTop (mkF m 20 #[.val (.long q0), .second, .val (.long (q0 % (1000000000 : Int64))), .second, .val (.int (5 : Int32))] [(.long ((q0 % (1000000000 : Int64)) % (10000 : Int64)))])) t
              refine XS.lconst X16.here hx rfl (hb hby d1_20) ?_
              show Steps p.tables e below (T16.setTop (mkF m 21 #[.val (.long q0), .second, .val (.long (q0 % (1000000000 : Int64))), .second, .val (.int (5 : Int32))] [(.long (0 : Int64)), (.long ((q0 % (1000000000 : Int64)) % (10000 : Int64)))])) t
              refine XS.lcmp X16.here hx rfl (hb hby d1_21) rfl ?_
              exact kt
            by_cases hc22_18 : ((q0 % (1000000000 : Int64)) % (10000 : Int64)) = (0 : Int64)
            · refine own_by (A' := T16.setTop (mkF m 33 #[.val (.long q0), .second, .val (.long (q0 % (1000000000 : Int64))), .second, .val (.int (5 : Int32))] [(.int (5 : Int32))])) (fun t kt => ?_) ?_
              · show Steps p.tables e below (T16.setTop (mkF m 22 #[.val (.long q0), .second, .val (.long (q0 % (1000000000 : Int64))), .second, .val (.int (5 : Int32))] [(.int (lcmpW ((q0 % (1000000000 : Int64)) % (10000 : Int64)) (0 : Int64)))])) t
                refine XS.ifYes X16.here hx rfl (pc0 := 22) (pc' := 31) rfl (hb hby d1_22) rfl ((if0 _ _).trans (teq ((lw_eq _ _).mpr hc22_18)).1) (by decide) (by decide) ?_
                show Steps p.tables e below (T16.setTop (mkF m 31 #[.val (.long q0), .second, .val (.long (q0 % (1000000000 : Int64))), .second, .val (.int (5 : Int32))] [])) t
                refine XS.iload X16.here hx rfl (hb hby d1_31) rfl ?_
                exact kt
              obtain ⟨fs, hr, hrun, hended, hW, hsame⟩ := X16.leave (v := some (.int (5 : Int32))) (fun h => by rw [Bd.returns] at h; cases h)
              refine ⟨_, _, ?_, hrun, hended, _, _, rfl, ?_, ⟨_, rfl⟩, hW, hsame.mono (by decide) (by decide)⟩
              · exact retI X16 hx Bd.returns (hb hby d1_33) hr
              · show Q1 Z q0 r h0 n0 _ T16.heap _
                rw [e16]
                exact ⟨(by rw [own_fd, if_neg hc22_3, if_neg hc22_6, if_neg hc22_9, if_neg hc22_12, if_neg hc22_15, if_pos hc22_18]), N0, rfl⟩
            · refine own_by (A' := T16.setTop (mkF m 10 #[.val (.long q0), .second, .val (.long (q0 % (1000000000 : Int64))), .second, .val (.int (6 : Int32))] [(.long (q0 % (1000000000 : Int64)))])) (fun t kt => ?_) ?_
              · show Steps p.tables e below (T16.setTop (mkF m 22 #[.val (.long q0), .second, .val (.long (q0 % (1000000000 : Int64))), .second, .val (.int (5 : Int32))] [(.int (lcmpW ((q0 % (1000000000 : Int64)) % (10000 : Int64)) (0 : Int64)))])) t
                refine XS.ifNo X16.here hx rfl (hb hby d1_22) rfl ((if0 _ _).trans (feq (fun q => hc22_18 ((lw_eq _ _).mp q))).1) ?_
                show Steps p.tables e below (T16.setTop (mkF m 25 #[.val (.long q0), .second, .val (.long (q0 % (1000000000 : Int64))), .second, .val (.int (5 : Int32))] [])) t
                refine XS.iinc X16.here hx rfl (hb hby d1_25) rfl (l' := #[.val (.long q0), .second, .val (.long (q0 % (1000000000 : Int64))), .second, .val (.int (6 : Int32))]) rfl ?_
                show Steps p.tables e below (T16.setTop (mkF m 28 #[.val (.long q0), .second, .val (.long (q0 % (1000000000 : Int64))), .second, .val (.int (6 : Int32))] [])) t
                refine XS.goto X16.here hx rfl (pc0 := 28) (pc' := 9) rfl (hb hby d1_28) (by decide) (by decide) ?_
                show Steps p.tables e below (T16.setTop (mkF m 9 #[.val (.long q0), .second, .val (.long (q0 % (1000000000 : Int64))), .second, .val (.int (6 : Int32))] [])) t
                refine XS.lloadN X16.here hx rfl (hb hby d1_9) rfl ?_
                exact kt
              obtain ⟨T19, X19, e19, st19⟩ := getS2 X16 hx hZ hown (host := "") (Or.inl (hw _ (List.mem_of_getElem? (i := 17) rfl))) Via.refl e16 S_P (g := (mkF m 10 #[.val (.long q0), .second, .val (.long (q0 % (1000000000 : Int64))), .second, .val (.int (6 : Int32))] [(.long (q0 % (1000000000 : Int64)))])) rfl (hb hby d1_10)
              refine own_by (A' := T19.setTop (mkF m 13 #[.val (.long q0), .second, .val (.long (q0 % (1000000000 : Int64))), .second, .val (.int (6 : Int32))] [(.ref r), (.long (q0 % (1000000000 : Int64)))])) (fun t kt => st19 t kt) ?_
              refine own_by (A' := T19.setTop (mkF m 18 #[.val (.long q0), .second, .val (.long (q0 % (1000000000 : Int64))), .second, .val (.int (6 : Int32))] [(.int (3 : Int32)), (.ref r), (.long (q0 % (1000000000 : Int64)))])) (fun t kt => ?_) ?_
              · show Steps p.tables e below (T19.setTop (mkF m 13 #[.val (.long q0), .second, .val (.long (q0 % (1000000000 : Int64))), .second, .val (.int (6 : Int32))] [(.ref r), (.long (q0 % (1000000000 : Int64)))])) t
                refine XS.bipush X19.here hx rfl (hb hby d1_13) ?_
                show Steps p.tables e below (T19.setTop (mkF m 15 #[.val (.long q0), .second, .val (.long (q0 % (1000000000 : Int64))), .second, .val (.int (6 : Int32))] [(.int (9 : Int32)), (.ref r), (.long (q0 % (1000000000 : Int64)))])) t
                refine XS.iload X19.here hx rfl (hb hby d1_15) rfl ?_
                show Steps p.tables e below (T19.setTop (mkF m 17 #[.val (.long q0), .second, .val (.long (q0 % (1000000000 : Int64))), .second, .val (.int (6 : Int32))] [(.int (6 : Int32)), (.int (9 : Int32)), (.ref r), (.long (q0 % (1000000000 : Int64)))])) t
                refine XS.isub X19.here hx rfl (hb hby d1_17) rfl ?_
                exact kt
              obtain ⟨cl20, Ar20, Sz20, Mn20, Ha20⟩ := id V_r
              have hin20 := inb_of (j := (3 : Int32)) Sz20 ⟨by decide, by decide⟩
              have hat20 : cl20.slots[((3 : Int32)).toNatClampNeg]? = some (.long (1000 : Int64)) := (Ha20 _ (Nat.lt_of_not_le fun q => hin20 (Or.inr q))).trans (congrArg some rfl)
              refine own_by (A' := T19.setTop (mkF m 22 #[.val (.long q0), .second, .val (.long (q0 % (1000000000 : Int64))), .second, .val (.int (6 : Int32))] [(.int (lcmpW ((q0 % (1000000000 : Int64)) % (1000 : Int64)) (0 : Int64)))])) (fun t kt => ?_) ?_
              · show Steps p.tables e below (T19.setTop (mkF m 18 #[.val (.long q0), .second, .val (.long (q0 % (1000000000 : Int64))), .second, .val (.int (6 : Int32))] [(.int (3 : Int32)), (.ref r), (.long (q0 % (1000000000 : Int64)))])) t
                refine X19.laload hx (j := (3 : Int32)) (v := (.long (1000 : Int64))) (by rw [e19]; exact Ar20.1) (State.isArrayOf_alike hZ.alike Ar20.2.1) Ar20.2.2 hin20 hat20 (g := (mkF m 18 #[.val (.long q0), .second, .val (.long (q0 % (1000000000 : Int64))), .second, .val (.int (6 : Int32))] [(.int (3 : Int32)), (.ref r), (.long (q0 % (1000000000 : Int64)))])) rfl rfl (hb hby d1_18) _ ?_
                show Steps p.tables e below (T19.setTop (mkF m 19 #[.val (.long q0), .second, .val (.long (q0 % (1000000000 : Int64))), .second, .val (.int (6 : Int32))] [(.long (1000 : Int64)), (.long (q0 % (1000000000 : Int64)))])) t
                refine own_lrem X19 hx rfl (hb hby d1_19) rfl (by decide) ?_
                show Steps p.tables e below (T19.setTop (mkF m 20 #[.val (.long q0), .second, .val (.long (q0 % (1000000000 : Int64))), .second, .val (.int (6 : Int32))] [(.long ((q0 % (1000000000 : Int64)) % (1000 : Int64)))])) t
                refine XS.lconst X19.here hx rfl (hb hby d1_20) ?_
                show Steps p.tables e below (T19.setTop (mkF m 21 #[.val (.long q0), .second, .val (.long (q0 % (1000000000 : Int64))), .second, .val (.int (6 : Int32))] [(.long (0 : Int64)), (.long ((q0 % (1000000000 : Int64)) % (1000 : Int64)))])) t
                refine XS.lcmp X19.here hx rfl (hb hby d1_21) rfl ?_
                exact kt
              by_cases hc22_21 : ((q0 % (1000000000 : Int64)) % (1000 : Int64)) = (0 : Int64)
              · refine own_by (A' := T19.setTop (mkF m 33 #[.val (.long q0), .second, .val (.long (q0 % (1000000000 : Int64))), .second, .val (.int (6 : Int32))] [(.int (6 : Int32))])) (fun t kt => ?_) ?_
                · show Steps p.tables e below (T19.setTop (mkF m 22 #[.val (.long q0), .second, .val (.long (q0 % (1000000000 : Int64))), .second, .val (.int (6 : Int32))] [(.int (lcmpW ((q0 % (1000000000 : Int64)) % (1000 : Int64)) (0 : Int64)))])) t
                  refine XS.ifYes X19.here hx rfl (pc0 := 22) (pc' := 31) rfl (hb hby d1_22) rfl ((if0 _ _).trans (teq ((lw_eq _ _).mpr hc22_21)).1) (by decide) (by decide) ?_
                  show Steps p.tables e below (T19.setTop (mkF m 31 #[.val (.long q0), .second, .val (.long (q0 % (1000000000 : Int64))), .second, .val (.int (6 : Int32))] [])) t
                  refine XS.iload X19.here hx rfl (hb hby d1_31) rfl ?_
                  exact kt
                obtain ⟨fs, hr, hrun, hended, hW, hsame⟩ := X19.leave (v := some (.int (6 : Int32))) (fun h => by rw [Bd.returns] at h; cases h)
                refine ⟨_, _, ?_, hrun, hended, _, _, rfl, ?_, ⟨_, rfl⟩, hW, hsame.mono (by decide) (by decide)⟩
                · exact retI X19 hx Bd.returns (hb hby d1_33) hr
                · show Q1 Z q0 r h0 n0 _ T19.heap _
                  rw [e19]
                  exact ⟨(by rw [own_fd, if_neg hc22_3, if_neg hc22_6, if_neg hc22_9, if_neg hc22_12, if_neg hc22_15, if_neg hc22_18, if_pos hc22_21]), N0, rfl⟩
              · refine own_by (A' := T19.setTop (mkF m 10 #[.val (.long q0), .second, .val (.long (q0 % (1000000000 : Int64))), .second, .val (.int (7 : Int32))] [(.long (q0 % (1000000000 : Int64)))])) (fun t kt => ?_) ?_
                · show Steps p.tables e below (T19.setTop (mkF m 22 #[.val (.long q0), .second, .val (.long (q0 % (1000000000 : Int64))), .second, .val (.int (6 : Int32))] [(.int (lcmpW ((q0 % (1000000000 : Int64)) % (1000 : Int64)) (0 : Int64)))])) t
                  refine XS.ifNo X19.here hx rfl (hb hby d1_22) rfl ((if0 _ _).trans (feq (fun q => hc22_21 ((lw_eq _ _).mp q))).1) ?_
                  show Steps p.tables e below (T19.setTop (mkF m 25 #[.val (.long q0), .second, .val (.long (q0 % (1000000000 : Int64))), .second, .val (.int (6 : Int32))] [])) t
                  refine XS.iinc X19.here hx rfl (hb hby d1_25) rfl (l' := #[.val (.long q0), .second, .val (.long (q0 % (1000000000 : Int64))), .second, .val (.int (7 : Int32))]) rfl ?_
                  show Steps p.tables e below (T19.setTop (mkF m 28 #[.val (.long q0), .second, .val (.long (q0 % (1000000000 : Int64))), .second, .val (.int (7 : Int32))] [])) t
                  refine XS.goto X19.here hx rfl (pc0 := 28) (pc' := 9) rfl (hb hby d1_28) (by decide) (by decide) ?_
                  show Steps p.tables e below (T19.setTop (mkF m 9 #[.val (.long q0), .second, .val (.long (q0 % (1000000000 : Int64))), .second, .val (.int (7 : Int32))] [])) t
                  refine XS.lloadN X19.here hx rfl (hb hby d1_9) rfl ?_
                  exact kt
                obtain ⟨T22, X22, e22, st22⟩ := getS2 X19 hx hZ hown (host := "") (Or.inl (hw _ (List.mem_of_getElem? (i := 17) rfl))) Via.refl e19 S_P (g := (mkF m 10 #[.val (.long q0), .second, .val (.long (q0 % (1000000000 : Int64))), .second, .val (.int (7 : Int32))] [(.long (q0 % (1000000000 : Int64)))])) rfl (hb hby d1_10)
                refine own_by (A' := T22.setTop (mkF m 13 #[.val (.long q0), .second, .val (.long (q0 % (1000000000 : Int64))), .second, .val (.int (7 : Int32))] [(.ref r), (.long (q0 % (1000000000 : Int64)))])) (fun t kt => st22 t kt) ?_
                refine own_by (A' := T22.setTop (mkF m 18 #[.val (.long q0), .second, .val (.long (q0 % (1000000000 : Int64))), .second, .val (.int (7 : Int32))] [(.int (2 : Int32)), (.ref r), (.long (q0 % (1000000000 : Int64)))])) (fun t kt => ?_) ?_
                · show Steps p.tables e below (T22.setTop (mkF m 13 #[.val (.long q0), .second, .val (.long (q0 % (1000000000 : Int64))), .second, .val (.int (7 : Int32))] [(.ref r), (.long (q0 % (1000000000 : Int64)))])) t
                  refine XS.bipush X22.here hx rfl (hb hby d1_13) ?_
                  show Steps p.tables e below (T22.setTop (mkF m 15 #[.val (.long q0), .second, .val (.long (q0 % (1000000000 : Int64))), .second, .val (.int (7 : Int32))] [(.int (9 : Int32)), (.ref r), (.long (q0 % (1000000000 : Int64)))])) t
                  refine XS.iload X22.here hx rfl (hb hby d1_15) rfl ?_
                  show Steps p.tables e below (T22.setTop (mkF m 17 #[.val (.long q0), .second, .val (.long (q0 % (1000000000 : Int64))), .second, .val (.int (7 : Int32))] [(.int (7 : Int32)), (.int (9 : Int32)), (.ref r), (.long (q0 % (1000000000 : Int64)))])) t
                  refine XS.isub X22.here hx rfl (hb hby d1_17) rfl ?_
                  exact kt
                obtain ⟨cl23, Ar23, Sz23, Mn23, Ha23⟩ := id V_r
                have hin23 := inb_of (j := (2 : Int32)) Sz23 ⟨by decide, by decide⟩
                have hat23 : cl23.slots[((2 : Int32)).toNatClampNeg]? = some (.long (100 : Int64)) := (Ha23 _ (Nat.lt_of_not_le fun q => hin23 (Or.inr q))).trans (congrArg some rfl)
                refine own_by (A' := T22.setTop (mkF m 22 #[.val (.long q0), .second, .val (.long (q0 % (1000000000 : Int64))), .second, .val (.int (7 : Int32))] [(.int (lcmpW ((q0 % (1000000000 : Int64)) % (100 : Int64)) (0 : Int64)))])) (fun t kt => ?_) ?_
                · show Steps p.tables e below (T22.setTop (mkF m 18 #[.val (.long q0), .second, .val (.long (q0 % (1000000000 : Int64))), .second, .val (.int (7 : Int32))] [(.int (2 : Int32)), (.ref r), (.long (q0 % (1000000000 : Int64)))])) t
                  refine X22.laload hx (j := (2 : Int32)) (v := (.long (100 : Int64))) (by rw [e22]; exact Ar23.1) (State.isArrayOf_alike hZ.alike Ar23.2.1) Ar23.2.2 hin23 hat23 (g := (mkF m 18 #[.val (.long q0), .second, .val (.long (q0 % (1000000000 : Int64))), .second, .val (.int (7 : Int32))] [(.int (2 : Int32)), (.ref r), (.long (q0 % (1000000000 : Int64)))])) rfl rfl (hb hby d1_18) _ ?_
                  show Steps p.tables e below (T22.setTop (mkF m 19 #[.val (.long q0), .second, .val (.long (q0 % (1000000000 : Int64))), .second, .val (.int (7 : Int32))] [(.long (100 : Int64)), (.long (q0 % (1000000000 : Int64)))])) t
                  refine own_lrem X22 hx rfl (hb hby d1_19) rfl (by decide) ?_
                  show Steps p.tables e below (T22.setTop (mkF m 20 #[.val (.long q0), .second, .val (.long (q0 % (1000000000 : Int64))), .second, .val (.int (7 : Int32))] [(.long ((q0 % (1000000000 : Int64)) % (100 : Int64)))])) t
                  refine XS.lconst X22.here hx rfl (hb hby d1_20) ?_
                  show Steps p.tables e below (T22.setTop (mkF m 21 #[.val (.long q0), .second, .val (.long (q0 % (1000000000 : Int64))), .second, .val (.int (7 : Int32))] [(.long (0 : Int64)), (.long ((q0 % (1000000000 : Int64)) % (100 : Int64)))])) t
                  refine XS.lcmp X22.here hx rfl (hb hby d1_21) rfl ?_
                  exact kt
                by_cases hc22_24 : ((q0 % (1000000000 : Int64)) % (100 : Int64)) = (0 : Int64)
                · refine own_by (A' := T22.setTop (mkF m 33 #[.val (.long q0), .second, .val (.long (q0 % (1000000000 : Int64))), .second, .val (.int (7 : Int32))] [(.int (7 : Int32))])) (fun t kt => ?_) ?_
                  · show Steps p.tables e below (T22.setTop (mkF m 22 #[.val (.long q0), .second, .val (.long (q0 % (1000000000 : Int64))), .second, .val (.int (7 : Int32))] [(.int (lcmpW ((q0 % (1000000000 : Int64)) % (100 : Int64)) (0 : Int64)))])) t
                    refine XS.ifYes X22.here hx rfl (pc0 := 22) (pc' := 31) rfl (hb hby d1_22) rfl ((if0 _ _).trans (teq ((lw_eq _ _).mpr hc22_24)).1) (by decide) (by decide) ?_
                    show Steps p.tables e below (T22.setTop (mkF m 31 #[.val (.long q0), .second, .val (.long (q0 % (1000000000 : Int64))), .second, .val (.int (7 : Int32))] [])) t
                    refine XS.iload X22.here hx rfl (hb hby d1_31) rfl ?_
                    exact kt
                  obtain ⟨fs, hr, hrun, hended, hW, hsame⟩ := X22.leave (v := some (.int (7 : Int32))) (fun h => by rw [Bd.returns] at h; cases h)
                  refine ⟨_, _, ?_, hrun, hended, _, _, rfl, ?_, ⟨_, rfl⟩, hW, hsame.mono (by decide) (by decide)⟩
                  · exact retI X22 hx Bd.returns (hb hby d1_33) hr
                  · show Q1 Z q0 r h0 n0 _ T22.heap _
                    rw [e22]
                    exact ⟨(by rw [own_fd, if_neg hc22_3, if_neg hc22_6, if_neg hc22_9, if_neg hc22_12, if_neg hc22_15, if_neg hc22_18, if_neg hc22_21, if_pos hc22_24]), N0, rfl⟩
                · refine own_by (A' := T22.setTop (mkF m 10 #[.val (.long q0), .second, .val (.long (q0 % (1000000000 : Int64))), .second, .val (.int (8 : Int32))] [(.long (q0 % (1000000000 : Int64)))])) (fun t kt => ?_) ?_
                  · show Steps p.tables e below (T22.setTop (mkF m 22 #[.val (.long q0), .second, .val (.long (q0 % (1000000000 : Int64))), .second, .val (.int (7 : Int32))] [(.int (lcmpW ((q0 % (1000000000 : Int64)) % (100 : Int64)) (0 : Int64)))])) t
                    refine XS.ifNo X22.here hx rfl (hb hby d1_22) rfl ((if0 _ _).trans (feq (fun q => hc22_24 ((lw_eq _ _).mp q))).1) ?_
                    show Steps p.tables e below (T22.setTop (mkF m 25 #[.val (.long q0), .second, .val (.long (q0 % (1000000000 : Int64))), .second, .val (.int (7 : Int32))] [])) t
                    refine XS.iinc X22.here hx rfl (hb hby d1_25) rfl (l' := #[.val (.long q0), .second, .val (.long (q0 % (1000000000 : Int64))), .second, .val (.int (8 : Int32))]) rfl ?_
                    show Steps p.tables e below (T22.setTop (mkF m 28 #[.val (.long q0), .second, .val (.long (q0 % (1000000000 : Int64))), .second, .val (.int (8 : Int32))] [])) t
                    refine XS.goto X22.here hx rfl (pc0 := 28) (pc' := 9) rfl (hb hby d1_28) (by decide) (by decide) ?_
                    show Steps p.tables e below (T22.setTop (mkF m 9 #[.val (.long q0), .second, .val (.long (q0 % (1000000000 : Int64))), .second, .val (.int (8 : Int32))] [])) t
                    refine XS.lloadN X22.here hx rfl (hb hby d1_9) rfl ?_
                    exact kt
                  obtain ⟨T25, X25, e25, st25⟩ := getS2 X22 hx hZ hown (host := "") (Or.inl (hw _ (List.mem_of_getElem? (i := 17) rfl))) Via.refl e22 S_P (g := (mkF m 10 #[.val (.long q0), .second, .val (.long (q0 % (1000000000 : Int64))), .second, .val (.int (8 : Int32))] [(.long (q0 % (1000000000 : Int64)))])) rfl (hb hby d1_10)
                  refine own_by (A' := T25.setTop (mkF m 13 #[.val (.long q0), .second, .val (.long (q0 % (1000000000 : Int64))), .second, .val (.int (8 : Int32))] [(.ref r), (.long (q0 % (1000000000 : Int64)))])) (fun t kt => st25 t kt) ?_
                  refine own_by (A' := T25.setTop (mkF m 18 #[.val (.long q0), .second, .val (.long (q0 % (1000000000 : Int64))), .second, .val (.int (8 : Int32))] [(.int (1 : Int32)), (.ref r), (.long (q0 % (1000000000 : Int64)))])) (fun t kt => ?_) ?_
                  · show Steps p.tables e below (T25.setTop (mkF m 13 #[.val (.long q0), .second, .val (.long (q0 % (1000000000 : Int64))), .second, .val (.int (8 : Int32))] [(.ref r), (.long (q0 % (1000000000 : Int64)))])) t
                    refine XS.bipush X25.here hx rfl (hb hby d1_13) ?_
                    show Steps p.tables e below (T25.setTop (mkF m 15 #[.val (.long q0), .second, .val (.long (q0 % (1000000000 : Int64))), .second, .val (.int (8 : Int32))] [(.int (9 : Int32)), (.ref r), (.long (q0 % (1000000000 : Int64)))])) t
                    refine XS.iload X25.here hx rfl (hb hby d1_15) rfl ?_
                    show Steps p.tables e below (T25.setTop (mkF m 17 #[.val (.long q0), .second, .val (.long (q0 % (1000000000 : Int64))), .second, .val (.int (8 : Int32))] [(.int (8 : Int32)), (.int (9 : Int32)), (.ref r), (.long (q0 % (1000000000 : Int64)))])) t
                    refine XS.isub X25.here hx rfl (hb hby d1_17) rfl ?_
                    exact kt
                  obtain ⟨cl26, Ar26, Sz26, Mn26, Ha26⟩ := id V_r
                  have hin26 := inb_of (j := (1 : Int32)) Sz26 ⟨by decide, by decide⟩
                  have hat26 : cl26.slots[((1 : Int32)).toNatClampNeg]? = some (.long (10 : Int64)) := (Ha26 _ (Nat.lt_of_not_le fun q => hin26 (Or.inr q))).trans (congrArg some rfl)
                  refine own_by (A' := T25.setTop (mkF m 22 #[.val (.long q0), .second, .val (.long (q0 % (1000000000 : Int64))), .second, .val (.int (8 : Int32))] [(.int (lcmpW ((q0 % (1000000000 : Int64)) % (10 : Int64)) (0 : Int64)))])) (fun t kt => ?_) ?_
                  · show Steps p.tables e below (T25.setTop (mkF m 18 #[.val (.long q0), .second, .val (.long (q0 % (1000000000 : Int64))), .second, .val (.int (8 : Int32))] [(.int (1 : Int32)), (.ref r), (.long (q0 % (1000000000 : Int64)))])) t
                    refine X25.laload hx (j := (1 : Int32)) (v := (.long (10 : Int64))) (by rw [e25]; exact Ar26.1) (State.isArrayOf_alike hZ.alike Ar26.2.1) Ar26.2.2 hin26 hat26 (g := (mkF m 18 #[.val (.long q0), .second, .val (.long (q0 % (1000000000 : Int64))), .second, .val (.int (8 : Int32))] [(.int (1 : Int32)), (.ref r), (.long (q0 % (1000000000 : Int64)))])) rfl rfl (hb hby d1_18) _ ?_
                    show Steps p.tables e below (T25.setTop (mkF m 19 #[.val (.long q0), .second, .val (.long (q0 % (1000000000 : Int64))), .second, .val (.int (8 : Int32))] [(.long (10 : Int64)), (.long (q0 % (1000000000 : Int64)))])) t
                    refine own_lrem X25 hx rfl (hb hby d1_19) rfl (by decide) ?_
                    show Steps p.tables e below (T25.setTop (mkF m 20 #[.val (.long q0), .second, .val (.long (q0 % (1000000000 : Int64))), .second, .val (.int (8 : Int32))] [(.long ((q0 % (1000000000 : Int64)) % (10 : Int64)))])) t
                    refine XS.lconst X25.here hx rfl (hb hby d1_20) ?_
                    show Steps p.tables e below (T25.setTop (mkF m 21 #[.val (.long q0), .second, .val (.long (q0 % (1000000000 : Int64))), .second, .val (.int (8 : Int32))] [(.long (0 : Int64)), (.long ((q0 % (1000000000 : Int64)) % (10 : Int64)))])) t
                    refine XS.lcmp X25.here hx rfl (hb hby d1_21) rfl ?_
                    exact kt
                  by_cases hc22_27 : ((q0 % (1000000000 : Int64)) % (10 : Int64)) = (0 : Int64)
                  · refine own_by (A' := T25.setTop (mkF m 33 #[.val (.long q0), .second, .val (.long (q0 % (1000000000 : Int64))), .second, .val (.int (8 : Int32))] [(.int (8 : Int32))])) (fun t kt => ?_) ?_
                    · show Steps p.tables e below (T25.setTop (mkF m 22 #[.val (.long q0), .second, .val (.long (q0 % (1000000000 : Int64))), .second, .val (.int (8 : Int32))] [(.int (lcmpW ((q0 % (1000000000 : Int64)) % (10 : Int64)) (0 : Int64)))])) t
                      refine XS.ifYes X25.here hx rfl (pc0 := 22) (pc' := 31) rfl (hb hby d1_22) rfl ((if0 _ _).trans (teq ((lw_eq _ _).mpr hc22_27)).1) (by decide) (by decide) ?_
                      show Steps p.tables e below (T25.setTop (mkF m 31 #[.val (.long q0), .second, .val (.long (q0 % (1000000000 : Int64))), .second, .val (.int (8 : Int32))] [])) t
                      refine XS.iload X25.here hx rfl (hb hby d1_31) rfl ?_
                      exact kt
                    obtain ⟨fs, hr, hrun, hended, hW, hsame⟩ := X25.leave (v := some (.int (8 : Int32))) (fun h => by rw [Bd.returns] at h; cases h)
                    refine ⟨_, _, ?_, hrun, hended, _, _, rfl, ?_, ⟨_, rfl⟩, hW, hsame.mono (by decide) (by decide)⟩
                    · exact retI X25 hx Bd.returns (hb hby d1_33) hr
                    · show Q1 Z q0 r h0 n0 _ T25.heap _
                      rw [e25]
                      exact ⟨(by rw [own_fd, if_neg hc22_3, if_neg hc22_6, if_neg hc22_9, if_neg hc22_12, if_neg hc22_15, if_neg hc22_18, if_neg hc22_21, if_neg hc22_24, if_pos hc22_27]), N0, rfl⟩
                  · refine own_by (A' := T25.setTop (mkF m 10 #[.val (.long q0), .second, .val (.long (q0 % (1000000000 : Int64))), .second, .val (.int (9 : Int32))] [(.long (q0 % (1000000000 : Int64)))])) (fun t kt => ?_) ?_
                    · show Steps p.tables e below (T25.setTop (mkF m 22 #[.val (.long q0), .second, .val (.long (q0 % (1000000000 : Int64))), .second, .val (.int (8 : Int32))] [(.int (lcmpW ((q0 % (1000000000 : Int64)) % (10 : Int64)) (0 : Int64)))])) t
                      refine XS.ifNo X25.here hx rfl (hb hby d1_22) rfl ((if0 _ _).trans (feq (fun q => hc22_27 ((lw_eq _ _).mp q))).1) ?_
                      show Steps p.tables e below (T25.setTop (mkF m 25 #[.val (.long q0), .second, .val (.long (q0 % (1000000000 : Int64))), .second, .val (.int (8 : Int32))] [])) t
                      refine XS.iinc X25.here hx rfl (hb hby d1_25) rfl (l' := #[.val (.long q0), .second, .val (.long (q0 % (1000000000 : Int64))), .second, .val (.int (9 : Int32))]) rfl ?_
                      show Steps p.tables e below (T25.setTop (mkF m 28 #[.val (.long q0), .second, .val (.long (q0 % (1000000000 : Int64))), .second, .val (.int (9 : Int32))] [])) t
                      refine XS.goto X25.here hx rfl (pc0 := 28) (pc' := 9) rfl (hb hby d1_28) (by decide) (by decide) ?_
                      show Steps p.tables e below (T25.setTop (mkF m 9 #[.val (.long q0), .second, .val (.long (q0 % (1000000000 : Int64))), .second, .val (.int (9 : Int32))] [])) t
                      refine XS.lloadN X25.here hx rfl (hb hby d1_9) rfl ?_
                      exact kt
                    obtain ⟨T28, X28, e28, st28⟩ := getS2 X25 hx hZ hown (host := "") (Or.inl (hw _ (List.mem_of_getElem? (i := 17) rfl))) Via.refl e25 S_P (g := (mkF m 10 #[.val (.long q0), .second, .val (.long (q0 % (1000000000 : Int64))), .second, .val (.int (9 : Int32))] [(.long (q0 % (1000000000 : Int64)))])) rfl (hb hby d1_10)
                    refine own_by (A' := T28.setTop (mkF m 13 #[.val (.long q0), .second, .val (.long (q0 % (1000000000 : Int64))), .second, .val (.int (9 : Int32))] [(.ref r), (.long (q0 % (1000000000 : Int64)))])) (fun t kt => st28 t kt) ?_
                    refine own_by (A' := T28.setTop (mkF m 18 #[.val (.long q0), .second, .val (.long (q0 % (1000000000 : Int64))), .second, .val (.int (9 : Int32))] [(.int (0 : Int32)), (.ref r), (.long (q0 % (1000000000 : Int64)))])) (fun t kt => ?_) ?_
                    · show Steps p.tables e below (T28.setTop (mkF m 13 #[.val (.long q0), .second, .val (.long (q0 % (1000000000 : Int64))), .second, .val (.int (9 : Int32))] [(.ref r), (.long (q0 % (1000000000 : Int64)))])) t
                      refine XS.bipush X28.here hx rfl (hb hby d1_13) ?_
                      show Steps p.tables e below (T28.setTop (mkF m 15 #[.val (.long q0), .second, .val (.long (q0 % (1000000000 : Int64))), .second, .val (.int (9 : Int32))] [(.int (9 : Int32)), (.ref r), (.long (q0 % (1000000000 : Int64)))])) t
                      refine XS.iload X28.here hx rfl (hb hby d1_15) rfl ?_
                      show Steps p.tables e below (T28.setTop (mkF m 17 #[.val (.long q0), .second, .val (.long (q0 % (1000000000 : Int64))), .second, .val (.int (9 : Int32))] [(.int (9 : Int32)), (.int (9 : Int32)), (.ref r), (.long (q0 % (1000000000 : Int64)))])) t
                      refine XS.isub X28.here hx rfl (hb hby d1_17) rfl ?_
                      exact kt
                    obtain ⟨cl29, Ar29, Sz29, Mn29, Ha29⟩ := id V_r
                    have hin29 := inb_of (j := (0 : Int32)) Sz29 ⟨by decide, by decide⟩
                    have hat29 : cl29.slots[((0 : Int32)).toNatClampNeg]? = some (.long (1 : Int64)) := (Ha29 _ (Nat.lt_of_not_le fun q => hin29 (Or.inr q))).trans (congrArg some rfl)
                    refine own_by (A' := T28.setTop (mkF m 22 #[.val (.long q0), .second, .val (.long (q0 % (1000000000 : Int64))), .second, .val (.int (9 : Int32))] [(.int (lcmpW ((q0 % (1000000000 : Int64)) % (1 : Int64)) (0 : Int64)))])) (fun t kt => ?_) ?_
                    · show Steps p.tables e below (T28.setTop (mkF m 18 #[.val (.long q0), .second, .val (.long (q0 % (1000000000 : Int64))), .second, .val (.int (9 : Int32))] [(.int (0 : Int32)), (.ref r), (.long (q0 % (1000000000 : Int64)))])) t
                      refine X28.laload hx (j := (0 : Int32)) (v := (.long (1 : Int64))) (by rw [e28]; exact Ar29.1) (State.isArrayOf_alike hZ.alike Ar29.2.1) Ar29.2.2 hin29 hat29 (g := (mkF m 18 #[.val (.long q0), .second, .val (.long (q0 % (1000000000 : Int64))), .second, .val (.int (9 : Int32))] [(.int (0 : Int32)), (.ref r), (.long (q0 % (1000000000 : Int64)))])) rfl rfl (hb hby d1_18) _ ?_
                      show Steps p.tables e below (T28.setTop (mkF m 19 #[.val (.long q0), .second, .val (.long (q0 % (1000000000 : Int64))), .second, .val (.int (9 : Int32))] [(.long (1 : Int64)), (.long (q0 % (1000000000 : Int64)))])) t
                      refine own_lrem X28 hx rfl (hb hby d1_19) rfl (by decide) ?_
                      show Steps p.tables e below (T28.setTop (mkF m 20 #[.val (.long q0), .second, .val (.long (q0 % (1000000000 : Int64))), .second, .val (.int (9 : Int32))] [(.long ((q0 % (1000000000 : Int64)) % (1 : Int64)))])) t
                      refine XS.lconst X28.here hx rfl (hb hby d1_20) ?_
                      show Steps p.tables e below (T28.setTop (mkF m 21 #[.val (.long q0), .second, .val (.long (q0 % (1000000000 : Int64))), .second, .val (.int (9 : Int32))] [(.long (0 : Int64)), (.long ((q0 % (1000000000 : Int64)) % (1 : Int64)))])) t
                      refine XS.lcmp X28.here hx rfl (hb hby d1_21) rfl ?_
                      exact kt
                    have hc22_30 : ((q0 % (1000000000 : Int64)) % (1 : Int64)) = (0 : Int64) := own_mod1 _
                    refine own_by (A' := T28.setTop (mkF m 33 #[.val (.long q0), .second, .val (.long (q0 % (1000000000 : Int64))), .second, .val (.int (9 : Int32))] [(.int (9 : Int32))])) (fun t kt => ?_) ?_
                    · show Steps p.tables e below (T28.setTop (mkF m 22 #[.val (.long q0), .second, .val (.long (q0 % (1000000000 : Int64))), .second, .val (.int (9 : Int32))] [(.int (lcmpW ((q0 % (1000000000 : Int64)) % (1 : Int64)) (0 : Int64)))])) t
                      refine XS.ifYes X28.here hx rfl (pc0 := 22) (pc' := 31) rfl (hb hby d1_22) rfl ((if0 _ _).trans (teq ((lw_eq _ _).mpr hc22_30)).1) (by decide) (by decide) ?_
                      show Steps p.tables e below (T28.setTop (mkF m 31 #[.val (.long q0), .second, .val (.long (q0 % (1000000000 : Int64))), .second, .val (.int (9 : Int32))] [])) t
                      refine XS.iload X28.here hx rfl (hb hby d1_31) rfl ?_
                      exact kt
                    obtain ⟨fs, hr, hrun, hended, hW, hsame⟩ := X28.leave (v := some (.int (9 : Int32))) (fun h => by rw [Bd.returns] at h; cases h)
                    refine ⟨_, _, ?_, hrun, hended, _, _, rfl, ?_, ⟨_, rfl⟩, hW, hsame.mono (by decide) (by decide)⟩
                    · exact retI X28 hx Bd.returns (hb hby d1_33) hr
                    · show Q1 Z q0 r h0 n0 _ T28.heap _
                      rw [e28]
                      exact ⟨(by rw [own_fd, if_neg hc22_3, if_neg hc22_6, if_neg hc22_9, if_neg hc22_12, if_neg hc22_15, if_neg hc22_18, if_neg hc22_21, if_neg hc22_24, if_neg hc22_27]), N0, rfl⟩
theorem own_d (c : Int32) : 0 ≤ ((c &&& (2147483647 : Int32)) % (10 : Int32)).toInt ∧ ((c &&& (2147483647 : Int32)) % (10 : Int32)).toInt < 10 := by
  have h := c_mask c 2147483647 31 (by decide) (by decide)
  have h2 := c_irem (c &&& (2147483647 : Int32)) 10 10 (by decide)
  omega
theorem own_cases {n : Int32} (h : 0 ≤ n.toInt ∧ n.toInt < 10) : n = 0 ∨ n = 1 ∨ n = 2 ∨ n = 3 ∨ n = 4 ∨ n = 5 ∨ n = 6 ∨ n = 7 ∨ n = 8 ∨ n = 9 := by
  simp only [← Int32.toInt_inj, Int32.reduceToInt]
  omega
theorem own_rem (a y : Int64) (h : 1 ≤ y.toInt) : 0 ≤ ((a &&& (9223372036854775807 : Int64)) % y).toInt ∧ ((a &&& (9223372036854775807 : Int64)) % y).toInt < y.toInt := by
  have h1 := c_maskL a 9223372036854775807 63 (by decide) (by decide)
  rw [Int64.toInt_mod, Int.tmod_eq_emod_of_nonneg (by omega)]
  exact ⟨Int.emod_nonneg _ (by omega), Int.emod_lt_of_pos _ (by omega)⟩
theorem own_r (c : Int32) : 1 ≤ ((1 : Int64) + ((c &&& (2147483647 : Int32)) % (9 : Int32)).toInt64).toInt ∧ ((1 : Int64) + ((c &&& (2147483647 : Int32)) % (9 : Int32)).toInt64).toInt ≤ 9 := by
  have h := c_mask c 2147483647 31 (by decide) (by decide)
  have h2 := c_irem (c &&& (2147483647 : Int32)) 9 9 (by decide)
  have h3 := c_i2l ((c &&& (2147483647 : Int32)) % (9 : Int32))
  have h4 := c_ladd 1 ((c &&& (2147483647 : Int32)) % (9 : Int32)).toInt64
  have h5 := rng64 ((1 : Int64) + ((c &&& (2147483647 : Int32)) % (9 : Int32)).toInt64)
  rw [show (1 : Int64).toInt = 1 from by decide] at h4
  omega
theorem own_ne {x : Int64} (h : 1 ≤ x.toInt) : x ≠ 0 := fun q => by subst q; revert h; decide
theorem own_pwpos : ∀ i, i < 10 → 1 ≤ (own_pw i).toInt := by decide
theorem own_ix {d : Int32} (h : 0 ≤ d.toInt ∧ d.toInt < 10) : (0 : Int32) < d → (¬ (d - (1 : Int32)) < 0 ∧ (d - (1 : Int32)) < (10 : Int32)) := by
  rcases own_cases h with rfl | rfl | rfl | rfl | rfl | rfl | rfl | rfl | rfl | rfl <;> decide
theorem own_ix9 {d : Int32} (h : 0 ≤ d.toInt ∧ d.toInt < 10) : ¬ ((9 : Int32) - d) < 0 ∧ ((9 : Int32) - d) < (10 : Int32) := by
  rcases own_cases h with rfl | rfl | rfl | rfl | rfl | rfl | rfl | rfl | rfl | rfl <;> decide
theorem own_ixn {d : Int32} (h : 0 ≤ d.toInt ∧ d.toInt < 10) : (0 : Int32) < d → (d - (1 : Int32)).toNatClampNeg < 10 := by
  rcases own_cases h with rfl | rfl | rfl | rfl | rfl | rfl | rfl | rfl | rfl | rfl <;> decide
theorem own_lm (x : Int64) (k : Int) (c : Int64) (hc : c.toInt = k) (h : -9223372036854775808 ≤ x.toInt * k ∧ x.toInt * k < 9223372036854775808) : (x * c).toInt = x.toInt * k := by
  have h1 := c_lmul x c; have h2 := rng64 (x * c); rw [hc] at h1; omega
theorem own_md (x c : Int64) (k : Int) (hc : c.toInt = k) (h : 0 ≤ x.toInt) : (x % c).toInt = x.toInt % k := by rw [Int64.toInt_mod, hc, Int.tmod_eq_emod_of_nonneg h]
theorem own_la (x y : Int64) (h : -9223372036854775808 ≤ x.toInt + y.toInt ∧ x.toInt + y.toInt < 9223372036854775808) : (x + y).toInt = x.toInt + y.toInt := by
  have h1 := c_ladd x y; have h2 := rng64 (x + y); omega
/-- the digits of a number by its value -/
theorem own_fdv (x : Int64) (hx : 0 ≤ x.toInt) : own_fd x = (if x.toInt % 1000000000 % 1000000000 = 0 then (0 : Int32) else if x.toInt % 1000000000 % 100000000 = 0 then 1 else if x.toInt % 1000000000 % 10000000 = 0 then 2 else if x.toInt % 1000000000 % 1000000 = 0 then 3 else if x.toInt % 1000000000 % 100000 = 0 then 4 else if x.toInt % 1000000000 % 10000 = 0 then 5 else if x.toInt % 1000000000 % 1000 = 0 then 6 else if x.toInt % 1000000000 % 100 = 0 then 7 else if x.toInt % 1000000000 % 10 = 0 then 8 else 9) := by
  have e := own_md x 1000000000 1000000000 (by decide) hx
  have p : 0 ≤ (x % (1000000000 : Int64)).toInt := by omega
  rw [own_fd]
  simp only [← Int64.toInt_inj, own_md _ 1000000000 1000000000 (by decide) p, own_md _ 100000000 100000000 (by decide) p, own_md _ 10000000 10000000 (by decide) p, own_md _ 1000000 1000000 (by decide) p, own_md _ 100000 100000 (by decide) p, own_md _ 10000 10000 (by decide) p, own_md _ 1000 1000 (by decide) p, own_md _ 100 100 (by decide) p, own_md _ 10 10 (by decide) p, e, show (0 : Int64).toInt = 0 from by decide]
theorem own_zero (u : Int64) (hu : 0 ≤ u.toInt ∧ u.toInt < 1000000000) : own_fd ((u * (1000000000 : Int64)) + (0 : Int64)) = 0 := by
  have h1 := own_lm u 1000000000 1000000000 (by decide) (by omega)
  have h2 := own_la (u * (1000000000 : Int64)) 0 (by rw [show (0 : Int64).toInt = 0 from by decide]; omega)
  rw [show (0 : Int64).toInt = 0 from by decide] at h2
  rw [own_fdv _ (by omega), if_pos (by omega)]
set_option maxHeartbeats 4000000 in
theorem own_dg1 (u q r : Int64) (hu : 0 ≤ u.toInt ∧ u.toInt < 1000000000) (hq : 0 ≤ q.toInt ∧ q.toInt < 1) (hr : 1 ≤ r.toInt ∧ r.toInt ≤ 9) :
    own_fd ((u * (1000000000 : Int64)) + (((q * (10 : Int64)) + r) * (100000000 : Int64))) = 1 := by
  have h1 := own_lm u 1000000000 1000000000 (by decide) (by omega)
  have h2 := own_lm q 10 10 (by decide) (by omega)
  have h3 := own_la (q * (10 : Int64)) r (by omega)
  have h4 := own_lm (q * (10 : Int64) + r) 100000000 100000000 (by decide) (by omega)
  have h5 := own_la (u * (1000000000 : Int64)) ((q * (10 : Int64) + r) * (100000000 : Int64)) (by omega)
  rw [own_fdv _ (by omega)]
  rw [if_neg (by omega), if_pos (by omega)]
set_option maxHeartbeats 4000000 in
theorem own_dg2 (u q r : Int64) (hu : 0 ≤ u.toInt ∧ u.toInt < 1000000000) (hq : 0 ≤ q.toInt ∧ q.toInt < 10) (hr : 1 ≤ r.toInt ∧ r.toInt ≤ 9) :
    own_fd ((u * (1000000000 : Int64)) + (((q * (10 : Int64)) + r) * (10000000 : Int64))) = 2 := by
  have h1 := own_lm u 1000000000 1000000000 (by decide) (by omega)
  have h2 := own_lm q 10 10 (by decide) (by omega)
  have h3 := own_la (q * (10 : Int64)) r (by omega)
  have h4 := own_lm (q * (10 : Int64) + r) 10000000 10000000 (by decide) (by omega)
  have h5 := own_la (u * (1000000000 : Int64)) ((q * (10 : Int64) + r) * (10000000 : Int64)) (by omega)
  rw [own_fdv _ (by omega)]
  rw [if_neg (by omega), if_neg (by omega), if_pos (by omega)]
set_option maxHeartbeats 4000000 in
theorem own_dg3 (u q r : Int64) (hu : 0 ≤ u.toInt ∧ u.toInt < 1000000000) (hq : 0 ≤ q.toInt ∧ q.toInt < 100) (hr : 1 ≤ r.toInt ∧ r.toInt ≤ 9) :
    own_fd ((u * (1000000000 : Int64)) + (((q * (10 : Int64)) + r) * (1000000 : Int64))) = 3 := by
  have h1 := own_lm u 1000000000 1000000000 (by decide) (by omega)
  have h2 := own_lm q 10 10 (by decide) (by omega)
  have h3 := own_la (q * (10 : Int64)) r (by omega)
  have h4 := own_lm (q * (10 : Int64) + r) 1000000 1000000 (by decide) (by omega)
  have h5 := own_la (u * (1000000000 : Int64)) ((q * (10 : Int64) + r) * (1000000 : Int64)) (by omega)
  rw [own_fdv _ (by omega)]
  rw [if_neg (by omega), if_neg (by omega), if_neg (by omega), if_pos (by omega)]
set_option maxHeartbeats 4000000 in
theorem own_dg4 (u q r : Int64) (hu : 0 ≤ u.toInt ∧ u.toInt < 1000000000) (hq : 0 ≤ q.toInt ∧ q.toInt < 1000) (hr : 1 ≤ r.toInt ∧ r.toInt ≤ 9) :
    own_fd ((u * (1000000000 : Int64)) + (((q * (10 : Int64)) + r) * (100000 : Int64))) = 4 := by
  have h1 := own_lm u 1000000000 1000000000 (by decide) (by omega)
  have h2 := own_lm q 10 10 (by decide) (by omega)
  have h3 := own_la (q * (10 : Int64)) r (by omega)
  have h4 := own_lm (q * (10 : Int64) + r) 100000 100000 (by decide) (by omega)
  have h5 := own_la (u * (1000000000 : Int64)) ((q * (10 : Int64) + r) * (100000 : Int64)) (by omega)
  rw [own_fdv _ (by omega)]
  rw [if_neg (by omega), if_neg (by omega), if_neg (by omega), if_neg (by omega), if_pos (by omega)]
set_option maxHeartbeats 4000000 in
theorem own_dg5 (u q r : Int64) (hu : 0 ≤ u.toInt ∧ u.toInt < 1000000000) (hq : 0 ≤ q.toInt ∧ q.toInt < 10000) (hr : 1 ≤ r.toInt ∧ r.toInt ≤ 9) :
    own_fd ((u * (1000000000 : Int64)) + (((q * (10 : Int64)) + r) * (10000 : Int64))) = 5 := by
  have h1 := own_lm u 1000000000 1000000000 (by decide) (by omega)
  have h2 := own_lm q 10 10 (by decide) (by omega)
  have h3 := own_la (q * (10 : Int64)) r (by omega)
  have h4 := own_lm (q * (10 : Int64) + r) 10000 10000 (by decide) (by omega)
  have h5 := own_la (u * (1000000000 : Int64)) ((q * (10 : Int64) + r) * (10000 : Int64)) (by omega)
  rw [own_fdv _ (by omega)]
  rw [if_neg (by omega), if_neg (by omega), if_neg (by omega), if_neg (by omega), if_neg (by omega), if_pos (by omega)]
set_option maxHeartbeats 4000000 in
theorem own_dg6 (u q r : Int64) (hu : 0 ≤ u.toInt ∧ u.toInt < 1000000000) (hq : 0 ≤ q.toInt ∧ q.toInt < 100000) (hr : 1 ≤ r.toInt ∧ r.toInt ≤ 9) :
    own_fd ((u * (1000000000 : Int64)) + (((q * (10 : Int64)) + r) * (1000 : Int64))) = 6 := by
  have h1 := own_lm u 1000000000 1000000000 (by decide) (by omega)
  have h2 := own_lm q 10 10 (by decide) (by omega)
  have h3 := own_la (q * (10 : Int64)) r (by omega)
  have h4 := own_lm (q * (10 : Int64) + r) 1000 1000 (by decide) (by omega)
  have h5 := own_la (u * (1000000000 : Int64)) ((q * (10 : Int64) + r) * (1000 : Int64)) (by omega)
  rw [own_fdv _ (by omega)]
  rw [if_neg (by omega), if_neg (by omega), if_neg (by omega), if_neg (by omega), if_neg (by omega), if_neg (by omega), if_pos (by omega)]
set_option maxHeartbeats 4000000 in
theorem own_dg7 (u q r : Int64) (hu : 0 ≤ u.toInt ∧ u.toInt < 1000000000) (hq : 0 ≤ q.toInt ∧ q.toInt < 1000000) (hr : 1 ≤ r.toInt ∧ r.toInt ≤ 9) :
    own_fd ((u * (1000000000 : Int64)) + (((q * (10 : Int64)) + r) * (100 : Int64))) = 7 := by
  have h1 := own_lm u 1000000000 1000000000 (by decide) (by omega)
  have h2 := own_lm q 10 10 (by decide) (by omega)
  have h3 := own_la (q * (10 : Int64)) r (by omega)
  have h4 := own_lm (q * (10 : Int64) + r) 100 100 (by decide) (by omega)
  have h5 := own_la (u * (1000000000 : Int64)) ((q * (10 : Int64) + r) * (100 : Int64)) (by omega)
  rw [own_fdv _ (by omega)]
  rw [if_neg (by omega), if_neg (by omega), if_neg (by omega), if_neg (by omega), if_neg (by omega), if_neg (by omega), if_neg (by omega), if_pos (by omega)]
set_option maxHeartbeats 4000000 in
theorem own_dg8 (u q r : Int64) (hu : 0 ≤ u.toInt ∧ u.toInt < 1000000000) (hq : 0 ≤ q.toInt ∧ q.toInt < 10000000) (hr : 1 ≤ r.toInt ∧ r.toInt ≤ 9) :
    own_fd ((u * (1000000000 : Int64)) + (((q * (10 : Int64)) + r) * (10 : Int64))) = 8 := by
  have h1 := own_lm u 1000000000 1000000000 (by decide) (by omega)
  have h2 := own_lm q 10 10 (by decide) (by omega)
  have h3 := own_la (q * (10 : Int64)) r (by omega)
  have h4 := own_lm (q * (10 : Int64) + r) 10 10 (by decide) (by omega)
  have h5 := own_la (u * (1000000000 : Int64)) ((q * (10 : Int64) + r) * (10 : Int64)) (by omega)
  rw [own_fdv _ (by omega)]
  rw [if_neg (by omega), if_neg (by omega), if_neg (by omega), if_neg (by omega), if_neg (by omega), if_neg (by omega), if_neg (by omega), if_neg (by omega), if_pos (by omega)]
set_option maxHeartbeats 4000000 in
theorem own_dg9 (u q r : Int64) (hu : 0 ≤ u.toInt ∧ u.toInt < 1000000000) (hq : 0 ≤ q.toInt ∧ q.toInt < 100000000) (hr : 1 ≤ r.toInt ∧ r.toInt ≤ 9) :
    own_fd ((u * (1000000000 : Int64)) + (((q * (10 : Int64)) + r) * (1 : Int64))) = 9 := by
  have h1 := own_lm u 1000000000 1000000000 (by decide) (by omega)
  have h2 := own_lm q 10 10 (by decide) (by omega)
  have h3 := own_la (q * (10 : Int64)) r (by omega)
  have h4 := own_lm (q * (10 : Int64) + r) 1 1 (by decide) (by omega)
  have h5 := own_la (u * (1000000000 : Int64)) ((q * (10 : Int64) + r) * (1 : Int64)) (by omega)
  rw [own_fdv _ (by omega)]
  rw [if_neg (by omega), if_neg (by omega), if_neg (by omega), if_neg (by omega), if_neg (by omega), if_neg (by omega), if_neg (by omega), if_neg (by omega), if_neg (by omega)]
theorem own_dig (u q r : Int64) (d : Int32) (hd : 0 ≤ d.toInt ∧ d.toInt < 10) (h0 : (0 : Int32) < d) (hu : 0 ≤ u.toInt ∧ u.toInt < 1000000000) (hq : 0 ≤ q.toInt ∧ q.toInt < (own_pw (d - (1 : Int32)).toNatClampNeg).toInt) (hr : 1 ≤ r.toInt ∧ r.toInt ≤ 9) :
    own_fd ((u * (1000000000 : Int64)) + (((q * (10 : Int64)) + r) * (own_pw ((9 : Int32) - d).toNatClampNeg))) = d := by
  rcases own_cases hd with rfl | rfl | rfl | rfl | rfl | rfl | rfl | rfl | rfl | rfl
  · exact absurd h0 (by decide)
  · rw [show own_pw ((1 : Int32) - (1 : Int32)).toNatClampNeg = 1 from by decide, show (1 : Int64).toInt = 1 from by decide] at hq
    rw [show own_pw ((9 : Int32) - (1 : Int32)).toNatClampNeg = 100000000 from by decide]
    exact own_dg1 u q r hu hq hr
  · rw [show own_pw ((2 : Int32) - (1 : Int32)).toNatClampNeg = 10 from by decide, show (10 : Int64).toInt = 10 from by decide] at hq
    rw [show own_pw ((9 : Int32) - (2 : Int32)).toNatClampNeg = 10000000 from by decide]
    exact own_dg2 u q r hu hq hr
  · rw [show own_pw ((3 : Int32) - (1 : Int32)).toNatClampNeg = 100 from by decide, show (100 : Int64).toInt = 100 from by decide] at hq
    rw [show own_pw ((9 : Int32) - (3 : Int32)).toNatClampNeg = 1000000 from by decide]
    exact own_dg3 u q r hu hq hr
  · rw [show own_pw ((4 : Int32) - (1 : Int32)).toNatClampNeg = 1000 from by decide, show (1000 : Int64).toInt = 1000 from by decide] at hq
    rw [show own_pw ((9 : Int32) - (4 : Int32)).toNatClampNeg = 100000 from by decide]
    exact own_dg4 u q r hu hq hr
  · rw [show own_pw ((5 : Int32) - (1 : Int32)).toNatClampNeg = 10000 from by decide, show (10000 : Int64).toInt = 10000 from by decide] at hq
    rw [show own_pw ((9 : Int32) - (5 : Int32)).toNatClampNeg = 10000 from by decide]
    exact own_dg5 u q r hu hq hr
  · rw [show own_pw ((6 : Int32) - (1 : Int32)).toNatClampNeg = 100000 from by decide, show (100000 : Int64).toInt = 100000 from by decide] at hq
    rw [show own_pw ((9 : Int32) - (6 : Int32)).toNatClampNeg = 1000 from by decide]
    exact own_dg6 u q r hu hq hr
  · rw [show own_pw ((7 : Int32) - (1 : Int32)).toNatClampNeg = 1000000 from by decide, show (1000000 : Int64).toInt = 1000000 from by decide] at hq
    rw [show own_pw ((9 : Int32) - (7 : Int32)).toNatClampNeg = 100 from by decide]
    exact own_dg7 u q r hu hq hr
  · rw [show own_pw ((8 : Int32) - (1 : Int32)).toNatClampNeg = 10000000 from by decide, show (10000000 : Int64).toInt = 10000000 from by decide] at hq
    rw [show own_pw ((9 : Int32) - (8 : Int32)).toNatClampNeg = 10 from by decide]
    exact own_dg8 u q r hu hq hr
  · rw [show own_pw ((9 : Int32) - (1 : Int32)).toNatClampNeg = 100000000 from by decide, show (100000000 : Int64).toInt = 100000000 from by decide] at hq
    rw [show own_pw ((9 : Int32) - (9 : Int32)).toNatClampNeg = 1 from by decide]
    exact own_dg9 u q r hu hq hr
theorem pn_1 : plainName "com/example/matchline/matchline/decimal/NanosFractionDigitsPinLaw" = true := by first | (simp [plainName, overriddenIn]; done) | decide +kernel
theorem pd_2 : parseMethodDescriptor "(J)I" = some ⟨[.long], some .int⟩ := by decide +kernel
theorem ef_rm0 (m : MethodId) (q0 : Int64) (q1 : Int64) (p2 : Int32) (p3 : Int32) : entryFrame m #[(.long q0), (.long q1), (.int p2), (.int p3)] maxLocals = mkF m 0 #[.val (.long q0), .second, .val (.long q1), .second, .val (.int p2), .val (.int p3), .unset, .unset, .unset, .unset, .unset, .unset, .unset, .unset, .unset, .unset] [] := by first | (simp [entryFrame, mkF, argsToLocals, Value.category, maxLocals]; done) | rfl
def Q0 (Z : State) (q0 : Int64) (q1 : Int64) (p2 : Int32) (p3 : Int32) (r : Addr) (h0 : Heap) (n0 : Nat) (v : Option Value) (h : Heap) (L : List Loc) : Prop := v = some (.int 1) ∧ Fr n0 L
set_option maxRecDepth 65536 in
set_option maxHeartbeats 40000000 in
theorem rm0 (l : Launch) (Z : State) (aw : Array Value) (hw : ∀ d ∈ tables_1, d.before aw Z = true) (ws : List Jvm.Cond) (q0 : Int64) (q1 : Int64) (p2 : Int32) (p3 : Int32) (r : Addr) (h0 : Heap) (n0 : Nat) (Z0 : n0 ≤ h0.size) (S_P : Sta Z h0 "com/example/matchline/matchline/decimal/Nanos" "POWERS_OF_TEN" "[J" (.ref r)) (V_r : AF Z h0 r .long (19 : Int32) (fun i => .long (own_pw i))) :
    MetFree l x (head1 (Jvm.Cond.code x code maxLocals ret :: ws) room_1) (fun a U => a = #[(.long q0), (.long q1), (.int p2), (.int p3)] ∧ Z.Warmed39 U.vm ∧ U.heap = h0) (fun _ _ _ _ _ => True) (fun _ U o U' => ∃ v L, o = .returned v ∧ Q0 Z q0 q1 p2 p3 r h0 n0 v U'.heap L ∧ FrameEnd U o U' L 1 10) := by
  refine MetFree.of_bodySF (plainFor_of_name pn_1) hisR ?_
  intro p e s m args below meth c s₁ Bd hml0 hP hK
  obtain ⟨rfl, hZ, hh⟩ := hP
  have hx := Bd.exec
  have hby := Bd.bytes
  have hml : c.maxLocals = 16 := hml0
  have hown : s.vm.findClass "com/example/matchline/matchline/decimal/NanosFractionDigitsPinLaw" = some m.cls := findClass_of_methodNamed Bd.named
  have hnm := (name_of_methodNamed Bd.named Bd.method).1
  have X0 : Stand p l e room_1 s m #[(.long q0), (.long q1), (.int p2), (.int p3)] below meth c s₁ [] 0 0 := Stand.of_body Bd
  have e0 : s₁.heap = h0 := by rw [← hh, Bd.state]; rfl
  have N0 := Fr.nil n0
  have K0 : Keep h0 h0 [] := Keep.refl _ _
  refine own_by (A' := s₁.setTop (mkF m 0 #[.val (.long q0), .second, .val (.long q1), .second, .val (.int p2), .val (.int p3), .unset, .unset, .unset, .unset, .unset, .unset, .unset, .unset, .unset, .unset] [])) (fun t k => castTop (ef_rm0 m q0 q1 p2 p3) k) ?_
  refine own_by (A' := s₁.setTop (mkF m 2 #[.val (.long q0), .second, .val (.long q1), .second, .val (.int p2), .val (.int p3), .unset, .unset, .unset, .unset, .unset, .unset, .unset, .unset, .unset, .unset] [(.int (10 : Int32))])) (fun t kt => ?_) ?_
  · show Steps p.tables e below (s₁.setTop (mkF m 0 #[.val (.long q0), .second, .val (.long q1), .second, .val (.int p2), .val (.int p3), .unset, .unset, .unset, .unset, .unset, .unset, .unset, .unset, .unset, .unset] [])) t
    refine XS.bipush X0.here hx rfl (hb hby at_0) ?_
    exact kt
  obtain ⟨T1, h1, k1, X1, e1, E1, A1, st1⟩ := newP X0 hx hZ (hw _ (List.mem_of_getElem? (i := 0) rfl)) e0 (g := (mkF m 2 #[.val (.long q0), .second, .val (.long q1), .second, .val (.int p2), .val (.int p3), .unset, .unset, .unset, .unset, .unset, .unset, .unset, .unset, .unset, .unset] [(.int (10 : Int32))])) rfl (hb hby at_2) rfl (by decide) (cap := 10) (by decide) (by decide) (by decide) (by decide)
  obtain ⟨b1, g1⟩ : ∃ z, z = h0.size := ⟨_, rfl⟩
  rw [← g1] at A1 st1
  have sz_b1 : h0.size ≤ b1 := Nat.le_trans K0.1 (Nat.le_of_eq g1.symm)
  have g_b1 : n0 ≤ b1 := Nat.le_trans Z0 sz_b1
  have K1 : Keep h0 h1 [] := K0.ext E1
  have V1 : AF Z h1 b1 .long (10 : Int32) (fun _ => .long (0 : Int64)) := AF.new A1 (by decide)
  refine own_by (A' := T1.setTop (mkF m 4 #[.val (.long q0), .second, .val (.long q1), .second, .val (.int p2), .val (.int p3), .unset, .unset, .unset, .unset, .unset, .unset, .unset, .unset, .unset, .unset] [(.ref b1)])) (fun t kt => st1 t kt) ?_
  refine own_by (A' := T1.setTop (mkF m 7 #[.val (.long q0), .second, .val (.long q1), .second, .val (.int p2), .val (.int p3), .unset, .unset, .unset, .unset, .unset, .unset, .unset, .unset, .unset, .unset] [(.long (1 : Int64)), (.int (0 : Int32)), (.ref b1), (.ref b1)])) (fun t kt => ?_) ?_
  · show Steps p.tables e below (T1.setTop (mkF m 4 #[.val (.long q0), .second, .val (.long q1), .second, .val (.int p2), .val (.int p3), .unset, .unset, .unset, .unset, .unset, .unset, .unset, .unset, .unset, .unset] [(.ref b1)])) t
    refine XS.dup X1.here hx rfl (hb hby at_4) rfl rfl ?_
    show Steps p.tables e below (T1.setTop (mkF m 5 #[.val (.long q0), .second, .val (.long q1), .second, .val (.int p2), .val (.int p3), .unset, .unset, .unset, .unset, .unset, .unset, .unset, .unset, .unset, .unset] [(.ref b1), (.ref b1)])) t
    refine XS.iconst X1.here hx rfl (hb hby at_5) ?_
    show Steps p.tables e below (T1.setTop (mkF m 6 #[.val (.long q0), .second, .val (.long q1), .second, .val (.int p2), .val (.int p3), .unset, .unset, .unset, .unset, .unset, .unset, .unset, .unset, .unset, .unset] [(.int (0 : Int32)), (.ref b1), (.ref b1)])) t
    refine XS.lconst X1.here hx rfl (hb hby at_6) ?_
    exact kt
  obtain ⟨cl2, Ar2, Sz2, Mn2, Ha2⟩ := id V1
  have hin2 := inb_of (j := (0 : Int32)) Sz2 ⟨by decide, by decide⟩
  obtain ⟨T2, h2, X2, e2, W2, st2⟩ := stJ X1 hx hZ e1 Ar2 (j := (0 : Int32)) hin2 (g := (mkF m 7 #[.val (.long q0), .second, .val (.long q1), .second, .val (.int p2), .val (.int p3), .unset, .unset, .unset, .unset, .unset, .unset, .unset, .unset, .unset, .unset] [(.long (1 : Int64)), (.int (0 : Int32)), (.ref b1), (.ref b1)])) rfl rfl (hb hby at_7)
  have V2 : AF Z h2 b1 .long (10 : Int32) (fun i => if i = ((0 : Int32)).toNatClampNeg then (.long (1 : Int64)) else .long (0 : Int64)) := AF.set Ar2 Sz2 Mn2 Ha2 hin2 W2
  have N2 := Fr.snoc X2 N0 g_b1
  have K2 : Keep h0 h2 [] := K1.wr W2 (Or.inr sz_b1)
  refine own_by (A' := T2.setTop (mkF m 8 #[.val (.long q0), .second, .val (.long q1), .second, .val (.int p2), .val (.int p3), .unset, .unset, .unset, .unset, .unset, .unset, .unset, .unset, .unset, .unset] [(.ref b1)])) (fun t kt => st2 t kt) ?_
  refine own_by (A' := T2.setTop (mkF m 13 #[.val (.long q0), .second, .val (.long q1), .second, .val (.int p2), .val (.int p3), .unset, .unset, .unset, .unset, .unset, .unset, .unset, .unset, .unset, .unset] [(.long (10 : Int64)), (.int (1 : Int32)), (.ref b1), (.ref b1)])) (fun t kt => ?_) ?_
  · show Steps p.tables e below (T2.setTop (mkF m 8 #[.val (.long q0), .second, .val (.long q1), .second, .val (.int p2), .val (.int p3), .unset, .unset, .unset, .unset, .unset, .unset, .unset, .unset, .unset, .unset] [(.ref b1)])) t
    refine XS.dup X2.here hx rfl (hb hby at_8) rfl rfl ?_
    show Steps p.tables e below (T2.setTop (mkF m 9 #[.val (.long q0), .second, .val (.long q1), .second, .val (.int p2), .val (.int p3), .unset, .unset, .unset, .unset, .unset, .unset, .unset, .unset, .unset, .unset] [(.ref b1), (.ref b1)])) t
    refine XS.iconst X2.here hx rfl (hb hby at_9) ?_
    show Steps p.tables e below (T2.setTop (mkF m 10 #[.val (.long q0), .second, .val (.long q1), .second, .val (.int p2), .val (.int p3), .unset, .unset, .unset, .unset, .unset, .unset, .unset, .unset, .unset, .unset] [(.int (1 : Int32)), (.ref b1), (.ref b1)])) t
    refine X2.ldc2Long hx hown (mvT hZ (hw _ (List.mem_of_getElem? (i := 1) rfl))) (g := (mkF m 10 #[.val (.long q0), .second, .val (.long q1), .second, .val (.int p2), .val (.int p3), .unset, .unset, .unset, .unset, .unset, .unset, .unset, .unset, .unset, .unset] [(.int (1 : Int32)), (.ref b1), (.ref b1)])) rfl (hb hby at_10) _ ?_
    exact kt
  obtain ⟨cl3, Ar3, Sz3, Mn3, Ha3⟩ := id V2
  have hin3 := inb_of (j := (1 : Int32)) Sz3 ⟨by decide, by decide⟩
  obtain ⟨T3, h3, X3, e3, W3, st3⟩ := stJ X2 hx hZ e2 Ar3 (j := (1 : Int32)) hin3 (g := (mkF m 13 #[.val (.long q0), .second, .val (.long q1), .second, .val (.int p2), .val (.int p3), .unset, .unset, .unset, .unset, .unset, .unset, .unset, .unset, .unset, .unset] [(.long (10 : Int64)), (.int (1 : Int32)), (.ref b1), (.ref b1)])) rfl rfl (hb hby at_13)
  have V3 : AF Z h3 b1 .long (10 : Int32) (fun i => if i = ((1 : Int32)).toNatClampNeg then (.long (10 : Int64)) else if i = ((0 : Int32)).toNatClampNeg then (.long (1 : Int64)) else .long (0 : Int64)) := AF.set Ar3 Sz3 Mn3 Ha3 hin3 W3
  have N3 := Fr.snoc X3 N2 g_b1
  have K3 : Keep h0 h3 [] := K2.wr W3 (Or.inr sz_b1)
  refine own_by (A' := T3.setTop (mkF m 14 #[.val (.long q0), .second, .val (.long q1), .second, .val (.int p2), .val (.int p3), .unset, .unset, .unset, .unset, .unset, .unset, .unset, .unset, .unset, .unset] [(.ref b1)])) (fun t kt => st3 t kt) ?_
  refine own_by (A' := T3.setTop (mkF m 19 #[.val (.long q0), .second, .val (.long q1), .second, .val (.int p2), .val (.int p3), .unset, .unset, .unset, .unset, .unset, .unset, .unset, .unset, .unset, .unset] [(.long (100 : Int64)), (.int (2 : Int32)), (.ref b1), (.ref b1)])) (fun t kt => ?_) ?_
  · show Steps p.tables e below (T3.setTop (mkF m 14 #[.val (.long q0), .second, .val (.long q1), .second, .val (.int p2), .val (.int p3), .unset, .unset, .unset, .unset, .unset, .unset, .unset, .unset, .unset, .unset] [(.ref b1)])) t
    refine XS.dup X3.here hx rfl (hb hby at_14) rfl rfl ?_
    show Steps p.tables e below (T3.setTop (mkF m 15 #[.val (.long q0), .second, .val (.long q1), .second, .val (.int p2), .val (.int p3), .unset, .unset, .unset, .unset, .unset, .unset, .unset, .unset, .unset, .unset] [(.ref b1), (.ref b1)])) t
    refine XS.iconst X3.here hx rfl (hb hby at_15) ?_
    show Steps p.tables e below (T3.setTop (mkF m 16 #[.val (.long q0), .second, .val (.long q1), .second, .val (.int p2), .val (.int p3), .unset, .unset, .unset, .unset, .unset, .unset, .unset, .unset, .unset, .unset] [(.int (2 : Int32)), (.ref b1), (.ref b1)])) t
    refine X3.ldc2Long hx hown (mvT hZ (hw _ (List.mem_of_getElem? (i := 2) rfl))) (g := (mkF m 16 #[.val (.long q0), .second, .val (.long q1), .second, .val (.int p2), .val (.int p3), .unset, .unset, .unset, .unset, .unset, .unset, .unset, .unset, .unset, .unset] [(.int (2 : Int32)), (.ref b1), (.ref b1)])) rfl (hb hby at_16) _ ?_
    exact kt
  obtain ⟨cl4, Ar4, Sz4, Mn4, Ha4⟩ := id V3
  have hin4 := inb_of (j := (2 : Int32)) Sz4 ⟨by decide, by decide⟩
  obtain ⟨T4, h4, X4, e4, W4, st4⟩ := stJ X3 hx hZ e3 Ar4 (j := (2 : Int32)) hin4 (g := (mkF m 19 #[.val (.long q0), .second, .val (.long q1), .second, .val (.int p2), .val (.int p3), .unset, .unset, .unset, .unset, .unset, .unset, .unset, .unset, .unset, .unset] [(.long (100 : Int64)), (.int (2 : Int32)), (.ref b1), (.ref b1)])) rfl rfl (hb hby at_19)
  have V4 : AF Z h4 b1 .long (10 : Int32) (fun i => if i = ((2 : Int32)).toNatClampNeg then (.long (100 : Int64)) else if i = ((1 : Int32)).toNatClampNeg then (.long (10 : Int64)) else if i = ((0 : Int32)).toNatClampNeg then (.long (1 : Int64)) else .long (0 : Int64)) := AF.set Ar4 Sz4 Mn4 Ha4 hin4 W4
  have N4 := Fr.snoc X4 N3 g_b1
  have K4 : Keep h0 h4 [] := K3.wr W4 (Or.inr sz_b1)
  refine own_by (A' := T4.setTop (mkF m 20 #[.val (.long q0), .second, .val (.long q1), .second, .val (.int p2), .val (.int p3), .unset, .unset, .unset, .unset, .unset, .unset, .unset, .unset, .unset, .unset] [(.ref b1)])) (fun t kt => st4 t kt) ?_
  refine own_by (A' := T4.setTop (mkF m 25 #[.val (.long q0), .second, .val (.long q1), .second, .val (.int p2), .val (.int p3), .unset, .unset, .unset, .unset, .unset, .unset, .unset, .unset, .unset, .unset] [(.long (1000 : Int64)), (.int (3 : Int32)), (.ref b1), (.ref b1)])) (fun t kt => ?_) ?_
  · show Steps p.tables e below (T4.setTop (mkF m 20 #[.val (.long q0), .second, .val (.long q1), .second, .val (.int p2), .val (.int p3), .unset, .unset, .unset, .unset, .unset, .unset, .unset, .unset, .unset, .unset] [(.ref b1)])) t
    refine XS.dup X4.here hx rfl (hb hby at_20) rfl rfl ?_
    show Steps p.tables e below (T4.setTop (mkF m 21 #[.val (.long q0), .second, .val (.long q1), .second, .val (.int p2), .val (.int p3), .unset, .unset, .unset, .unset, .unset, .unset, .unset, .unset, .unset, .unset] [(.ref b1), (.ref b1)])) t
    refine XS.iconst X4.here hx rfl (hb hby at_21) ?_
    show Steps p.tables e below (T4.setTop (mkF m 22 #[.val (.long q0), .second, .val (.long q1), .second, .val (.int p2), .val (.int p3), .unset, .unset, .unset, .unset, .unset, .unset, .unset, .unset, .unset, .unset] [(.int (3 : Int32)), (.ref b1), (.ref b1)])) t
    refine X4.ldc2Long hx hown (mvT hZ (hw _ (List.mem_of_getElem? (i := 3) rfl))) (g := (mkF m 22 #[.val (.long q0), .second, .val (.long q1), .second, .val (.int p2), .val (.int p3), .unset, .unset, .unset, .unset, .unset, .unset, .unset, .unset, .unset, .unset] [(.int (3 : Int32)), (.ref b1), (.ref b1)])) rfl (hb hby at_22) _ ?_
    exact kt
  obtain ⟨cl5, Ar5, Sz5, Mn5, Ha5⟩ := id V4
  have hin5 := inb_of (j := (3 : Int32)) Sz5 ⟨by decide, by decide⟩
  obtain ⟨T5, h5, X5, e5, W5, st5⟩ := stJ X4 hx hZ e4 Ar5 (j := (3 : Int32)) hin5 (g := (mkF m 25 #[.val (.long q0), .second, .val (.long q1), .second, .val (.int p2), .val (.int p3), .unset, .unset, .unset, .unset, .unset, .unset, .unset, .unset, .unset, .unset] [(.long (1000 : Int64)), (.int (3 : Int32)), (.ref b1), (.ref b1)])) rfl rfl (hb hby at_25)
  have V5 : AF Z h5 b1 .long (10 : Int32) (fun i => if i = ((3 : Int32)).toNatClampNeg then (.long (1000 : Int64)) else if i = ((2 : Int32)).toNatClampNeg then (.long (100 : Int64)) else if i = ((1 : Int32)).toNatClampNeg then (.long (10 : Int64)) else if i = ((0 : Int32)).toNatClampNeg then (.long (1 : Int64)) else .long (0 : Int64)) := AF.set Ar5 Sz5 Mn5 Ha5 hin5 W5
  have N5 := Fr.snoc X5 N4 g_b1
  have K5 : Keep h0 h5 [] := K4.wr W5 (Or.inr sz_b1)
  refine own_by (A' := T5.setTop (mkF m 26 #[.val (.long q0), .second, .val (.long q1), .second, .val (.int p2), .val (.int p3), .unset, .unset, .unset, .unset, .unset, .unset, .unset, .unset, .unset, .unset] [(.ref b1)])) (fun t kt => st5 t kt) ?_
  refine own_by (A' := T5.setTop (mkF m 31 #[.val (.long q0), .second, .val (.long q1), .second, .val (.int p2), .val (.int p3), .unset, .unset, .unset, .unset, .unset, .unset, .unset, .unset, .unset, .unset] [(.long (10000 : Int64)), (.int (4 : Int32)), (.ref b1), (.ref b1)])) (fun t kt => ?_) ?_
  · show Steps p.tables e below (T5.setTop (mkF m 26 #[.val (.long q0), .second, .val (.long q1), .second, .val (.int p2), .val (.int p3), .unset, .unset, .unset, .unset, .unset, .unset, .unset, .unset, .unset, .unset] [(.ref b1)])) t
    refine XS.dup X5.here hx rfl (hb hby at_26) rfl rfl ?_
    show Steps p.tables e below (T5.setTop (mkF m 27 #[.val (.long q0), .second, .val (.long q1), .second, .val (.int p2), .val (.int p3), .unset, .unset, .unset, .unset, .unset, .unset, .unset, .unset, .unset, .unset] [(.ref b1), (.ref b1)])) t
    refine XS.iconst X5.here hx rfl (hb hby at_27) ?_
    show Steps p.tables e below (T5.setTop (mkF m 28 #[.val (.long q0), .second, .val (.long q1), .second, .val (.int p2), .val (.int p3), .unset, .unset, .unset, .unset, .unset, .unset, .unset, .unset, .unset, .unset] [(.int (4 : Int32)), (.ref b1), (.ref b1)])) t
    refine X5.ldc2Long hx hown (mvT hZ (hw _ (List.mem_of_getElem? (i := 4) rfl))) (g := (mkF m 28 #[.val (.long q0), .second, .val (.long q1), .second, .val (.int p2), .val (.int p3), .unset, .unset, .unset, .unset, .unset, .unset, .unset, .unset, .unset, .unset] [(.int (4 : Int32)), (.ref b1), (.ref b1)])) rfl (hb hby at_28) _ ?_
    exact kt
  obtain ⟨cl6, Ar6, Sz6, Mn6, Ha6⟩ := id V5
  have hin6 := inb_of (j := (4 : Int32)) Sz6 ⟨by decide, by decide⟩
  obtain ⟨T6, h6, X6, e6, W6, st6⟩ := stJ X5 hx hZ e5 Ar6 (j := (4 : Int32)) hin6 (g := (mkF m 31 #[.val (.long q0), .second, .val (.long q1), .second, .val (.int p2), .val (.int p3), .unset, .unset, .unset, .unset, .unset, .unset, .unset, .unset, .unset, .unset] [(.long (10000 : Int64)), (.int (4 : Int32)), (.ref b1), (.ref b1)])) rfl rfl (hb hby at_31)
  have V6 : AF Z h6 b1 .long (10 : Int32) (fun i => if i = ((4 : Int32)).toNatClampNeg then (.long (10000 : Int64)) else if i = ((3 : Int32)).toNatClampNeg then (.long (1000 : Int64)) else if i = ((2 : Int32)).toNatClampNeg then (.long (100 : Int64)) else if i = ((1 : Int32)).toNatClampNeg then (.long (10 : Int64)) else if i = ((0 : Int32)).toNatClampNeg then (.long (1 : Int64)) else .long (0 : Int64)) := AF.set Ar6 Sz6 Mn6 Ha6 hin6 W6
  have N6 := Fr.snoc X6 N5 g_b1
  have K6 : Keep h0 h6 [] := K5.wr W6 (Or.inr sz_b1)
  refine own_by (A' := T6.setTop (mkF m 32 #[.val (.long q0), .second, .val (.long q1), .second, .val (.int p2), .val (.int p3), .unset, .unset, .unset, .unset, .unset, .unset, .unset, .unset, .unset, .unset] [(.ref b1)])) (fun t kt => st6 t kt) ?_
  refine own_by (A' := T6.setTop (mkF m 37 #[.val (.long q0), .second, .val (.long q1), .second, .val (.int p2), .val (.int p3), .unset, .unset, .unset, .unset, .unset, .unset, .unset, .unset, .unset, .unset] [(.long (100000 : Int64)), (.int (5 : Int32)), (.ref b1), (.ref b1)])) (fun t kt => ?_) ?_
  · show Steps p.tables e below (T6.setTop (mkF m 32 #[.val (.long q0), .second, .val (.long q1), .second, .val (.int p2), .val (.int p3), .unset, .unset, .unset, .unset, .unset, .unset, .unset, .unset, .unset, .unset] [(.ref b1)])) t
    refine XS.dup X6.here hx rfl (hb hby at_32) rfl rfl ?_
    show Steps p.tables e below (T6.setTop (mkF m 33 #[.val (.long q0), .second, .val (.long q1), .second, .val (.int p2), .val (.int p3), .unset, .unset, .unset, .unset, .unset, .unset, .unset, .unset, .unset, .unset] [(.ref b1), (.ref b1)])) t
    refine XS.iconst X6.here hx rfl (hb hby at_33) ?_
    show Steps p.tables e below (T6.setTop (mkF m 34 #[.val (.long q0), .second, .val (.long q1), .second, .val (.int p2), .val (.int p3), .unset, .unset, .unset, .unset, .unset, .unset, .unset, .unset, .unset, .unset] [(.int (5 : Int32)), (.ref b1), (.ref b1)])) t
    refine X6.ldc2Long hx hown (mvT hZ (hw _ (List.mem_of_getElem? (i := 5) rfl))) (g := (mkF m 34 #[.val (.long q0), .second, .val (.long q1), .second, .val (.int p2), .val (.int p3), .unset, .unset, .unset, .unset, .unset, .unset, .unset, .unset, .unset, .unset] [(.int (5 : Int32)), (.ref b1), (.ref b1)])) rfl (hb hby at_34) _ ?_
    exact kt
  obtain ⟨cl7, Ar7, Sz7, Mn7, Ha7⟩ := id V6
  have hin7 := inb_of (j := (5 : Int32)) Sz7 ⟨by decide, by decide⟩
  obtain ⟨T7, h7, X7, e7, W7, st7⟩ := stJ X6 hx hZ e6 Ar7 (j := (5 : Int32)) hin7 (g := (mkF m 37 #[.val (.long q0), .second, .val (.long q1), .second, .val (.int p2), .val (.int p3), .unset, .unset, .unset, .unset, .unset, .unset, .unset, .unset, .unset, .unset] [(.long (100000 : Int64)), (.int (5 : Int32)), (.ref b1), (.ref b1)])) rfl rfl (hb hby at_37)
  have V7 : AF Z h7 b1 .long (10 : Int32) (fun i => if i = ((5 : Int32)).toNatClampNeg then (.long (100000 : Int64)) else if i = ((4 : Int32)).toNatClampNeg then (.long (10000 : Int64)) else if i = ((3 : Int32)).toNatClampNeg then (.long (1000 : Int64)) else if i = ((2 : Int32)).toNatClampNeg then (.long (100 : Int64)) else if i = ((1 : Int32)).toNatClampNeg then (.long (10 : Int64)) else if i = ((0 : Int32)).toNatClampNeg then (.long (1 : Int64)) else .long (0 : Int64)) := AF.set Ar7 Sz7 Mn7 Ha7 hin7 W7
  have N7 := Fr.snoc X7 N6 g_b1
  have K7 : Keep h0 h7 [] := K6.wr W7 (Or.inr sz_b1)
  refine own_by (A' := T7.setTop (mkF m 38 #[.val (.long q0), .second, .val (.long q1), .second, .val (.int p2), .val (.int p3), .unset, .unset, .unset, .unset, .unset, .unset, .unset, .unset, .unset, .unset] [(.ref b1)])) (fun t kt => st7 t kt) ?_
  refine own_by (A' := T7.setTop (mkF m 44 #[.val (.long q0), .second, .val (.long q1), .second, .val (.int p2), .val (.int p3), .unset, .unset, .unset, .unset, .unset, .unset, .unset, .unset, .unset, .unset] [(.long (1000000 : Int64)), (.int (6 : Int32)), (.ref b1), (.ref b1)])) (fun t kt => ?_) ?_
  · show Steps p.tables e below (T7.setTop (mkF m 38 #[.val (.long q0), .second, .val (.long q1), .second, .val (.int p2), .val (.int p3), .unset, .unset, .unset, .unset, .unset, .unset, .unset, .unset, .unset, .unset] [(.ref b1)])) t
    refine XS.dup X7.here hx rfl (hb hby at_38) rfl rfl ?_
    show Steps p.tables e below (T7.setTop (mkF m 39 #[.val (.long q0), .second, .val (.long q1), .second, .val (.int p2), .val (.int p3), .unset, .unset, .unset, .unset, .unset, .unset, .unset, .unset, .unset, .unset] [(.ref b1), (.ref b1)])) t
    refine XS.bipush X7.here hx rfl (hb hby at_39) ?_
    show Steps p.tables e below (T7.setTop (mkF m 41 #[.val (.long q0), .second, .val (.long q1), .second, .val (.int p2), .val (.int p3), .unset, .unset, .unset, .unset, .unset, .unset, .unset, .unset, .unset, .unset] [(.int (6 : Int32)), (.ref b1), (.ref b1)])) t
    refine X7.ldc2Long hx hown (mvT hZ (hw _ (List.mem_of_getElem? (i := 6) rfl))) (g := (mkF m 41 #[.val (.long q0), .second, .val (.long q1), .second, .val (.int p2), .val (.int p3), .unset, .unset, .unset, .unset, .unset, .unset, .unset, .unset, .unset, .unset] [(.int (6 : Int32)), (.ref b1), (.ref b1)])) rfl (hb hby at_41) _ ?_
    exact kt
  obtain ⟨cl8, Ar8, Sz8, Mn8, Ha8⟩ := id V7
  have hin8 := inb_of (j := (6 : Int32)) Sz8 ⟨by decide, by decide⟩
  obtain ⟨T8, h8, X8, e8, W8, st8⟩ := stJ X7 hx hZ e7 Ar8 (j := (6 : Int32)) hin8 (g := (mkF m 44 #[.val (.long q0), .second, .val (.long q1), .second, .val (.int p2), .val (.int p3), .unset, .unset, .unset, .unset, .unset, .unset, .unset, .unset, .unset, .unset] [(.long (1000000 : Int64)), (.int (6 : Int32)), (.ref b1), (.ref b1)])) rfl rfl (hb hby at_44)
  have V8 : AF Z h8 b1 .long (10 : Int32) (fun i => if i = ((6 : Int32)).toNatClampNeg then (.long (1000000 : Int64)) else if i = ((5 : Int32)).toNatClampNeg then (.long (100000 : Int64)) else if i = ((4 : Int32)).toNatClampNeg then (.long (10000 : Int64)) else if i = ((3 : Int32)).toNatClampNeg then (.long (1000 : Int64)) else if i = ((2 : Int32)).toNatClampNeg then (.long (100 : Int64)) else if i = ((1 : Int32)).toNatClampNeg then (.long (10 : Int64)) else if i = ((0 : Int32)).toNatClampNeg then (.long (1 : Int64)) else .long (0 : Int64)) := AF.set Ar8 Sz8 Mn8 Ha8 hin8 W8
  have N8 := Fr.snoc X8 N7 g_b1
  have K8 : Keep h0 h8 [] := K7.wr W8 (Or.inr sz_b1)
  refine own_by (A' := T8.setTop (mkF m 45 #[.val (.long q0), .second, .val (.long q1), .second, .val (.int p2), .val (.int p3), .unset, .unset, .unset, .unset, .unset, .unset, .unset, .unset, .unset, .unset] [(.ref b1)])) (fun t kt => st8 t kt) ?_
  refine own_by (A' := T8.setTop (mkF m 51 #[.val (.long q0), .second, .val (.long q1), .second, .val (.int p2), .val (.int p3), .unset, .unset, .unset, .unset, .unset, .unset, .unset, .unset, .unset, .unset] [(.long (10000000 : Int64)), (.int (7 : Int32)), (.ref b1), (.ref b1)])) (fun t kt => ?_) ?_
  · show Steps p.tables e below (T8.setTop (mkF m 45 #[.val (.long q0), .second, .val (.long q1), .second, .val (.int p2), .val (.int p3), .unset, .unset, .unset, .unset, .unset, .unset, .unset, .unset, .unset, .unset] [(.ref b1)])) t
    refine XS.dup X8.here hx rfl (hb hby at_45) rfl rfl ?_
    show Steps p.tables e below (T8.setTop (mkF m 46 #[.val (.long q0), .second, .val (.long q1), .second, .val (.int p2), .val (.int p3), .unset, .unset, .unset, .unset, .unset, .unset, .unset, .unset, .unset, .unset] [(.ref b1), (.ref b1)])) t
    refine XS.bipush X8.here hx rfl (hb hby at_46) ?_
    show Steps p.tables e below (T8.setTop (mkF m 48 #[.val (.long q0), .second, .val (.long q1), .second, .val (.int p2), .val (.int p3), .unset, .unset, .unset, .unset, .unset, .unset, .unset, .unset, .unset, .unset] [(.int (7 : Int32)), (.ref b1), (.ref b1)])) t
    refine X8.ldc2Long hx hown (mvT hZ (hw _ (List.mem_of_getElem? (i := 7) rfl))) (g := (mkF m 48 #[.val (.long q0), .second, .val (.long q1), .second, .val (.int p2), .val (.int p3), .unset, .unset, .unset, .unset, .unset, .unset, .unset, .unset, .unset, .unset] [(.int (7 : Int32)), (.ref b1), (.ref b1)])) rfl (hb hby at_48) _ ?_
    exact kt
  obtain ⟨cl9, Ar9, Sz9, Mn9, Ha9⟩ := id V8
  have hin9 := inb_of (j := (7 : Int32)) Sz9 ⟨by decide, by decide⟩
  obtain ⟨T9, h9, X9, e9, W9, st9⟩ := stJ X8 hx hZ e8 Ar9 (j := (7 : Int32)) hin9 (g := (mkF m 51 #[.val (.long q0), .second, .val (.long q1), .second, .val (.int p2), .val (.int p3), .unset, .unset, .unset, .unset, .unset, .unset, .unset, .unset, .unset, .unset] [(.long (10000000 : Int64)), (.int (7 : Int32)), (.ref b1), (.ref b1)])) rfl rfl (hb hby at_51)
  have V9 : AF Z h9 b1 .long (10 : Int32) (fun i => if i = ((7 : Int32)).toNatClampNeg then (.long (10000000 : Int64)) else if i = ((6 : Int32)).toNatClampNeg then (.long (1000000 : Int64)) else if i = ((5 : Int32)).toNatClampNeg then (.long (100000 : Int64)) else if i = ((4 : Int32)).toNatClampNeg then (.long (10000 : Int64)) else if i = ((3 : Int32)).toNatClampNeg then (.long (1000 : Int64)) else if i = ((2 : Int32)).toNatClampNeg then (.long (100 : Int64)) else if i = ((1 : Int32)).toNatClampNeg then (.long (10 : Int64)) else if i = ((0 : Int32)).toNatClampNeg then (.long (1 : Int64)) else .long (0 : Int64)) := AF.set Ar9 Sz9 Mn9 Ha9 hin9 W9
  have N9 := Fr.snoc X9 N8 g_b1
  have K9 : Keep h0 h9 [] := K8.wr W9 (Or.inr sz_b1)
  refine own_by (A' := T9.setTop (mkF m 52 #[.val (.long q0), .second, .val (.long q1), .second, .val (.int p2), .val (.int p3), .unset, .unset, .unset, .unset, .unset, .unset, .unset, .unset, .unset, .unset] [(.ref b1)])) (fun t kt => st9 t kt) ?_
  refine own_by (A' := T9.setTop (mkF m 58 #[.val (.long q0), .second, .val (.long q1), .second, .val (.int p2), .val (.int p3), .unset, .unset, .unset, .unset, .unset, .unset, .unset, .unset, .unset, .unset] [(.long (100000000 : Int64)), (.int (8 : Int32)), (.ref b1), (.ref b1)])) (fun t kt => ?_) ?_
  · show Steps p.tables e below (T9.setTop (mkF m 52 #[.val (.long q0), .second, .val (.long q1), .second, .val (.int p2), .val (.int p3), .unset, .unset, .unset, .unset, .unset, .unset, .unset, .unset, .unset, .unset] [(.ref b1)])) t
    refine XS.dup X9.here hx rfl (hb hby at_52) rfl rfl ?_
    show Steps p.tables e below (T9.setTop (mkF m 53 #[.val (.long q0), .second, .val (.long q1), .second, .val (.int p2), .val (.int p3), .unset, .unset, .unset, .unset, .unset, .unset, .unset, .unset, .unset, .unset] [(.ref b1), (.ref b1)])) t
    refine XS.bipush X9.here hx rfl (hb hby at_53) ?_
    show Steps p.tables e below (T9.setTop (mkF m 55 #[.val (.long q0), .second, .val (.long q1), .second, .val (.int p2), .val (.int p3), .unset, .unset, .unset, .unset, .unset, .unset, .unset, .unset, .unset, .unset] [(.int (8 : Int32)), (.ref b1), (.ref b1)])) t
    refine X9.ldc2Long hx hown (mvT hZ (hw _ (List.mem_of_getElem? (i := 8) rfl))) (g := (mkF m 55 #[.val (.long q0), .second, .val (.long q1), .second, .val (.int p2), .val (.int p3), .unset, .unset, .unset, .unset, .unset, .unset, .unset, .unset, .unset, .unset] [(.int (8 : Int32)), (.ref b1), (.ref b1)])) rfl (hb hby at_55) _ ?_
    exact kt
  obtain ⟨cl10, Ar10, Sz10, Mn10, Ha10⟩ := id V9
  have hin10 := inb_of (j := (8 : Int32)) Sz10 ⟨by decide, by decide⟩
  obtain ⟨T10, h10, X10, e10, W10, st10⟩ := stJ X9 hx hZ e9 Ar10 (j := (8 : Int32)) hin10 (g := (mkF m 58 #[.val (.long q0), .second, .val (.long q1), .second, .val (.int p2), .val (.int p3), .unset, .unset, .unset, .unset, .unset, .unset, .unset, .unset, .unset, .unset] [(.long (100000000 : Int64)), (.int (8 : Int32)), (.ref b1), (.ref b1)])) rfl rfl (hb hby at_58)
  have V10 : AF Z h10 b1 .long (10 : Int32) (fun i => if i = ((8 : Int32)).toNatClampNeg then (.long (100000000 : Int64)) else if i = ((7 : Int32)).toNatClampNeg then (.long (10000000 : Int64)) else if i = ((6 : Int32)).toNatClampNeg then (.long (1000000 : Int64)) else if i = ((5 : Int32)).toNatClampNeg then (.long (100000 : Int64)) else if i = ((4 : Int32)).toNatClampNeg then (.long (10000 : Int64)) else if i = ((3 : Int32)).toNatClampNeg then (.long (1000 : Int64)) else if i = ((2 : Int32)).toNatClampNeg then (.long (100 : Int64)) else if i = ((1 : Int32)).toNatClampNeg then (.long (10 : Int64)) else if i = ((0 : Int32)).toNatClampNeg then (.long (1 : Int64)) else .long (0 : Int64)) := AF.set Ar10 Sz10 Mn10 Ha10 hin10 W10
  have N10 := Fr.snoc X10 N9 g_b1
  have K10 : Keep h0 h10 [] := K9.wr W10 (Or.inr sz_b1)
  refine own_by (A' := T10.setTop (mkF m 59 #[.val (.long q0), .second, .val (.long q1), .second, .val (.int p2), .val (.int p3), .unset, .unset, .unset, .unset, .unset, .unset, .unset, .unset, .unset, .unset] [(.ref b1)])) (fun t kt => st10 t kt) ?_
  refine own_by (A' := T10.setTop (mkF m 65 #[.val (.long q0), .second, .val (.long q1), .second, .val (.int p2), .val (.int p3), .unset, .unset, .unset, .unset, .unset, .unset, .unset, .unset, .unset, .unset] [(.long (1000000000 : Int64)), (.int (9 : Int32)), (.ref b1), (.ref b1)])) (fun t kt => ?_) ?_
  · show Steps p.tables e below (T10.setTop (mkF m 59 #[.val (.long q0), .second, .val (.long q1), .second, .val (.int p2), .val (.int p3), .unset, .unset, .unset, .unset, .unset, .unset, .unset, .unset, .unset, .unset] [(.ref b1)])) t
    refine XS.dup X10.here hx rfl (hb hby at_59) rfl rfl ?_
    show Steps p.tables e below (T10.setTop (mkF m 60 #[.val (.long q0), .second, .val (.long q1), .second, .val (.int p2), .val (.int p3), .unset, .unset, .unset, .unset, .unset, .unset, .unset, .unset, .unset, .unset] [(.ref b1), (.ref b1)])) t
    refine XS.bipush X10.here hx rfl (hb hby at_60) ?_
    show Steps p.tables e below (T10.setTop (mkF m 62 #[.val (.long q0), .second, .val (.long q1), .second, .val (.int p2), .val (.int p3), .unset, .unset, .unset, .unset, .unset, .unset, .unset, .unset, .unset, .unset] [(.int (9 : Int32)), (.ref b1), (.ref b1)])) t
    refine X10.ldc2Long hx hown (mvT hZ (hw _ (List.mem_of_getElem? (i := 9) rfl))) (g := (mkF m 62 #[.val (.long q0), .second, .val (.long q1), .second, .val (.int p2), .val (.int p3), .unset, .unset, .unset, .unset, .unset, .unset, .unset, .unset, .unset, .unset] [(.int (9 : Int32)), (.ref b1), (.ref b1)])) rfl (hb hby at_62) _ ?_
    exact kt
  obtain ⟨cl11, Ar11, Sz11, Mn11, Ha11⟩ := id V10
  have hin11 := inb_of (j := (9 : Int32)) Sz11 ⟨by decide, by decide⟩
  obtain ⟨T11, h11, X11, e11, W11, st11⟩ := stJ X10 hx hZ e10 Ar11 (j := (9 : Int32)) hin11 (g := (mkF m 65 #[.val (.long q0), .second, .val (.long q1), .second, .val (.int p2), .val (.int p3), .unset, .unset, .unset, .unset, .unset, .unset, .unset, .unset, .unset, .unset] [(.long (1000000000 : Int64)), (.int (9 : Int32)), (.ref b1), (.ref b1)])) rfl rfl (hb hby at_65)
  have V11 : AF Z h11 b1 .long (10 : Int32) (fun i => if i = ((9 : Int32)).toNatClampNeg then (.long (1000000000 : Int64)) else if i = ((8 : Int32)).toNatClampNeg then (.long (100000000 : Int64)) else if i = ((7 : Int32)).toNatClampNeg then (.long (10000000 : Int64)) else if i = ((6 : Int32)).toNatClampNeg then (.long (1000000 : Int64)) else if i = ((5 : Int32)).toNatClampNeg then (.long (100000 : Int64)) else if i = ((4 : Int32)).toNatClampNeg then (.long (10000 : Int64)) else if i = ((3 : Int32)).toNatClampNeg then (.long (1000 : Int64)) else if i = ((2 : Int32)).toNatClampNeg then (.long (100 : Int64)) else if i = ((1 : Int32)).toNatClampNeg then (.long (10 : Int64)) else if i = ((0 : Int32)).toNatClampNeg then (.long (1 : Int64)) else .long (0 : Int64)) := AF.set Ar11 Sz11 Mn11 Ha11 hin11 W11
  have N11 := Fr.snoc X11 N10 g_b1
  have K11 : Keep h0 h11 [] := K10.wr W11 (Or.inr sz_b1)
  refine own_by (A' := T11.setTop (mkF m 66 #[.val (.long q0), .second, .val (.long q1), .second, .val (.int p2), .val (.int p3), .unset, .unset, .unset, .unset, .unset, .unset, .unset, .unset, .unset, .unset] [(.ref b1)])) (fun t kt => st11 t kt) ?_
  refine own_by (A' := T11.setTop (mkF m 68 #[.val (.long q0), .second, .val (.long q1), .second, .val (.int p2), .val (.int p3), .val (.ref b1), .unset, .unset, .unset, .unset, .unset, .unset, .unset, .unset, .unset] [])) (fun t kt => ?_) ?_
  · show Steps p.tables e below (T11.setTop (mkF m 66 #[.val (.long q0), .second, .val (.long q1), .second, .val (.int p2), .val (.int p3), .unset, .unset, .unset, .unset, .unset, .unset, .unset, .unset, .unset, .unset] [(.ref b1)])) t
    refine XS.astore X11.here hx rfl (hb hby at_66) rfl rfl (l' := #[.val (.long q0), .second, .val (.long q1), .second, .val (.int p2), .val (.int p3), .val (.ref b1), .unset, .unset, .unset, .unset, .unset, .unset, .unset, .unset, .unset]) rfl ?_
    exact kt
  have VE : AF Z h11 b1 .long (10 : Int32) (fun i => .long (own_pw i)) := AF.to V11 (fun i hi => by
    have hi' : i < 10 := hi
    match i, hi' with
    | 0, _ => rfl
    | 1, _ => rfl
    | 2, _ => rfl
    | 3, _ => rfl
    | 4, _ => rfl
    | 5, _ => rfl
    | 6, _ => rfl
    | 7, _ => rfl
    | 8, _ => rfl
    | 9, _ => rfl)
  refine own_by (A' := T11.setTop (mkF m 78 #[.val (.long q0), .second, .val (.long q1), .second, .val (.int p2), .val (.int p3), .val (.ref b1), .val (.int ((p2 &&& (2147483647 : Int32)) % (10 : Int32))), .unset, .unset, .unset, .unset, .unset, .unset, .unset, .unset] [])) (fun t kt => ?_) ?_
  · show Steps p.tables e below (T11.setTop (mkF m 68 #[.val (.long q0), .second, .val (.long q1), .second, .val (.int p2), .val (.int p3), .val (.ref b1), .unset, .unset, .unset, .unset, .unset, .unset, .unset, .unset, .unset] [])) t
    refine XS.iload X11.here hx rfl (hb hby at_68) rfl ?_
    show Steps p.tables e below (T11.setTop (mkF m 70 #[.val (.long q0), .second, .val (.long q1), .second, .val (.int p2), .val (.int p3), .val (.ref b1), .unset, .unset, .unset, .unset, .unset, .unset, .unset, .unset, .unset] [(.int p2)])) t
    refine X11.ldcInt hx hown (mvT hZ (hw _ (List.mem_of_getElem? (i := 10) rfl))) (g := (mkF m 70 #[.val (.long q0), .second, .val (.long q1), .second, .val (.int p2), .val (.int p3), .val (.ref b1), .unset, .unset, .unset, .unset, .unset, .unset, .unset, .unset, .unset] [(.int p2)])) rfl (hb hby at_70) _ ?_
    show Steps p.tables e below (T11.setTop (mkF m 72 #[.val (.long q0), .second, .val (.long q1), .second, .val (.int p2), .val (.int p3), .val (.ref b1), .unset, .unset, .unset, .unset, .unset, .unset, .unset, .unset, .unset] [(.int (2147483647 : Int32)), (.int p2)])) t
    refine XS.iand X11.here hx rfl (hb hby at_72) rfl ?_
    show Steps p.tables e below (T11.setTop (mkF m 73 #[.val (.long q0), .second, .val (.long q1), .second, .val (.int p2), .val (.int p3), .val (.ref b1), .unset, .unset, .unset, .unset, .unset, .unset, .unset, .unset, .unset] [(.int (p2 &&& (2147483647 : Int32)))])) t
    refine XS.bipush X11.here hx rfl (hb hby at_73) ?_
    show Steps p.tables e below (T11.setTop (mkF m 75 #[.val (.long q0), .second, .val (.long q1), .second, .val (.int p2), .val (.int p3), .val (.ref b1), .unset, .unset, .unset, .unset, .unset, .unset, .unset, .unset, .unset] [(.int (10 : Int32)), (.int (p2 &&& (2147483647 : Int32)))])) t
    refine iremM X11 hx rfl (hb hby at_75) rfl (by decide) ?_
    show Steps p.tables e below (T11.setTop (mkF m 76 #[.val (.long q0), .second, .val (.long q1), .second, .val (.int p2), .val (.int p3), .val (.ref b1), .unset, .unset, .unset, .unset, .unset, .unset, .unset, .unset, .unset] [(.int ((p2 &&& (2147483647 : Int32)) % (10 : Int32)))])) t
    refine XS.istore X11.here hx rfl (hb hby at_76) rfl (l' := #[.val (.long q0), .second, .val (.long q1), .second, .val (.int p2), .val (.int p3), .val (.ref b1), .val (.int ((p2 &&& (2147483647 : Int32)) % (10 : Int32))), .unset, .unset, .unset, .unset, .unset, .unset, .unset, .unset]) rfl ?_
    exact kt
  generalize h_vd : ((p2 &&& (2147483647 : Int32)) % (10 : Int32)) = vd
  have hd := own_d p2
  rw [h_vd] at hd
  refine own_by (A' := T11.setTop (mkF m 87 #[.val (.long q0), .second, .val (.long q1), .second, .val (.int p2), .val (.int p3), .val (.ref b1), .val (.int vd), .unset, .unset, .unset, .unset, .unset, .unset, .unset, .unset] [(.int (9 : Int32)), (.ref b1), (.long (q0 &&& (9223372036854775807 : Int64)))])) (fun t kt => ?_) ?_
  · show Steps p.tables e below (T11.setTop (mkF m 78 #[.val (.long q0), .second, .val (.long q1), .second, .val (.int p2), .val (.int p3), .val (.ref b1), .val (.int vd), .unset, .unset, .unset, .unset, .unset, .unset, .unset, .unset] [])) t
    refine XS.lloadN X11.here hx rfl (hb hby at_78) rfl ?_
    show Steps p.tables e below (T11.setTop (mkF m 79 #[.val (.long q0), .second, .val (.long q1), .second, .val (.int p2), .val (.int p3), .val (.ref b1), .val (.int vd), .unset, .unset, .unset, .unset, .unset, .unset, .unset, .unset] [(.long q0)])) t
    refine X11.ldc2Long hx hown (mvT hZ (hw _ (List.mem_of_getElem? (i := 11) rfl))) (g := (mkF m 79 #[.val (.long q0), .second, .val (.long q1), .second, .val (.int p2), .val (.int p3), .val (.ref b1), .val (.int vd), .unset, .unset, .unset, .unset, .unset, .unset, .unset, .unset] [(.long q0)])) rfl (hb hby at_79) _ ?_
    show Steps p.tables e below (T11.setTop (mkF m 82 #[.val (.long q0), .second, .val (.long q1), .second, .val (.int p2), .val (.int p3), .val (.ref b1), .val (.int vd), .unset, .unset, .unset, .unset, .unset, .unset, .unset, .unset] [(.long (9223372036854775807 : Int64)), (.long q0)])) t
    refine XS.land X11.here hx rfl (hb hby at_82) rfl ?_
    show Steps p.tables e below (T11.setTop (mkF m 83 #[.val (.long q0), .second, .val (.long q1), .second, .val (.int p2), .val (.int p3), .val (.ref b1), .val (.int vd), .unset, .unset, .unset, .unset, .unset, .unset, .unset, .unset] [(.long (q0 &&& (9223372036854775807 : Int64)))])) t
    refine XS.aload X11.here hx rfl (hb hby at_83) rfl rfl ?_
    show Steps p.tables e below (T11.setTop (mkF m 85 #[.val (.long q0), .second, .val (.long q1), .second, .val (.int p2), .val (.int p3), .val (.ref b1), .val (.int vd), .unset, .unset, .unset, .unset, .unset, .unset, .unset, .unset] [(.ref b1), (.long (q0 &&& (9223372036854775807 : Int64)))])) t
    refine XS.bipush X11.here hx rfl (hb hby at_85) ?_
    exact kt
  obtain ⟨cl12, Ar12, Sz12, Mn12, Ha12⟩ := id VE
  have hin12 := inb_of (j := (9 : Int32)) Sz12 ⟨by decide, by decide⟩
  have hat12 : cl12.slots[((9 : Int32)).toNatClampNeg]? = some (.long (1000000000 : Int64)) := (Ha12 _ (Nat.lt_of_not_le fun q => hin12 (Or.inr q))).trans (congrArg some rfl)
  refine own_by (A' := T11.setTop (mkF m 91 #[.val (.long q0), .second, .val (.long q1), .second, .val (.int p2), .val (.int p3), .val (.ref b1), .val (.int vd), .val (.long ((q0 &&& (9223372036854775807 : Int64)) % (1000000000 : Int64))), .second, .unset, .unset, .unset, .unset, .unset, .unset] [])) (fun t kt => ?_) ?_
  · show Steps p.tables e below (T11.setTop (mkF m 87 #[.val (.long q0), .second, .val (.long q1), .second, .val (.int p2), .val (.int p3), .val (.ref b1), .val (.int vd), .unset, .unset, .unset, .unset, .unset, .unset, .unset, .unset] [(.int (9 : Int32)), (.ref b1), (.long (q0 &&& (9223372036854775807 : Int64)))])) t
    refine X11.laload hx (j := (9 : Int32)) (v := (.long (1000000000 : Int64))) (by rw [e11]; exact Ar12.1) (State.isArrayOf_alike hZ.alike Ar12.2.1) Ar12.2.2 hin12 hat12 (g := (mkF m 87 #[.val (.long q0), .second, .val (.long q1), .second, .val (.int p2), .val (.int p3), .val (.ref b1), .val (.int vd), .unset, .unset, .unset, .unset, .unset, .unset, .unset, .unset] [(.int (9 : Int32)), (.ref b1), (.long (q0 &&& (9223372036854775807 : Int64)))])) rfl rfl (hb hby at_87) _ ?_
    show Steps p.tables e below (T11.setTop (mkF m 88 #[.val (.long q0), .second, .val (.long q1), .second, .val (.int p2), .val (.int p3), .val (.ref b1), .val (.int vd), .unset, .unset, .unset, .unset, .unset, .unset, .unset, .unset] [(.long (1000000000 : Int64)), (.long (q0 &&& (9223372036854775807 : Int64)))])) t
    refine own_lrem X11 hx rfl (hb hby at_88) rfl (by decide) ?_
    show Steps p.tables e below (T11.setTop (mkF m 89 #[.val (.long q0), .second, .val (.long q1), .second, .val (.int p2), .val (.int p3), .val (.ref b1), .val (.int vd), .unset, .unset, .unset, .unset, .unset, .unset, .unset, .unset] [(.long ((q0 &&& (9223372036854775807 : Int64)) % (1000000000 : Int64)))])) t
    refine XS.lstore X11.here hx rfl (hb hby at_89) rfl (l' := #[.val (.long q0), .second, .val (.long q1), .second, .val (.int p2), .val (.int p3), .val (.ref b1), .val (.int vd), .val (.long ((q0 &&& (9223372036854775807 : Int64)) % (1000000000 : Int64))), .second, .unset, .unset, .unset, .unset, .unset, .unset]) rfl ?_
    exact kt
  generalize h_vu : ((q0 &&& (9223372036854775807 : Int64)) % (1000000000 : Int64)) = vu
  have hu := own_rem q0 1000000000 (by decide)
  rw [h_vu, show (1000000000 : Int64).toInt = 1000000000 from by decide] at hu
  refine own_by (A' := T11.setTop (mkF m 96 #[.val (.long q0), .second, .val (.long q1), .second, .val (.int p2), .val (.int p3), .val (.ref b1), .val (.int vd), .val (.long vu), .second, .val (.long (0 : Int64)), .second, .unset, .unset, .unset, .unset] [(.int vd)])) (fun t kt => ?_) ?_
  · show Steps p.tables e below (T11.setTop (mkF m 91 #[.val (.long q0), .second, .val (.long q1), .second, .val (.int p2), .val (.int p3), .val (.ref b1), .val (.int vd), .val (.long vu), .second, .unset, .unset, .unset, .unset, .unset, .unset] [])) t
    refine XS.lconst X11.here hx rfl (hb hby at_91) ?_
    show Steps p.tables e below (T11.setTop (mkF m 92 #[.val (.long q0), .second, .val (.long q1), .second, .val (.int p2), .val (.int p3), .val (.ref b1), .val (.int vd), .val (.long vu), .second, .unset, .unset, .unset, .unset, .unset, .unset] [(.long (0 : Int64))])) t
    refine XS.lstore X11.here hx rfl (hb hby at_92) rfl (l' := #[.val (.long q0), .second, .val (.long q1), .second, .val (.int p2), .val (.int p3), .val (.ref b1), .val (.int vd), .val (.long vu), .second, .val (.long (0 : Int64)), .second, .unset, .unset, .unset, .unset]) rfl ?_
    show Steps p.tables e below (T11.setTop (mkF m 94 #[.val (.long q0), .second, .val (.long q1), .second, .val (.int p2), .val (.int p3), .val (.ref b1), .val (.int vd), .val (.long vu), .second, .val (.long (0 : Int64)), .second, .unset, .unset, .unset, .unset] [])) t
    refine XS.iload X11.here hx rfl (hb hby at_94) rfl ?_
    exact kt
  by_cases hc96_13 : (0 : Int32) < vd
  · refine own_by (A' := T11.setTop (mkF m 110 #[.val (.long q0), .second, .val (.long q1), .second, .val (.int p2), .val (.int p3), .val (.ref b1), .val (.int vd), .val (.long vu), .second, .val (.long (0 : Int64)), .second, .unset, .unset, .unset, .unset] [(.int (vd - (1 : Int32))), (.ref b1), (.long (q1 &&& (9223372036854775807 : Int64)))])) (fun t kt => ?_) ?_
    · show Steps p.tables e below (T11.setTop (mkF m 96 #[.val (.long q0), .second, .val (.long q1), .second, .val (.int p2), .val (.int p3), .val (.ref b1), .val (.int vd), .val (.long vu), .second, .val (.long (0 : Int64)), .second, .unset, .unset, .unset, .unset] [(.int vd)])) t
      refine XS.ifNo X11.here hx rfl (hb hby at_96) rfl ((if0 _ _).trans (tlt hc96_13).2.2.2) ?_
      show Steps p.tables e below (T11.setTop (mkF m 99 #[.val (.long q0), .second, .val (.long q1), .second, .val (.int p2), .val (.int p3), .val (.ref b1), .val (.int vd), .val (.long vu), .second, .val (.long (0 : Int64)), .second, .unset, .unset, .unset, .unset] [])) t
      refine XS.lloadN X11.here hx rfl (hb hby at_99) rfl ?_
      show Steps p.tables e below (T11.setTop (mkF m 100 #[.val (.long q0), .second, .val (.long q1), .second, .val (.int p2), .val (.int p3), .val (.ref b1), .val (.int vd), .val (.long vu), .second, .val (.long (0 : Int64)), .second, .unset, .unset, .unset, .unset] [(.long q1)])) t
      refine X11.ldc2Long hx hown (mvT hZ (hw _ (List.mem_of_getElem? (i := 11) rfl))) (g := (mkF m 100 #[.val (.long q0), .second, .val (.long q1), .second, .val (.int p2), .val (.int p3), .val (.ref b1), .val (.int vd), .val (.long vu), .second, .val (.long (0 : Int64)), .second, .unset, .unset, .unset, .unset] [(.long q1)])) rfl (hb hby at_100) _ ?_
      show Steps p.tables e below (T11.setTop (mkF m 103 #[.val (.long q0), .second, .val (.long q1), .second, .val (.int p2), .val (.int p3), .val (.ref b1), .val (.int vd), .val (.long vu), .second, .val (.long (0 : Int64)), .second, .unset, .unset, .unset, .unset] [(.long (9223372036854775807 : Int64)), (.long q1)])) t
      refine XS.land X11.here hx rfl (hb hby at_103) rfl ?_
      show Steps p.tables e below (T11.setTop (mkF m 104 #[.val (.long q0), .second, .val (.long q1), .second, .val (.int p2), .val (.int p3), .val (.ref b1), .val (.int vd), .val (.long vu), .second, .val (.long (0 : Int64)), .second, .unset, .unset, .unset, .unset] [(.long (q1 &&& (9223372036854775807 : Int64)))])) t
      refine XS.aload X11.here hx rfl (hb hby at_104) rfl rfl ?_
      show Steps p.tables e below (T11.setTop (mkF m 106 #[.val (.long q0), .second, .val (.long q1), .second, .val (.int p2), .val (.int p3), .val (.ref b1), .val (.int vd), .val (.long vu), .second, .val (.long (0 : Int64)), .second, .unset, .unset, .unset, .unset] [(.ref b1), (.long (q1 &&& (9223372036854775807 : Int64)))])) t
      refine XS.iload X11.here hx rfl (hb hby at_106) rfl ?_
      show Steps p.tables e below (T11.setTop (mkF m 108 #[.val (.long q0), .second, .val (.long q1), .second, .val (.int p2), .val (.int p3), .val (.ref b1), .val (.int vd), .val (.long vu), .second, .val (.long (0 : Int64)), .second, .unset, .unset, .unset, .unset] [(.int vd), (.ref b1), (.long (q1 &&& (9223372036854775807 : Int64)))])) t
      refine XS.iconst X11.here hx rfl (hb hby at_108) ?_
      show Steps p.tables e below (T11.setTop (mkF m 109 #[.val (.long q0), .second, .val (.long q1), .second, .val (.int p2), .val (.int p3), .val (.ref b1), .val (.int vd), .val (.long vu), .second, .val (.long (0 : Int64)), .second, .unset, .unset, .unset, .unset] [(.int (1 : Int32)), (.int vd), (.ref b1), (.long (q1 &&& (9223372036854775807 : Int64)))])) t
      refine XS.isub X11.here hx rfl (hb hby at_109) rfl ?_
      exact kt
    obtain ⟨cl14, Ar14, Sz14, Mn14, Ha14⟩ := id VE
    have hin14 := inb_of (j := (vd - (1 : Int32))) Sz14 (own_ix hd hc96_13)
    have hat14 : cl14.slots[((vd - (1 : Int32))).toNatClampNeg]? = some (.long (own_pw (vd - (1 : Int32)).toNatClampNeg)) := (Ha14 _ (Nat.lt_of_not_le fun q => hin14 (Or.inr q))).trans (congrArg some rfl)
    refine own_by (A' := T11.setTop (mkF m 114 #[.val (.long q0), .second, .val (.long q1), .second, .val (.int p2), .val (.int p3), .val (.ref b1), .val (.int vd), .val (.long vu), .second, .val (.long (0 : Int64)), .second, .val (.long ((q1 &&& (9223372036854775807 : Int64)) % (own_pw (vd - (1 : Int32)).toNatClampNeg))), .second, .unset, .unset] [])) (fun t kt => ?_) ?_
    · show Steps p.tables e below (T11.setTop (mkF m 110 #[.val (.long q0), .second, .val (.long q1), .second, .val (.int p2), .val (.int p3), .val (.ref b1), .val (.int vd), .val (.long vu), .second, .val (.long (0 : Int64)), .second, .unset, .unset, .unset, .unset] [(.int (vd - (1 : Int32))), (.ref b1), (.long (q1 &&& (9223372036854775807 : Int64)))])) t
      refine X11.laload hx (j := (vd - (1 : Int32))) (v := (.long (own_pw (vd - (1 : Int32)).toNatClampNeg))) (by rw [e11]; exact Ar14.1) (State.isArrayOf_alike hZ.alike Ar14.2.1) Ar14.2.2 hin14 hat14 (g := (mkF m 110 #[.val (.long q0), .second, .val (.long q1), .second, .val (.int p2), .val (.int p3), .val (.ref b1), .val (.int vd), .val (.long vu), .second, .val (.long (0 : Int64)), .second, .unset, .unset, .unset, .unset] [(.int (vd - (1 : Int32))), (.ref b1), (.long (q1 &&& (9223372036854775807 : Int64)))])) rfl rfl (hb hby at_110) _ ?_
      show Steps p.tables e below (T11.setTop (mkF m 111 #[.val (.long q0), .second, .val (.long q1), .second, .val (.int p2), .val (.int p3), .val (.ref b1), .val (.int vd), .val (.long vu), .second, .val (.long (0 : Int64)), .second, .unset, .unset, .unset, .unset] [(.long (own_pw (vd - (1 : Int32)).toNatClampNeg)), (.long (q1 &&& (9223372036854775807 : Int64)))])) t
      refine own_lrem X11 hx rfl (hb hby at_111) rfl (own_ne (own_pwpos _ (own_ixn hd hc96_13))) ?_
      show Steps p.tables e below (T11.setTop (mkF m 112 #[.val (.long q0), .second, .val (.long q1), .second, .val (.int p2), .val (.int p3), .val (.ref b1), .val (.int vd), .val (.long vu), .second, .val (.long (0 : Int64)), .second, .unset, .unset, .unset, .unset] [(.long ((q1 &&& (9223372036854775807 : Int64)) % (own_pw (vd - (1 : Int32)).toNatClampNeg)))])) t
      refine XS.lstore X11.here hx rfl (hb hby at_112) rfl (l' := #[.val (.long q0), .second, .val (.long q1), .second, .val (.int p2), .val (.int p3), .val (.ref b1), .val (.int vd), .val (.long vu), .second, .val (.long (0 : Int64)), .second, .val (.long ((q1 &&& (9223372036854775807 : Int64)) % (own_pw (vd - (1 : Int32)).toNatClampNeg))), .second, .unset, .unset]) rfl ?_
      exact kt
    generalize h_vq : ((q1 &&& (9223372036854775807 : Int64)) % (own_pw (vd - (1 : Int32)).toNatClampNeg)) = vq
    have hq := own_rem q1 (own_pw (vd - (1 : Int32)).toNatClampNeg) (own_pwpos _ (own_ixn hd hc96_13))
    rw [h_vq] at hq
    refine own_by (A' := T11.setTop (mkF m 127 #[.val (.long q0), .second, .val (.long q1), .second, .val (.int p2), .val (.int p3), .val (.ref b1), .val (.int vd), .val (.long vu), .second, .val (.long (0 : Int64)), .second, .val (.long vq), .second, .val (.long ((1 : Int64) + (((p3 &&& (2147483647 : Int32)) % (9 : Int32)).toInt64))), .second] [])) (fun t kt => ?_) ?_
    · show Steps p.tables e below (T11.setTop (mkF m 114 #[.val (.long q0), .second, .val (.long q1), .second, .val (.int p2), .val (.int p3), .val (.ref b1), .val (.int vd), .val (.long vu), .second, .val (.long (0 : Int64)), .second, .val (.long vq), .second, .unset, .unset] [])) t
      refine XS.lconst X11.here hx rfl (hb hby at_114) ?_
      show Steps p.tables e below (T11.setTop (mkF m 115 #[.val (.long q0), .second, .val (.long q1), .second, .val (.int p2), .val (.int p3), .val (.ref b1), .val (.int vd), .val (.long vu), .second, .val (.long (0 : Int64)), .second, .val (.long vq), .second, .unset, .unset] [(.long (1 : Int64))])) t
      refine XS.iload X11.here hx rfl (hb hby at_115) rfl ?_
      show Steps p.tables e below (T11.setTop (mkF m 117 #[.val (.long q0), .second, .val (.long q1), .second, .val (.int p2), .val (.int p3), .val (.ref b1), .val (.int vd), .val (.long vu), .second, .val (.long (0 : Int64)), .second, .val (.long vq), .second, .unset, .unset] [(.int p3), (.long (1 : Int64))])) t
      refine X11.ldcInt hx hown (mvT hZ (hw _ (List.mem_of_getElem? (i := 10) rfl))) (g := (mkF m 117 #[.val (.long q0), .second, .val (.long q1), .second, .val (.int p2), .val (.int p3), .val (.ref b1), .val (.int vd), .val (.long vu), .second, .val (.long (0 : Int64)), .second, .val (.long vq), .second, .unset, .unset] [(.int p3), (.long (1 : Int64))])) rfl (hb hby at_117) _ ?_
      show Steps p.tables e below (T11.setTop (mkF m 119 #[.val (.long q0), .second, .val (.long q1), .second, .val (.int p2), .val (.int p3), .val (.ref b1), .val (.int vd), .val (.long vu), .second, .val (.long (0 : Int64)), .second, .val (.long vq), .second, .unset, .unset] [(.int (2147483647 : Int32)), (.int p3), (.long (1 : Int64))])) t
      refine XS.iand X11.here hx rfl (hb hby at_119) rfl ?_
      show Steps p.tables e below (T11.setTop (mkF m 120 #[.val (.long q0), .second, .val (.long q1), .second, .val (.int p2), .val (.int p3), .val (.ref b1), .val (.int vd), .val (.long vu), .second, .val (.long (0 : Int64)), .second, .val (.long vq), .second, .unset, .unset] [(.int (p3 &&& (2147483647 : Int32))), (.long (1 : Int64))])) t
      refine XS.bipush X11.here hx rfl (hb hby at_120) ?_
      show Steps p.tables e below (T11.setTop (mkF m 122 #[.val (.long q0), .second, .val (.long q1), .second, .val (.int p2), .val (.int p3), .val (.ref b1), .val (.int vd), .val (.long vu), .second, .val (.long (0 : Int64)), .second, .val (.long vq), .second, .unset, .unset] [(.int (9 : Int32)), (.int (p3 &&& (2147483647 : Int32))), (.long (1 : Int64))])) t
      refine iremM X11 hx rfl (hb hby at_122) rfl (by decide) ?_
      show Steps p.tables e below (T11.setTop (mkF m 123 #[.val (.long q0), .second, .val (.long q1), .second, .val (.int p2), .val (.int p3), .val (.ref b1), .val (.int vd), .val (.long vu), .second, .val (.long (0 : Int64)), .second, .val (.long vq), .second, .unset, .unset] [(.int ((p3 &&& (2147483647 : Int32)) % (9 : Int32))), (.long (1 : Int64))])) t
      refine XS.i2l X11.here hx rfl (hb hby at_123) rfl ?_
      show Steps p.tables e below (T11.setTop (mkF m 124 #[.val (.long q0), .second, .val (.long q1), .second, .val (.int p2), .val (.int p3), .val (.ref b1), .val (.int vd), .val (.long vu), .second, .val (.long (0 : Int64)), .second, .val (.long vq), .second, .unset, .unset] [(.long (((p3 &&& (2147483647 : Int32)) % (9 : Int32)).toInt64)), (.long (1 : Int64))])) t
      refine XS.ladd X11.here hx rfl (hb hby at_124) rfl ?_
      show Steps p.tables e below (T11.setTop (mkF m 125 #[.val (.long q0), .second, .val (.long q1), .second, .val (.int p2), .val (.int p3), .val (.ref b1), .val (.int vd), .val (.long vu), .second, .val (.long (0 : Int64)), .second, .val (.long vq), .second, .unset, .unset] [(.long ((1 : Int64) + (((p3 &&& (2147483647 : Int32)) % (9 : Int32)).toInt64)))])) t
      refine XS.lstore X11.here hx rfl (hb hby at_125) rfl (l' := #[.val (.long q0), .second, .val (.long q1), .second, .val (.int p2), .val (.int p3), .val (.ref b1), .val (.int vd), .val (.long vu), .second, .val (.long (0 : Int64)), .second, .val (.long vq), .second, .val (.long ((1 : Int64) + (((p3 &&& (2147483647 : Int32)) % (9 : Int32)).toInt64))), .second]) rfl ?_
      exact kt
    generalize h_vr : ((1 : Int64) + (((p3 &&& (2147483647 : Int32)) % (9 : Int32)).toInt64)) = vr
    have hr := own_r p3
    rw [h_vr] at hr
    refine own_by (A' := T11.setTop (mkF m 143 #[.val (.long q0), .second, .val (.long q1), .second, .val (.int p2), .val (.int p3), .val (.ref b1), .val (.int vd), .val (.long vu), .second, .val (.long (0 : Int64)), .second, .val (.long vq), .second, .val (.long vr), .second] [(.int ((9 : Int32) - vd)), (.ref b1), (.long ((vq * (10 : Int64)) + vr))])) (fun t kt => ?_) ?_
    · show Steps p.tables e below (T11.setTop (mkF m 127 #[.val (.long q0), .second, .val (.long q1), .second, .val (.int p2), .val (.int p3), .val (.ref b1), .val (.int vd), .val (.long vu), .second, .val (.long (0 : Int64)), .second, .val (.long vq), .second, .val (.long vr), .second] [])) t
      refine XS.lload X11.here hx rfl (hb hby at_127) rfl ?_
      show Steps p.tables e below (T11.setTop (mkF m 129 #[.val (.long q0), .second, .val (.long q1), .second, .val (.int p2), .val (.int p3), .val (.ref b1), .val (.int vd), .val (.long vu), .second, .val (.long (0 : Int64)), .second, .val (.long vq), .second, .val (.long vr), .second] [(.long vq)])) t
      refine X11.ldc2Long hx hown (mvT hZ (hw _ (List.mem_of_getElem? (i := 1) rfl))) (g := (mkF m 129 #[.val (.long q0), .second, .val (.long q1), .second, .val (.int p2), .val (.int p3), .val (.ref b1), .val (.int vd), .val (.long vu), .second, .val (.long (0 : Int64)), .second, .val (.long vq), .second, .val (.long vr), .second] [(.long vq)])) rfl (hb hby at_129) _ ?_
      show Steps p.tables e below (T11.setTop (mkF m 132 #[.val (.long q0), .second, .val (.long q1), .second, .val (.int p2), .val (.int p3), .val (.ref b1), .val (.int vd), .val (.long vu), .second, .val (.long (0 : Int64)), .second, .val (.long vq), .second, .val (.long vr), .second] [(.long (10 : Int64)), (.long vq)])) t
      refine XS.lmul X11.here hx rfl (hb hby at_132) rfl ?_
      show Steps p.tables e below (T11.setTop (mkF m 133 #[.val (.long q0), .second, .val (.long q1), .second, .val (.int p2), .val (.int p3), .val (.ref b1), .val (.int vd), .val (.long vu), .second, .val (.long (0 : Int64)), .second, .val (.long vq), .second, .val (.long vr), .second] [(.long (vq * (10 : Int64)))])) t
      refine XS.lload X11.here hx rfl (hb hby at_133) rfl ?_
      show Steps p.tables e below (T11.setTop (mkF m 135 #[.val (.long q0), .second, .val (.long q1), .second, .val (.int p2), .val (.int p3), .val (.ref b1), .val (.int vd), .val (.long vu), .second, .val (.long (0 : Int64)), .second, .val (.long vq), .second, .val (.long vr), .second] [(.long vr), (.long (vq * (10 : Int64)))])) t
      refine XS.ladd X11.here hx rfl (hb hby at_135) rfl ?_
      show Steps p.tables e below (T11.setTop (mkF m 136 #[.val (.long q0), .second, .val (.long q1), .second, .val (.int p2), .val (.int p3), .val (.ref b1), .val (.int vd), .val (.long vu), .second, .val (.long (0 : Int64)), .second, .val (.long vq), .second, .val (.long vr), .second] [(.long ((vq * (10 : Int64)) + vr))])) t
      refine XS.aload X11.here hx rfl (hb hby at_136) rfl rfl ?_
      show Steps p.tables e below (T11.setTop (mkF m 138 #[.val (.long q0), .second, .val (.long q1), .second, .val (.int p2), .val (.int p3), .val (.ref b1), .val (.int vd), .val (.long vu), .second, .val (.long (0 : Int64)), .second, .val (.long vq), .second, .val (.long vr), .second] [(.ref b1), (.long ((vq * (10 : Int64)) + vr))])) t
      refine XS.bipush X11.here hx rfl (hb hby at_138) ?_
      show Steps p.tables e below (T11.setTop (mkF m 140 #[.val (.long q0), .second, .val (.long q1), .second, .val (.int p2), .val (.int p3), .val (.ref b1), .val (.int vd), .val (.long vu), .second, .val (.long (0 : Int64)), .second, .val (.long vq), .second, .val (.long vr), .second] [(.int (9 : Int32)), (.ref b1), (.long ((vq * (10 : Int64)) + vr))])) t
      refine XS.iload X11.here hx rfl (hb hby at_140) rfl ?_
      show Steps p.tables e below (T11.setTop (mkF m 142 #[.val (.long q0), .second, .val (.long q1), .second, .val (.int p2), .val (.int p3), .val (.ref b1), .val (.int vd), .val (.long vu), .second, .val (.long (0 : Int64)), .second, .val (.long vq), .second, .val (.long vr), .second] [(.int vd), (.int (9 : Int32)), (.ref b1), (.long ((vq * (10 : Int64)) + vr))])) t
      refine XS.isub X11.here hx rfl (hb hby at_142) rfl ?_
      exact kt
    obtain ⟨cl15, Ar15, Sz15, Mn15, Ha15⟩ := id VE
    have hin15 := inb_of (j := ((9 : Int32) - vd)) Sz15 (own_ix9 hd)
    have hat15 : cl15.slots[(((9 : Int32) - vd)).toNatClampNeg]? = some (.long (own_pw ((9 : Int32) - vd).toNatClampNeg)) := (Ha15 _ (Nat.lt_of_not_le fun q => hin15 (Or.inr q))).trans (congrArg some rfl)
    refine own_by (A' := T11.setTop (mkF m 153 #[.val (.long q0), .second, .val (.long q1), .second, .val (.int p2), .val (.int p3), .val (.ref b1), .val (.int vd), .val (.long vu), .second, .val (.long (((vq * (10 : Int64)) + vr) * (own_pw ((9 : Int32) - vd).toNatClampNeg))), .second, .val (.long vq), .second, .val (.long vr), .second] [(.int (9 : Int32)), (.ref b1), (.long vu)])) (fun t kt => ?_) ?_
    · show Steps p.tables e below (T11.setTop (mkF m 143 #[.val (.long q0), .second, .val (.long q1), .second, .val (.int p2), .val (.int p3), .val (.ref b1), .val (.int vd), .val (.long vu), .second, .val (.long (0 : Int64)), .second, .val (.long vq), .second, .val (.long vr), .second] [(.int ((9 : Int32) - vd)), (.ref b1), (.long ((vq * (10 : Int64)) + vr))])) t
      refine X11.laload hx (j := ((9 : Int32) - vd)) (v := (.long (own_pw ((9 : Int32) - vd).toNatClampNeg))) (by rw [e11]; exact Ar15.1) (State.isArrayOf_alike hZ.alike Ar15.2.1) Ar15.2.2 hin15 hat15 (g := (mkF m 143 #[.val (.long q0), .second, .val (.long q1), .second, .val (.int p2), .val (.int p3), .val (.ref b1), .val (.int vd), .val (.long vu), .second, .val (.long (0 : Int64)), .second, .val (.long vq), .second, .val (.long vr), .second] [(.int ((9 : Int32) - vd)), (.ref b1), (.long ((vq * (10 : Int64)) + vr))])) rfl rfl (hb hby at_143) _ ?_
      show Steps p.tables e below (T11.setTop (mkF m 144 #[.val (.long q0), .second, .val (.long q1), .second, .val (.int p2), .val (.int p3), .val (.ref b1), .val (.int vd), .val (.long vu), .second, .val (.long (0 : Int64)), .second, .val (.long vq), .second, .val (.long vr), .second] [(.long (own_pw ((9 : Int32) - vd).toNatClampNeg)), (.long ((vq * (10 : Int64)) + vr))])) t
      refine XS.lmul X11.here hx rfl (hb hby at_144) rfl ?_
      show Steps p.tables e below (T11.setTop (mkF m 145 #[.val (.long q0), .second, .val (.long q1), .second, .val (.int p2), .val (.int p3), .val (.ref b1), .val (.int vd), .val (.long vu), .second, .val (.long (0 : Int64)), .second, .val (.long vq), .second, .val (.long vr), .second] [(.long (((vq * (10 : Int64)) + vr) * (own_pw ((9 : Int32) - vd).toNatClampNeg)))])) t
      refine XS.lstore X11.here hx rfl (hb hby at_145) rfl (l' := #[.val (.long q0), .second, .val (.long q1), .second, .val (.int p2), .val (.int p3), .val (.ref b1), .val (.int vd), .val (.long vu), .second, .val (.long (((vq * (10 : Int64)) + vr) * (own_pw ((9 : Int32) - vd).toNatClampNeg))), .second, .val (.long vq), .second, .val (.long vr), .second]) rfl ?_
      show Steps p.tables e below (T11.setTop (mkF m 147 #[.val (.long q0), .second, .val (.long q1), .second, .val (.int p2), .val (.int p3), .val (.ref b1), .val (.int vd), .val (.long vu), .second, .val (.long (((vq * (10 : Int64)) + vr) * (own_pw ((9 : Int32) - vd).toNatClampNeg))), .second, .val (.long vq), .second, .val (.long vr), .second] [])) t
      refine XS.lload X11.here hx rfl (hb hby at_147) rfl ?_
      show Steps p.tables e below (T11.setTop (mkF m 149 #[.val (.long q0), .second, .val (.long q1), .second, .val (.int p2), .val (.int p3), .val (.ref b1), .val (.int vd), .val (.long vu), .second, .val (.long (((vq * (10 : Int64)) + vr) * (own_pw ((9 : Int32) - vd).toNatClampNeg))), .second, .val (.long vq), .second, .val (.long vr), .second] [(.long vu)])) t
      refine XS.aload X11.here hx rfl (hb hby at_149) rfl rfl ?_
      show Steps p.tables e below (T11.setTop (mkF m 151 #[.val (.long q0), .second, .val (.long q1), .second, .val (.int p2), .val (.int p3), .val (.ref b1), .val (.int vd), .val (.long vu), .second, .val (.long (((vq * (10 : Int64)) + vr) * (own_pw ((9 : Int32) - vd).toNatClampNeg))), .second, .val (.long vq), .second, .val (.long vr), .second] [(.ref b1), (.long vu)])) t
      refine XS.bipush X11.here hx rfl (hb hby at_151) ?_
      exact kt
    obtain ⟨cl16, Ar16, Sz16, Mn16, Ha16⟩ := id VE
    have hin16 := inb_of (j := (9 : Int32)) Sz16 ⟨by decide, by decide⟩
    have hat16 : cl16.slots[((9 : Int32)).toNatClampNeg]? = some (.long (1000000000 : Int64)) := (Ha16 _ (Nat.lt_of_not_le fun q => hin16 (Or.inr q))).trans (congrArg some rfl)
    refine own_by (A' := T11.setTop (mkF m 162 #[.val (.long q0), .second, .val (.long q1), .second, .val (.int p2), .val (.int p3), .val (.ref b1), .val (.int vd), .val (.long vu), .second, .val (.long (((vq * (10 : Int64)) + vr) * (own_pw ((9 : Int32) - vd).toNatClampNeg))), .second, .val (.long ((vu * (1000000000 : Int64)) + (((vq * (10 : Int64)) + vr) * (own_pw ((9 : Int32) - vd).toNatClampNeg)))), .second, .val (.long vr), .second] [(.long ((vu * (1000000000 : Int64)) + (((vq * (10 : Int64)) + vr) * (own_pw ((9 : Int32) - vd).toNatClampNeg))))])) (fun t kt => ?_) ?_
    · show Steps p.tables e below (T11.setTop (mkF m 153 #[.val (.long q0), .second, .val (.long q1), .second, .val (.int p2), .val (.int p3), .val (.ref b1), .val (.int vd), .val (.long vu), .second, .val (.long (((vq * (10 : Int64)) + vr) * (own_pw ((9 : Int32) - vd).toNatClampNeg))), .second, .val (.long vq), .second, .val (.long vr), .second] [(.int (9 : Int32)), (.ref b1), (.long vu)])) t
      refine X11.laload hx (j := (9 : Int32)) (v := (.long (1000000000 : Int64))) (by rw [e11]; exact Ar16.1) (State.isArrayOf_alike hZ.alike Ar16.2.1) Ar16.2.2 hin16 hat16 (g := (mkF m 153 #[.val (.long q0), .second, .val (.long q1), .second, .val (.int p2), .val (.int p3), .val (.ref b1), .val (.int vd), .val (.long vu), .second, .val (.long (((vq * (10 : Int64)) + vr) * (own_pw ((9 : Int32) - vd).toNatClampNeg))), .second, .val (.long vq), .second, .val (.long vr), .second] [(.int (9 : Int32)), (.ref b1), (.long vu)])) rfl rfl (hb hby at_153) _ ?_
      show Steps p.tables e below (T11.setTop (mkF m 154 #[.val (.long q0), .second, .val (.long q1), .second, .val (.int p2), .val (.int p3), .val (.ref b1), .val (.int vd), .val (.long vu), .second, .val (.long (((vq * (10 : Int64)) + vr) * (own_pw ((9 : Int32) - vd).toNatClampNeg))), .second, .val (.long vq), .second, .val (.long vr), .second] [(.long (1000000000 : Int64)), (.long vu)])) t
      refine XS.lmul X11.here hx rfl (hb hby at_154) rfl ?_
      show Steps p.tables e below (T11.setTop (mkF m 155 #[.val (.long q0), .second, .val (.long q1), .second, .val (.int p2), .val (.int p3), .val (.ref b1), .val (.int vd), .val (.long vu), .second, .val (.long (((vq * (10 : Int64)) + vr) * (own_pw ((9 : Int32) - vd).toNatClampNeg))), .second, .val (.long vq), .second, .val (.long vr), .second] [(.long (vu * (1000000000 : Int64)))])) t
      refine XS.lload X11.here hx rfl (hb hby at_155) rfl ?_
      show Steps p.tables e below (T11.setTop (mkF m 157 #[.val (.long q0), .second, .val (.long q1), .second, .val (.int p2), .val (.int p3), .val (.ref b1), .val (.int vd), .val (.long vu), .second, .val (.long (((vq * (10 : Int64)) + vr) * (own_pw ((9 : Int32) - vd).toNatClampNeg))), .second, .val (.long vq), .second, .val (.long vr), .second] [(.long (((vq * (10 : Int64)) + vr) * (own_pw ((9 : Int32) - vd).toNatClampNeg))), (.long (vu * (1000000000 : Int64)))])) t
      refine XS.ladd X11.here hx rfl (hb hby at_157) rfl ?_
      show Steps p.tables e below (T11.setTop (mkF m 158 #[.val (.long q0), .second, .val (.long q1), .second, .val (.int p2), .val (.int p3), .val (.ref b1), .val (.int vd), .val (.long vu), .second, .val (.long (((vq * (10 : Int64)) + vr) * (own_pw ((9 : Int32) - vd).toNatClampNeg))), .second, .val (.long vq), .second, .val (.long vr), .second] [(.long ((vu * (1000000000 : Int64)) + (((vq * (10 : Int64)) + vr) * (own_pw ((9 : Int32) - vd).toNatClampNeg))))])) t
      refine XS.lstore X11.here hx rfl (hb hby at_158) rfl (l' := #[.val (.long q0), .second, .val (.long q1), .second, .val (.int p2), .val (.int p3), .val (.ref b1), .val (.int vd), .val (.long vu), .second, .val (.long (((vq * (10 : Int64)) + vr) * (own_pw ((9 : Int32) - vd).toNatClampNeg))), .second, .val (.long ((vu * (1000000000 : Int64)) + (((vq * (10 : Int64)) + vr) * (own_pw ((9 : Int32) - vd).toNatClampNeg)))), .second, .val (.long vr), .second]) rfl ?_
      show Steps p.tables e below (T11.setTop (mkF m 160 #[.val (.long q0), .second, .val (.long q1), .second, .val (.int p2), .val (.int p3), .val (.ref b1), .val (.int vd), .val (.long vu), .second, .val (.long (((vq * (10 : Int64)) + vr) * (own_pw ((9 : Int32) - vd).toNatClampNeg))), .second, .val (.long ((vu * (1000000000 : Int64)) + (((vq * (10 : Int64)) + vr) * (own_pw ((9 : Int32) - vd).toNatClampNeg)))), .second, .val (.long vr), .second] [])) t
      refine XS.lload X11.here hx rfl (hb hby at_160) rfl ?_
      exact kt
    obtain ⟨_, _, ⟨T17, L17, k17, n17⟩, -, X17, ⟨Lc17, hQ17, l17, y17, z17⟩, st17⟩ := Jvm.LawKit.callS X11 hx (y := (⟨"com/example/matchline/matchline/decimal/Nanos", "fractionDigits", "(J)I"⟩ : MethodName)) hown (mvT hZ (hw _ (List.mem_of_getElem? (i := 12) rfl))) (mvT hZ (hw _ (List.mem_of_getElem? (i := 13) rfl))) (mvT hZ (hw _ (List.mem_of_getElem? (i := 14) rfl))) (mvT hZ (hw _ (List.mem_of_getElem? (i := 15) rfl))) (by decide) (backOf (W := 0) (rm1 l Z aw hw [] ((vu * (1000000000 : Int64)) + (((vq * (10 : Int64)) + vr) * (own_pw ((9 : Int32) - vd).toNatClampNeg))) r h11 n0 (Nat.le_trans Z0 K11.1) (Sta.wr W11 (Sta.wr W10 (Sta.wr W9 (Sta.wr W8 (Sta.wr W7 (Sta.wr W6 (Sta.wr W5 (Sta.wr W4 (Sta.wr W3 (Sta.wr W2 (Sta.ext E1 S_P))))))))))) (((((((((((V_r.ext E1).other W2 (Nat.ne_of_lt (Nat.lt_of_lt_of_le (V_r).lt (Nat.le_of_eq g1.symm)))).other W3 (Nat.ne_of_lt (Nat.lt_of_lt_of_le (V_r).lt (Nat.le_of_eq g1.symm)))).other W4 (Nat.ne_of_lt (Nat.lt_of_lt_of_le (V_r).lt (Nat.le_of_eq g1.symm)))).other W5 (Nat.ne_of_lt (Nat.lt_of_lt_of_le (V_r).lt (Nat.le_of_eq g1.symm)))).other W6 (Nat.ne_of_lt (Nat.lt_of_lt_of_le (V_r).lt (Nat.le_of_eq g1.symm)))).other W7 (Nat.ne_of_lt (Nat.lt_of_lt_of_le (V_r).lt (Nat.le_of_eq g1.symm)))).other W8 (Nat.ne_of_lt (Nat.lt_of_lt_of_le (V_r).lt (Nat.le_of_eq g1.symm)))).other W9 (Nat.ne_of_lt (Nat.lt_of_lt_of_le (V_r).lt (Nat.le_of_eq g1.symm)))).other W10 (Nat.ne_of_lt (Nat.lt_of_lt_of_le (V_r).lt (Nat.le_of_eq g1.symm)))).other W11 (Nat.ne_of_lt (Nat.lt_of_lt_of_le (V_r).lt (Nat.le_of_eq g1.symm))))) hZ (hw _ (List.mem_of_getElem? (i := 15) rfl)) (hw _ (List.mem_of_getElem? (i := 14) rfl)) (by decide) (by decide)) (g := (mkF m 162 #[.val (.long q0), .second, .val (.long q1), .second, .val (.int p2), .val (.int p3), .val (.ref b1), .val (.int vd), .val (.long vu), .second, .val (.long (((vq * (10 : Int64)) + vr) * (own_pw ((9 : Int32) - vd).toNatClampNeg))), .second, .val (.long ((vu * (1000000000 : Int64)) + (((vq * (10 : Int64)) + vr) * (own_pw ((9 : Int32) - vd).toNatClampNeg)))), .second, .val (.long vr), .second] [(.long ((vu * (1000000000 : Int64)) + (((vq * (10 : Int64)) + vr) * (own_pw ((9 : Int32) - vd).toNatClampNeg))))])) rfl (by rw [hml]; rfl) (argsL := [(.long ((vu * (1000000000 : Int64)) + (((vq * (10 : Int64)) + vr) * (own_pw ((9 : Int32) - vd).toNatClampNeg))))]) (rest := []) (lenOf pd_2 rfl) rfl (by show 2 * 0 + _ ≤ _; exact Nat.le_of_eq rfl) (hb hby at_162) (fun _ _ => ⟨rfl, e11, (by decide : 1 + 0 ≤ _), (by decide : 10 + 0 ≤ _)⟩)
    dsimp only [Pt.U, Pt.locs, Pt.cells, Pt.slots] at X17 l17 y17 z17 st17 hQ17
    subst l17 y17 z17
    obtain ⟨rfl, N17q, e17⟩ := hQ17
    have N17 := Fr.app N11 N17q
    refine own_by (A' := T17.setTop (mkF m 165 #[.val (.long q0), .second, .val (.long q1), .second, .val (.int p2), .val (.int p3), .val (.ref b1), .val (.int vd), .val (.long vu), .second, .val (.long (((vq * (10 : Int64)) + vr) * (own_pw ((9 : Int32) - vd).toNatClampNeg))), .second, .val (.long ((vu * (1000000000 : Int64)) + (((vq * (10 : Int64)) + vr) * (own_pw ((9 : Int32) - vd).toNatClampNeg)))), .second, .val (.long vr), .second] [(.int (own_fd ((vu * (1000000000 : Int64)) + (((vq * (10 : Int64)) + vr) * (own_pw ((9 : Int32) - vd).toNatClampNeg)))))])) (fun t kt => st17 t kt) ?_
    refine own_by (A' := T17.setTop (mkF m 167 #[.val (.long q0), .second, .val (.long q1), .second, .val (.int p2), .val (.int p3), .val (.ref b1), .val (.int vd), .val (.long vu), .second, .val (.long (((vq * (10 : Int64)) + vr) * (own_pw ((9 : Int32) - vd).toNatClampNeg))), .second, .val (.long ((vu * (1000000000 : Int64)) + (((vq * (10 : Int64)) + vr) * (own_pw ((9 : Int32) - vd).toNatClampNeg)))), .second, .val (.long vr), .second] [(.int vd), (.int (own_fd ((vu * (1000000000 : Int64)) + (((vq * (10 : Int64)) + vr) * (own_pw ((9 : Int32) - vd).toNatClampNeg)))))])) (fun t kt => ?_) ?_
    · show Steps p.tables e below (T17.setTop (mkF m 165 #[.val (.long q0), .second, .val (.long q1), .second, .val (.int p2), .val (.int p3), .val (.ref b1), .val (.int vd), .val (.long vu), .second, .val (.long (((vq * (10 : Int64)) + vr) * (own_pw ((9 : Int32) - vd).toNatClampNeg))), .second, .val (.long ((vu * (1000000000 : Int64)) + (((vq * (10 : Int64)) + vr) * (own_pw ((9 : Int32) - vd).toNatClampNeg)))), .second, .val (.long vr), .second] [(.int (own_fd ((vu * (1000000000 : Int64)) + (((vq * (10 : Int64)) + vr) * (own_pw ((9 : Int32) - vd).toNatClampNeg)))))])) t
      refine XS.iload X17.here hx rfl (hb hby at_165) rfl ?_
      exact kt
    have hc167_18 : (own_fd ((vu * (1000000000 : Int64)) + (((vq * (10 : Int64)) + vr) * (own_pw ((9 : Int32) - vd).toNatClampNeg)))) = vd := own_dig vu vq vr vd hd hc96_13 hu hq hr
    refine own_by (A' := T17.setTop (mkF m 175 #[.val (.long q0), .second, .val (.long q1), .second, .val (.int p2), .val (.int p3), .val (.ref b1), .val (.int vd), .val (.long vu), .second, .val (.long (((vq * (10 : Int64)) + vr) * (own_pw ((9 : Int32) - vd).toNatClampNeg))), .second, .val (.long ((vu * (1000000000 : Int64)) + (((vq * (10 : Int64)) + vr) * (own_pw ((9 : Int32) - vd).toNatClampNeg)))), .second, .val (.long vr), .second] [(.int (1 : Int32))])) (fun t kt => ?_) ?_
    · show Steps p.tables e below (T17.setTop (mkF m 167 #[.val (.long q0), .second, .val (.long q1), .second, .val (.int p2), .val (.int p3), .val (.ref b1), .val (.int vd), .val (.long vu), .second, .val (.long (((vq * (10 : Int64)) + vr) * (own_pw ((9 : Int32) - vd).toNatClampNeg))), .second, .val (.long ((vu * (1000000000 : Int64)) + (((vq * (10 : Int64)) + vr) * (own_pw ((9 : Int32) - vd).toNatClampNeg)))), .second, .val (.long vr), .second] [(.int vd), (.int (own_fd ((vu * (1000000000 : Int64)) + (((vq * (10 : Int64)) + vr) * (own_pw ((9 : Int32) - vd).toNatClampNeg)))))])) t
      refine XS.icmpNo X17.here hx rfl (hb hby at_167) rfl (teq hc167_18).2 ?_
      show Steps p.tables e below (T17.setTop (mkF m 170 #[.val (.long q0), .second, .val (.long q1), .second, .val (.int p2), .val (.int p3), .val (.ref b1), .val (.int vd), .val (.long vu), .second, .val (.long (((vq * (10 : Int64)) + vr) * (own_pw ((9 : Int32) - vd).toNatClampNeg))), .second, .val (.long ((vu * (1000000000 : Int64)) + (((vq * (10 : Int64)) + vr) * (own_pw ((9 : Int32) - vd).toNatClampNeg)))), .second, .val (.long vr), .second] [])) t
      refine XS.iconst X17.here hx rfl (hb hby at_170) ?_
      show Steps p.tables e below (T17.setTop (mkF m 171 #[.val (.long q0), .second, .val (.long q1), .second, .val (.int p2), .val (.int p3), .val (.ref b1), .val (.int vd), .val (.long vu), .second, .val (.long (((vq * (10 : Int64)) + vr) * (own_pw ((9 : Int32) - vd).toNatClampNeg))), .second, .val (.long ((vu * (1000000000 : Int64)) + (((vq * (10 : Int64)) + vr) * (own_pw ((9 : Int32) - vd).toNatClampNeg)))), .second, .val (.long vr), .second] [(.int (1 : Int32))])) t
      refine XS.goto X17.here hx rfl (pc0 := 171) (pc' := 175) rfl (hb hby at_171) (by decide) (by decide) ?_
      exact kt
    obtain ⟨fs, hr, hrun, hended, hW, hsame⟩ := X17.leave (v := some (.int (1 : Int32))) (fun h => by rw [Bd.returns] at h; cases h)
    refine ⟨_, _, ?_, hrun, hended, _, _, rfl, ?_, ⟨_, rfl⟩, hW, hsame.mono (by decide) (by decide)⟩
    · exact retN X17 hx (t := .boolean) Bd.returns (by simp) (hb hby at_175) hr
    · show Q0 Z q0 q1 p2 p3 r h0 n0 _ T17.heap _
      rw [e17]
      exact ⟨rfl, N17⟩
  · refine own_by (A' := T11.setTop (mkF m 153 #[.val (.long q0), .second, .val (.long q1), .second, .val (.int p2), .val (.int p3), .val (.ref b1), .val (.int vd), .val (.long vu), .second, .val (.long (0 : Int64)), .second, .unset, .unset, .unset, .unset] [(.int (9 : Int32)), (.ref b1), (.long vu)])) (fun t kt => ?_) ?_
    · show Steps p.tables e below (T11.setTop (mkF m 96 #[.val (.long q0), .second, .val (.long q1), .second, .val (.int p2), .val (.int p3), .val (.ref b1), .val (.int vd), .val (.long vu), .second, .val (.long (0 : Int64)), .second, .unset, .unset, .unset, .unset] [(.int vd)])) t
      refine XS.ifYes X11.here hx rfl (pc0 := 96) (pc' := 147) rfl (hb hby at_96) rfl ((if0 _ _).trans (flt hc96_13).2.2.2) (by decide) (by decide) ?_
      show Steps p.tables e below (T11.setTop (mkF m 147 #[.val (.long q0), .second, .val (.long q1), .second, .val (.int p2), .val (.int p3), .val (.ref b1), .val (.int vd), .val (.long vu), .second, .val (.long (0 : Int64)), .second, .unset, .unset, .unset, .unset] [])) t
      refine XS.lload X11.here hx rfl (hb hby at_147) rfl ?_
      show Steps p.tables e below (T11.setTop (mkF m 149 #[.val (.long q0), .second, .val (.long q1), .second, .val (.int p2), .val (.int p3), .val (.ref b1), .val (.int vd), .val (.long vu), .second, .val (.long (0 : Int64)), .second, .unset, .unset, .unset, .unset] [(.long vu)])) t
      refine XS.aload X11.here hx rfl (hb hby at_149) rfl rfl ?_
      show Steps p.tables e below (T11.setTop (mkF m 151 #[.val (.long q0), .second, .val (.long q1), .second, .val (.int p2), .val (.int p3), .val (.ref b1), .val (.int vd), .val (.long vu), .second, .val (.long (0 : Int64)), .second, .unset, .unset, .unset, .unset] [(.ref b1), (.long vu)])) t
      refine XS.bipush X11.here hx rfl (hb hby at_151) ?_
      exact kt
    obtain ⟨cl19, Ar19, Sz19, Mn19, Ha19⟩ := id VE
    have hin19 := inb_of (j := (9 : Int32)) Sz19 ⟨by decide, by decide⟩
    have hat19 : cl19.slots[((9 : Int32)).toNatClampNeg]? = some (.long (1000000000 : Int64)) := (Ha19 _ (Nat.lt_of_not_le fun q => hin19 (Or.inr q))).trans (congrArg some rfl)
    refine own_by (A' := T11.setTop (mkF m 162 #[.val (.long q0), .second, .val (.long q1), .second, .val (.int p2), .val (.int p3), .val (.ref b1), .val (.int vd), .val (.long vu), .second, .val (.long (0 : Int64)), .second, .val (.long ((vu * (1000000000 : Int64)) + (0 : Int64))), .second, .unset, .unset] [(.long ((vu * (1000000000 : Int64)) + (0 : Int64)))])) (fun t kt => ?_) ?_
    · show Steps p.tables e below (T11.setTop (mkF m 153 #[.val (.long q0), .second, .val (.long q1), .second, .val (.int p2), .val (.int p3), .val (.ref b1), .val (.int vd), .val (.long vu), .second, .val (.long (0 : Int64)), .second, .unset, .unset, .unset, .unset] [(.int (9 : Int32)), (.ref b1), (.long vu)])) t
      refine X11.laload hx (j := (9 : Int32)) (v := (.long (1000000000 : Int64))) (by rw [e11]; exact Ar19.1) (State.isArrayOf_alike hZ.alike Ar19.2.1) Ar19.2.2 hin19 hat19 (g := (mkF m 153 #[.val (.long q0), .second, .val (.long q1), .second, .val (.int p2), .val (.int p3), .val (.ref b1), .val (.int vd), .val (.long vu), .second, .val (.long (0 : Int64)), .second, .unset, .unset, .unset, .unset] [(.int (9 : Int32)), (.ref b1), (.long vu)])) rfl rfl (hb hby at_153) _ ?_
      show Steps p.tables e below (T11.setTop (mkF m 154 #[.val (.long q0), .second, .val (.long q1), .second, .val (.int p2), .val (.int p3), .val (.ref b1), .val (.int vd), .val (.long vu), .second, .val (.long (0 : Int64)), .second, .unset, .unset, .unset, .unset] [(.long (1000000000 : Int64)), (.long vu)])) t
      refine XS.lmul X11.here hx rfl (hb hby at_154) rfl ?_
      show Steps p.tables e below (T11.setTop (mkF m 155 #[.val (.long q0), .second, .val (.long q1), .second, .val (.int p2), .val (.int p3), .val (.ref b1), .val (.int vd), .val (.long vu), .second, .val (.long (0 : Int64)), .second, .unset, .unset, .unset, .unset] [(.long (vu * (1000000000 : Int64)))])) t
      refine XS.lload X11.here hx rfl (hb hby at_155) rfl ?_
      show Steps p.tables e below (T11.setTop (mkF m 157 #[.val (.long q0), .second, .val (.long q1), .second, .val (.int p2), .val (.int p3), .val (.ref b1), .val (.int vd), .val (.long vu), .second, .val (.long (0 : Int64)), .second, .unset, .unset, .unset, .unset] [(.long (0 : Int64)), (.long (vu * (1000000000 : Int64)))])) t
      refine XS.ladd X11.here hx rfl (hb hby at_157) rfl ?_
      show Steps p.tables e below (T11.setTop (mkF m 158 #[.val (.long q0), .second, .val (.long q1), .second, .val (.int p2), .val (.int p3), .val (.ref b1), .val (.int vd), .val (.long vu), .second, .val (.long (0 : Int64)), .second, .unset, .unset, .unset, .unset] [(.long ((vu * (1000000000 : Int64)) + (0 : Int64)))])) t
      refine XS.lstore X11.here hx rfl (hb hby at_158) rfl (l' := #[.val (.long q0), .second, .val (.long q1), .second, .val (.int p2), .val (.int p3), .val (.ref b1), .val (.int vd), .val (.long vu), .second, .val (.long (0 : Int64)), .second, .val (.long ((vu * (1000000000 : Int64)) + (0 : Int64))), .second, .unset, .unset]) rfl ?_
      show Steps p.tables e below (T11.setTop (mkF m 160 #[.val (.long q0), .second, .val (.long q1), .second, .val (.int p2), .val (.int p3), .val (.ref b1), .val (.int vd), .val (.long vu), .second, .val (.long (0 : Int64)), .second, .val (.long ((vu * (1000000000 : Int64)) + (0 : Int64))), .second, .unset, .unset] [])) t
      refine XS.lload X11.here hx rfl (hb hby at_160) rfl ?_
      exact kt
    obtain ⟨_, _, ⟨T20, L20, k20, n20⟩, -, X20, ⟨Lc20, hQ20, l20, y20, z20⟩, st20⟩ := Jvm.LawKit.callS X11 hx (y := (⟨"com/example/matchline/matchline/decimal/Nanos", "fractionDigits", "(J)I"⟩ : MethodName)) hown (mvT hZ (hw _ (List.mem_of_getElem? (i := 12) rfl))) (mvT hZ (hw _ (List.mem_of_getElem? (i := 13) rfl))) (mvT hZ (hw _ (List.mem_of_getElem? (i := 14) rfl))) (mvT hZ (hw _ (List.mem_of_getElem? (i := 15) rfl))) (by decide) (backOf (W := 0) (rm1 l Z aw hw [] ((vu * (1000000000 : Int64)) + (0 : Int64)) r h11 n0 (Nat.le_trans Z0 K11.1) (Sta.wr W11 (Sta.wr W10 (Sta.wr W9 (Sta.wr W8 (Sta.wr W7 (Sta.wr W6 (Sta.wr W5 (Sta.wr W4 (Sta.wr W3 (Sta.wr W2 (Sta.ext E1 S_P))))))))))) (((((((((((V_r.ext E1).other W2 (Nat.ne_of_lt (Nat.lt_of_lt_of_le (V_r).lt (Nat.le_of_eq g1.symm)))).other W3 (Nat.ne_of_lt (Nat.lt_of_lt_of_le (V_r).lt (Nat.le_of_eq g1.symm)))).other W4 (Nat.ne_of_lt (Nat.lt_of_lt_of_le (V_r).lt (Nat.le_of_eq g1.symm)))).other W5 (Nat.ne_of_lt (Nat.lt_of_lt_of_le (V_r).lt (Nat.le_of_eq g1.symm)))).other W6 (Nat.ne_of_lt (Nat.lt_of_lt_of_le (V_r).lt (Nat.le_of_eq g1.symm)))).other W7 (Nat.ne_of_lt (Nat.lt_of_lt_of_le (V_r).lt (Nat.le_of_eq g1.symm)))).other W8 (Nat.ne_of_lt (Nat.lt_of_lt_of_le (V_r).lt (Nat.le_of_eq g1.symm)))).other W9 (Nat.ne_of_lt (Nat.lt_of_lt_of_le (V_r).lt (Nat.le_of_eq g1.symm)))).other W10 (Nat.ne_of_lt (Nat.lt_of_lt_of_le (V_r).lt (Nat.le_of_eq g1.symm)))).other W11 (Nat.ne_of_lt (Nat.lt_of_lt_of_le (V_r).lt (Nat.le_of_eq g1.symm))))) hZ (hw _ (List.mem_of_getElem? (i := 15) rfl)) (hw _ (List.mem_of_getElem? (i := 14) rfl)) (by decide) (by decide)) (g := (mkF m 162 #[.val (.long q0), .second, .val (.long q1), .second, .val (.int p2), .val (.int p3), .val (.ref b1), .val (.int vd), .val (.long vu), .second, .val (.long (0 : Int64)), .second, .val (.long ((vu * (1000000000 : Int64)) + (0 : Int64))), .second, .unset, .unset] [(.long ((vu * (1000000000 : Int64)) + (0 : Int64)))])) rfl (by rw [hml]; rfl) (argsL := [(.long ((vu * (1000000000 : Int64)) + (0 : Int64)))]) (rest := []) (lenOf pd_2 rfl) rfl (by show 2 * 0 + _ ≤ _; exact Nat.le_of_eq rfl) (hb hby at_162) (fun _ _ => ⟨rfl, e11, (by decide : 1 + 0 ≤ _), (by decide : 10 + 0 ≤ _)⟩)
    dsimp only [Pt.U, Pt.locs, Pt.cells, Pt.slots] at X20 l20 y20 z20 st20 hQ20
    subst l20 y20 z20
    obtain ⟨rfl, N20q, e20⟩ := hQ20
    have N20 := Fr.app N11 N20q
    refine own_by (A' := T20.setTop (mkF m 165 #[.val (.long q0), .second, .val (.long q1), .second, .val (.int p2), .val (.int p3), .val (.ref b1), .val (.int vd), .val (.long vu), .second, .val (.long (0 : Int64)), .second, .val (.long ((vu * (1000000000 : Int64)) + (0 : Int64))), .second, .unset, .unset] [(.int (own_fd ((vu * (1000000000 : Int64)) + (0 : Int64))))])) (fun t kt => st20 t kt) ?_
    refine own_by (A' := T20.setTop (mkF m 167 #[.val (.long q0), .second, .val (.long q1), .second, .val (.int p2), .val (.int p3), .val (.ref b1), .val (.int vd), .val (.long vu), .second, .val (.long (0 : Int64)), .second, .val (.long ((vu * (1000000000 : Int64)) + (0 : Int64))), .second, .unset, .unset] [(.int vd), (.int (own_fd ((vu * (1000000000 : Int64)) + (0 : Int64))))])) (fun t kt => ?_) ?_
    · show Steps p.tables e below (T20.setTop (mkF m 165 #[.val (.long q0), .second, .val (.long q1), .second, .val (.int p2), .val (.int p3), .val (.ref b1), .val (.int vd), .val (.long vu), .second, .val (.long (0 : Int64)), .second, .val (.long ((vu * (1000000000 : Int64)) + (0 : Int64))), .second, .unset, .unset] [(.int (own_fd ((vu * (1000000000 : Int64)) + (0 : Int64))))])) t
      refine XS.iload X20.here hx rfl (hb hby at_165) rfl ?_
      exact kt
    have hc167_21 : (own_fd ((vu * (1000000000 : Int64)) + (0 : Int64))) = vd := (own_zero vu hu).trans (Int32.toInt_inj.mp (by have q := hc96_13; rw [Int32.lt_iff_toInt_lt, show (0 : Int32).toInt = 0 from by decide] at q; rw [show (0 : Int32).toInt = 0 from by decide]; omega))
    refine own_by (A' := T20.setTop (mkF m 175 #[.val (.long q0), .second, .val (.long q1), .second, .val (.int p2), .val (.int p3), .val (.ref b1), .val (.int vd), .val (.long vu), .second, .val (.long (0 : Int64)), .second, .val (.long ((vu * (1000000000 : Int64)) + (0 : Int64))), .second, .unset, .unset] [(.int (1 : Int32))])) (fun t kt => ?_) ?_
    · show Steps p.tables e below (T20.setTop (mkF m 167 #[.val (.long q0), .second, .val (.long q1), .second, .val (.int p2), .val (.int p3), .val (.ref b1), .val (.int vd), .val (.long vu), .second, .val (.long (0 : Int64)), .second, .val (.long ((vu * (1000000000 : Int64)) + (0 : Int64))), .second, .unset, .unset] [(.int vd), (.int (own_fd ((vu * (1000000000 : Int64)) + (0 : Int64))))])) t
      refine XS.icmpNo X20.here hx rfl (hb hby at_167) rfl (teq hc167_21).2 ?_
      show Steps p.tables e below (T20.setTop (mkF m 170 #[.val (.long q0), .second, .val (.long q1), .second, .val (.int p2), .val (.int p3), .val (.ref b1), .val (.int vd), .val (.long vu), .second, .val (.long (0 : Int64)), .second, .val (.long ((vu * (1000000000 : Int64)) + (0 : Int64))), .second, .unset, .unset] [])) t
      refine XS.iconst X20.here hx rfl (hb hby at_170) ?_
      show Steps p.tables e below (T20.setTop (mkF m 171 #[.val (.long q0), .second, .val (.long q1), .second, .val (.int p2), .val (.int p3), .val (.ref b1), .val (.int vd), .val (.long vu), .second, .val (.long (0 : Int64)), .second, .val (.long ((vu * (1000000000 : Int64)) + (0 : Int64))), .second, .unset, .unset] [(.int (1 : Int32))])) t
      refine XS.goto X20.here hx rfl (pc0 := 171) (pc' := 175) rfl (hb hby at_171) (by decide) (by decide) ?_
      exact kt
    obtain ⟨fs, hr, hrun, hended, hW, hsame⟩ := X20.leave (v := some (.int (1 : Int32))) (fun h => by rw [Bd.returns] at h; cases h)
    refine ⟨_, _, ?_, hrun, hended, _, _, rfl, ?_, ⟨_, rfl⟩, hW, hsame.mono (by decide) (by decide)⟩
    · exact retN X20 hx (t := .boolean) Bd.returns (by simp) (hb hby at_175) hr
    · show Q0 Z q0 q1 p2 p3 r h0 n0 _ T20.heap _
      rw [e20]
      exact ⟨rfl, N20⟩
theorem own_len19 {Z : State} {args : Array Value} {t : Term} {r : Addr} {cl : Cell} (Ar : Arr Z Z.heap r cl .long) (ev : t.eval args Z none [] Z = some (.ref r)) (h : (Term.length t).eval args Z none [] Z = some (.int (19 : Int32))) : cl.slots.size = 19 := by
  obtain ⟨x, c, e1, e2, e3⟩ := Term.length_spec h
  obtain rfl : r = x := by cases ev.symm.trans e1; rfl
  have ec : c = cl := by
    have q := Ar.fin (Vm.Alike.refl _)
    exact Option.some.inj (e2.symm.trans q)
  subst ec
  have hb : c.slots.size < 2 ^ 31 := by
    refine Nat.lt_of_not_le fun q => ?_
    simp [Term.eval, ev, e2, Nat.not_lt.mpr q] at h
  have := len_toInt hb
  have e4 : (19 : Int32) = c.slots.size.toInt32 := Value.int.inj e3
  rw [← e4, show (19 : Int32).toInt = 19 from by decide] at this
  omega
set_option maxRecDepth 65536 in
set_option maxHeartbeats 40000000 in
theorem comes_1 {Post : Tables → Env → Array Value → State → Outcome → State → Prop} (hpost : ∀ tb e args s v u, (limb_1_1.after args s (.returned v) u = true ∧ limb_1_2.after args s (.returned v) u = true ∧ True) → FrameEnd s (.returned v) u (Jvm.fieldLocs frame_1_writes args s ++ Jvm.arrayLocs frame_1_arrays args s ++ Jvm.staticLocs frame_1_statics s) 16 128 → Post tb e args s (.returned v) u) :
    ArmFor flags0 classFile x code maxLocals ret World_1 tables_1 room_1 Calls_1 rest_1 Pre_1 Post := by
  intro l hfl _ _ p e ha hc hk s m args below hf hA hF happ hP
  obtain ⟨hcalls, hrest, hpre⟩ := hP
  obtain ⟨-, -, -, hnamed, -, -, -, hat⟩ := (Spec.applies_iff hf).mp happ
  obtain ⟨hg, hn⟩ := and_e (Cond.before_iff.mp (show (Jvm.Cond.and given_1 narrow_1).before args s = true from hpre))
  obtain ⟨ga1, ga2⟩ := and_e hg
  obtain ⟨ga3, ga4⟩ := and_e ga2
  obtain ⟨ga5, ga6⟩ := and_e ga4
  obtain ⟨ga7, ga8⟩ := and_e ga6
  obtain ⟨w0, w1, w2, w3, rfl⟩ : ∃ w0 w1 w2 w3 : Value, args = #[w0, w1, w2, w3] := by
    have hs : args.size = 4 := by simpa [Cond.value, given_1] using ga1
    obtain ⟨L⟩ := args
    match L, hs with
    | [w0, w1, w2, w3], _ => exact ⟨w0, w1, w2, w3, rfl⟩
  have hw := fun d (hd : d ∈ tables_1) => atoms_spec (ws := Jvm.Cond.code x code maxLocals ret :: tables_1) hat d (List.mem_cons_of_mem _ hd)
  have hfit : Fit s := fun {y c} hc i hi => by
    obtain ⟨ha, rfl⟩ := Array.getElem?_eq_some_iff.mp hc
    have q := List.all_eq_true.mp ((Array.all_eq_true_iff_forall_mem.mp hF) _ (Array.getElem_mem ha)) i (List.mem_range.mpr hi)
    simpa [Array.getElem?_eq_getElem hi] using q
  obtain ⟨gn1, gn2⟩ := and_e hn
  obtain ⟨gn3, gn4⟩ := and_e gn2
  obtain ⟨gn5, gn6⟩ := and_e gn4
  obtain ⟨gn7, gn8⟩ := and_e gn6
  obtain ⟨gn9, gn10⟩ := and_e gn8
  obtain ⟨gn11, gn12⟩ := and_e gn10
  obtain ⟨gn13, gn14⟩ := and_e gn12
  obtain ⟨gn15, gn16⟩ := and_e gn14
  obtain ⟨gn17, gn18⟩ := and_e gn16
  obtain ⟨gn19, gn20⟩ := and_e gn18
  obtain ⟨gn21, gn22⟩ := and_e gn20
  obtain ⟨gn23, gn24⟩ := and_e gn22
  obtain ⟨gn25, gn26⟩ := and_e gn24
  obtain ⟨gn27, gn28⟩ := and_e gn26
  obtain ⟨gn29, gn30⟩ := and_e gn28
  obtain ⟨gn31, gn32⟩ := and_e gn30
  obtain ⟨gn33, gn34⟩ := and_e gn32
  obtain ⟨gn35, gn36⟩ := and_e gn34
  obtain ⟨gn37, gn38⟩ := and_e gn36
  obtain ⟨gn39, gn40⟩ := and_e gn38
  have evL := eqv_i (Term.int_eval _) gn3
  obtain ⟨r, ev⟩ := len_v evL
  obtain ⟨cl, Ar⟩ := Arr.start ev gn1
  have S_P := Sta.start ev (Or.inr ⟨(hw _ (List.mem_of_getElem? (i := 14) rfl)), (hw _ (List.mem_of_getElem? (i := 18) rfl))⟩)
  have V_r : AF s s.heap r .long (19 : Int32) (fun i => .long (own_pw i)) := by
    have hs19 : cl.slots.size = 19 := own_len19 Ar ev evL
    refine ⟨cl, Ar, hs19, by decide, fun i hi => ?_⟩
    rw [hs19] at hi
    rcases (show i = 0 ∨ i = 1 ∨ i = 2 ∨ i = 3 ∨ i = 4 ∨ i = 5 ∨ i = 6 ∨ i = 7 ∨ i = 8 ∨ i = 9 ∨ i = 10 ∨ i = 11 ∨ i = 12 ∨ i = 13 ∨ i = 14 ∨ i = 15 ∨ i = 16 ∨ i = 17 ∨ i = 18 by omega) with rfl | rfl | rfl | rfl | rfl | rfl | rfl | rfl | rfl | rfl | rfl | rfl | rfl | rfl | rfl | rfl | rfl | rfl | rfl
    · exact (elem_in (eqv_l (long_at _) gn5) ev (Term.int_eval _) Ar.1).2
    · exact (elem_in (eqv_l (long_at _) gn7) ev (Term.int_eval _) Ar.1).2
    · exact (elem_in (eqv_l (long_at _) gn9) ev (Term.int_eval _) Ar.1).2
    · exact (elem_in (eqv_l (long_at _) gn11) ev (Term.int_eval _) Ar.1).2
    · exact (elem_in (eqv_l (long_at _) gn13) ev (Term.int_eval _) Ar.1).2
    · exact (elem_in (eqv_l (long_at _) gn15) ev (Term.int_eval _) Ar.1).2
    · exact (elem_in (eqv_l (long_at _) gn17) ev (Term.int_eval _) Ar.1).2
    · exact (elem_in (eqv_l (long_at _) gn19) ev (Term.int_eval _) Ar.1).2
    · exact (elem_in (eqv_l (long_at _) gn21) ev (Term.int_eval _) Ar.1).2
    · exact (elem_in (eqv_l (long_at _) gn23) ev (Term.int_eval _) Ar.1).2
    · exact (elem_in (eqv_l (long_at _) gn25) ev (Term.int_eval _) Ar.1).2
    · exact (elem_in (eqv_l (long_at _) gn27) ev (Term.int_eval _) Ar.1).2
    · exact (elem_in (eqv_l (long_at _) gn29) ev (Term.int_eval _) Ar.1).2
    · exact (elem_in (eqv_l (long_at _) gn31) ev (Term.int_eval _) Ar.1).2
    · exact (elem_in (eqv_l (long_at _) gn33) ev (Term.int_eval _) Ar.1).2
    · exact (elem_in (eqv_l (long_at _) gn35) ev (Term.int_eval _) Ar.1).2
    · exact (elem_in (eqv_l (long_at _) gn37) ev (Term.int_eval _) Ar.1).2
    · exact (elem_in (eqv_l (long_at _) gn39) ev (Term.int_eval _) Ar.1).2
    · exact (elem_in (eqv_l (long_at _) gn40) ev (Term.int_eval _) Ar.1).2
  obtain ⟨i0, ei0⟩ := isL_v ga3
  obtain rfl : w0 = (.long i0) := Option.some.inj ei0
  obtain ⟨i1, ei1⟩ := isL_v ga5
  obtain rfl : w1 = (.long i1) := Option.some.inj ei1
  obtain ⟨i2, ei2⟩ := is_v ga7
  obtain rfl : w2 = (.int i2) := Option.some.inj ei2
  obtain ⟨i3, ei3⟩ := is_v ga8
  obtain rfl : w3 = (.int i3) := Option.some.inj ei3
  obtain ⟨n, o, h1, h2, h3, _, L, rfl, ⟨rfl, N⟩, hq⟩ := rm0 l s _ hw tables_1 i0 i1 i2 i3 r s.heap s.heap.size (Nat.le_refl _) S_P V_r p e ha hc hk s m _ below hf ((Spec.applies_iff_loose hf).mp happ).1 ⟨rfl, State.Warmed39.refl s, rfl⟩ trivial
  refine ⟨n, _, h1, h2, h3, hpost _ _ _ _ _ _ ⟨Cond.after_iff.mpr rfl, Cond.after_iff.mpr (eq_i res_at (Term.int_eval (1)) rfl), trivial⟩ ⟨hq.1, hq.2.1, (hq.2.2.sift fun y hy => Or.inr (N y hy)).mono (by decide) (by decide)⟩⟩
theorem main_1_1 : Claimed_1_1 := comes_1 fun _ _ _ _ _ _ h hF => ⟨h.1, hF⟩
theorem main_1_2 : Claimed_1_2 := comes_1 fun _ _ _ _ _ _ h hF => ⟨h.2.1, hF⟩
end Jvm.Pilot.@@N@@
namespace Jvm.Pilot.@@N@@
open Jvm Jvm.ClassFile Sem Op Lib Jvm.Free Jvm.Stand Jvm.Pilot.@@N@@.Jvm.D
/-! MADE BY PROGRAM (witnessworld.py) out of the Statement's table words and the real class files: 11 classes; the members and pool entries that the words name. The judged class is class 1, her method 1. -/
namespace start1
open Jvm.ClassFile
def u (s : String) : CpInfo := .utf8 (stringToUtf16 s)
/-- a pool by its gaps: so many unusable entries, then the entry; so many at the end -/
def gap : Nat → List CpInfo → List CpInfo
  | 0, r => r
  | n + 1, r => .unusable :: gap n r
def poolList (es : List (Nat × CpInfo)) (last : Nat) : List CpInfo := es.foldr (fun e r => gap e.1 (e.2 :: r)) (gap last [])
def pool (es : List (Nat × CpInfo)) (last : Nat) : Array CpInfo := ⟨poolList es last⟩
def fileOf (pool : Array CpInfo) (this : Nat) (attrs : Array Attribute := #[]) (ms : Array MethodInfo := #[]) (fl : Nat := 33) (sup : Nat := 0) (ifs : Array Nat := #[]) (fds : Array FieldInfo := #[]) : ClassFile where
  minorVersion := 0
  majorVersion := 65
  constantPool := pool
  accessFlags := fl
  thisClass := this
  superClass := sup
  interfaces := ifs
  fields := fds
  methods := ms
  attributes := attrs
def plain (name : String) (sup : Option ClassId) : Class where
  name := name
  kind := .ordinary
  loader := none
  accessFlags := 33
  super := sup
  interfaces := #[]
  cf := none
  fields := #[]
  methods := #[]
  instanceTypes := #[]
  staticTypes := #[]
  resolved := #[]
  callSites := []
  init := .initialized
  statics := none
  mirror := none

def pool0 : Array CpInfo := pool [(5, u "<init>"), (0, u "()V"), (1, .class_ 10), (1, u "java/lang/Object")] 113

def k0m0 : Method := { name := "<init>", desc := "()V", sig := { parameters := [], returnType := none }, accessFlags := 1, code := none }
/-- java/lang/Object -/
def k0 : Class := { plain "java/lang/Object" none with
  accessFlags := 33
  interfaces := #[]
  cf := some (fileOf pool0 8 #[] #[{ accessFlags := 1, nameIndex := 5, descriptorIndex := 6, attributes := #[] }] 33 0 #[] #[])
  fields := #[]
  methods := #[k0m0]
  instanceTypes := #[]
  staticTypes := #[]
  resolved := Array.replicate 124 none
  statics := none }

def pool1 : Array CpInfo := pool [(2, .class_ 4), (1, u "java/lang/Object"), (0, u "<init>"), (0, u "()V"), (0, .long 10), (1, .long 100), (1, .long 1000), (1, .long 10000), (1, .long 100000), (1, .long 1000000), (1, .long 10000000), (1, .long 100000000), (1, .long 1000000000), (1, .integer 2147483647), (2, .long 9223372036854775807), (1, .methodref 31 32), (0, .class_ 33), (0, .nameAndType 34 35), (0, u "com/example/matchline/matchline/decimal/Nanos"), (0, u "fractionDigits"), (0, u "(J)I"), (0, .class_ 37), (0, u "com/example/matchline/matchline/decimal/NanosFractionDigitsPinLaw"), (2, u "law"), (0, u "(JJII)Z")] 5

def k1m0 : Method := { name := "<init>", desc := "()V", sig := { parameters := [], returnType := none }, accessFlags := 1, code := none }
def k1c1 : Code := { maxStack := 5, maxLocals := 16, code := code, exceptionTable := #[], attributes := #[] }
def k1m1 : Method := { name := "law", desc := "(JJII)Z", sig := { parameters := [.long, .long, .int, .int], returnType := some .boolean }, accessFlags := 9, code := some k1c1 }
/-- com/example/matchline/matchline/decimal/NanosFractionDigitsPinLaw -/
def k1 : Class := { plain "com/example/matchline/matchline/decimal/NanosFractionDigitsPinLaw" (some 0) with
  accessFlags := 49
  interfaces := #[]
  cf := some (fileOf pool1 36 #[] #[{ accessFlags := 1, nameIndex := 5, descriptorIndex := 6, attributes := #[] }, { accessFlags := 9, nameIndex := 40, descriptorIndex := 41, attributes := #[] }] 49 2 #[] #[])
  fields := #[]
  methods := #[k1m0, k1m1]
  instanceTypes := #[]
  staticTypes := #[]
  resolved := Array.replicate 47 none
  statics := none }

def pool2 : Array CpInfo := pool [(2, .class_ 4), (1, u "java/lang/Object"), (0, u "<init>"), (0, u "()V"), (2, .class_ 10), (0, u "com/example/matchline/matchline/decimal/Nanos"), (0, .long 1000000000), (38, .fieldref 9 51), (0, .nameAndType 52 53), (0, u "POWERS_OF_TEN"), (0, u "[J"), (2, u "fractionDigits"), (0, u "(J)I"), (22, u "LOW_LIMIT"), (0, u "J"), (1, u "FRACTION_DIGITS"), (0, u "I"), (1, u "PER_UNIT"), (0, u "UNITS_PER_HIGH")] 36

def k2m0 : Method := { name := "<init>", desc := "()V", sig := { parameters := [], returnType := none }, accessFlags := 2, code := none }
def k2c1 : Code := { maxStack := 5, maxLocals := 5, code := prog_1_method_14_code, exceptionTable := #[], attributes := #[] }
def k2m1 : Method := { name := "fractionDigits", desc := "(J)I", sig := { parameters := [.long], returnType := some .int }, accessFlags := 9, code := some k2c1 }
/-- com/example/matchline/matchline/decimal/Nanos -/
def k2 : Class := { plain "com/example/matchline/matchline/decimal/Nanos" (some 0) with
  accessFlags := 49
  interfaces := #[]
  cf := some (fileOf pool2 9 #[] #[{ accessFlags := 2, nameIndex := 5, descriptorIndex := 6, attributes := #[] }, { accessFlags := 9, nameIndex := 56, descriptorIndex := 57, attributes := #[] }] 49 2 #[] #[{ accessFlags := 25, nameIndex := 80, descriptorIndex := 81, attributes := #[] }, { accessFlags := 25, nameIndex := 83, descriptorIndex := 84, attributes := #[] }, { accessFlags := 26, nameIndex := 86, descriptorIndex := 81, attributes := #[] }, { accessFlags := 26, nameIndex := 87, descriptorIndex := 81, attributes := #[] }, { accessFlags := 26, nameIndex := 52, descriptorIndex := 53, attributes := #[] }])
  fields := #[{ name := "LOW_LIMIT", type := .long, accessFlags := 25, slot := 0, constantValue := 0 }, { name := "FRACTION_DIGITS", type := .int, accessFlags := 25, slot := 1, constantValue := 0 }, { name := "PER_UNIT", type := .long, accessFlags := 26, slot := 2, constantValue := 0 }, { name := "UNITS_PER_HIGH", type := .long, accessFlags := 26, slot := 3, constantValue := 0 }, { name := "POWERS_OF_TEN", type := (.array .long), accessFlags := 26, slot := 4, constantValue := 0 }]
  methods := #[k2m0, k2m1]
  instanceTypes := #[]
  staticTypes := #[.long, .int, .long, .long, (.array .long)]
  resolved := Array.replicate 124 none
  statics := some 0 }

def pool3 : Array CpInfo := pool [(1, u "java/lang/Cloneable"), (0, .class_ 1), (0, u "java/lang/Object"), (0, .class_ 3)] 3

/-- java/lang/Cloneable -/
def k3 : Class := { plain "java/lang/Cloneable" (some 0) with
  accessFlags := 1537
  interfaces := #[]
  cf := some (fileOf pool3 2 #[] #[] 1537 4 #[] #[])
  fields := #[]
  methods := #[]
  instanceTypes := #[]
  staticTypes := #[]
  resolved := Array.replicate 8 none
  statics := none }

def pool4 : Array CpInfo := pool [(1, u "java/io/Serializable"), (0, .class_ 1), (0, u "java/lang/Object"), (0, .class_ 3)] 3

/-- java/io/Serializable -/
def k4 : Class := { plain "java/io/Serializable" (some 0) with
  accessFlags := 1537
  interfaces := #[]
  cf := some (fileOf pool4 2 #[] #[] 1537 4 #[] #[])
  fields := #[]
  methods := #[]
  instanceTypes := #[]
  staticTypes := #[]
  resolved := Array.replicate 8 none
  statics := none }

/-- the primitive byte -/
def k5 : Class := { plain "byte" none with kind := .primitive 'B', accessFlags := 0x411 }
/-- [B -/
def k6 : Class := { plain "[B" (some 0) with kind := .array 5 .byte, interfaces := #[3, 4], accessFlags := 1041 }

/-- the primitive int -/
def k7 : Class := { plain "int" none with kind := .primitive 'I', accessFlags := 0x411 }
/-- [I -/
def k8 : Class := { plain "[I" (some 0) with kind := .array 7 .int, interfaces := #[3, 4], accessFlags := 1041 }

/-- the primitive long -/
def k9 : Class := { plain "long" none with kind := .primitive 'J', accessFlags := 0x411 }
/-- [J -/
def k10 : Class := { plain "[J" (some 0) with kind := .array 9 .long, interfaces := #[3, 4], accessFlags := 1041 }

def heap : Heap := #[{ cls := 2, slots := #[.long 0, .int 0, .long 0, .long 0, .ref 1], vm := .statics 2 },
  { cls := 10, slots := #[.long 1, .long 10, .long 100, .long 1000, .long 10000, .long 100000, .long 1000000, .long 10000000, .long 100000000, .long 1000000000, .long 10000000000, .long 100000000000, .long 1000000000000, .long 10000000000000, .long 100000000000000, .long 1000000000000000, .long 10000000000000000, .long 100000000000000000, .long 1000000000000000000], vm := .none }]
def classes : Array Class := #[k0, k1, k2, k3, k4, k5, k6, k7, k8, k9, k10]
def interned : List (Array UInt16 × Addr) := []
def slotsUsed : Nat := 24
def theMethod : MethodId := ⟨1, 1⟩
def args0 : Array Value := #[.long 7, .long 9, .int 5, .int 3]
def aboutOver (below : List Frame) : State where
  vm := { classes := classes, interned := interned.toArray }
  heap := heap
  slotsUsed := slotsUsed
  threads := #[{ frames := .invoking theMethod args0 :: below }]
def below0 : List Frame := [.native { method := ⟨0, 0⟩, args := #[] }]
def about1 : State := aboutOver below0
def p0 : Program := .bare "" "" ""
def e0 : Env := launch0.env 0 0 0
theorem w_frames : about1.frames = Frame.invoking theMethod args0 :: below0 := rfl
set_option maxRecDepth 65536 in
theorem w_args : argsFit about1.vm theMethod args0 = true := by decide +kernel
set_option maxRecDepth 65536 in
theorem w_heap : heapFits about1 = true := by decide +kernel
set_option maxRecDepth 65536 in
theorem w_runnable : about1.curStatus? = some .runnable := by decide +kernel
set_option maxRecDepth 65536 in
theorem w_alone : about1.alone = true := by decide +kernel
set_option maxRecDepth 65536 in
theorem w_named : about1.methodNamed? x = some theMethod := by decide +kernel
set_option maxRecDepth 65536 in
theorem w_hears : about1.hears theMethod below0 = true := by decide +kernel
set_option maxRecDepth 65536 in
theorem w_ripe : about1.ripe theMethod args0 below0 = true := by decide +kernel
theorem w_running : about1.status = .running := rfl
set_option maxRecDepth 65536 in
theorem w_room : about1.hasRoom e0.platform room_1 = true :=
  launch0.hasRoom_least _ room_1 (by decide +kernel) (by decide +kernel) (by decide +kernel) (by decide +kernel) (by decide +kernel) (by decide +kernel)
theorem allAtoms_all (ts : List Jvm.Cond) (a : Array Jvm.Value) (st : Jvm.State) : (allAtoms ts).before a st = ts.all (fun c => c.before a st) := by
  induction ts with
  | nil => rfl
  | cons c t ih =>
    show (Jvm.Cond.and c (allAtoms t)).before a st = _
    rw [Jvm.Cond.before_and, ih, List.all_cons]
def words1 : List Jvm.Cond := Jvm.Cond.code x code maxLocals ret :: tables_1
/-- a 'code' word, met by the world's own term for the bytes: nothing is compared byte by byte -/
theorem code_word {y : MethodName} {bytes : ByteArray} {mx : Nat} {rt : Option FieldType} {a : Array Value} {s : State} {m : MethodId} {meth : Method} {c : Code} (h1 : s.methodNamed? y = some m) (h2 : s.vm.method? m = some meth) (h3 : meth.code = some c) (h4 : c.code = bytes)
    (h5 : (c.maxLocals == mx && c.exceptionTable.isEmpty && decide (c.maxStack ≤ mostOperands) && decide (meth.sig.returnType = rt) && !meth.locks && decide (parseMethodDescriptor y.desc = some meth.sig)) = true) : (Jvm.Cond.code y bytes mx rt).before a s = true := by
  simp only [Bool.and_eq_true, beq_iff_eq, Bool.not_eq_true', decide_eq_true_eq] at h5
  obtain ⟨⟨⟨⟨⟨g1, g2⟩, g3⟩, g4⟩, g5⟩, g6⟩ := h5
  simp [Cond.before, Cond.holds, Cond.value, h1, h2, h3, h4, g1, g2, g3, g4, g5, g6]
def isCode : Jvm.Cond → Bool
  | .code _ _ _ _ => true
  | _ => false
theorem all_split {L : List Jvm.Cond} {P : Jvm.Cond → Bool} (h1 : L.all (fun c => isCode c || P c) = true) (h2 : ∀ c ∈ L.filter isCode, P c = true) : L.all P = true := by
  refine List.all_eq_true.mpr fun c hc => ?_
  have h := List.all_eq_true.mp h1 c hc
  rcases Bool.eq_false_or_eq_true (isCode c) with hi | hi
  · exact h2 c (List.mem_filter.mpr ⟨hc, hi⟩)
  · simpa [hi] using h
set_option maxRecDepth 65536 in
theorem w_c0 : (Jvm.Cond.code x code maxLocals ret).before args0 about1 = true := code_word (m := ⟨1, 1⟩) (meth := k1m1) (c := k1c1) (by decide +kernel) rfl rfl rfl (by decide +kernel)
set_option maxRecDepth 65536 in
theorem w_c1 : (Jvm.Cond.code ({ cls := "com/example/matchline/matchline/decimal/Nanos", name := "fractionDigits", desc := "(J)I" } : Jvm.MethodName) prog_1_method_14_code (5 : Nat) (Option.some Jvm.ClassFile.FieldType.int)).before args0 about1 = true := code_word (m := ⟨2, 1⟩) (meth := k2m1) (c := k2c1) (by decide +kernel) rfl rfl rfl (by decide +kernel)
def codes1 : List Jvm.Cond := [Jvm.Cond.code x code maxLocals ret, Jvm.Cond.code ({ cls := "com/example/matchline/matchline/decimal/Nanos", name := "fractionDigits", desc := "(J)I" } : Jvm.MethodName) prog_1_method_14_code (5 : Nat) (Option.some Jvm.ClassFile.FieldType.int)]
set_option maxRecDepth 65536 in
theorem codes_eq : words1.filter isCode = codes1 := rfl
theorem w_codes : ∀ c ∈ words1.filter isCode, c.before args0 about1 = true := by
  rw [codes_eq]
  intro c hc
  simp only [codes1, List.mem_cons, List.not_mem_nil, or_false] at hc
  rcases hc with rfl | rfl
  · exact w_c0
  · exact w_c1
set_option maxRecDepth 65536 in
theorem w_t1 : words1.all (fun c => isCode c || c.before args0 about1) = true := by decide +kernel
theorem w_tables : (allAtoms (Jvm.Cond.code x code maxLocals ret :: tables_1)).before args0 about1 = true := by
  rw [allAtoms_all]
  show words1.all (fun c => c.before args0 about1) = true
  refine all_split ?_ w_codes
  rw [w_t1]
set_option maxRecDepth 65536 in
theorem w_case : (Jvm.Cond.and given_1 narrow_1).before args0 about1 = true := by decide +kernel
theorem w_applies : (headSpec (Jvm.Cond.code x code maxLocals ret :: tables_1) room_1).applies x e0.platform about1 = true :=
  (Spec.applies_iff w_frames).mpr ⟨w_running, w_runnable, w_alone, w_named, w_hears, w_ripe, w_room, w_tables⟩
theorem atStart : AtStart classFile x code maxLocals ret World_1 tables_1 room_1 Calls_1 rest_1 Pre_1 launch0 p0 e0 about1 theMethod args0 below0 :=
  ⟨lists_1, trivial, launch0.admits_env _ _ _, launch0.least_env, fairChoices_fair.cas, fairChoices_fair.clock, w_frames, w_args, w_heap, w_applies, trivial, trivial, w_case⟩
end start1
theorem witness_1 : WitnessClaimed_1 := ⟨start1.p0, start1.e0, start1.about1, start1.theMethod, start1.args0, start1.below0, start1.atStart⟩
end Jvm.Pilot.@@N@@
