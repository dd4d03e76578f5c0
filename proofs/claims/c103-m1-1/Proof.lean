import JvmDerived
import JvmDerived.Pilot.@@N@@Statement
import JvmDerived.Pilot.@@N@@Code
set_option linter.unusedVariables false
set_option linter.unusedSimpArgs false
namespace Jvm.RoadKit
open Sem ClassFile Op Lib Jvm.Stand Jvm.Free Jvm.LawKit
section New
variable {p : Program} {l : Launch} {e : Env} {R : Room} {s : State} {m : MethodId} {args : Array Value} {below : List Frame} {meth : Method} {c : Code} {T : State} {locs : List Loc} {cells slots : Nat}
theorem retI (X : Stand p l e R s m args below meth c T locs cells slots) (hx : p.tables.exec = Jvm.exec) {pc : Nat} {Ls : Array Slot} {z : Int32} {rest : List Value} (hret : meth.sig.returnType = some .int) (hd : decode c.code pc = .ok (.ireturn, 1)) {fs : List Frame}
    (hl : ∀ (f : JFrame) (acts : List Action), f.method = m → f.locked = none → f.entered = [] → (doReturn e (T.setTop f) acts (some (.int z))).1 = T.setFrames fs) : Steps p.tables e below (T.setTop (mkF m pc Ls (.int z :: rest))) (T.setFrames fs) :=
  retOut X hx hret rfl (Or.inl ⟨rfl, Or.inl rfl, _, rfl⟩) hd hl
theorem own_retL (X : Stand p l e R s m args below meth c T locs cells slots) (hx : p.tables.exec = Jvm.exec) {pc : Nat} {Ls : Array Slot} {z : Int64} {rest : List Value} (hret : meth.sig.returnType = some .long) (hd : decode c.code pc = .ok (.lreturn, 1)) {fs : List Frame}
    (hl : ∀ (f : JFrame) (acts : List Action), f.method = m → f.locked = none → f.entered = [] → (doReturn e (T.setTop f) acts (some (.long z))).1 = T.setFrames fs) : Steps p.tables e below (T.setTop (mkF m pc Ls (.long z :: rest))) (T.setFrames fs) :=
  retOut X hx hret rfl (Or.inr (Or.inl ⟨rfl, rfl, _, rfl⟩)) hd hl
theorem own_retA (X : Stand p l e R s m args below meth c T locs cells slots) (hx : p.tables.exec = Jvm.exec) {pc : Nat} {Ls : Array Slot} {z : Addr} {rest : List Value} {t : FieldType} (hret : meth.sig.returnType = some t) (ht : t.isReference = true) (hd : decode c.code pc = .ok (.areturn, 1)) {fs : List Frame}
    (hl : ∀ (f : JFrame) (acts : List Action), f.method = m → f.locked = none → f.entered = [] → (doReturn e (T.setTop f) acts (some (.ref z))).1 = T.setFrames fs) : Steps p.tables e below (T.setTop (mkF m pc Ls (.ref z :: rest))) (T.setFrames fs) :=
  retOut X hx hret (by cases t <;> first | rfl | (cases ht; done)) (Or.inr (Or.inr (Or.inr (Or.inr ⟨rfl, ht, rfl⟩)))) hd hl
theorem own_lrem {g : JFrame} {target : State} (X : Stand p l e R s m args below meth c T locs cells slots) (hx : p.tables.exec = Jvm.exec) (hg : g.method = m) {x y : Int64} {rest : List Value} (hd : decode c.code g.pc = .ok (.lrem, 1)) (hs : g.stack = .long y :: .long x :: rest) (hy : y ≠ 0)
    (hr : Steps p.tables e below (T.setTop { g with pc := g.pc + 1, stack := .long (x % y) :: rest }) target) : Steps p.tables e below (T.setTop g) target :=
  XS.lrem X.here hx hg hd hs hy (by rw [lrem_mod]; exact hr)
theorem own_more (X : Stand p l e R s m args below meth c T locs cells slots) {cells' slots' : Nat} (h1 : cells ≤ cells') (h2 : slots ≤ slots') : Stand p l e R s m args below meth c T locs cells' slots' := { X with same := X.same.mono h1 h2 }
end New
/-- one step of a walk whose end is still to be found -/
theorem own_by {tb : Tables} {e : Env} {below : List Frame} {A A' : State} {P : State → Outcome → Prop} (k : ∀ t, Steps tb e below A' t → Steps tb e below A t) (h : ∃ s₂ o, Steps tb e below A' s₂ ∧ P s₂ o) : ∃ s₂ o, Steps tb e below A s₂ ∧ P s₂ o := by
  obtain ⟨s₂, o, h1, h2⟩ := h; exact ⟨s₂, o, k _ h1, h2⟩
theorem own_stp {tb : Tables} {e : Env} {below : List Frame} {A A' t : State} (k : ∀ t, Steps tb e below A' t → Steps tb e below A t) (h : Steps tb e below A' t) : Steps tb e below A t := k _ h
/-- all roads that meet again -/
theorem own_cut {tb : Tables} {e : Env} {below : List Frame} {A : State} {P : State → Outcome → Prop} {Φ : State → Prop} (h1 : (∀ A', Φ A' → ∃ s₂ o, Steps tb e below A' s₂ ∧ P s₂ o) → ∃ s₂ o, Steps tb e below A s₂ ∧ P s₂ o) (h2 : ∀ A', Φ A' → ∃ s₂ o, Steps tb e below A' s₂ ∧ P s₂ o) : ∃ s₂ o, Steps tb e below A s₂ ∧ P s₂ o := h1 h2
/-- an array: its kind, its length, and what each place holds -/
def AF (Z : State) (h : Heap) (a : Addr) (ty : FieldType) (n : Int32) (f : Nat → Value) : Prop := ∃ c : Cell, Arr Z h a c ty ∧ c.slots.size = n.toNatClampNeg ∧ ¬ n < 0 ∧ ∀ i, i < c.slots.size → c.slots[i]? = some (f i)
section AFs
variable {Z : State} {h h' : Heap} {a b : Addr} {ty : FieldType} {n : Int32} {f f' : Nat → Value} {v : Value} {sl : Nat} {ws : List Addr}
theorem AF.lt (F : AF Z h a ty n f) : a < h.size := by obtain ⟨c, A, -⟩ := F; exact A.lt
theorem AF.ext (F : AF Z h a ty n f) (E : Ext h h') : AF Z h' a ty n f := by obtain ⟨c, A, r⟩ := F; exact ⟨c, A.ext E, r⟩
theorem AF.other (F : AF Z h b ty n f) (W : Wr h h' a sl v) (q : b ≠ a) : AF Z h' b ty n f := by obtain ⟨c, A, r⟩ := F; exact ⟨c, A.other W q, r⟩
theorem AF.keep (F : AF Z h a ty n f) (K : Keep h h' ws) (q : a ∉ ws) : AF Z h' a ty n f := by obtain ⟨c, A, r⟩ := F; exact ⟨c, ⟨K.2.1 a c A.1 q, A.2⟩, r⟩
theorem AF.to (F : AF Z h a ty n f) (q : ∀ i, i < n.toNatClampNeg → f i = f' i) : AF Z h a ty n f' := by
  obtain ⟨c, A, S, M, H⟩ := F; exact ⟨c, A, S, M, fun i hi => by rw [← q i (S ▸ hi)]; exact H i hi⟩
theorem AF.new {k : ClassId} (A : Arr Z h a (newA k ty n) ty) (q : ¬ n < 0) : AF Z h a ty n (fun _ => defaultValue ty) := ⟨_, A, sz_new _ _ _, q, fun i hi => by rw [sz_new] at hi; simp [newA, hi]⟩
theorem AF.set {c : Cell} {j : Int32} (A : Arr Z h a c ty) (S : c.slots.size = n.toNatClampNeg) (M : ¬ n < 0) (H : ∀ i, i < c.slots.size → c.slots[i]? = some (f i)) (hj : ¬ (j < 0 ∨ c.slots.size ≤ j.toNatClampNeg)) (W : Wr h h' a j.toNatClampNeg v) :
    AF Z h' a ty n (fun i => if i = j.toNatClampNeg then v else f i) := by
  refine ⟨_, A.same W, by rw [sz_set]; exact S, M, fun i hi => ?_⟩
  rw [sz_set] at hi
  have hj' : j.toNatClampNeg < c.slots.size := Nat.lt_of_not_le fun q => hj (Or.inr q)
  by_cases u : i = j.toNatClampNeg
  · subst u; simp [Cell.setSlot, hj']
  · have := H i hi; simp only [Cell.setSlot, if_neg u]
    rw [Array.getElem?_setIfInBounds_ne (Ne.symm u)]; exact this
end AFs
end Jvm.RoadKit
namespace Jvm.Pilot.@@N@@
open Jvm Jvm.ClassFile Sem Op Lib Jvm.Free Jvm.Stand Jvm.LawKit Jvm.RoadKit Bundle Jvm.Pilot.@@N@@.Jvm.D
theorem wd0 {aw : Array Value} {Z : State} (hw : ∀ d ∈ tables_1, d.before aw Z = true) : (Jvm.Cond.methodLink "com/example/fairshed/fairshed/shedding/SicByTimeForgetPinLaw" (11 : Nat) ({ cls := "java/lang/Math", name := "max", desc := "(JJ)J" } : Jvm.MethodName)).before aw Z = true := hw _ (List.mem_of_getElem? (i := 0) rfl)
theorem wd1 {aw : Array Value} {Z : State} (hw : ∀ d ∈ tables_1, d.before aw Z = true) : (Jvm.Cond.static ({ cls := "java/lang/Math", name := "max", desc := "(JJ)J" } : Jvm.MethodName)).before aw Z = true := hw _ (List.mem_of_getElem? (i := 1) rfl)
theorem wd2 {aw : Array Value} {Z : State} (hw : ∀ d ∈ tables_1, d.before aw Z = true) : (Jvm.Cond.initialized "java/lang/Math").before aw Z = true := hw _ (List.mem_of_getElem? (i := 2) rfl)
theorem wd3 {aw : Array Value} {Z : State} (hw : ∀ d ∈ tables_1, d.before aw Z = true) : (Jvm.Cond.code ({ cls := "java/lang/Math", name := "max", desc := "(JJ)J" } : Jvm.MethodName) jdk_29_method_66_code (4 : Nat) (Option.some Jvm.ClassFile.FieldType.long)).before aw Z = true := hw _ (List.mem_of_getElem? (i := 3) rfl)
theorem wd4 {aw : Array Value} {Z : State} (hw : ∀ d ∈ tables_1, d.before aw Z = true) : (Jvm.Cond.classLink "com/example/fairshed/fairshed/shedding/SicByTimeForgetPinLaw" (17 : Nat) "com/example/fairshed/fairshed/shedding/SicByTime").before aw Z = true := hw _ (List.mem_of_getElem? (i := 4) rfl)
theorem wd5 {aw : Array Value} {Z : State} (hw : ∀ d ∈ tables_1, d.before aw Z = true) : (Jvm.Cond.instantiable "com/example/fairshed/fairshed/shedding/SicByTime" (8 : Nat)).before aw Z = true := hw _ (List.mem_of_getElem? (i := 5) rfl)
theorem wd6 {aw : Array Value} {Z : State} (hw : ∀ d ∈ tables_1, d.before aw Z = true) : (Jvm.Cond.initialized "com/example/fairshed/fairshed/shedding/SicByTime").before aw Z = true := hw _ (List.mem_of_getElem? (i := 6) rfl)
theorem wd7 {aw : Array Value} {Z : State} (hw : ∀ d ∈ tables_1, d.before aw Z = true) : (Jvm.Cond.methodLink "com/example/fairshed/fairshed/shedding/SicByTimeForgetPinLaw" (19 : Nat) ({ cls := "com/example/fairshed/fairshed/shedding/SicByTime", name := "<init>", desc := "()V" } : Jvm.MethodName)).before aw Z = true := hw _ (List.mem_of_getElem? (i := 7) rfl)
theorem wd8 {aw : Array Value} {Z : State} (hw : ∀ d ∈ tables_1, d.before aw Z = true) : (Jvm.Cond.instanceMethod ({ cls := "com/example/fairshed/fairshed/shedding/SicByTime", name := "<init>", desc := "()V" } : Jvm.MethodName)).before aw Z = true := hw _ (List.mem_of_getElem? (i := 8) rfl)
theorem wd9 {aw : Array Value} {Z : State} (hw : ∀ d ∈ tables_1, d.before aw Z = true) : (Jvm.Cond.code ({ cls := "com/example/fairshed/fairshed/shedding/SicByTime", name := "<init>", desc := "()V" } : Jvm.MethodName) prog_124_method_1_code (1 : Nat) (Option.none : Option Jvm.ClassFile.FieldType)).before aw Z = true := hw _ (List.mem_of_getElem? (i := 9) rfl)
theorem wd10 {aw : Array Value} {Z : State} (hw : ∀ d ∈ tables_1, d.before aw Z = true) : (Jvm.Cond.methodLink "com/example/fairshed/fairshed/shedding/SicByTime" (1 : Nat) ({ cls := "java/lang/Object", name := "<init>", desc := "()V" } : Jvm.MethodName)).before aw Z = true := hw _ (List.mem_of_getElem? (i := 10) rfl)
theorem wd11 {aw : Array Value} {Z : State} (hw : ∀ d ∈ tables_1, d.before aw Z = true) : (Jvm.Cond.instanceMethod ({ cls := "java/lang/Object", name := "<init>", desc := "()V" } : Jvm.MethodName)).before aw Z = true := hw _ (List.mem_of_getElem? (i := 11) rfl)
theorem wd12 {aw : Array Value} {Z : State} (hw : ∀ d ∈ tables_1, d.before aw Z = true) : (Jvm.Cond.code ({ cls := "java/lang/Object", name := "<init>", desc := "()V" } : Jvm.MethodName) object_method_1_code (1 : Nat) (Option.none : Option Jvm.ClassFile.FieldType)).before aw Z = true := hw _ (List.mem_of_getElem? (i := 12) rfl)
theorem wd13 {aw : Array Value} {Z : State} (hw : ∀ d ∈ tables_1, d.before aw Z = true) : (Jvm.Cond.arrayClass Jvm.ClassFile.FieldType.long).before aw Z = true := hw _ (List.mem_of_getElem? (i := 13) rfl)
theorem wd14 {aw : Array Value} {Z : State} (hw : ∀ d ∈ tables_1, d.before aw Z = true) : (Jvm.Cond.fieldLink "com/example/fairshed/fairshed/shedding/SicByTime" (9 : Nat) "com/example/fairshed/fairshed/shedding/SicByTime" "timesUs" "[J").before aw Z = true := hw _ (List.mem_of_getElem? (i := 14) rfl)
theorem wd15 {aw : Array Value} {Z : State} (hw : ∀ d ∈ tables_1, d.before aw Z = true) : (Jvm.Cond.lays "com/example/fairshed/fairshed/shedding/SicByTime" "com/example/fairshed/fairshed/shedding/SicByTime" "timesUs" "[J").before aw Z = true := hw _ (List.mem_of_getElem? (i := 15) rfl)
theorem wd16 {aw : Array Value} {Z : State} (hw : ∀ d ∈ tables_1, d.before aw Z = true) : (Jvm.Cond.arrayClass Jvm.ClassFile.FieldType.double).before aw Z = true := hw _ (List.mem_of_getElem? (i := 16) rfl)
theorem wd17 {aw : Array Value} {Z : State} (hw : ∀ d ∈ tables_1, d.before aw Z = true) : (Jvm.Cond.fieldLink "com/example/fairshed/fairshed/shedding/SicByTime" (13 : Nat) "com/example/fairshed/fairshed/shedding/SicByTime" "sics" "[D").before aw Z = true := hw _ (List.mem_of_getElem? (i := 17) rfl)
theorem wd18 {aw : Array Value} {Z : State} (hw : ∀ d ∈ tables_1, d.before aw Z = true) : (Jvm.Cond.lays "com/example/fairshed/fairshed/shedding/SicByTime" "com/example/fairshed/fairshed/shedding/SicByTime" "sics" "[D").before aw Z = true := hw _ (List.mem_of_getElem? (i := 18) rfl)
theorem wd19 {aw : Array Value} {Z : State} (hw : ∀ d ∈ tables_1, d.before aw Z = true) : (Jvm.Cond.fieldLink "com/example/fairshed/fairshed/shedding/SicByTime" (17 : Nat) "com/example/fairshed/fairshed/shedding/SicByTime" "summedTo" "I").before aw Z = true := hw _ (List.mem_of_getElem? (i := 19) rfl)
theorem wd20 {aw : Array Value} {Z : State} (hw : ∀ d ∈ tables_1, d.before aw Z = true) : (Jvm.Cond.lays "com/example/fairshed/fairshed/shedding/SicByTime" "com/example/fairshed/fairshed/shedding/SicByTime" "summedTo" "I").before aw Z = true := hw _ (List.mem_of_getElem? (i := 20) rfl)
theorem wd21 {aw : Array Value} {Z : State} (hw : ∀ d ∈ tables_1, d.before aw Z = true) : (Jvm.Cond.methodLink "com/example/fairshed/fairshed/shedding/SicByTimeForgetPinLaw" (38 : Nat) ({ cls := "com/example/fairshed/fairshed/shedding/SicByTime", name := "forget", desc := "(J)V" } : Jvm.MethodName)).before aw Z = true := hw _ (List.mem_of_getElem? (i := 21) rfl)
theorem wd22 {aw : Array Value} {Z : State} (hw : ∀ d ∈ tables_1, d.before aw Z = true) : (Jvm.Cond.declares ({ cls := "com/example/fairshed/fairshed/shedding/SicByTime", name := "forget", desc := "(J)V" } : Jvm.MethodName)).before aw Z = true := hw _ (List.mem_of_getElem? (i := 22) rfl)
theorem wd23 {aw : Array Value} {Z : State} (hw : ∀ d ∈ tables_1, d.before aw Z = true) : (Jvm.Cond.instanceMethod ({ cls := "com/example/fairshed/fairshed/shedding/SicByTime", name := "forget", desc := "(J)V" } : Jvm.MethodName)).before aw Z = true := hw _ (List.mem_of_getElem? (i := 23) rfl)
theorem wd24 {aw : Array Value} {Z : State} (hw : ∀ d ∈ tables_1, d.before aw Z = true) : (Jvm.Cond.selects "com/example/fairshed/fairshed/shedding/SicByTime" ({ cls := "com/example/fairshed/fairshed/shedding/SicByTime", name := "forget", desc := "(J)V" } : Jvm.MethodName) ({ cls := "com/example/fairshed/fairshed/shedding/SicByTime", name := "forget", desc := "(J)V" } : Jvm.MethodName)).before aw Z = true := hw _ (List.mem_of_getElem? (i := 24) rfl)
theorem wd25 {aw : Array Value} {Z : State} (hw : ∀ d ∈ tables_1, d.before aw Z = true) : (Jvm.Cond.code ({ cls := "com/example/fairshed/fairshed/shedding/SicByTime", name := "forget", desc := "(J)V" } : Jvm.MethodName) prog_124_method_3_code (3 : Nat) (Option.none : Option Jvm.ClassFile.FieldType)).before aw Z = true := hw _ (List.mem_of_getElem? (i := 25) rfl)
theorem wd26 {aw : Array Value} {Z : State} (hw : ∀ d ∈ tables_1, d.before aw Z = true) : (Jvm.Cond.fieldLink "com/example/fairshed/fairshed/shedding/SicByTime" (25 : Nat) "com/example/fairshed/fairshed/shedding/SicByTime" "first" "I").before aw Z = true := hw _ (List.mem_of_getElem? (i := 26) rfl)
theorem wd27 {aw : Array Value} {Z : State} (hw : ∀ d ∈ tables_1, d.before aw Z = true) : (Jvm.Cond.lays "com/example/fairshed/fairshed/shedding/SicByTime" "com/example/fairshed/fairshed/shedding/SicByTime" "first" "I").before aw Z = true := hw _ (List.mem_of_getElem? (i := 27) rfl)
theorem wd28 {aw : Array Value} {Z : State} (hw : ∀ d ∈ tables_1, d.before aw Z = true) : (Jvm.Cond.fieldLink "com/example/fairshed/fairshed/shedding/SicByTime" (28 : Nat) "com/example/fairshed/fairshed/shedding/SicByTime" "end" "I").before aw Z = true := hw _ (List.mem_of_getElem? (i := 28) rfl)
theorem wd29 {aw : Array Value} {Z : State} (hw : ∀ d ∈ tables_1, d.before aw Z = true) : (Jvm.Cond.lays "com/example/fairshed/fairshed/shedding/SicByTime" "com/example/fairshed/fairshed/shedding/SicByTime" "end" "I").before aw Z = true := hw _ (List.mem_of_getElem? (i := 29) rfl)
theorem wd30 {aw : Array Value} {Z : State} (hw : ∀ d ∈ tables_1, d.before aw Z = true) : (Jvm.Cond.fieldLink "com/example/fairshed/fairshed/shedding/SicByTime" (34 : Nat) "com/example/fairshed/fairshed/shedding/SicByTime" "summedFrom" "I").before aw Z = true := hw _ (List.mem_of_getElem? (i := 30) rfl)
theorem wd31 {aw : Array Value} {Z : State} (hw : ∀ d ∈ tables_1, d.before aw Z = true) : (Jvm.Cond.lays "com/example/fairshed/fairshed/shedding/SicByTime" "com/example/fairshed/fairshed/shedding/SicByTime" "summedFrom" "I").before aw Z = true := hw _ (List.mem_of_getElem? (i := 31) rfl)
theorem wd32 {aw : Array Value} {Z : State} (hw : ∀ d ∈ tables_1, d.before aw Z = true) : (Jvm.Cond.methodLink "com/example/fairshed/fairshed/shedding/SicByTimeForgetPinLaw" (28 : Nat) ({ cls := "com/example/fairshed/fairshed/shedding/SicByTime", name := "between", desc := "(JJ)D" } : Jvm.MethodName)).before aw Z = true := hw _ (List.mem_of_getElem? (i := 32) rfl)
theorem wd33 {aw : Array Value} {Z : State} (hw : ∀ d ∈ tables_1, d.before aw Z = true) : (Jvm.Cond.declares ({ cls := "com/example/fairshed/fairshed/shedding/SicByTime", name := "between", desc := "(JJ)D" } : Jvm.MethodName)).before aw Z = true := hw _ (List.mem_of_getElem? (i := 33) rfl)
theorem wd34 {aw : Array Value} {Z : State} (hw : ∀ d ∈ tables_1, d.before aw Z = true) : (Jvm.Cond.instanceMethod ({ cls := "com/example/fairshed/fairshed/shedding/SicByTime", name := "between", desc := "(JJ)D" } : Jvm.MethodName)).before aw Z = true := hw _ (List.mem_of_getElem? (i := 34) rfl)
theorem wd35 {aw : Array Value} {Z : State} (hw : ∀ d ∈ tables_1, d.before aw Z = true) : (Jvm.Cond.selects "com/example/fairshed/fairshed/shedding/SicByTime" ({ cls := "com/example/fairshed/fairshed/shedding/SicByTime", name := "between", desc := "(JJ)D" } : Jvm.MethodName) ({ cls := "com/example/fairshed/fairshed/shedding/SicByTime", name := "between", desc := "(JJ)D" } : Jvm.MethodName)).before aw Z = true := hw _ (List.mem_of_getElem? (i := 35) rfl)
theorem wd36 {aw : Array Value} {Z : State} (hw : ∀ d ∈ tables_1, d.before aw Z = true) : (Jvm.Cond.code ({ cls := "com/example/fairshed/fairshed/shedding/SicByTime", name := "between", desc := "(JJ)D" } : Jvm.MethodName) prog_124_method_4_code (6 : Nat) (Option.some Jvm.ClassFile.FieldType.double)).before aw Z = true := hw _ (List.mem_of_getElem? (i := 36) rfl)
theorem wd37 {aw : Array Value} {Z : State} (hw : ∀ d ∈ tables_1, d.before aw Z = true) : (Jvm.Cond.methodLink "com/example/fairshed/fairshed/shedding/SicByTime" (21 : Nat) ({ cls := "com/example/fairshed/fairshed/shedding/SicByTime", name := "firstAfter", desc := "(J)I" } : Jvm.MethodName)).before aw Z = true := hw _ (List.mem_of_getElem? (i := 37) rfl)
theorem wd38 {aw : Array Value} {Z : State} (hw : ∀ d ∈ tables_1, d.before aw Z = true) : (Jvm.Cond.instanceMethod ({ cls := "com/example/fairshed/fairshed/shedding/SicByTime", name := "firstAfter", desc := "(J)I" } : Jvm.MethodName)).before aw Z = true := hw _ (List.mem_of_getElem? (i := 38) rfl)
theorem wd39 {aw : Array Value} {Z : State} (hw : ∀ d ∈ tables_1, d.before aw Z = true) : (Jvm.Cond.privateMethod ({ cls := "com/example/fairshed/fairshed/shedding/SicByTime", name := "firstAfter", desc := "(J)I" } : Jvm.MethodName)).before aw Z = true := hw _ (List.mem_of_getElem? (i := 39) rfl)
theorem wd40 {aw : Array Value} {Z : State} (hw : ∀ d ∈ tables_1, d.before aw Z = true) : (Jvm.Cond.code ({ cls := "com/example/fairshed/fairshed/shedding/SicByTime", name := "firstAfter", desc := "(J)I" } : Jvm.MethodName) prog_124_method_7_code (4 : Nat) (Option.some Jvm.ClassFile.FieldType.int)).before aw Z = true := hw _ (List.mem_of_getElem? (i := 40) rfl)
theorem wd41 {aw : Array Value} {Z : State} (hw : ∀ d ∈ tables_1, d.before aw Z = true) : (Jvm.Cond.fieldLink "com/example/fairshed/fairshed/shedding/SicByTime" (43 : Nat) "com/example/fairshed/fairshed/shedding/SicByTime" "summedFromUs" "J").before aw Z = true := hw _ (List.mem_of_getElem? (i := 41) rfl)
theorem wd42 {aw : Array Value} {Z : State} (hw : ∀ d ∈ tables_1, d.before aw Z = true) : (Jvm.Cond.lays "com/example/fairshed/fairshed/shedding/SicByTime" "com/example/fairshed/fairshed/shedding/SicByTime" "summedFromUs" "J").before aw Z = true := hw _ (List.mem_of_getElem? (i := 42) rfl)
theorem wd43 {aw : Array Value} {Z : State} (hw : ∀ d ∈ tables_1, d.before aw Z = true) : (Jvm.Cond.methodLink "com/example/fairshed/fairshed/shedding/SicByTime" (51 : Nat) ({ cls := "com/example/fairshed/fairshed/shedding/SicByTime", name := "sum", desc := "(DII)D" } : Jvm.MethodName)).before aw Z = true := hw _ (List.mem_of_getElem? (i := 43) rfl)
theorem wd44 {aw : Array Value} {Z : State} (hw : ∀ d ∈ tables_1, d.before aw Z = true) : (Jvm.Cond.instanceMethod ({ cls := "com/example/fairshed/fairshed/shedding/SicByTime", name := "sum", desc := "(DII)D" } : Jvm.MethodName)).before aw Z = true := hw _ (List.mem_of_getElem? (i := 44) rfl)
theorem wd45 {aw : Array Value} {Z : State} (hw : ∀ d ∈ tables_1, d.before aw Z = true) : (Jvm.Cond.privateMethod ({ cls := "com/example/fairshed/fairshed/shedding/SicByTime", name := "sum", desc := "(DII)D" } : Jvm.MethodName)).before aw Z = true := hw _ (List.mem_of_getElem? (i := 45) rfl)
theorem wd46 {aw : Array Value} {Z : State} (hw : ∀ d ∈ tables_1, d.before aw Z = true) : (Jvm.Cond.code ({ cls := "com/example/fairshed/fairshed/shedding/SicByTime", name := "sum", desc := "(DII)D" } : Jvm.MethodName) prog_124_method_6_code (6 : Nat) (Option.some Jvm.ClassFile.FieldType.double)).before aw Z = true := hw _ (List.mem_of_getElem? (i := 46) rfl)
theorem wd47 {aw : Array Value} {Z : State} (hw : ∀ d ∈ tables_1, d.before aw Z = true) : (Jvm.Cond.fieldLink "com/example/fairshed/fairshed/shedding/SicByTime" (47 : Nat) "com/example/fairshed/fairshed/shedding/SicByTime" "summed" "D").before aw Z = true := hw _ (List.mem_of_getElem? (i := 47) rfl)
theorem wd48 {aw : Array Value} {Z : State} (hw : ∀ d ∈ tables_1, d.before aw Z = true) : (Jvm.Cond.lays "com/example/fairshed/fairshed/shedding/SicByTime" "com/example/fairshed/fairshed/shedding/SicByTime" "summed" "D").before aw Z = true := hw _ (List.mem_of_getElem? (i := 48) rfl)
theorem wd49 {aw : Array Value} {Z : State} (hw : ∀ d ∈ tables_1, d.before aw Z = true) : (Jvm.Cond.methodLink "com/example/fairshed/fairshed/shedding/SicByTimeForgetPinLaw" (32 : Nat) ({ cls := "com/example/fairshed/fairshed/shedding/SicByTimeForgetPinLaw", name := "ref", desc := "(IJJJJJ)D" } : Jvm.MethodName)).before aw Z = true := hw _ (List.mem_of_getElem? (i := 49) rfl)
theorem wd50 {aw : Array Value} {Z : State} (hw : ∀ d ∈ tables_1, d.before aw Z = true) : (Jvm.Cond.static ({ cls := "com/example/fairshed/fairshed/shedding/SicByTimeForgetPinLaw", name := "ref", desc := "(IJJJJJ)D" } : Jvm.MethodName)).before aw Z = true := hw _ (List.mem_of_getElem? (i := 50) rfl)
theorem wd51 {aw : Array Value} {Z : State} (hw : ∀ d ∈ tables_1, d.before aw Z = true) : (Jvm.Cond.initialized "com/example/fairshed/fairshed/shedding/SicByTimeForgetPinLaw").before aw Z = true := hw _ (List.mem_of_getElem? (i := 51) rfl)
theorem wd52 {aw : Array Value} {Z : State} (hw : ∀ d ∈ tables_1, d.before aw Z = true) : (Jvm.Cond.code ({ cls := "com/example/fairshed/fairshed/shedding/SicByTimeForgetPinLaw", name := "ref", desc := "(IJJJJJ)D" } : Jvm.MethodName) method_3_code (13 : Nat) (Option.some Jvm.ClassFile.FieldType.double)).before aw Z = true := hw _ (List.mem_of_getElem? (i := 52) rfl)
theorem wd53 {aw : Array Value} {Z : State} (hw : ∀ d ∈ tables_1, d.before aw Z = true) : (Jvm.Cond.constantLong "com/example/fairshed/fairshed/shedding/SicByTimeForgetPinLaw" (7 : Nat) (15 : Int64)).before aw Z = true := hw _ (List.mem_of_getElem? (i := 53) rfl)
theorem wd54 {aw : Array Value} {Z : State} (hw : ∀ d ∈ tables_1, d.before aw Z = true) : (Jvm.Cond.constantLong "com/example/fairshed/fairshed/shedding/SicByTimeForgetPinLaw" (9 : Nat) (4 : Int64)).before aw Z = true := hw _ (List.mem_of_getElem? (i := 54) rfl)
theorem wd55 {aw : Array Value} {Z : State} (hw : ∀ d ∈ tables_1, d.before aw Z = true) : (Jvm.Cond.methodLink "com/example/fairshed/fairshed/shedding/SicByTimeForgetPinLaw" (20 : Nat) ({ cls := "com/example/fairshed/fairshed/shedding/SicByTime", name := "add", desc := "(JD)V" } : Jvm.MethodName)).before aw Z = true := hw _ (List.mem_of_getElem? (i := 55) rfl)
theorem wd56 {aw : Array Value} {Z : State} (hw : ∀ d ∈ tables_1, d.before aw Z = true) : (Jvm.Cond.declares ({ cls := "com/example/fairshed/fairshed/shedding/SicByTime", name := "add", desc := "(JD)V" } : Jvm.MethodName)).before aw Z = true := hw _ (List.mem_of_getElem? (i := 56) rfl)
theorem wd57 {aw : Array Value} {Z : State} (hw : ∀ d ∈ tables_1, d.before aw Z = true) : (Jvm.Cond.instanceMethod ({ cls := "com/example/fairshed/fairshed/shedding/SicByTime", name := "add", desc := "(JD)V" } : Jvm.MethodName)).before aw Z = true := hw _ (List.mem_of_getElem? (i := 57) rfl)
theorem wd58 {aw : Array Value} {Z : State} (hw : ∀ d ∈ tables_1, d.before aw Z = true) : (Jvm.Cond.selects "com/example/fairshed/fairshed/shedding/SicByTime" ({ cls := "com/example/fairshed/fairshed/shedding/SicByTime", name := "add", desc := "(JD)V" } : Jvm.MethodName) ({ cls := "com/example/fairshed/fairshed/shedding/SicByTime", name := "add", desc := "(JD)V" } : Jvm.MethodName)).before aw Z = true := hw _ (List.mem_of_getElem? (i := 58) rfl)
theorem wd59 {aw : Array Value} {Z : State} (hw : ∀ d ∈ tables_1, d.before aw Z = true) : (Jvm.Cond.code ({ cls := "com/example/fairshed/fairshed/shedding/SicByTime", name := "add", desc := "(JD)V" } : Jvm.MethodName) prog_124_method_2_code (6 : Nat) (Option.none : Option Jvm.ClassFile.FieldType)).before aw Z = true := hw _ (List.mem_of_getElem? (i := 59) rfl)
theorem wd60 {aw : Array Value} {Z : State} (hw : ∀ d ∈ tables_1, d.before aw Z = true) : (Jvm.Cond.methodLink "com/example/fairshed/fairshed/shedding/SicByTime" (37 : Nat) ({ cls := "java/lang/System", name := "arraycopy", desc := "(Ljava/lang/Object;ILjava/lang/Object;II)V" } : Jvm.MethodName)).before aw Z = true := hw _ (List.mem_of_getElem? (i := 60) rfl)
theorem wd61 {aw : Array Value} {Z : State} (hw : ∀ d ∈ tables_1, d.before aw Z = true) : (Jvm.Cond.static ({ cls := "java/lang/System", name := "arraycopy", desc := "(Ljava/lang/Object;ILjava/lang/Object;II)V" } : Jvm.MethodName)).before aw Z = true := hw _ (List.mem_of_getElem? (i := 61) rfl)
theorem wd62 {aw : Array Value} {Z : State} (hw : ∀ d ∈ tables_1, d.before aw Z = true) : (Jvm.Cond.initialized "java/lang/System").before aw Z = true := hw _ (List.mem_of_getElem? (i := 62) rfl)
theorem wd63 {aw : Array Value} {Z : State} (hw : ∀ d ∈ tables_1, d.before aw Z = true) : (Jvm.Cond.native ({ cls := "java/lang/System", name := "arraycopy", desc := "(Ljava/lang/Object;ILjava/lang/Object;II)V" } : Jvm.MethodName)).before aw Z = true := hw _ (List.mem_of_getElem? (i := 63) rfl)
theorem wd64 {aw : Array Value} {Z : State} (hw : ∀ d ∈ tables_1, d.before aw Z = true) : (Jvm.Cond.constantDouble "com/example/fairshed/fairshed/shedding/SicByTimeForgetPinLaw" (24 : Nat) (4611686018427387904 : UInt64)).before aw Z = true := hw _ (List.mem_of_getElem? (i := 64) rfl)
theorem wd65 {aw : Array Value} {Z : State} (hw : ∀ d ∈ tables_1, d.before aw Z = true) : (Jvm.Cond.constantDouble "com/example/fairshed/fairshed/shedding/SicByTimeForgetPinLaw" (26 : Nat) (4616189618054758400 : UInt64)).before aw Z = true := hw _ (List.mem_of_getElem? (i := 65) rfl)
theorem wd66 {aw : Array Value} {Z : State} (hw : ∀ d ∈ tables_1, d.before aw Z = true) : (Jvm.Cond.methodLink "com/example/fairshed/fairshed/shedding/SicByTime" (63 : Nat) ({ cls := "java/util/Arrays", name := "binarySearch", desc := "([JIIJ)I" } : Jvm.MethodName)).before aw Z = true := hw _ (List.mem_of_getElem? (i := 66) rfl)
theorem wd67 {aw : Array Value} {Z : State} (hw : ∀ d ∈ tables_1, d.before aw Z = true) : (Jvm.Cond.static ({ cls := "java/util/Arrays", name := "binarySearch", desc := "([JIIJ)I" } : Jvm.MethodName)).before aw Z = true := hw _ (List.mem_of_getElem? (i := 67) rfl)
theorem wd68 {aw : Array Value} {Z : State} (hw : ∀ d ∈ tables_1, d.before aw Z = true) : (Jvm.Cond.initialized "java/util/Arrays").before aw Z = true := hw _ (List.mem_of_getElem? (i := 68) rfl)
theorem wd69 {aw : Array Value} {Z : State} (hw : ∀ d ∈ tables_1, d.before aw Z = true) : (Jvm.Cond.code ({ cls := "java/util/Arrays", name := "binarySearch", desc := "([JIIJ)I" } : Jvm.MethodName) jdk_65_method_55_code (5 : Nat) (Option.some Jvm.ClassFile.FieldType.int)).before aw Z = true := hw _ (List.mem_of_getElem? (i := 69) rfl)
theorem wd70 {aw : Array Value} {Z : State} (hw : ∀ d ∈ tables_1, d.before aw Z = true) : (Jvm.Cond.methodLink "java/util/Arrays" (13 : Nat) ({ cls := "java/util/Arrays", name := "rangeCheck", desc := "(III)V" } : Jvm.MethodName)).before aw Z = true := hw _ (List.mem_of_getElem? (i := 70) rfl)
theorem wd71 {aw : Array Value} {Z : State} (hw : ∀ d ∈ tables_1, d.before aw Z = true) : (Jvm.Cond.static ({ cls := "java/util/Arrays", name := "rangeCheck", desc := "(III)V" } : Jvm.MethodName)).before aw Z = true := hw _ (List.mem_of_getElem? (i := 71) rfl)
theorem wd72 {aw : Array Value} {Z : State} (hw : ∀ d ∈ tables_1, d.before aw Z = true) : (Jvm.Cond.code ({ cls := "java/util/Arrays", name := "rangeCheck", desc := "(III)V" } : Jvm.MethodName) jdk_65_method_30_code (3 : Nat) (Option.none : Option Jvm.ClassFile.FieldType)).before aw Z = true := hw _ (List.mem_of_getElem? (i := 72) rfl)
theorem wd73 {aw : Array Value} {Z : State} (hw : ∀ d ∈ tables_1, d.before aw Z = true) : (Jvm.Cond.methodLink "java/util/Arrays" (205 : Nat) ({ cls := "java/util/Arrays", name := "binarySearch0", desc := "([JIIJ)I" } : Jvm.MethodName)).before aw Z = true := hw _ (List.mem_of_getElem? (i := 73) rfl)
theorem wd74 {aw : Array Value} {Z : State} (hw : ∀ d ∈ tables_1, d.before aw Z = true) : (Jvm.Cond.static ({ cls := "java/util/Arrays", name := "binarySearch0", desc := "([JIIJ)I" } : Jvm.MethodName)).before aw Z = true := hw _ (List.mem_of_getElem? (i := 74) rfl)
theorem wd75 {aw : Array Value} {Z : State} (hw : ∀ d ∈ tables_1, d.before aw Z = true) : (Jvm.Cond.code ({ cls := "java/util/Arrays", name := "binarySearch0", desc := "([JIIJ)I" } : Jvm.MethodName) jdk_65_method_56_code (10 : Nat) (Option.some Jvm.ClassFile.FieldType.int)).before aw Z = true := hw _ (List.mem_of_getElem? (i := 75) rfl)
theorem sn15_18 {aw : Array Value} {Z : State} (hw : ∀ d ∈ tables_1, d.before aw Z = true) : Jvm.RoadKit.slotOf Z "com/example/fairshed/fairshed/shedding/SicByTime" "timesUs" "[J" ≠ Jvm.RoadKit.slotOf Z "com/example/fairshed/fairshed/shedding/SicByTime" "sics" "[D" := slot_ne (Or.inl (wd15 hw)) (Or.inl (wd18 hw)) (by decide) (t := (.array .long)) (t' := (.array .double)) (by decide) (by decide)
theorem sn15_20 {aw : Array Value} {Z : State} (hw : ∀ d ∈ tables_1, d.before aw Z = true) : Jvm.RoadKit.slotOf Z "com/example/fairshed/fairshed/shedding/SicByTime" "timesUs" "[J" ≠ Jvm.RoadKit.slotOf Z "com/example/fairshed/fairshed/shedding/SicByTime" "summedTo" "I" := slot_ne (Or.inl (wd15 hw)) (Or.inl (wd20 hw)) (by decide) (t := (.array .long)) (t' := .int) (by decide) (by decide)
theorem sn15_27 {aw : Array Value} {Z : State} (hw : ∀ d ∈ tables_1, d.before aw Z = true) : Jvm.RoadKit.slotOf Z "com/example/fairshed/fairshed/shedding/SicByTime" "timesUs" "[J" ≠ Jvm.RoadKit.slotOf Z "com/example/fairshed/fairshed/shedding/SicByTime" "first" "I" := slot_ne (Or.inl (wd15 hw)) (Or.inl (wd27 hw)) (by decide) (t := (.array .long)) (t' := .int) (by decide) (by decide)
theorem sn15_29 {aw : Array Value} {Z : State} (hw : ∀ d ∈ tables_1, d.before aw Z = true) : Jvm.RoadKit.slotOf Z "com/example/fairshed/fairshed/shedding/SicByTime" "timesUs" "[J" ≠ Jvm.RoadKit.slotOf Z "com/example/fairshed/fairshed/shedding/SicByTime" "end" "I" := slot_ne (Or.inl (wd15 hw)) (Or.inl (wd29 hw)) (by decide) (t := (.array .long)) (t' := .int) (by decide) (by decide)
theorem sn15_31 {aw : Array Value} {Z : State} (hw : ∀ d ∈ tables_1, d.before aw Z = true) : Jvm.RoadKit.slotOf Z "com/example/fairshed/fairshed/shedding/SicByTime" "timesUs" "[J" ≠ Jvm.RoadKit.slotOf Z "com/example/fairshed/fairshed/shedding/SicByTime" "summedFrom" "I" := slot_ne (Or.inl (wd15 hw)) (Or.inl (wd31 hw)) (by decide) (t := (.array .long)) (t' := .int) (by decide) (by decide)
theorem sn15_42 {aw : Array Value} {Z : State} (hw : ∀ d ∈ tables_1, d.before aw Z = true) : Jvm.RoadKit.slotOf Z "com/example/fairshed/fairshed/shedding/SicByTime" "timesUs" "[J" ≠ Jvm.RoadKit.slotOf Z "com/example/fairshed/fairshed/shedding/SicByTime" "summedFromUs" "J" := slot_ne (Or.inl (wd15 hw)) (Or.inl (wd42 hw)) (by decide) (t := (.array .long)) (t' := .long) (by decide) (by decide)
theorem sn15_48 {aw : Array Value} {Z : State} (hw : ∀ d ∈ tables_1, d.before aw Z = true) : Jvm.RoadKit.slotOf Z "com/example/fairshed/fairshed/shedding/SicByTime" "timesUs" "[J" ≠ Jvm.RoadKit.slotOf Z "com/example/fairshed/fairshed/shedding/SicByTime" "summed" "D" := slot_ne (Or.inl (wd15 hw)) (Or.inl (wd48 hw)) (by decide) (t := (.array .long)) (t' := .double) (by decide) (by decide)
theorem sn18_15 {aw : Array Value} {Z : State} (hw : ∀ d ∈ tables_1, d.before aw Z = true) : Jvm.RoadKit.slotOf Z "com/example/fairshed/fairshed/shedding/SicByTime" "sics" "[D" ≠ Jvm.RoadKit.slotOf Z "com/example/fairshed/fairshed/shedding/SicByTime" "timesUs" "[J" := slot_ne (Or.inl (wd18 hw)) (Or.inl (wd15 hw)) (by decide) (t := (.array .double)) (t' := (.array .long)) (by decide) (by decide)
theorem sn18_20 {aw : Array Value} {Z : State} (hw : ∀ d ∈ tables_1, d.before aw Z = true) : Jvm.RoadKit.slotOf Z "com/example/fairshed/fairshed/shedding/SicByTime" "sics" "[D" ≠ Jvm.RoadKit.slotOf Z "com/example/fairshed/fairshed/shedding/SicByTime" "summedTo" "I" := slot_ne (Or.inl (wd18 hw)) (Or.inl (wd20 hw)) (by decide) (t := (.array .double)) (t' := .int) (by decide) (by decide)
theorem sn18_27 {aw : Array Value} {Z : State} (hw : ∀ d ∈ tables_1, d.before aw Z = true) : Jvm.RoadKit.slotOf Z "com/example/fairshed/fairshed/shedding/SicByTime" "sics" "[D" ≠ Jvm.RoadKit.slotOf Z "com/example/fairshed/fairshed/shedding/SicByTime" "first" "I" := slot_ne (Or.inl (wd18 hw)) (Or.inl (wd27 hw)) (by decide) (t := (.array .double)) (t' := .int) (by decide) (by decide)
theorem sn18_29 {aw : Array Value} {Z : State} (hw : ∀ d ∈ tables_1, d.before aw Z = true) : Jvm.RoadKit.slotOf Z "com/example/fairshed/fairshed/shedding/SicByTime" "sics" "[D" ≠ Jvm.RoadKit.slotOf Z "com/example/fairshed/fairshed/shedding/SicByTime" "end" "I" := slot_ne (Or.inl (wd18 hw)) (Or.inl (wd29 hw)) (by decide) (t := (.array .double)) (t' := .int) (by decide) (by decide)
theorem sn18_31 {aw : Array Value} {Z : State} (hw : ∀ d ∈ tables_1, d.before aw Z = true) : Jvm.RoadKit.slotOf Z "com/example/fairshed/fairshed/shedding/SicByTime" "sics" "[D" ≠ Jvm.RoadKit.slotOf Z "com/example/fairshed/fairshed/shedding/SicByTime" "summedFrom" "I" := slot_ne (Or.inl (wd18 hw)) (Or.inl (wd31 hw)) (by decide) (t := (.array .double)) (t' := .int) (by decide) (by decide)
theorem sn18_42 {aw : Array Value} {Z : State} (hw : ∀ d ∈ tables_1, d.before aw Z = true) : Jvm.RoadKit.slotOf Z "com/example/fairshed/fairshed/shedding/SicByTime" "sics" "[D" ≠ Jvm.RoadKit.slotOf Z "com/example/fairshed/fairshed/shedding/SicByTime" "summedFromUs" "J" := slot_ne (Or.inl (wd18 hw)) (Or.inl (wd42 hw)) (by decide) (t := (.array .double)) (t' := .long) (by decide) (by decide)
theorem sn18_48 {aw : Array Value} {Z : State} (hw : ∀ d ∈ tables_1, d.before aw Z = true) : Jvm.RoadKit.slotOf Z "com/example/fairshed/fairshed/shedding/SicByTime" "sics" "[D" ≠ Jvm.RoadKit.slotOf Z "com/example/fairshed/fairshed/shedding/SicByTime" "summed" "D" := slot_ne (Or.inl (wd18 hw)) (Or.inl (wd48 hw)) (by decide) (t := (.array .double)) (t' := .double) (by decide) (by decide)
theorem sn20_15 {aw : Array Value} {Z : State} (hw : ∀ d ∈ tables_1, d.before aw Z = true) : Jvm.RoadKit.slotOf Z "com/example/fairshed/fairshed/shedding/SicByTime" "summedTo" "I" ≠ Jvm.RoadKit.slotOf Z "com/example/fairshed/fairshed/shedding/SicByTime" "timesUs" "[J" := slot_ne (Or.inl (wd20 hw)) (Or.inl (wd15 hw)) (by decide) (t := .int) (t' := (.array .long)) (by decide) (by decide)
theorem sn20_18 {aw : Array Value} {Z : State} (hw : ∀ d ∈ tables_1, d.before aw Z = true) : Jvm.RoadKit.slotOf Z "com/example/fairshed/fairshed/shedding/SicByTime" "summedTo" "I" ≠ Jvm.RoadKit.slotOf Z "com/example/fairshed/fairshed/shedding/SicByTime" "sics" "[D" := slot_ne (Or.inl (wd20 hw)) (Or.inl (wd18 hw)) (by decide) (t := .int) (t' := (.array .double)) (by decide) (by decide)
theorem sn20_27 {aw : Array Value} {Z : State} (hw : ∀ d ∈ tables_1, d.before aw Z = true) : Jvm.RoadKit.slotOf Z "com/example/fairshed/fairshed/shedding/SicByTime" "summedTo" "I" ≠ Jvm.RoadKit.slotOf Z "com/example/fairshed/fairshed/shedding/SicByTime" "first" "I" := slot_ne (Or.inl (wd20 hw)) (Or.inl (wd27 hw)) (by decide) (t := .int) (t' := .int) (by decide) (by decide)
theorem sn20_29 {aw : Array Value} {Z : State} (hw : ∀ d ∈ tables_1, d.before aw Z = true) : Jvm.RoadKit.slotOf Z "com/example/fairshed/fairshed/shedding/SicByTime" "summedTo" "I" ≠ Jvm.RoadKit.slotOf Z "com/example/fairshed/fairshed/shedding/SicByTime" "end" "I" := slot_ne (Or.inl (wd20 hw)) (Or.inl (wd29 hw)) (by decide) (t := .int) (t' := .int) (by decide) (by decide)
theorem sn20_31 {aw : Array Value} {Z : State} (hw : ∀ d ∈ tables_1, d.before aw Z = true) : Jvm.RoadKit.slotOf Z "com/example/fairshed/fairshed/shedding/SicByTime" "summedTo" "I" ≠ Jvm.RoadKit.slotOf Z "com/example/fairshed/fairshed/shedding/SicByTime" "summedFrom" "I" := slot_ne (Or.inl (wd20 hw)) (Or.inl (wd31 hw)) (by decide) (t := .int) (t' := .int) (by decide) (by decide)
theorem sn20_42 {aw : Array Value} {Z : State} (hw : ∀ d ∈ tables_1, d.before aw Z = true) : Jvm.RoadKit.slotOf Z "com/example/fairshed/fairshed/shedding/SicByTime" "summedTo" "I" ≠ Jvm.RoadKit.slotOf Z "com/example/fairshed/fairshed/shedding/SicByTime" "summedFromUs" "J" := slot_ne (Or.inl (wd20 hw)) (Or.inl (wd42 hw)) (by decide) (t := .int) (t' := .long) (by decide) (by decide)
theorem sn20_48 {aw : Array Value} {Z : State} (hw : ∀ d ∈ tables_1, d.before aw Z = true) : Jvm.RoadKit.slotOf Z "com/example/fairshed/fairshed/shedding/SicByTime" "summedTo" "I" ≠ Jvm.RoadKit.slotOf Z "com/example/fairshed/fairshed/shedding/SicByTime" "summed" "D" := slot_ne (Or.inl (wd20 hw)) (Or.inl (wd48 hw)) (by decide) (t := .int) (t' := .double) (by decide) (by decide)
theorem sn27_15 {aw : Array Value} {Z : State} (hw : ∀ d ∈ tables_1, d.before aw Z = true) : Jvm.RoadKit.slotOf Z "com/example/fairshed/fairshed/shedding/SicByTime" "first" "I" ≠ Jvm.RoadKit.slotOf Z "com/example/fairshed/fairshed/shedding/SicByTime" "timesUs" "[J" := slot_ne (Or.inl (wd27 hw)) (Or.inl (wd15 hw)) (by decide) (t := .int) (t' := (.array .long)) (by decide) (by decide)
theorem sn27_18 {aw : Array Value} {Z : State} (hw : ∀ d ∈ tables_1, d.before aw Z = true) : Jvm.RoadKit.slotOf Z "com/example/fairshed/fairshed/shedding/SicByTime" "first" "I" ≠ Jvm.RoadKit.slotOf Z "com/example/fairshed/fairshed/shedding/SicByTime" "sics" "[D" := slot_ne (Or.inl (wd27 hw)) (Or.inl (wd18 hw)) (by decide) (t := .int) (t' := (.array .double)) (by decide) (by decide)
theorem sn27_20 {aw : Array Value} {Z : State} (hw : ∀ d ∈ tables_1, d.before aw Z = true) : Jvm.RoadKit.slotOf Z "com/example/fairshed/fairshed/shedding/SicByTime" "first" "I" ≠ Jvm.RoadKit.slotOf Z "com/example/fairshed/fairshed/shedding/SicByTime" "summedTo" "I" := slot_ne (Or.inl (wd27 hw)) (Or.inl (wd20 hw)) (by decide) (t := .int) (t' := .int) (by decide) (by decide)
theorem sn27_29 {aw : Array Value} {Z : State} (hw : ∀ d ∈ tables_1, d.before aw Z = true) : Jvm.RoadKit.slotOf Z "com/example/fairshed/fairshed/shedding/SicByTime" "first" "I" ≠ Jvm.RoadKit.slotOf Z "com/example/fairshed/fairshed/shedding/SicByTime" "end" "I" := slot_ne (Or.inl (wd27 hw)) (Or.inl (wd29 hw)) (by decide) (t := .int) (t' := .int) (by decide) (by decide)
theorem sn27_31 {aw : Array Value} {Z : State} (hw : ∀ d ∈ tables_1, d.before aw Z = true) : Jvm.RoadKit.slotOf Z "com/example/fairshed/fairshed/shedding/SicByTime" "first" "I" ≠ Jvm.RoadKit.slotOf Z "com/example/fairshed/fairshed/shedding/SicByTime" "summedFrom" "I" := slot_ne (Or.inl (wd27 hw)) (Or.inl (wd31 hw)) (by decide) (t := .int) (t' := .int) (by decide) (by decide)
theorem sn27_42 {aw : Array Value} {Z : State} (hw : ∀ d ∈ tables_1, d.before aw Z = true) : Jvm.RoadKit.slotOf Z "com/example/fairshed/fairshed/shedding/SicByTime" "first" "I" ≠ Jvm.RoadKit.slotOf Z "com/example/fairshed/fairshed/shedding/SicByTime" "summedFromUs" "J" := slot_ne (Or.inl (wd27 hw)) (Or.inl (wd42 hw)) (by decide) (t := .int) (t' := .long) (by decide) (by decide)
theorem sn27_48 {aw : Array Value} {Z : State} (hw : ∀ d ∈ tables_1, d.before aw Z = true) : Jvm.RoadKit.slotOf Z "com/example/fairshed/fairshed/shedding/SicByTime" "first" "I" ≠ Jvm.RoadKit.slotOf Z "com/example/fairshed/fairshed/shedding/SicByTime" "summed" "D" := slot_ne (Or.inl (wd27 hw)) (Or.inl (wd48 hw)) (by decide) (t := .int) (t' := .double) (by decide) (by decide)
theorem sn29_15 {aw : Array Value} {Z : State} (hw : ∀ d ∈ tables_1, d.before aw Z = true) : Jvm.RoadKit.slotOf Z "com/example/fairshed/fairshed/shedding/SicByTime" "end" "I" ≠ Jvm.RoadKit.slotOf Z "com/example/fairshed/fairshed/shedding/SicByTime" "timesUs" "[J" := slot_ne (Or.inl (wd29 hw)) (Or.inl (wd15 hw)) (by decide) (t := .int) (t' := (.array .long)) (by decide) (by decide)
theorem sn29_18 {aw : Array Value} {Z : State} (hw : ∀ d ∈ tables_1, d.before aw Z = true) : Jvm.RoadKit.slotOf Z "com/example/fairshed/fairshed/shedding/SicByTime" "end" "I" ≠ Jvm.RoadKit.slotOf Z "com/example/fairshed/fairshed/shedding/SicByTime" "sics" "[D" := slot_ne (Or.inl (wd29 hw)) (Or.inl (wd18 hw)) (by decide) (t := .int) (t' := (.array .double)) (by decide) (by decide)
theorem sn29_20 {aw : Array Value} {Z : State} (hw : ∀ d ∈ tables_1, d.before aw Z = true) : Jvm.RoadKit.slotOf Z "com/example/fairshed/fairshed/shedding/SicByTime" "end" "I" ≠ Jvm.RoadKit.slotOf Z "com/example/fairshed/fairshed/shedding/SicByTime" "summedTo" "I" := slot_ne (Or.inl (wd29 hw)) (Or.inl (wd20 hw)) (by decide) (t := .int) (t' := .int) (by decide) (by decide)
theorem sn29_27 {aw : Array Value} {Z : State} (hw : ∀ d ∈ tables_1, d.before aw Z = true) : Jvm.RoadKit.slotOf Z "com/example/fairshed/fairshed/shedding/SicByTime" "end" "I" ≠ Jvm.RoadKit.slotOf Z "com/example/fairshed/fairshed/shedding/SicByTime" "first" "I" := slot_ne (Or.inl (wd29 hw)) (Or.inl (wd27 hw)) (by decide) (t := .int) (t' := .int) (by decide) (by decide)
theorem sn29_31 {aw : Array Value} {Z : State} (hw : ∀ d ∈ tables_1, d.before aw Z = true) : Jvm.RoadKit.slotOf Z "com/example/fairshed/fairshed/shedding/SicByTime" "end" "I" ≠ Jvm.RoadKit.slotOf Z "com/example/fairshed/fairshed/shedding/SicByTime" "summedFrom" "I" := slot_ne (Or.inl (wd29 hw)) (Or.inl (wd31 hw)) (by decide) (t := .int) (t' := .int) (by decide) (by decide)
theorem sn29_42 {aw : Array Value} {Z : State} (hw : ∀ d ∈ tables_1, d.before aw Z = true) : Jvm.RoadKit.slotOf Z "com/example/fairshed/fairshed/shedding/SicByTime" "end" "I" ≠ Jvm.RoadKit.slotOf Z "com/example/fairshed/fairshed/shedding/SicByTime" "summedFromUs" "J" := slot_ne (Or.inl (wd29 hw)) (Or.inl (wd42 hw)) (by decide) (t := .int) (t' := .long) (by decide) (by decide)
theorem sn29_48 {aw : Array Value} {Z : State} (hw : ∀ d ∈ tables_1, d.before aw Z = true) : Jvm.RoadKit.slotOf Z "com/example/fairshed/fairshed/shedding/SicByTime" "end" "I" ≠ Jvm.RoadKit.slotOf Z "com/example/fairshed/fairshed/shedding/SicByTime" "summed" "D" := slot_ne (Or.inl (wd29 hw)) (Or.inl (wd48 hw)) (by decide) (t := .int) (t' := .double) (by decide) (by decide)
theorem sn31_15 {aw : Array Value} {Z : State} (hw : ∀ d ∈ tables_1, d.before aw Z = true) : Jvm.RoadKit.slotOf Z "com/example/fairshed/fairshed/shedding/SicByTime" "summedFrom" "I" ≠ Jvm.RoadKit.slotOf Z "com/example/fairshed/fairshed/shedding/SicByTime" "timesUs" "[J" := slot_ne (Or.inl (wd31 hw)) (Or.inl (wd15 hw)) (by decide) (t := .int) (t' := (.array .long)) (by decide) (by decide)
theorem sn31_18 {aw : Array Value} {Z : State} (hw : ∀ d ∈ tables_1, d.before aw Z = true) : Jvm.RoadKit.slotOf Z "com/example/fairshed/fairshed/shedding/SicByTime" "summedFrom" "I" ≠ Jvm.RoadKit.slotOf Z "com/example/fairshed/fairshed/shedding/SicByTime" "sics" "[D" := slot_ne (Or.inl (wd31 hw)) (Or.inl (wd18 hw)) (by decide) (t := .int) (t' := (.array .double)) (by decide) (by decide)
theorem sn31_20 {aw : Array Value} {Z : State} (hw : ∀ d ∈ tables_1, d.before aw Z = true) : Jvm.RoadKit.slotOf Z "com/example/fairshed/fairshed/shedding/SicByTime" "summedFrom" "I" ≠ Jvm.RoadKit.slotOf Z "com/example/fairshed/fairshed/shedding/SicByTime" "summedTo" "I" := slot_ne (Or.inl (wd31 hw)) (Or.inl (wd20 hw)) (by decide) (t := .int) (t' := .int) (by decide) (by decide)
theorem sn31_27 {aw : Array Value} {Z : State} (hw : ∀ d ∈ tables_1, d.before aw Z = true) : Jvm.RoadKit.slotOf Z "com/example/fairshed/fairshed/shedding/SicByTime" "summedFrom" "I" ≠ Jvm.RoadKit.slotOf Z "com/example/fairshed/fairshed/shedding/SicByTime" "first" "I" := slot_ne (Or.inl (wd31 hw)) (Or.inl (wd27 hw)) (by decide) (t := .int) (t' := .int) (by decide) (by decide)
theorem sn31_29 {aw : Array Value} {Z : State} (hw : ∀ d ∈ tables_1, d.before aw Z = true) : Jvm.RoadKit.slotOf Z "com/example/fairshed/fairshed/shedding/SicByTime" "summedFrom" "I" ≠ Jvm.RoadKit.slotOf Z "com/example/fairshed/fairshed/shedding/SicByTime" "end" "I" := slot_ne (Or.inl (wd31 hw)) (Or.inl (wd29 hw)) (by decide) (t := .int) (t' := .int) (by decide) (by decide)
theorem sn31_42 {aw : Array Value} {Z : State} (hw : ∀ d ∈ tables_1, d.before aw Z = true) : Jvm.RoadKit.slotOf Z "com/example/fairshed/fairshed/shedding/SicByTime" "summedFrom" "I" ≠ Jvm.RoadKit.slotOf Z "com/example/fairshed/fairshed/shedding/SicByTime" "summedFromUs" "J" := slot_ne (Or.inl (wd31 hw)) (Or.inl (wd42 hw)) (by decide) (t := .int) (t' := .long) (by decide) (by decide)
theorem sn31_48 {aw : Array Value} {Z : State} (hw : ∀ d ∈ tables_1, d.before aw Z = true) : Jvm.RoadKit.slotOf Z "com/example/fairshed/fairshed/shedding/SicByTime" "summedFrom" "I" ≠ Jvm.RoadKit.slotOf Z "com/example/fairshed/fairshed/shedding/SicByTime" "summed" "D" := slot_ne (Or.inl (wd31 hw)) (Or.inl (wd48 hw)) (by decide) (t := .int) (t' := .double) (by decide) (by decide)
theorem sn42_15 {aw : Array Value} {Z : State} (hw : ∀ d ∈ tables_1, d.before aw Z = true) : Jvm.RoadKit.slotOf Z "com/example/fairshed/fairshed/shedding/SicByTime" "summedFromUs" "J" ≠ Jvm.RoadKit.slotOf Z "com/example/fairshed/fairshed/shedding/SicByTime" "timesUs" "[J" := slot_ne (Or.inl (wd42 hw)) (Or.inl (wd15 hw)) (by decide) (t := .long) (t' := (.array .long)) (by decide) (by decide)
theorem sn42_18 {aw : Array Value} {Z : State} (hw : ∀ d ∈ tables_1, d.before aw Z = true) : Jvm.RoadKit.slotOf Z "com/example/fairshed/fairshed/shedding/SicByTime" "summedFromUs" "J" ≠ Jvm.RoadKit.slotOf Z "com/example/fairshed/fairshed/shedding/SicByTime" "sics" "[D" := slot_ne (Or.inl (wd42 hw)) (Or.inl (wd18 hw)) (by decide) (t := .long) (t' := (.array .double)) (by decide) (by decide)
theorem sn42_20 {aw : Array Value} {Z : State} (hw : ∀ d ∈ tables_1, d.before aw Z = true) : Jvm.RoadKit.slotOf Z "com/example/fairshed/fairshed/shedding/SicByTime" "summedFromUs" "J" ≠ Jvm.RoadKit.slotOf Z "com/example/fairshed/fairshed/shedding/SicByTime" "summedTo" "I" := slot_ne (Or.inl (wd42 hw)) (Or.inl (wd20 hw)) (by decide) (t := .long) (t' := .int) (by decide) (by decide)
theorem sn42_27 {aw : Array Value} {Z : State} (hw : ∀ d ∈ tables_1, d.before aw Z = true) : Jvm.RoadKit.slotOf Z "com/example/fairshed/fairshed/shedding/SicByTime" "summedFromUs" "J" ≠ Jvm.RoadKit.slotOf Z "com/example/fairshed/fairshed/shedding/SicByTime" "first" "I" := slot_ne (Or.inl (wd42 hw)) (Or.inl (wd27 hw)) (by decide) (t := .long) (t' := .int) (by decide) (by decide)
theorem sn42_29 {aw : Array Value} {Z : State} (hw : ∀ d ∈ tables_1, d.before aw Z = true) : Jvm.RoadKit.slotOf Z "com/example/fairshed/fairshed/shedding/SicByTime" "summedFromUs" "J" ≠ Jvm.RoadKit.slotOf Z "com/example/fairshed/fairshed/shedding/SicByTime" "end" "I" := slot_ne (Or.inl (wd42 hw)) (Or.inl (wd29 hw)) (by decide) (t := .long) (t' := .int) (by decide) (by decide)
theorem sn42_31 {aw : Array Value} {Z : State} (hw : ∀ d ∈ tables_1, d.before aw Z = true) : Jvm.RoadKit.slotOf Z "com/example/fairshed/fairshed/shedding/SicByTime" "summedFromUs" "J" ≠ Jvm.RoadKit.slotOf Z "com/example/fairshed/fairshed/shedding/SicByTime" "summedFrom" "I" := slot_ne (Or.inl (wd42 hw)) (Or.inl (wd31 hw)) (by decide) (t := .long) (t' := .int) (by decide) (by decide)
theorem sn42_48 {aw : Array Value} {Z : State} (hw : ∀ d ∈ tables_1, d.before aw Z = true) : Jvm.RoadKit.slotOf Z "com/example/fairshed/fairshed/shedding/SicByTime" "summedFromUs" "J" ≠ Jvm.RoadKit.slotOf Z "com/example/fairshed/fairshed/shedding/SicByTime" "summed" "D" := slot_ne (Or.inl (wd42 hw)) (Or.inl (wd48 hw)) (by decide) (t := .long) (t' := .double) (by decide) (by decide)
theorem sn48_15 {aw : Array Value} {Z : State} (hw : ∀ d ∈ tables_1, d.before aw Z = true) : Jvm.RoadKit.slotOf Z "com/example/fairshed/fairshed/shedding/SicByTime" "summed" "D" ≠ Jvm.RoadKit.slotOf Z "com/example/fairshed/fairshed/shedding/SicByTime" "timesUs" "[J" := slot_ne (Or.inl (wd48 hw)) (Or.inl (wd15 hw)) (by decide) (t := .double) (t' := (.array .long)) (by decide) (by decide)
theorem sn48_18 {aw : Array Value} {Z : State} (hw : ∀ d ∈ tables_1, d.before aw Z = true) : Jvm.RoadKit.slotOf Z "com/example/fairshed/fairshed/shedding/SicByTime" "summed" "D" ≠ Jvm.RoadKit.slotOf Z "com/example/fairshed/fairshed/shedding/SicByTime" "sics" "[D" := slot_ne (Or.inl (wd48 hw)) (Or.inl (wd18 hw)) (by decide) (t := .double) (t' := (.array .double)) (by decide) (by decide)
theorem sn48_20 {aw : Array Value} {Z : State} (hw : ∀ d ∈ tables_1, d.before aw Z = true) : Jvm.RoadKit.slotOf Z "com/example/fairshed/fairshed/shedding/SicByTime" "summed" "D" ≠ Jvm.RoadKit.slotOf Z "com/example/fairshed/fairshed/shedding/SicByTime" "summedTo" "I" := slot_ne (Or.inl (wd48 hw)) (Or.inl (wd20 hw)) (by decide) (t := .double) (t' := .int) (by decide) (by decide)
theorem sn48_27 {aw : Array Value} {Z : State} (hw : ∀ d ∈ tables_1, d.before aw Z = true) : Jvm.RoadKit.slotOf Z "com/example/fairshed/fairshed/shedding/SicByTime" "summed" "D" ≠ Jvm.RoadKit.slotOf Z "com/example/fairshed/fairshed/shedding/SicByTime" "first" "I" := slot_ne (Or.inl (wd48 hw)) (Or.inl (wd27 hw)) (by decide) (t := .double) (t' := .int) (by decide) (by decide)
theorem sn48_29 {aw : Array Value} {Z : State} (hw : ∀ d ∈ tables_1, d.before aw Z = true) : Jvm.RoadKit.slotOf Z "com/example/fairshed/fairshed/shedding/SicByTime" "summed" "D" ≠ Jvm.RoadKit.slotOf Z "com/example/fairshed/fairshed/shedding/SicByTime" "end" "I" := slot_ne (Or.inl (wd48 hw)) (Or.inl (wd29 hw)) (by decide) (t := .double) (t' := .int) (by decide) (by decide)
theorem sn48_31 {aw : Array Value} {Z : State} (hw : ∀ d ∈ tables_1, d.before aw Z = true) : Jvm.RoadKit.slotOf Z "com/example/fairshed/fairshed/shedding/SicByTime" "summed" "D" ≠ Jvm.RoadKit.slotOf Z "com/example/fairshed/fairshed/shedding/SicByTime" "summedFrom" "I" := slot_ne (Or.inl (wd48 hw)) (Or.inl (wd31 hw)) (by decide) (t := .double) (t' := .int) (by decide) (by decide)
theorem sn48_42 {aw : Array Value} {Z : State} (hw : ∀ d ∈ tables_1, d.before aw Z = true) : Jvm.RoadKit.slotOf Z "com/example/fairshed/fairshed/shedding/SicByTime" "summed" "D" ≠ Jvm.RoadKit.slotOf Z "com/example/fairshed/fairshed/shedding/SicByTime" "summedFromUs" "J" := slot_ne (Or.inl (wd48 hw)) (Or.inl (wd42 hw)) (by decide) (t := .double) (t' := .long) (by decide) (by decide)
theorem own_retD {p : Program} {l : Launch} {e : Env} {R : Room} {s : State} {m : MethodId} {args : Array Value} {below : List Frame} {meth : Method} {c : Code} {T : State} {locs : List Loc} {cells slots : Nat} (X : Stand p l e R s m args below meth c T locs cells slots) (hx : p.tables.exec = Jvm.exec) {pc : Nat} {Ls : Array Slot} {z : UInt64} {rest : List Value} (hret : meth.sig.returnType = some .double) (hd : decode c.code pc = .ok (.dreturn, 1)) {fs : List Frame}
    (hl : ∀ (f : JFrame) (acts : List Action), f.method = m → f.locked = none → f.entered = [] → (doReturn e (T.setTop f) acts (some (.double z))).1 = T.setFrames fs) : Steps p.tables e below (T.setTop (mkF m pc Ls (.double z :: rest))) (T.setFrames fs) :=
  retOut X hx hret rfl (Or.inr (Or.inr (Or.inl ⟨rfl, rfl, _, rfl⟩))) hd hl
theorem own_ldc2D {p : Program} {l : Launch} {e : Env} {R : Room} {s : State} {m : MethodId} {args : Array Value} {below : List Frame} {meth : Method} {c : Code} {T : State} {locs : List Loc} {cells slots : Nat} (X : Stand p l e R s m args below meth c T locs cells slots) (hx : p.tables.exec = Jvm.exec) {own : String} {index : Nat} {b : UInt64} (hown : s.vm.findClass own = some m.cls)
    (hconst : (Cond.constantDouble own index b).before args s = true) {k : Int64} (hb : b = FP.l2d k) {g : JFrame} (hg : g.method = m) (hdg : decode c.code g.pc = .ok (.ldc2_w index, 3)) :
    ∀ target, Steps p.tables e below (T.setTop { g with pc := g.pc + 3, stack := .double (FP.l2d k) :: g.stack }) target → Steps p.tables e below (T.setTop g) target := by
  subst hb; exact X.ldc2DoubleC hx hown hconst hg hdg
def own_B (a : Int64) : Prop := 0 ≤ a.toInt ∧ a.toInt ≤ 15
instance (a : Int64) : Decidable (own_B a) := inferInstanceAs (Decidable (_ ∧ _))
theorem own_c8 {a : Int64} (h : own_B a) : a = 0 ∨ a = 1 ∨ a = 2 ∨ a = 3 ∨ a = 4 ∨ a = 5 ∨ a = 6 ∨ a = 7 ∨ a = 8 ∨ a = 9 ∨ a = 10 ∨ a = 11 ∨ a = 12 ∨ a = 13 ∨ a = 14 ∨ a = 15 := by
  obtain ⟨h1, h2⟩ := h
  simp only [← Int64.toInt_inj, Int64.reduceToInt]
  omega
theorem own_nn {a : Int64} (h : own_B a) : Jvm.Free.Fl.NoNaN64 (FP.l2d a) := by
  unfold Jvm.Free.Fl.NoNaN64
  rcases own_c8 h with rfl | rfl | rfl | rfl | rfl | rfl | rfl | rfl | rfl | rfl | rfl | rfl | rfl | rfl | rfl | rfl <;> decide +kernel
theorem own_53 {a : Int64} (h : own_B a) : B53 a := ⟨by have := h.1; omega, by have := h.2; omega⟩
theorem own_nn2 {a b : Int64} (ha : own_B a) (hb : own_B b) (hab : own_B (a + b)) : Jvm.Free.Fl.NoNaN64 (FP.dadd (FP.l2d a) (FP.l2d b)) := by
  rw [dadd_w (own_53 ha) (own_53 hb)]; exact own_nn hab
def own_j3 (a b c : Int64) (i : Nat) : Value := if i = 0 then .long a else if i = 1 then .long b else if i = 2 then .long c else .long 0
def own_d3 (a b c : Int64) (i : Nat) : Value := if i = 0 then .double (FP.l2d a) else if i = 1 then .double (FP.l2d b) else if i = 2 then .double (FP.l2d c) else .double (FP.l2d 0)
theorem own_zJ (i : Nat) : Value.long 0 = own_j3 0 0 0 i := by unfold own_j3; repeat' split
                                                               all_goals rfl
theorem own_zD (i : Nat) : Value.double 0 = own_d3 0 0 0 i := by
  unfold own_d3; rw [l2d_zero]; repeat' split
  all_goals rfl
def own_f1 (q0 : Int64) (q1 : Int64) : Int64 := (if q0 < q1 then q1 else q0)
theorem d1_0 : decode jdk_29_method_66_code 0 = .ok (.lload_n 0, 1) := by decide +kernel
theorem d1_1 : decode jdk_29_method_66_code 1 = .ok (.lload_n 2, 1) := by decide +kernel
theorem d1_2 : decode jdk_29_method_66_code 2 = .ok (.lcmp, 1) := by decide +kernel
theorem d1_3 : decode jdk_29_method_66_code 3 = .ok (.ifCond .lt 7, 3) := by decide +kernel
theorem d1_6 : decode jdk_29_method_66_code 6 = .ok (.lload_n 0, 1) := by decide +kernel
theorem d1_7 : decode jdk_29_method_66_code 7 = .ok (.goto 4, 3) := by decide +kernel
theorem d1_10 : decode jdk_29_method_66_code 10 = .ok (.lload_n 2, 1) := by decide +kernel
theorem d1_11 : decode jdk_29_method_66_code 11 = .ok (.lreturn, 1) := by decide +kernel
theorem ef_rm1 (m : MethodId) (q0 : Int64) (q1 : Int64) : entryFrame m #[(.long q0), (.long q1)] 4 = mkF m 0 #[.val (.long q0), .second, .val (.long q1), .second] [] := by first | (simp [entryFrame, mkF, argsToLocals, Value.category]; done) | rfl
def Q1 (Z : State) (q0 : Int64) (q1 : Int64) (h0 : Heap) (n0 : Nat) (v : Option Value) (h : Heap) (L : List Loc) : Prop := v = some (.long (own_f1 q0 q1)) ∧ Fr n0 L ∧ h = h0
set_option maxRecDepth 65536 in
set_option maxHeartbeats 40000000 in
theorem rm1 (l : Launch) (Z : State) (aw : Array Value) (hw : ∀ d ∈ tables_1, d.before aw Z = true) (ws : List Jvm.Cond) (q0 : Int64) (q1 : Int64) (h0 : Heap) (n0 : Nat) (Z0 : n0 ≤ h0.size) :
    MetFree l (⟨"java/lang/Math", "max", "(JJ)J"⟩ : MethodName) (head1 (Jvm.Cond.code (⟨"java/lang/Math", "max", "(JJ)J"⟩ : MethodName) jdk_29_method_66_code 4 (some .long) :: ws) ({ frames := 0, cells := 0, slots := 0, locals := 0 } : Room)) (fun a U => a = #[(.long q0), (.long q1)] ∧ Z.Warmed39 U.vm ∧ U.heap = h0) (fun _ _ _ _ _ => True) (fun _ U o U' => ∃ v L, o = .returned v ∧ Q1 Z q0 q1 h0 n0 v U'.heap L ∧ FrameEnd U o U' L ({ frames := 0, cells := 0, slots := 0, locals := 0 } : Room).cells ({ frames := 0, cells := 0, slots := 0, locals := 0 } : Room).slots) := by
  refine MetFree.of_bodySF (Jvm.Free.JP.mathPlain rfl (by decide +kernel)) hisR ?_
  intro p e s m args below meth c s₁ Bd hml0 hP hK
  obtain ⟨rfl, hZ, hh⟩ := hP
  have hx := Bd.exec
  have hby := Bd.bytes
  have hml : c.maxLocals = 4 := hml0
  have hown : s.vm.findClass "java/lang/Math" = some m.cls := findClass_of_methodNamed Bd.named
  have hnm := (name_of_methodNamed Bd.named Bd.method).1
  have X0 : Stand p l e ({ frames := 0, cells := 0, slots := 0, locals := 0 } : Room) s m #[(.long q0), (.long q1)] below meth c s₁ [] 0 0 := Stand.of_body Bd
  have e0 : s₁.heap = h0 := by rw [← hh, Bd.state]; rfl
  have N0 := Fr.nil n0
  have K0 : Keep h0 h0 [] := Keep.refl _ _
  refine own_by (A' := s₁.setTop (mkF m 0 #[.val (.long q0), .second, .val (.long q1), .second] [])) (fun t k => castTop (ef_rm1 m q0 q1) k) ?_
  refine own_by (A' := s₁.setTop (mkF m 3 #[.val (.long q0), .second, .val (.long q1), .second] [(.int (lcmpW q0 q1))])) (fun t kt => ?_) ?_
  · refine XS.lloadN X0.here hx rfl (hb hby d1_0) rfl ?_
    refine XS.lloadN X0.here hx rfl (hb hby d1_1) rfl ?_
    refine XS.lcmp X0.here hx rfl (hb hby d1_2) rfl ?_
    exact kt
  by_cases hc3_1 : q0 < q1
  · refine own_by (A' := s₁.setTop (mkF m 11 #[.val (.long q0), .second, .val (.long q1), .second] [(.long q1)])) (fun t kt => ?_) ?_
    · refine XS.ifYes X0.here hx rfl (pc0 := 3) (pc' := 10) rfl (hb hby d1_3) rfl ((if0 _ _).trans (tlt ((lw_lt _ _).mpr hc3_1)).1) (by decide) (by decide) ?_
      refine XS.lloadN X0.here hx rfl (hb hby d1_10) rfl ?_
      exact kt
    obtain ⟨fs, hr, hrun, hended, hW, hsame⟩ := X0.leave (v := some (.long q1)) (fun h => by rw [Bd.returns] at h; cases h)
    refine ⟨_, _, ?_, hrun, hended, _, _, rfl, ?_, ⟨_, rfl⟩, hW, hsame.mono (by decide) (by decide)⟩
    · exact own_retL X0 hx Bd.returns (hb hby d1_11) hr
    · show Q1 Z q0 q1 h0 n0 _ s₁.heap _
      rw [e0]
      exact ⟨(by rw [own_f1, if_pos hc3_1]), N0, rfl⟩
  · refine own_by (A' := s₁.setTop (mkF m 11 #[.val (.long q0), .second, .val (.long q1), .second] [(.long q0)])) (fun t kt => ?_) ?_
    · refine XS.ifNo X0.here hx rfl (hb hby d1_3) rfl ((if0 _ _).trans (flt (fun q => hc3_1 ((lw_lt _ _).mp q))).1) ?_
      refine XS.lloadN X0.here hx rfl (hb hby d1_6) rfl ?_
      refine XS.goto X0.here hx rfl (pc0 := 7) (pc' := 11) rfl (hb hby d1_7) (by decide) (by decide) ?_
      exact kt
    obtain ⟨fs, hr, hrun, hended, hW, hsame⟩ := X0.leave (v := some (.long q0)) (fun h => by rw [Bd.returns] at h; cases h)
    refine ⟨_, _, ?_, hrun, hended, _, _, rfl, ?_, ⟨_, rfl⟩, hW, hsame.mono (by decide) (by decide)⟩
    · exact own_retL X0 hx Bd.returns (hb hby d1_11) hr
    · show Q1 Z q0 q1 h0 n0 _ s₁.heap _
      rw [e0]
      exact ⟨(by rw [own_f1, if_neg hc3_1]), N0, rfl⟩
def own_Srt (f n : Int32) (t0 t1 t2 : Int64) : Prop := (f.toInt ≤ 0 → 1 < n.toInt → t0 < t1) ∧ (f.toInt ≤ 1 → 2 < n.toInt → t1 < t2)
def own_FA (f n : Int32) (t0 t1 t2 x : Int64) (k : Int32) : Prop := (f.toInt ≤ k.toInt ∧ k.toInt ≤ n.toInt) ∧ ((f.toInt ≤ 0 → 0 < k.toInt → ¬ x < t0) ∧ (f.toInt ≤ 1 → 1 < k.toInt → ¬ x < t1) ∧ (f.toInt ≤ 2 → 2 < k.toInt → ¬ x < t2)) ∧ ((k.toInt ≤ 0 → 0 < n.toInt → x < t0) ∧ (k.toInt ≤ 1 → 1 < n.toInt → x < t1) ∧ (k.toInt ≤ 2 → 2 < n.toInt → x < t2))
def own_S (w0 w1 w2 : Int64) (i j : Int32) : Int64 := (if i.toInt ≤ 0 ∧ 0 < j.toInt then w0 else 0) + ((if i.toInt ≤ 1 ∧ 1 < j.toInt then w1 else 0) + (if i.toInt ≤ 2 ∧ 2 < j.toInt then w2 else 0))
def own_St (Z : State) (h : Heap) (a tt ss : Addr) (f n : Int32) (t0 t1 t2 w0 w1 w2 U : Int64) (F G : Int32) (Sm : Int64) : Prop := (tt ≠ a ∧ ss ≠ a ∧ tt ≠ ss) ∧ Exa Z h a "com/example/fairshed/fairshed/shedding/SicByTime" ∧ Fld Z h a "com/example/fairshed/fairshed/shedding/SicByTime" "timesUs" "[J" (.ref tt) ∧ Fld Z h a "com/example/fairshed/fairshed/shedding/SicByTime" "sics" "[D" (.ref ss) ∧ Fld Z h a "com/example/fairshed/fairshed/shedding/SicByTime" "first" "I" (.int f) ∧ Fld Z h a "com/example/fairshed/fairshed/shedding/SicByTime" "end" "I" (.int n) ∧ Fld Z h a "com/example/fairshed/fairshed/shedding/SicByTime" "summedFromUs" "J" (.long U) ∧ Fld Z h a "com/example/fairshed/fairshed/shedding/SicByTime" "summedFrom" "I" (.int F) ∧ Fld Z h a "com/example/fairshed/fairshed/shedding/SicByTime" "summedTo" "I" (.int G) ∧ Fld Z h a "com/example/fairshed/fairshed/shedding/SicByTime" "summed" "D" (.double (FP.l2d Sm)) ∧ AF Z h tt .long (8 : Int32) (own_j3 t0 t1 t2) ∧ AF Z h ss .double (8 : Int32) (own_d3 w0 w1 w2)
def QFAu (Z : State) (a0 : Addr) (q1 t0 t1 t2 : Int64) (f n : Int32) (h0 : Heap) (n0 : Nat) (v : Option Value) (h : Heap) (L : List Loc) : Prop := ∃ k : Int32, v = some (.int k) ∧ own_FA f n t0 t1 t2 q1 k ∧ Fr n0 L ∧ h = h0
def QSu (Z : State) (a0 : Addr) (A w0 w1 w2 : Int64) (i j : Int32) (h0 : Heap) (n0 : Nat) (v : Option Value) (h : Heap) (L : List Loc) : Prop := v = some (.double (FP.l2d (A + own_S w0 w1 w2 i j))) ∧ Fr n0 L ∧ h = h0
def own_FO (n : Int32) (t0 t1 t2 u : Int64) (f : Int32) : Prop := (0 ≤ f.toInt ∧ f.toInt ≤ n.toInt) ∧ ((0 < f.toInt → ¬ u < t0) ∧ (1 < f.toInt → ¬ u < t1) ∧ (2 < f.toInt → ¬ u < t2)) ∧ ((f.toInt = 0 → 0 < n.toInt → u < t0) ∧ (f.toInt = 1 → 1 < n.toInt → u < t1) ∧ (f.toInt = 2 → 2 < n.toInt → u < t2))
def QFo (Z : State) (a0 tt ss : Addr) (n : Int32) (t0 t1 t2 w0 w1 w2 u U : Int64) (F G : Int32) (Sm : Int64) (h0 : Heap) (n0 : Nat) (v : Option Value) (h : Heap) (L : List Loc) : Prop := v = none ∧ Fr n0 L ∧ Keep h0 h [a0] ∧ ∃ f' G' : Int32, own_St Z h a0 tt ss f' n t0 t1 t2 w0 w1 w2 U F G' Sm ∧ own_FO n t0 t1 t2 u f' ∧ G' = (if F < f' then -1 else G)
theorem own_ac {a b : Int64} (ha : 0 ≤ a.toInt ∧ a.toInt ≤ 15) (hb : 0 ≤ b.toInt ∧ b.toInt ≤ 15) : (a + b).toInt = a.toInt + b.toInt := add64 (own_53 ha) (own_53 hb)
theorem own_i4 {i : Int32} (h : 0 ≤ i.toInt ∧ i.toInt ≤ 3) : i = 0 ∨ i = 1 ∨ i = 2 ∨ i = 3 := by
  simp only [← Int32.toInt_inj, Int32.reduceToInt]; omega
theorem pn_0 : plainName "com/example/fairshed/fairshed/shedding/SicByTime" = true := by first | (simp [plainName, overriddenIn]; done) | decide +kernel
theorem d2_0 : decode prog_124_method_1_code 0 = .ok (.aload_n 0, 1) := by decide +kernel
theorem d2_1 : decode prog_124_method_1_code 1 = .ok (.invokespecial 1, 3) := by decide +kernel
theorem d2_4 : decode prog_124_method_1_code 4 = .ok (.aload_n 0, 1) := by decide +kernel
theorem d2_5 : decode prog_124_method_1_code 5 = .ok (.bipush 8, 2) := by decide +kernel
theorem d2_7 : decode prog_124_method_1_code 7 = .ok (.newarray .long, 2) := by decide +kernel
theorem d2_9 : decode prog_124_method_1_code 9 = .ok (.putfield 9, 3) := by decide +kernel
theorem d2_12 : decode prog_124_method_1_code 12 = .ok (.aload_n 0, 1) := by decide +kernel
theorem d2_13 : decode prog_124_method_1_code 13 = .ok (.bipush 8, 2) := by decide +kernel
theorem d2_15 : decode prog_124_method_1_code 15 = .ok (.newarray .double, 2) := by decide +kernel
theorem d2_17 : decode prog_124_method_1_code 17 = .ok (.putfield 13, 3) := by decide +kernel
theorem d2_20 : decode prog_124_method_1_code 20 = .ok (.aload_n 0, 1) := by decide +kernel
theorem d2_21 : decode prog_124_method_1_code 21 = .ok (.iconst (-1), 1) := by decide +kernel
theorem d2_22 : decode prog_124_method_1_code 22 = .ok (.putfield 17, 3) := by decide +kernel
theorem d2_25 : decode prog_124_method_1_code 25 = .ok (.return_, 1) := by decide +kernel
theorem ef_rmNew (m : MethodId) (a0 : Addr) : entryFrame m #[(.ref a0)] 1 = mkF m 0 #[.val (.ref a0)] [] := by first | (simp [entryFrame, mkF, argsToLocals, Value.category]; done) | rfl
def Q2 (Z : State) (a0 : Addr) (h0 : Heap) (n0 : Nat) (v : Option Value) (h : Heap) (L : List Loc) : Prop := v = none ∧ Fr n0 L ∧ Keep h0 h [a0] ∧ ∃ tt ss : Addr, n0 ≤ tt ∧ n0 ≤ ss ∧ own_St Z h a0 tt ss 0 0 0 0 0 0 0 0 0 0 (-1) 0
set_option maxRecDepth 65536 in
set_option maxHeartbeats 40000000 in
theorem rmNew (l : Launch) (Z : State) (aw : Array Value) (hw : ∀ d ∈ tables_1, d.before aw Z = true) (ws : List Jvm.Cond) (a0 : Addr) (h0 : Heap) (n0 : Nat) (Z0 : n0 ≤ h0.size) (E_a0 : Exa Z h0 a0 "com/example/fairshed/fairshed/shedding/SicByTime") (PF_timesUs : Fld Z h0 a0 "com/example/fairshed/fairshed/shedding/SicByTime" "timesUs" "[J" .null) (PF_sics : Fld Z h0 a0 "com/example/fairshed/fairshed/shedding/SicByTime" "sics" "[D" .null) (PF_first : Fld Z h0 a0 "com/example/fairshed/fairshed/shedding/SicByTime" "first" "I" (.int (0 : Int32))) (PF_end : Fld Z h0 a0 "com/example/fairshed/fairshed/shedding/SicByTime" "end" "I" (.int (0 : Int32))) (PF_summedFromUs : Fld Z h0 a0 "com/example/fairshed/fairshed/shedding/SicByTime" "summedFromUs" "J" (.long (0 : Int64))) (PF_summedFrom : Fld Z h0 a0 "com/example/fairshed/fairshed/shedding/SicByTime" "summedFrom" "I" (.int (0 : Int32))) (PF_summedTo : Fld Z h0 a0 "com/example/fairshed/fairshed/shedding/SicByTime" "summedTo" "I" (.int (0 : Int32))) (PF_summed : Fld Z h0 a0 "com/example/fairshed/fairshed/shedding/SicByTime" "summed" "D" (.double (FP.l2d (0 : Int64)))) (g_a0 : n0 ≤ a0) :
    MetFree l (⟨"com/example/fairshed/fairshed/shedding/SicByTime", "<init>", "()V"⟩ : MethodName) (head1 (Jvm.Cond.code (⟨"com/example/fairshed/fairshed/shedding/SicByTime", "<init>", "()V"⟩ : MethodName) prog_124_method_1_code 1 none :: ws) ({ frames := 1, cells := 2, slots := 16, locals := 12 } : Room)) (fun a U => a = #[(.ref a0)] ∧ Z.Warmed39 U.vm ∧ U.heap = h0) (fun _ _ _ _ _ => True) (fun _ U o U' => ∃ v L, o = .returned v ∧ Q2 Z a0 h0 n0 v U'.heap L ∧ FrameEnd U o U' L ({ frames := 1, cells := 2, slots := 16, locals := 12 } : Room).cells ({ frames := 1, cells := 2, slots := 16, locals := 12 } : Room).slots) := by
  refine MetFree.of_bodySF (plainFor_of_name pn_0) hisR ?_
  intro p e s m args below meth c s₁ Bd hml0 hP hK
  obtain ⟨rfl, hZ, hh⟩ := hP
  have hx := Bd.exec
  have hby := Bd.bytes
  have hml : c.maxLocals = 1 := hml0
  have hown : s.vm.findClass "com/example/fairshed/fairshed/shedding/SicByTime" = some m.cls := findClass_of_methodNamed Bd.named
  have hnm := (name_of_methodNamed Bd.named Bd.method).1
  have X0 : Stand p l e ({ frames := 1, cells := 2, slots := 16, locals := 12 } : Room) s m #[(.ref a0)] below meth c s₁ [] 0 0 := Stand.of_body Bd
  have e0 : s₁.heap = h0 := by rw [← hh, Bd.state]; rfl
  have N0 := Fr.nil n0
  have K0 : Keep h0 h0 [a0] := Keep.refl _ _
  refine own_by (A' := s₁.setTop (mkF m 0 #[.val (.ref a0)] [])) (fun t k => castTop (ef_rmNew m a0) k) ?_
  refine own_by (A' := s₁.setTop (mkF m 1 #[.val (.ref a0)] [(.ref a0)])) (fun t kt => ?_) ?_
  · refine XS.aloadN X0.here hx rfl (hb hby d2_0) rfl rfl ?_
    exact kt
  obtain ⟨T1, X1, e1, st1⟩ := initO X0 hx hZ hown (wd10 hw) (wd11 hw) (wd12 hw) e0 (g := (mkF m 1 #[.val (.ref a0)] [(.ref a0)])) rfl (by rw [hml]; rfl) rfl (hb hby d2_1) (by decide) (W := 0) (by show 2 * 0 + _ ≤ _; exact Nat.le_of_eq rfl) (by decide)
  refine own_by (A' := T1.setTop (mkF m 7 #[.val (.ref a0)] [(.int (8 : Int32)), (.ref a0)])) (fun t kt => ?_) ?_
  · refine st1 t ?_
    refine XS.aloadN X1.here hx rfl (hb hby d2_4) rfl rfl ?_
    refine XS.bipush X1.here hx rfl (hb hby d2_5) ?_
    exact kt
  obtain ⟨T2, h2, k2, X2, e2, E2, A2, st2⟩ := newP X1 hx hZ (aty := .long) (wd13 hw) e1 (g := (mkF m 7 #[.val (.ref a0)] [(.int (8 : Int32)), (.ref a0)])) rfl (hb hby d2_7) rfl (by decide) (cap := 8) (by decide) (by decide) (by decide) (by decide)
  obtain ⟨b2, g2⟩ : ∃ z, z = h0.size := ⟨_, rfl⟩
  rw [← g2] at A2 st2
  have sz_b2 : h0.size ≤ b2 := Nat.le_trans K0.1 (Nat.le_of_eq g2.symm)
  have g_b2 : n0 ≤ b2 := Nat.le_trans Z0 sz_b2
  have K2 : Keep h0 h2 [a0] := K0.ext E2
  have V2 : AF Z h2 b2 .long (8 : Int32) (fun _ => .long (0 : Int64)) := AF.new A2 (by decide)
  refine own_by (A' := T2.setTop (mkF m 9 #[.val (.ref a0)] [(.ref b2), (.ref a0)])) (fun t kt => st2 t kt) ?_
  obtain ⟨T3, h3, X3, e3, W3, st3⟩ := putF X2 hx hZ hown (host := "") (Or.inl (wd14 hw)) Via.refl e2 (PF_timesUs.ext E2) (E_a0.ext E2) (Or.inl (wd15 hw)) (wd5 hw) (ty := (.array .long)) (by decide) rfl rfl (g := (mkF m 9 #[.val (.ref a0)] [(.ref b2), (.ref a0)])) rfl rfl (hb hby d2_9)
  have F3 := Fld.same W3 (PF_timesUs.ext E2)
  have N3 := Fr.snoc X3 N0 g_a0
  have K3 : Keep h0 h3 [a0] := K2.wr W3 (Or.inl (List.mem_of_getElem? (i := 0) rfl))
  refine own_by (A' := T3.setTop (mkF m 15 #[.val (.ref a0)] [(.int (8 : Int32)), (.ref a0)])) (fun t kt => ?_) ?_
  · refine st3 t ?_
    refine XS.aloadN X3.here hx rfl (hb hby d2_12) rfl rfl ?_
    refine XS.bipush X3.here hx rfl (hb hby d2_13) ?_
    exact kt
  obtain ⟨T4, h4, k4, X4, e4, E4, A4, st4⟩ := newP X3 hx hZ (aty := .double) (wd16 hw) e3 (g := (mkF m 15 #[.val (.ref a0)] [(.int (8 : Int32)), (.ref a0)])) rfl (hb hby d2_15) rfl (by decide) (cap := 8) (by decide) (by decide) (by decide) (by decide)
  obtain ⟨b4, g4⟩ : ∃ z, z = h3.size := ⟨_, rfl⟩
  rw [← g4] at A4 st4
  have sz_b4 : h0.size ≤ b4 := Nat.le_trans K3.1 (Nat.le_of_eq g4.symm)
  have g_b4 : n0 ≤ b4 := Nat.le_trans Z0 sz_b4
  have K4 : Keep h0 h4 [a0] := K3.ext E4
  have V4 : AF Z h4 b4 .double (8 : Int32) (fun _ => .double (0 : UInt64)) := AF.new A4 (by decide)
  refine own_by (A' := T4.setTop (mkF m 17 #[.val (.ref a0)] [(.ref b4), (.ref a0)])) (fun t kt => st4 t kt) ?_
  obtain ⟨T5, h5, X5, e5, W5, st5⟩ := putF X4 hx hZ hown (host := "") (Or.inl (wd17 hw)) Via.refl e4 (((PF_sics.ext E2).other W3 (Or.inr (sn18_15 hw))).ext E4) (((E_a0.ext E2).wr W3).ext E4) (Or.inl (wd18 hw)) (wd5 hw) (ty := (.array .double)) (by decide) rfl rfl (g := (mkF m 17 #[.val (.ref a0)] [(.ref b4), (.ref a0)])) rfl rfl (hb hby d2_17)
  have F5 := Fld.same W5 (((PF_sics.ext E2).other W3 (Or.inr (sn18_15 hw))).ext E4)
  have N5 := Fr.snoc X5 N3 g_a0
  have K5 : Keep h0 h5 [a0] := K4.wr W5 (Or.inl (List.mem_of_getElem? (i := 0) rfl))
  refine own_by (A' := T5.setTop (mkF m 22 #[.val (.ref a0)] [(.int (-1 : Int32)), (.ref a0)])) (fun t kt => ?_) ?_
  · refine st5 t ?_
    refine XS.aloadN X5.here hx rfl (hb hby d2_20) rfl rfl ?_
    refine XS.iconst X5.here hx rfl (hb hby d2_21) ?_
    exact kt
  obtain ⟨T6, h6, X6, e6, W6, st6⟩ := putF X5 hx hZ hown (host := "") (Or.inl (wd19 hw)) Via.refl e5 ((((PF_summedTo.ext E2).other W3 (Or.inr (sn20_15 hw))).ext E4).other W5 (Or.inr (sn20_18 hw))) ((((E_a0.ext E2).wr W3).ext E4).wr W5) (Or.inl (wd20 hw)) (wd5 hw) (ty := .int) (by decide) rfl rfl (g := (mkF m 22 #[.val (.ref a0)] [(.int (-1 : Int32)), (.ref a0)])) rfl rfl (hb hby d2_22)
  have F6 := Fld.same W6 ((((PF_summedTo.ext E2).other W3 (Or.inr (sn20_15 hw))).ext E4).other W5 (Or.inr (sn20_18 hw)))
  have N6 := Fr.snoc X6 N5 g_a0
  have K6 : Keep h0 h6 [a0] := K5.wr W6 (Or.inl (List.mem_of_getElem? (i := 0) rfl))
  refine own_by (A' := T6.setTop (mkF m 25 #[.val (.ref a0)] [])) (fun t kt => st6 t kt) ?_
  obtain ⟨fs, hr, hrun, hended, hW, hsame⟩ := X6.leave (v := none) (fun _ => rfl)
  refine ⟨_, _, ?_, hrun, hended, _, _, rfl, ?_, ⟨_, rfl⟩, hW, hsame.mono (by decide) (by decide)⟩
  · exact X6.returnOut hx Bd.returns (hb hby d2_25) hr
  · show Q2 Z a0 h0 n0 _ T6.heap _
    rw [e6]
    exact ⟨rfl, N6, K6, b2, b4, g_b2, g_b4, ⟨(Ne.symm (Nat.ne_of_lt (Nat.lt_of_lt_of_le (E_a0).lt (Nat.le_of_eq g2.symm)))), (Ne.symm (Nat.ne_of_lt (Nat.lt_of_lt_of_le (F3).lt (Nat.le_of_eq g4.symm)))), (Nat.ne_of_lt (Nat.lt_of_lt_of_le ((V2.other W3 (Ne.symm (Nat.ne_of_lt (Nat.lt_of_lt_of_le (E_a0).lt (Nat.le_of_eq g2.symm)))))).lt (Nat.le_of_eq g4.symm)))⟩, (((((E_a0.ext E2).wr W3).ext E4).wr W5).wr W6), (((F3.ext E4).other W5 (Or.inr (sn15_18 hw))).other W6 (Or.inr (sn15_20 hw))), (F5.other W6 (Or.inr (sn18_20 hw))), (((((PF_first.ext E2).other W3 (Or.inr (sn27_15 hw))).ext E4).other W5 (Or.inr (sn27_18 hw))).other W6 (Or.inr (sn27_20 hw))), (((((PF_end.ext E2).other W3 (Or.inr (sn29_15 hw))).ext E4).other W5 (Or.inr (sn29_18 hw))).other W6 (Or.inr (sn29_20 hw))), (((((PF_summedFromUs.ext E2).other W3 (Or.inr (sn42_15 hw))).ext E4).other W5 (Or.inr (sn42_18 hw))).other W6 (Or.inr (sn42_20 hw))), (((((PF_summedFrom.ext E2).other W3 (Or.inr (sn31_15 hw))).ext E4).other W5 (Or.inr (sn31_18 hw))).other W6 (Or.inr (sn31_20 hw))), F6, (((((PF_summed.ext E2).other W3 (Or.inr (sn48_15 hw))).ext E4).other W5 (Or.inr (sn48_18 hw))).other W6 (Or.inr (sn48_20 hw))), AF.to ((((V2.other W3 (Ne.symm (Nat.ne_of_lt (Nat.lt_of_lt_of_le (E_a0).lt (Nat.le_of_eq g2.symm))))).ext E4).other W5 (Ne.symm (Nat.ne_of_lt (Nat.lt_of_lt_of_le (E_a0).lt (Nat.le_of_eq g2.symm))))).other W6 (Ne.symm (Nat.ne_of_lt (Nat.lt_of_lt_of_le (E_a0).lt (Nat.le_of_eq g2.symm))))) (fun i _ => own_zJ i), AF.to ((V4.other W5 (Ne.symm (Nat.ne_of_lt (Nat.lt_of_lt_of_le (F3).lt (Nat.le_of_eq g4.symm))))).other W6 (Ne.symm (Nat.ne_of_lt (Nat.lt_of_lt_of_le (F3).lt (Nat.le_of_eq g4.symm))))) (fun i _ => own_zD i)⟩
def own_r (c k : Int32) (x lo hi A w : Int64) : Int64 := if c < k then A else (if lo < x then (if hi < x then A else A + w) else A)
def own_ref (p0 : Int32) (q1 q2 q3 q4 q5 : Int64) : Int64 := own_r p0 3 q3 q4 q5 (own_r p0 2 q2 q4 q5 (own_r p0 1 q1 q4 q5 0 1) 2) 4
theorem own_rb {c k : Int32} {x lo hi A w : Int64} {m M : Int} (hA : 0 ≤ A.toInt ∧ A.toInt ≤ m) (hw : 0 ≤ w.toInt ∧ w.toInt ≤ 8) (hm : m ≤ 7) (hM : m + w.toInt ≤ M) : 0 ≤ (own_r c k x lo hi A w).toInt ∧ (own_r c k x lo hi A w).toInt ≤ M := by
  have e := own_ac (a := A) (b := w) (by omega) (by omega)
  unfold own_r
  repeat' split
  all_goals omega
theorem pn_1 : plainName "com/example/fairshed/fairshed/shedding/SicByTimeForgetPinLaw" = true := by first | (simp [plainName, overriddenIn]; done) | decide +kernel
theorem d8_0 : decode method_3_code 0 = .ok (.dconst 0, 1) := by decide +kernel
theorem d8_1 : decode method_3_code 1 = .ok (.dstore 11, 2) := by decide +kernel
theorem d8_3 : decode method_3_code 3 = .ok (.iload_n 0, 1) := by decide +kernel
theorem d8_4 : decode method_3_code 4 = .ok (.iconst 1, 1) := by decide +kernel
theorem d8_5 : decode method_3_code 5 = .ok (.if_icmp .lt 23, 3) := by decide +kernel
theorem d8_8 : decode method_3_code 8 = .ok (.lload_n 1, 1) := by decide +kernel
theorem d8_9 : decode method_3_code 9 = .ok (.lload 7, 2) := by decide +kernel
theorem d8_11 : decode method_3_code 11 = .ok (.lcmp, 1) := by decide +kernel
theorem d8_12 : decode method_3_code 12 = .ok (.ifCond .le 16, 3) := by decide +kernel
theorem d8_15 : decode method_3_code 15 = .ok (.lload_n 1, 1) := by decide +kernel
theorem d8_16 : decode method_3_code 16 = .ok (.lload 9, 2) := by decide +kernel
theorem d8_18 : decode method_3_code 18 = .ok (.lcmp, 1) := by decide +kernel
theorem d8_19 : decode method_3_code 19 = .ok (.ifCond .gt 9, 3) := by decide +kernel
theorem d8_22 : decode method_3_code 22 = .ok (.dload 11, 2) := by decide +kernel
theorem d8_24 : decode method_3_code 24 = .ok (.dconst 1, 1) := by decide +kernel
theorem d8_25 : decode method_3_code 25 = .ok (.dadd, 1) := by decide +kernel
theorem d8_26 : decode method_3_code 26 = .ok (.dstore 11, 2) := by decide +kernel
theorem d8_28 : decode method_3_code 28 = .ok (.iload_n 0, 1) := by decide +kernel
theorem d8_29 : decode method_3_code 29 = .ok (.iconst 2, 1) := by decide +kernel
theorem d8_30 : decode method_3_code 30 = .ok (.if_icmp .lt 25, 3) := by decide +kernel
theorem d8_33 : decode method_3_code 33 = .ok (.lload_n 3, 1) := by decide +kernel
theorem d8_34 : decode method_3_code 34 = .ok (.lload 7, 2) := by decide +kernel
theorem d8_36 : decode method_3_code 36 = .ok (.lcmp, 1) := by decide +kernel
theorem d8_37 : decode method_3_code 37 = .ok (.ifCond .le 18, 3) := by decide +kernel
theorem d8_40 : decode method_3_code 40 = .ok (.lload_n 3, 1) := by decide +kernel
theorem d8_41 : decode method_3_code 41 = .ok (.lload 9, 2) := by decide +kernel
theorem d8_43 : decode method_3_code 43 = .ok (.lcmp, 1) := by decide +kernel
theorem d8_44 : decode method_3_code 44 = .ok (.ifCond .gt 11, 3) := by decide +kernel
theorem d8_47 : decode method_3_code 47 = .ok (.dload 11, 2) := by decide +kernel
theorem d8_49 : decode method_3_code 49 = .ok (.ldc2_w 24, 3) := by decide +kernel
theorem d8_52 : decode method_3_code 52 = .ok (.dadd, 1) := by decide +kernel
theorem d8_53 : decode method_3_code 53 = .ok (.dstore 11, 2) := by decide +kernel
theorem d8_55 : decode method_3_code 55 = .ok (.iload_n 0, 1) := by decide +kernel
theorem d8_56 : decode method_3_code 56 = .ok (.iconst 3, 1) := by decide +kernel
theorem d8_57 : decode method_3_code 57 = .ok (.if_icmp .lt 27, 3) := by decide +kernel
theorem d8_60 : decode method_3_code 60 = .ok (.lload 5, 2) := by decide +kernel
theorem d8_62 : decode method_3_code 62 = .ok (.lload 7, 2) := by decide +kernel
theorem d8_64 : decode method_3_code 64 = .ok (.lcmp, 1) := by decide +kernel
theorem d8_65 : decode method_3_code 65 = .ok (.ifCond .le 19, 3) := by decide +kernel
theorem d8_68 : decode method_3_code 68 = .ok (.lload 5, 2) := by decide +kernel
theorem d8_70 : decode method_3_code 70 = .ok (.lload 9, 2) := by decide +kernel
theorem d8_72 : decode method_3_code 72 = .ok (.lcmp, 1) := by decide +kernel
theorem d8_73 : decode method_3_code 73 = .ok (.ifCond .gt 11, 3) := by decide +kernel
theorem d8_76 : decode method_3_code 76 = .ok (.dload 11, 2) := by decide +kernel
theorem d8_78 : decode method_3_code 78 = .ok (.ldc2_w 26, 3) := by decide +kernel
theorem d8_81 : decode method_3_code 81 = .ok (.dadd, 1) := by decide +kernel
theorem d8_82 : decode method_3_code 82 = .ok (.dstore 11, 2) := by decide +kernel
theorem d8_84 : decode method_3_code 84 = .ok (.dload 11, 2) := by decide +kernel
theorem d8_86 : decode method_3_code 86 = .ok (.dreturn, 1) := by decide +kernel
theorem ef_rm8 (m : MethodId) (p0 : Int32) (q1 : Int64) (q2 : Int64) (q3 : Int64) (q4 : Int64) (q5 : Int64) : entryFrame m #[(.int p0), (.long q1), (.long q2), (.long q3), (.long q4), (.long q5)] 13 = mkF m 0 #[.val (.int p0), .val (.long q1), .second, .val (.long q2), .second, .val (.long q3), .second, .val (.long q4), .second, .val (.long q5), .second, .unset, .unset] [] := by first | (simp [entryFrame, mkF, argsToLocals, Value.category]; done) | rfl
def Q8 (Z : State) (p0 : Int32) (q1 : Int64) (q2 : Int64) (q3 : Int64) (q4 : Int64) (q5 : Int64) (h0 : Heap) (n0 : Nat) (v : Option Value) (h : Heap) (L : List Loc) : Prop := v = some (.double (FP.l2d (own_ref p0 q1 q2 q3 q4 q5))) ∧ Fr n0 L ∧ h = h0
set_option maxRecDepth 65536 in
set_option maxHeartbeats 40000000 in
theorem rm8 (l : Launch) (Z : State) (aw : Array Value) (hw : ∀ d ∈ tables_1, d.before aw Z = true) (ws : List Jvm.Cond) (p0 : Int32) (q1 : Int64) (q2 : Int64) (q3 : Int64) (q4 : Int64) (q5 : Int64) (h0 : Heap) (n0 : Nat) (Z0 : n0 ≤ h0.size) :
    MetFree l (⟨"com/example/fairshed/fairshed/shedding/SicByTimeForgetPinLaw", "ref", "(IJJJJJ)D"⟩ : MethodName) (head1 (Jvm.Cond.code (⟨"com/example/fairshed/fairshed/shedding/SicByTimeForgetPinLaw", "ref", "(IJJJJJ)D"⟩ : MethodName) method_3_code 13 (some .double) :: ws) ({ frames := 0, cells := 0, slots := 0, locals := 0 } : Room)) (fun a U => a = #[(.int p0), (.long q1), (.long q2), (.long q3), (.long q4), (.long q5)] ∧ Z.Warmed39 U.vm ∧ U.heap = h0) (fun _ _ _ _ _ => True) (fun _ U o U' => ∃ v L, o = .returned v ∧ Q8 Z p0 q1 q2 q3 q4 q5 h0 n0 v U'.heap L ∧ FrameEnd U o U' L ({ frames := 0, cells := 0, slots := 0, locals := 0 } : Room).cells ({ frames := 0, cells := 0, slots := 0, locals := 0 } : Room).slots) := by
  refine MetFree.of_bodySF (plainFor_of_name pn_1) hisR ?_
  intro p e s m args below meth c s₁ Bd hml0 hP hK
  obtain ⟨rfl, hZ, hh⟩ := hP
  have hx := Bd.exec
  have hby := Bd.bytes
  have hml : c.maxLocals = 13 := hml0
  have hown : s.vm.findClass "com/example/fairshed/fairshed/shedding/SicByTimeForgetPinLaw" = some m.cls := findClass_of_methodNamed Bd.named
  have hnm := (name_of_methodNamed Bd.named Bd.method).1
  have X0 : Stand p l e ({ frames := 0, cells := 0, slots := 0, locals := 0 } : Room) s m #[(.int p0), (.long q1), (.long q2), (.long q3), (.long q4), (.long q5)] below meth c s₁ [] 0 0 := Stand.of_body Bd
  have e0 : s₁.heap = h0 := by rw [← hh, Bd.state]; rfl
  have N0 := Fr.nil n0
  have K0 : Keep h0 h0 [] := Keep.refl _ _
  refine own_by (A' := s₁.setTop (mkF m 0 #[.val (.int p0), .val (.long q1), .second, .val (.long q2), .second, .val (.long q3), .second, .val (.long q4), .second, .val (.long q5), .second, .unset, .unset] [])) (fun t k => castTop (ef_rm8 m p0 q1 q2 q3 q4 q5) k) ?_
  refine own_by (A' := s₁.setTop (mkF m 5 #[.val (.int p0), .val (.long q1), .second, .val (.long q2), .second, .val (.long q3), .second, .val (.long q4), .second, .val (.long q5), .second, .val (.double (FP.l2d (0 : Int64))), .second] [(.int (1 : Int32)), (.int p0)])) (fun t kt => ?_) ?_
  · refine XS.dconst0 X0.here hx rfl (hb hby d8_0) (v := FP.l2d (0 : Int64)) (by decide +kernel) ?_
    refine XS.dstore X0.here hx rfl (hb hby d8_1) rfl (l' := #[.val (.int p0), .val (.long q1), .second, .val (.long q2), .second, .val (.long q3), .second, .val (.long q4), .second, .val (.long q5), .second, .val (.double (FP.l2d (0 : Int64))), .second]) rfl ?_
    refine XS.iloadN X0.here hx rfl (hb hby d8_3) rfl ?_
    refine XS.iconst X0.here hx rfl (hb hby d8_4) ?_
    exact kt
  refine own_cut (Φ := fun A' => ∃ (TJ1 : State) (LJ1 : List Loc) (s1 : Int64), A' = TJ1.setTop (mkF m 28 #[.val (.int p0), .val (.long q1), .second, .val (.long q2), .second, .val (.long q3), .second, .val (.long q4), .second, .val (.long q5), .second, .val (.double (FP.l2d s1)), .second] []) ∧ Stand p l e ({ frames := 0, cells := 0, slots := 0, locals := 0 } : Room) s m #[(.int p0), (.long q1), (.long q2), (.long q3), (.long q4), (.long q5)] below meth c TJ1 LJ1 0 0 ∧ TJ1.heap = h0 ∧ Fr n0 LJ1 ∧ (s1 = own_r p0 (1 : Int32) q1 q4 q5 (0 : Int64) (1 : Int64))) (fun kJ1 => ?_) ?_
  · by_cases hc5_2 : p0 < (1 : Int32)
    · refine own_by (A' := s₁.setTop (mkF m 28 #[.val (.int p0), .val (.long q1), .second, .val (.long q2), .second, .val (.long q3), .second, .val (.long q4), .second, .val (.long q5), .second, .val (.double (FP.l2d (0 : Int64))), .second] [])) (fun t kt => ?_) ?_
      · refine XS.icmpYes X0.here hx rfl (pc0 := 5) (pc' := 28) rfl (hb hby d8_5) rfl (tlt hc5_2).1 (by decide) (by decide) ?_
        exact kt
      exact kJ1 _ ⟨s₁, _, (0 : Int64), rfl, X0, e0, N0, (by rw [own_r, if_pos hc5_2])⟩
    · refine own_by (A' := s₁.setTop (mkF m 12 #[.val (.int p0), .val (.long q1), .second, .val (.long q2), .second, .val (.long q3), .second, .val (.long q4), .second, .val (.long q5), .second, .val (.double (FP.l2d (0 : Int64))), .second] [(.int (lcmpW q1 q4))])) (fun t kt => ?_) ?_
      · refine XS.icmpNo X0.here hx rfl (hb hby d8_5) rfl (flt hc5_2).1 ?_
        refine XS.lloadN X0.here hx rfl (hb hby d8_8) rfl ?_
        refine XS.lload X0.here hx rfl (hb hby d8_9) rfl ?_
        refine XS.lcmp X0.here hx rfl (hb hby d8_11) rfl ?_
        exact kt
      by_cases hc12_3 : q4 < q1
      · refine own_by (A' := s₁.setTop (mkF m 19 #[.val (.int p0), .val (.long q1), .second, .val (.long q2), .second, .val (.long q3), .second, .val (.long q4), .second, .val (.long q5), .second, .val (.double (FP.l2d (0 : Int64))), .second] [(.int (lcmpW q1 q5))])) (fun t kt => ?_) ?_
        · refine XS.ifNo X0.here hx rfl (hb hby d8_12) rfl ((if0 _ _).trans (tlt ((lw_gt _ _).mpr hc12_3)).2.2.2) ?_
          refine XS.lloadN X0.here hx rfl (hb hby d8_15) rfl ?_
          refine XS.lload X0.here hx rfl (hb hby d8_16) rfl ?_
          refine XS.lcmp X0.here hx rfl (hb hby d8_18) rfl ?_
          exact kt
        by_cases hc19_4 : q5 < q1
        · refine own_by (A' := s₁.setTop (mkF m 28 #[.val (.int p0), .val (.long q1), .second, .val (.long q2), .second, .val (.long q3), .second, .val (.long q4), .second, .val (.long q5), .second, .val (.double (FP.l2d (0 : Int64))), .second] [])) (fun t kt => ?_) ?_
          · refine XS.ifYes X0.here hx rfl (pc0 := 19) (pc' := 28) rfl (hb hby d8_19) rfl ((if0 _ _).trans (tlt ((lw_gt _ _).mpr hc19_4)).2.2.1) (by decide) (by decide) ?_
            exact kt
          exact kJ1 _ ⟨s₁, _, (0 : Int64), rfl, X0, e0, N0, (by rw [own_r, if_neg hc5_2, if_pos hc12_3, if_pos hc19_4])⟩
        · refine own_by (A' := s₁.setTop (mkF m 25 #[.val (.int p0), .val (.long q1), .second, .val (.long q2), .second, .val (.long q3), .second, .val (.long q4), .second, .val (.long q5), .second, .val (.double (FP.l2d (0 : Int64))), .second] [(.double (FP.l2d (1 : Int64))), (.double (FP.l2d (0 : Int64)))])) (fun t kt => ?_) ?_
          · refine XS.ifNo X0.here hx rfl (hb hby d8_19) rfl ((if0 _ _).trans (flt (fun q => hc19_4 ((lw_gt _ _).mp q))).2.2.1) ?_
            refine XS.dload X0.here hx rfl (hb hby d8_22) rfl ?_
            refine XS.dconst1 X0.here hx rfl (hb hby d8_24) (v := FP.l2d (1 : Int64)) (by decide +kernel) ?_
            exact kt
          have ey5 : (1 : Int64).toInt = 1 := by decide
          have ex5 : (0 : Int64).toInt = 0 := by decide
          have ha5 := own_ac (a := (0 : Int64)) (b := (1 : Int64)) (by omega) (by omega)
          have ey6 : (1 : Int64).toInt = 1 := by decide
          have ex6 : (0 : Int64).toInt = 0 := by decide
          have ha6 := own_ac (a := (0 : Int64)) (b := (1 : Int64)) (by omega) (by omega)
          refine own_by (A' := s₁.setTop (mkF m 28 #[.val (.int p0), .val (.long q1), .second, .val (.long q2), .second, .val (.long q3), .second, .val (.long q4), .second, .val (.long q5), .second, .val (.double (FP.l2d ((0 : Int64) + (1 : Int64)))), .second] [])) (fun t kt => ?_) ?_
          · refine XS.daddS X0.here hx rfl (hb hby d8_25) rfl (own_nn2 (a := (0 : Int64)) (b := (1 : Int64)) (by unfold own_B; omega) (by unfold own_B; omega) (by unfold own_B; omega)) (v := FP.l2d ((0 : Int64) + (1 : Int64))) (dadd_w (own_53 (by unfold own_B; omega)) (own_53 (by unfold own_B; omega))) ?_
            refine XS.dstore X0.here hx rfl (hb hby d8_26) rfl (l' := #[.val (.int p0), .val (.long q1), .second, .val (.long q2), .second, .val (.long q3), .second, .val (.long q4), .second, .val (.long q5), .second, .val (.double (FP.l2d ((0 : Int64) + (1 : Int64)))), .second]) rfl ?_
            exact kt
          exact kJ1 _ ⟨s₁, _, ((0 : Int64) + (1 : Int64)), rfl, X0, e0, N0, (by rw [own_r, if_neg hc5_2, if_pos hc12_3, if_neg hc19_4])⟩
      · refine own_by (A' := s₁.setTop (mkF m 28 #[.val (.int p0), .val (.long q1), .second, .val (.long q2), .second, .val (.long q3), .second, .val (.long q4), .second, .val (.long q5), .second, .val (.double (FP.l2d (0 : Int64))), .second] [])) (fun t kt => ?_) ?_
        · refine XS.ifYes X0.here hx rfl (pc0 := 12) (pc' := 28) rfl (hb hby d8_12) rfl ((if0 _ _).trans (flt (fun q => hc12_3 ((lw_gt _ _).mp q))).2.2.2) (by decide) (by decide) ?_
          exact kt
        exact kJ1 _ ⟨s₁, _, (0 : Int64), rfl, X0, e0, N0, (by rw [own_r, if_neg hc5_2, if_neg hc12_3])⟩
  rintro A' ⟨TJ1, LJ1, s1, rfl, XJ1, eJ1, NJ1, hs1⟩
  have hb1 : 0 ≤ s1.toInt ∧ s1.toInt ≤ 1 := by rw [hs1]; exact own_rb (m := 0) (by decide) (by decide) (by decide) (by decide)
  refine own_by (A' := TJ1.setTop (mkF m 30 #[.val (.int p0), .val (.long q1), .second, .val (.long q2), .second, .val (.long q3), .second, .val (.long q4), .second, .val (.long q5), .second, .val (.double (FP.l2d s1)), .second] [(.int (2 : Int32)), (.int p0)])) (fun t kt => ?_) ?_
  · refine XS.iloadN XJ1.here hx rfl (hb hby d8_28) rfl ?_
    refine XS.iconst XJ1.here hx rfl (hb hby d8_29) ?_
    exact kt
  refine own_cut (Φ := fun A' => ∃ (TJ7 : State) (LJ7 : List Loc) (s2 : Int64), A' = TJ7.setTop (mkF m 55 #[.val (.int p0), .val (.long q1), .second, .val (.long q2), .second, .val (.long q3), .second, .val (.long q4), .second, .val (.long q5), .second, .val (.double (FP.l2d s2)), .second] []) ∧ Stand p l e ({ frames := 0, cells := 0, slots := 0, locals := 0 } : Room) s m #[(.int p0), (.long q1), (.long q2), (.long q3), (.long q4), (.long q5)] below meth c TJ7 LJ7 0 0 ∧ TJ7.heap = h0 ∧ Fr n0 LJ7 ∧ (s2 = own_r p0 (2 : Int32) q2 q4 q5 s1 (2 : Int64))) (fun kJ7 => ?_) ?_
  · by_cases hc30_8 : p0 < (2 : Int32)
    · refine own_by (A' := TJ1.setTop (mkF m 55 #[.val (.int p0), .val (.long q1), .second, .val (.long q2), .second, .val (.long q3), .second, .val (.long q4), .second, .val (.long q5), .second, .val (.double (FP.l2d s1)), .second] [])) (fun t kt => ?_) ?_
      · refine XS.icmpYes XJ1.here hx rfl (pc0 := 30) (pc' := 55) rfl (hb hby d8_30) rfl (tlt hc30_8).1 (by decide) (by decide) ?_
        exact kt
      exact kJ7 _ ⟨TJ1, _, s1, rfl, XJ1, eJ1, NJ1, (by rw [own_r, if_pos hc30_8])⟩
    · refine own_by (A' := TJ1.setTop (mkF m 37 #[.val (.int p0), .val (.long q1), .second, .val (.long q2), .second, .val (.long q3), .second, .val (.long q4), .second, .val (.long q5), .second, .val (.double (FP.l2d s1)), .second] [(.int (lcmpW q2 q4))])) (fun t kt => ?_) ?_
      · refine XS.icmpNo XJ1.here hx rfl (hb hby d8_30) rfl (flt hc30_8).1 ?_
        refine XS.lloadN XJ1.here hx rfl (hb hby d8_33) rfl ?_
        refine XS.lload XJ1.here hx rfl (hb hby d8_34) rfl ?_
        refine XS.lcmp XJ1.here hx rfl (hb hby d8_36) rfl ?_
        exact kt
      by_cases hc37_9 : q4 < q2
      · refine own_by (A' := TJ1.setTop (mkF m 44 #[.val (.int p0), .val (.long q1), .second, .val (.long q2), .second, .val (.long q3), .second, .val (.long q4), .second, .val (.long q5), .second, .val (.double (FP.l2d s1)), .second] [(.int (lcmpW q2 q5))])) (fun t kt => ?_) ?_
        · refine XS.ifNo XJ1.here hx rfl (hb hby d8_37) rfl ((if0 _ _).trans (tlt ((lw_gt _ _).mpr hc37_9)).2.2.2) ?_
          refine XS.lloadN XJ1.here hx rfl (hb hby d8_40) rfl ?_
          refine XS.lload XJ1.here hx rfl (hb hby d8_41) rfl ?_
          refine XS.lcmp XJ1.here hx rfl (hb hby d8_43) rfl ?_
          exact kt
        by_cases hc44_10 : q5 < q2
        · refine own_by (A' := TJ1.setTop (mkF m 55 #[.val (.int p0), .val (.long q1), .second, .val (.long q2), .second, .val (.long q3), .second, .val (.long q4), .second, .val (.long q5), .second, .val (.double (FP.l2d s1)), .second] [])) (fun t kt => ?_) ?_
          · refine XS.ifYes XJ1.here hx rfl (pc0 := 44) (pc' := 55) rfl (hb hby d8_44) rfl ((if0 _ _).trans (tlt ((lw_gt _ _).mpr hc44_10)).2.2.1) (by decide) (by decide) ?_
            exact kt
          exact kJ7 _ ⟨TJ1, _, s1, rfl, XJ1, eJ1, NJ1, (by rw [own_r, if_neg hc30_8, if_pos hc37_9, if_pos hc44_10])⟩
        · refine own_by (A' := TJ1.setTop (mkF m 52 #[.val (.int p0), .val (.long q1), .second, .val (.long q2), .second, .val (.long q3), .second, .val (.long q4), .second, .val (.long q5), .second, .val (.double (FP.l2d s1)), .second] [(.double (FP.l2d (2 : Int64))), (.double (FP.l2d s1))])) (fun t kt => ?_) ?_
          · refine XS.ifNo XJ1.here hx rfl (hb hby d8_44) rfl ((if0 _ _).trans (flt (fun q => hc44_10 ((lw_gt _ _).mp q))).2.2.1) ?_
            refine XS.dload XJ1.here hx rfl (hb hby d8_47) rfl ?_
            refine own_ldc2D XJ1 hx hown (mvT hZ (wd64 hw)) (k := 2) (by decide +kernel) (g := (mkF m 49 #[.val (.int p0), .val (.long q1), .second, .val (.long q2), .second, .val (.long q3), .second, .val (.long q4), .second, .val (.long q5), .second, .val (.double (FP.l2d s1)), .second] [(.double (FP.l2d s1))])) rfl (hb hby d8_49) _ ?_
            exact kt
          have ey11 : (2 : Int64).toInt = 2 := by decide
          have ha11 := own_ac (a := s1) (b := (2 : Int64)) (by omega) (by omega)
          have ey12 : (2 : Int64).toInt = 2 := by decide
          have ha12 := own_ac (a := s1) (b := (2 : Int64)) (by omega) (by omega)
          refine own_by (A' := TJ1.setTop (mkF m 55 #[.val (.int p0), .val (.long q1), .second, .val (.long q2), .second, .val (.long q3), .second, .val (.long q4), .second, .val (.long q5), .second, .val (.double (FP.l2d (s1 + (2 : Int64)))), .second] [])) (fun t kt => ?_) ?_
          · refine XS.daddS XJ1.here hx rfl (hb hby d8_52) rfl (own_nn2 (a := s1) (b := (2 : Int64)) (by unfold own_B; omega) (by unfold own_B; omega) (by unfold own_B; omega)) (v := FP.l2d (s1 + (2 : Int64))) (dadd_w (own_53 (by unfold own_B; omega)) (own_53 (by unfold own_B; omega))) ?_
            refine XS.dstore XJ1.here hx rfl (hb hby d8_53) rfl (l' := #[.val (.int p0), .val (.long q1), .second, .val (.long q2), .second, .val (.long q3), .second, .val (.long q4), .second, .val (.long q5), .second, .val (.double (FP.l2d (s1 + (2 : Int64)))), .second]) rfl ?_
            exact kt
          exact kJ7 _ ⟨TJ1, _, (s1 + (2 : Int64)), rfl, XJ1, eJ1, NJ1, (by rw [own_r, if_neg hc30_8, if_pos hc37_9, if_neg hc44_10])⟩
      · refine own_by (A' := TJ1.setTop (mkF m 55 #[.val (.int p0), .val (.long q1), .second, .val (.long q2), .second, .val (.long q3), .second, .val (.long q4), .second, .val (.long q5), .second, .val (.double (FP.l2d s1)), .second] [])) (fun t kt => ?_) ?_
        · refine XS.ifYes XJ1.here hx rfl (pc0 := 37) (pc' := 55) rfl (hb hby d8_37) rfl ((if0 _ _).trans (flt (fun q => hc37_9 ((lw_gt _ _).mp q))).2.2.2) (by decide) (by decide) ?_
          exact kt
        exact kJ7 _ ⟨TJ1, _, s1, rfl, XJ1, eJ1, NJ1, (by rw [own_r, if_neg hc30_8, if_neg hc37_9])⟩
  rintro A' ⟨TJ7, LJ7, s2, rfl, XJ7, eJ7, NJ7, hs2⟩
  have hb2 : 0 ≤ s2.toInt ∧ s2.toInt ≤ 3 := by rw [hs2]; exact own_rb hb1 (by decide) (by decide) (by decide)
  refine own_by (A' := TJ7.setTop (mkF m 57 #[.val (.int p0), .val (.long q1), .second, .val (.long q2), .second, .val (.long q3), .second, .val (.long q4), .second, .val (.long q5), .second, .val (.double (FP.l2d s2)), .second] [(.int (3 : Int32)), (.int p0)])) (fun t kt => ?_) ?_
  · refine XS.iloadN XJ7.here hx rfl (hb hby d8_55) rfl ?_
    refine XS.iconst XJ7.here hx rfl (hb hby d8_56) ?_
    exact kt
  refine own_cut (Φ := fun A' => ∃ (TJ13 : State) (LJ13 : List Loc) (s3 : Int64), A' = TJ13.setTop (mkF m 84 #[.val (.int p0), .val (.long q1), .second, .val (.long q2), .second, .val (.long q3), .second, .val (.long q4), .second, .val (.long q5), .second, .val (.double (FP.l2d s3)), .second] []) ∧ Stand p l e ({ frames := 0, cells := 0, slots := 0, locals := 0 } : Room) s m #[(.int p0), (.long q1), (.long q2), (.long q3), (.long q4), (.long q5)] below meth c TJ13 LJ13 0 0 ∧ TJ13.heap = h0 ∧ Fr n0 LJ13 ∧ (s3 = own_r p0 (3 : Int32) q3 q4 q5 s2 (4 : Int64))) (fun kJ13 => ?_) ?_
  · by_cases hc57_14 : p0 < (3 : Int32)
    · refine own_by (A' := TJ7.setTop (mkF m 84 #[.val (.int p0), .val (.long q1), .second, .val (.long q2), .second, .val (.long q3), .second, .val (.long q4), .second, .val (.long q5), .second, .val (.double (FP.l2d s2)), .second] [])) (fun t kt => ?_) ?_
      · refine XS.icmpYes XJ7.here hx rfl (pc0 := 57) (pc' := 84) rfl (hb hby d8_57) rfl (tlt hc57_14).1 (by decide) (by decide) ?_
        exact kt
      exact kJ13 _ ⟨TJ7, _, s2, rfl, XJ7, eJ7, NJ7, (by rw [own_r, if_pos hc57_14])⟩
    · refine own_by (A' := TJ7.setTop (mkF m 65 #[.val (.int p0), .val (.long q1), .second, .val (.long q2), .second, .val (.long q3), .second, .val (.long q4), .second, .val (.long q5), .second, .val (.double (FP.l2d s2)), .second] [(.int (lcmpW q3 q4))])) (fun t kt => ?_) ?_
      · refine XS.icmpNo XJ7.here hx rfl (hb hby d8_57) rfl (flt hc57_14).1 ?_
        refine XS.lload XJ7.here hx rfl (hb hby d8_60) rfl ?_
        refine XS.lload XJ7.here hx rfl (hb hby d8_62) rfl ?_
        refine XS.lcmp XJ7.here hx rfl (hb hby d8_64) rfl ?_
        exact kt
      by_cases hc65_15 : q4 < q3
      · refine own_by (A' := TJ7.setTop (mkF m 73 #[.val (.int p0), .val (.long q1), .second, .val (.long q2), .second, .val (.long q3), .second, .val (.long q4), .second, .val (.long q5), .second, .val (.double (FP.l2d s2)), .second] [(.int (lcmpW q3 q5))])) (fun t kt => ?_) ?_
        · refine XS.ifNo XJ7.here hx rfl (hb hby d8_65) rfl ((if0 _ _).trans (tlt ((lw_gt _ _).mpr hc65_15)).2.2.2) ?_
          refine XS.lload XJ7.here hx rfl (hb hby d8_68) rfl ?_
          refine XS.lload XJ7.here hx rfl (hb hby d8_70) rfl ?_
          refine XS.lcmp XJ7.here hx rfl (hb hby d8_72) rfl ?_
          exact kt
        by_cases hc73_16 : q5 < q3
        · refine own_by (A' := TJ7.setTop (mkF m 84 #[.val (.int p0), .val (.long q1), .second, .val (.long q2), .second, .val (.long q3), .second, .val (.long q4), .second, .val (.long q5), .second, .val (.double (FP.l2d s2)), .second] [])) (fun t kt => ?_) ?_
          · refine XS.ifYes XJ7.here hx rfl (pc0 := 73) (pc' := 84) rfl (hb hby d8_73) rfl ((if0 _ _).trans (tlt ((lw_gt _ _).mpr hc73_16)).2.2.1) (by decide) (by decide) ?_
            exact kt
          exact kJ13 _ ⟨TJ7, _, s2, rfl, XJ7, eJ7, NJ7, (by rw [own_r, if_neg hc57_14, if_pos hc65_15, if_pos hc73_16])⟩
        · refine own_by (A' := TJ7.setTop (mkF m 81 #[.val (.int p0), .val (.long q1), .second, .val (.long q2), .second, .val (.long q3), .second, .val (.long q4), .second, .val (.long q5), .second, .val (.double (FP.l2d s2)), .second] [(.double (FP.l2d (4 : Int64))), (.double (FP.l2d s2))])) (fun t kt => ?_) ?_
          · refine XS.ifNo XJ7.here hx rfl (hb hby d8_73) rfl ((if0 _ _).trans (flt (fun q => hc73_16 ((lw_gt _ _).mp q))).2.2.1) ?_
            refine XS.dload XJ7.here hx rfl (hb hby d8_76) rfl ?_
            refine own_ldc2D XJ7 hx hown (mvT hZ (wd65 hw)) (k := 4) (by decide +kernel) (g := (mkF m 78 #[.val (.int p0), .val (.long q1), .second, .val (.long q2), .second, .val (.long q3), .second, .val (.long q4), .second, .val (.long q5), .second, .val (.double (FP.l2d s2)), .second] [(.double (FP.l2d s2))])) rfl (hb hby d8_78) _ ?_
            exact kt
          have ey17 : (4 : Int64).toInt = 4 := by decide
          have ha17 := own_ac (a := s2) (b := (4 : Int64)) (by omega) (by omega)
          have ey18 : (4 : Int64).toInt = 4 := by decide
          have ha18 := own_ac (a := s2) (b := (4 : Int64)) (by omega) (by omega)
          refine own_by (A' := TJ7.setTop (mkF m 84 #[.val (.int p0), .val (.long q1), .second, .val (.long q2), .second, .val (.long q3), .second, .val (.long q4), .second, .val (.long q5), .second, .val (.double (FP.l2d (s2 + (4 : Int64)))), .second] [])) (fun t kt => ?_) ?_
          · refine XS.daddS XJ7.here hx rfl (hb hby d8_81) rfl (own_nn2 (a := s2) (b := (4 : Int64)) (by unfold own_B; omega) (by unfold own_B; omega) (by unfold own_B; omega)) (v := FP.l2d (s2 + (4 : Int64))) (dadd_w (own_53 (by unfold own_B; omega)) (own_53 (by unfold own_B; omega))) ?_
            refine XS.dstore XJ7.here hx rfl (hb hby d8_82) rfl (l' := #[.val (.int p0), .val (.long q1), .second, .val (.long q2), .second, .val (.long q3), .second, .val (.long q4), .second, .val (.long q5), .second, .val (.double (FP.l2d (s2 + (4 : Int64)))), .second]) rfl ?_
            exact kt
          exact kJ13 _ ⟨TJ7, _, (s2 + (4 : Int64)), rfl, XJ7, eJ7, NJ7, (by rw [own_r, if_neg hc57_14, if_pos hc65_15, if_neg hc73_16])⟩
      · refine own_by (A' := TJ7.setTop (mkF m 84 #[.val (.int p0), .val (.long q1), .second, .val (.long q2), .second, .val (.long q3), .second, .val (.long q4), .second, .val (.long q5), .second, .val (.double (FP.l2d s2)), .second] [])) (fun t kt => ?_) ?_
        · refine XS.ifYes XJ7.here hx rfl (pc0 := 65) (pc' := 84) rfl (hb hby d8_65) rfl ((if0 _ _).trans (flt (fun q => hc65_15 ((lw_gt _ _).mp q))).2.2.2) (by decide) (by decide) ?_
          exact kt
        exact kJ13 _ ⟨TJ7, _, s2, rfl, XJ7, eJ7, NJ7, (by rw [own_r, if_neg hc57_14, if_neg hc65_15])⟩
  rintro A' ⟨TJ13, LJ13, s3, rfl, XJ13, eJ13, NJ13, hs3⟩
  have hb3 : 0 ≤ s3.toInt ∧ s3.toInt ≤ 7 := by rw [hs3]; exact own_rb hb2 (by decide) (by decide) (by decide)
  refine own_by (A' := TJ13.setTop (mkF m 86 #[.val (.int p0), .val (.long q1), .second, .val (.long q2), .second, .val (.long q3), .second, .val (.long q4), .second, .val (.long q5), .second, .val (.double (FP.l2d s3)), .second] [(.double (FP.l2d s3))])) (fun t kt => ?_) ?_
  · refine XS.dload XJ13.here hx rfl (hb hby d8_84) rfl ?_
    exact kt
  obtain ⟨fs, hr, hrun, hended, hW, hsame⟩ := XJ13.leave (v := some (.double (FP.l2d s3))) (fun h => by rw [Bd.returns] at h; cases h)
  refine ⟨_, _, ?_, hrun, hended, _, _, rfl, ?_, ⟨_, rfl⟩, hW, hsame.mono (by decide) (by decide)⟩
  · exact own_retD XJ13 hx Bd.returns (hb hby d8_86) hr
  · show Q8 Z p0 q1 q2 q3 q4 q5 h0 n0 _ TJ13.heap _
    rw [eJ13]
    exact ⟨by rw [hs3, hs2, hs1]; rfl, NJ13, rfl⟩
theorem pn_2 : plainName "java/util/Arrays" = true := by first | (simp [plainName, overriddenIn]; done) | decide +kernel
theorem d11_0 : decode jdk_65_method_30_code 0 = .ok (.iload_n 1, 1) := by decide +kernel
theorem d11_1 : decode jdk_65_method_30_code 1 = .ok (.iload_n 2, 1) := by decide +kernel
theorem d11_2 : decode jdk_65_method_30_code 2 = .ok (.if_icmp .le 44, 3) := by decide +kernel
theorem d11_46 : decode jdk_65_method_30_code 46 = .ok (.iload_n 1, 1) := by decide +kernel
theorem d11_47 : decode jdk_65_method_30_code 47 = .ok (.ifCond .ge 12, 3) := by decide +kernel
theorem d11_59 : decode jdk_65_method_30_code 59 = .ok (.iload_n 2, 1) := by decide +kernel
theorem d11_60 : decode jdk_65_method_30_code 60 = .ok (.iload_n 0, 1) := by decide +kernel
theorem d11_61 : decode jdk_65_method_30_code 61 = .ok (.if_icmp .le 12, 3) := by decide +kernel
theorem d11_73 : decode jdk_65_method_30_code 73 = .ok (.return_, 1) := by decide +kernel
theorem ef_rmRC01 (m : MethodId)  : entryFrame m #[(.int (8 : Int32)), (.int (0 : Int32)), (.int (1 : Int32))] 3 = mkF m 0 #[.val (.int (8 : Int32)), .val (.int (0 : Int32)), .val (.int (1 : Int32))] [] := by first | (simp [entryFrame, mkF, argsToLocals, Value.category]; done) | rfl
def QRC01 (Z : State)  (h0 : Heap) (n0 : Nat) (v : Option Value) (h : Heap) (L : List Loc) : Prop := v = none ∧ Fr n0 L ∧ h = h0
set_option maxRecDepth 65536 in
set_option maxHeartbeats 40000000 in
theorem rmRC01 (l : Launch) (Z : State) (aw : Array Value) (hw : ∀ d ∈ tables_1, d.before aw Z = true) (ws : List Jvm.Cond)  (h0 : Heap) (n0 : Nat) (Z0 : n0 ≤ h0.size) :
    MetFree l (⟨"java/util/Arrays", "rangeCheck", "(III)V"⟩ : MethodName) (head1 (Jvm.Cond.code (⟨"java/util/Arrays", "rangeCheck", "(III)V"⟩ : MethodName) jdk_65_method_30_code 3 none :: ws) ({ frames := 0, cells := 0, slots := 0, locals := 0 } : Room)) (fun a U => a = #[(.int (8 : Int32)), (.int (0 : Int32)), (.int (1 : Int32))] ∧ Z.Warmed39 U.vm ∧ U.heap = h0) (fun _ _ _ _ _ => True) (fun _ U o U' => ∃ v L, o = .returned v ∧ QRC01 Z  h0 n0 v U'.heap L ∧ FrameEnd U o U' L ({ frames := 0, cells := 0, slots := 0, locals := 0 } : Room).cells ({ frames := 0, cells := 0, slots := 0, locals := 0 } : Room).slots) := by
  refine MetFree.of_bodySF (plainFor_of_name pn_2) hisR ?_
  intro p e s m args below meth c s₁ Bd hml0 hP hK
  obtain ⟨rfl, hZ, hh⟩ := hP
  have hx := Bd.exec
  have hby := Bd.bytes
  have hml : c.maxLocals = 3 := hml0
  have hown : s.vm.findClass "java/util/Arrays" = some m.cls := findClass_of_methodNamed Bd.named
  have hnm := (name_of_methodNamed Bd.named Bd.method).1
  have X0 : Stand p l e ({ frames := 0, cells := 0, slots := 0, locals := 0 } : Room) s m #[(.int (8 : Int32)), (.int (0 : Int32)), (.int (1 : Int32))] below meth c s₁ [] 0 0 := Stand.of_body Bd
  have e0 : s₁.heap = h0 := by rw [← hh, Bd.state]; rfl
  have N0 := Fr.nil n0
  have K0 : Keep h0 h0 [] := Keep.refl _ _
  refine own_by (A' := s₁.setTop (mkF m 0 #[.val (.int (8 : Int32)), .val (.int (0 : Int32)), .val (.int (1 : Int32))] [])) (fun t k => castTop (ef_rmRC01 m ) k) ?_
  refine own_by (A' := s₁.setTop (mkF m 2 #[.val (.int (8 : Int32)), .val (.int (0 : Int32)), .val (.int (1 : Int32))] [(.int (1 : Int32)), (.int (0 : Int32))])) (fun t kt => ?_) ?_
  · refine XS.iloadN X0.here hx rfl (hb hby d11_0) rfl ?_
    refine XS.iloadN X0.here hx rfl (hb hby d11_1) rfl ?_
    exact kt
  have hc2_1 : ¬ ((1 : Int32) < (0 : Int32)) := by decide
  refine own_by (A' := s₁.setTop (mkF m 47 #[.val (.int (8 : Int32)), .val (.int (0 : Int32)), .val (.int (1 : Int32))] [(.int (0 : Int32))])) (fun t kt => ?_) ?_
  · refine XS.icmpYes X0.here hx rfl (pc0 := 2) (pc' := 46) rfl (hb hby d11_2) rfl (flt hc2_1).2.2.2 (by decide) (by decide) ?_
    refine XS.iloadN X0.here hx rfl (hb hby d11_46) rfl ?_
    exact kt
  have hc47_2 : ¬ ((0 : Int32) < (0 : Int32)) := by decide
  refine own_by (A' := s₁.setTop (mkF m 61 #[.val (.int (8 : Int32)), .val (.int (0 : Int32)), .val (.int (1 : Int32))] [(.int (8 : Int32)), (.int (1 : Int32))])) (fun t kt => ?_) ?_
  · refine XS.ifYes X0.here hx rfl (pc0 := 47) (pc' := 59) rfl (hb hby d11_47) rfl ((if0 _ _).trans (flt hc47_2).2.1) (by decide) (by decide) ?_
    refine XS.iloadN X0.here hx rfl (hb hby d11_59) rfl ?_
    refine XS.iloadN X0.here hx rfl (hb hby d11_60) rfl ?_
    exact kt
  have hc61_3 : ¬ ((8 : Int32) < (1 : Int32)) := by decide
  refine own_by (A' := s₁.setTop (mkF m 73 #[.val (.int (8 : Int32)), .val (.int (0 : Int32)), .val (.int (1 : Int32))] [])) (fun t kt => ?_) ?_
  · refine XS.icmpYes X0.here hx rfl (pc0 := 61) (pc' := 73) rfl (hb hby d11_61) rfl (flt hc61_3).2.2.2 (by decide) (by decide) ?_
    exact kt
  obtain ⟨fs, hr, hrun, hended, hW, hsame⟩ := X0.leave (v := none) (fun _ => rfl)
  refine ⟨_, _, ?_, hrun, hended, _, _, rfl, ?_, ⟨_, rfl⟩, hW, hsame.mono (by decide) (by decide)⟩
  · exact X0.returnOut hx Bd.returns (hb hby d11_73) hr
  · show QRC01 Z  h0 n0 _ s₁.heap _
    rw [e0]
    exact ⟨rfl, N0, rfl⟩
def own_b001 (t0 t1 t2 q3 : Int64) : Int32 := (if t0 < q3 then (-(2 : Int32)) else (if q3 < t0 then (-(1 : Int32)) else (0 : Int32)))
theorem d12_0 : decode jdk_65_method_56_code 0 = .ok (.iload_n 1, 1) := by decide +kernel
theorem d12_1 : decode jdk_65_method_56_code 1 = .ok (.istore 5, 2) := by decide +kernel
theorem d12_3 : decode jdk_65_method_56_code 3 = .ok (.iload_n 2, 1) := by decide +kernel
theorem d12_4 : decode jdk_65_method_56_code 4 = .ok (.iconst 1, 1) := by decide +kernel
theorem d12_5 : decode jdk_65_method_56_code 5 = .ok (.isub, 1) := by decide +kernel
theorem d12_6 : decode jdk_65_method_56_code 6 = .ok (.istore 6, 2) := by decide +kernel
theorem d12_8 : decode jdk_65_method_56_code 8 = .ok (.iload 5, 2) := by decide +kernel
theorem d12_10 : decode jdk_65_method_56_code 10 = .ok (.iload 6, 2) := by decide +kernel
theorem d12_12 : decode jdk_65_method_56_code 12 = .ok (.if_icmp .gt 56, 3) := by decide +kernel
theorem d12_15 : decode jdk_65_method_56_code 15 = .ok (.iload 5, 2) := by decide +kernel
theorem d12_17 : decode jdk_65_method_56_code 17 = .ok (.iload 6, 2) := by decide +kernel
theorem d12_19 : decode jdk_65_method_56_code 19 = .ok (.iadd, 1) := by decide +kernel
theorem d12_20 : decode jdk_65_method_56_code 20 = .ok (.iconst 1, 1) := by decide +kernel
theorem d12_21 : decode jdk_65_method_56_code 21 = .ok (.iushr, 1) := by decide +kernel
theorem d12_22 : decode jdk_65_method_56_code 22 = .ok (.istore 7, 2) := by decide +kernel
theorem d12_24 : decode jdk_65_method_56_code 24 = .ok (.aload_n 0, 1) := by decide +kernel
theorem d12_25 : decode jdk_65_method_56_code 25 = .ok (.iload 7, 2) := by decide +kernel
theorem d12_27 : decode jdk_65_method_56_code 27 = .ok (.laload, 1) := by decide +kernel
theorem d12_28 : decode jdk_65_method_56_code 28 = .ok (.lstore 8, 2) := by decide +kernel
theorem d12_30 : decode jdk_65_method_56_code 30 = .ok (.lload 8, 2) := by decide +kernel
theorem d12_32 : decode jdk_65_method_56_code 32 = .ok (.lload_n 3, 1) := by decide +kernel
theorem d12_33 : decode jdk_65_method_56_code 33 = .ok (.lcmp, 1) := by decide +kernel
theorem d12_34 : decode jdk_65_method_56_code 34 = .ok (.ifCond .ge 12, 3) := by decide +kernel
theorem d12_37 : decode jdk_65_method_56_code 37 = .ok (.iload 7, 2) := by decide +kernel
theorem d12_39 : decode jdk_65_method_56_code 39 = .ok (.iconst 1, 1) := by decide +kernel
theorem d12_40 : decode jdk_65_method_56_code 40 = .ok (.iadd, 1) := by decide +kernel
theorem d12_41 : decode jdk_65_method_56_code 41 = .ok (.istore 5, 2) := by decide +kernel
theorem d12_43 : decode jdk_65_method_56_code 43 = .ok (.goto 22, 3) := by decide +kernel
theorem d12_46 : decode jdk_65_method_56_code 46 = .ok (.lload 8, 2) := by decide +kernel
theorem d12_48 : decode jdk_65_method_56_code 48 = .ok (.lload_n 3, 1) := by decide +kernel
theorem d12_49 : decode jdk_65_method_56_code 49 = .ok (.lcmp, 1) := by decide +kernel
theorem d12_50 : decode jdk_65_method_56_code 50 = .ok (.ifCond .le 12, 3) := by decide +kernel
theorem d12_53 : decode jdk_65_method_56_code 53 = .ok (.iload 7, 2) := by decide +kernel
theorem d12_55 : decode jdk_65_method_56_code 55 = .ok (.iconst 1, 1) := by decide +kernel
theorem d12_56 : decode jdk_65_method_56_code 56 = .ok (.isub, 1) := by decide +kernel
theorem d12_57 : decode jdk_65_method_56_code 57 = .ok (.istore 6, 2) := by decide +kernel
theorem d12_59 : decode jdk_65_method_56_code 59 = .ok (.goto 6, 3) := by decide +kernel
theorem d12_62 : decode jdk_65_method_56_code 62 = .ok (.iload 7, 2) := by decide +kernel
theorem d12_64 : decode jdk_65_method_56_code 64 = .ok (.ireturn, 1) := by decide +kernel
theorem d12_65 : decode jdk_65_method_56_code 65 = .ok (.goto (-57), 3) := by decide +kernel
theorem d12_68 : decode jdk_65_method_56_code 68 = .ok (.iload 5, 2) := by decide +kernel
theorem d12_70 : decode jdk_65_method_56_code 70 = .ok (.iconst 1, 1) := by decide +kernel
theorem d12_71 : decode jdk_65_method_56_code 71 = .ok (.iadd, 1) := by decide +kernel
theorem d12_72 : decode jdk_65_method_56_code 72 = .ok (.ineg, 1) := by decide +kernel
theorem d12_73 : decode jdk_65_method_56_code 73 = .ok (.ireturn, 1) := by decide +kernel
theorem ef_rmB001 (m : MethodId) (a0 : Addr) (q3 : Int64) : entryFrame m #[(.ref a0), (.int (0 : Int32)), (.int (1 : Int32)), (.long q3)] 10 = mkF m 0 #[.val (.ref a0), .val (.int (0 : Int32)), .val (.int (1 : Int32)), .val (.long q3), .second, .unset, .unset, .unset, .unset, .unset] [] := by first | (simp [entryFrame, mkF, argsToLocals, Value.category]; done) | rfl
def QB001 (Z : State) (a0 : Addr) (q3 : Int64) (t0 : Int64) (t1 : Int64) (t2 : Int64) (h0 : Heap) (n0 : Nat) (v : Option Value) (h : Heap) (L : List Loc) : Prop := v = some (.int (own_b001 t0 t1 t2 q3)) ∧ Fr n0 L ∧ h = h0
set_option maxRecDepth 65536 in
set_option maxHeartbeats 40000000 in
theorem rmB001 (l : Launch) (Z : State) (aw : Array Value) (hw : ∀ d ∈ tables_1, d.before aw Z = true) (ws : List Jvm.Cond) (a0 : Addr) (q3 : Int64) (t0 : Int64) (t1 : Int64) (t2 : Int64) (h0 : Heap) (n0 : Nat) (Z0 : n0 ≤ h0.size) (V_a0 : AF Z h0 a0 .long (8 : Int32) (own_j3 t0 t1 t2)) :
    MetFree l (⟨"java/util/Arrays", "binarySearch0", "([JIIJ)I"⟩ : MethodName) (head1 (Jvm.Cond.code (⟨"java/util/Arrays", "binarySearch0", "([JIIJ)I"⟩ : MethodName) jdk_65_method_56_code 10 (some .int) :: ws) ({ frames := 0, cells := 0, slots := 0, locals := 0 } : Room)) (fun a U => a = #[(.ref a0), (.int (0 : Int32)), (.int (1 : Int32)), (.long q3)] ∧ Z.Warmed39 U.vm ∧ U.heap = h0) (fun _ _ _ _ _ => True) (fun _ U o U' => ∃ v L, o = .returned v ∧ QB001 Z a0 q3 t0 t1 t2 h0 n0 v U'.heap L ∧ FrameEnd U o U' L ({ frames := 0, cells := 0, slots := 0, locals := 0 } : Room).cells ({ frames := 0, cells := 0, slots := 0, locals := 0 } : Room).slots) := by
  refine MetFree.of_bodySF (plainFor_of_name pn_2) hisR ?_
  intro p e s m args below meth c s₁ Bd hml0 hP hK
  obtain ⟨rfl, hZ, hh⟩ := hP
  have hx := Bd.exec
  have hby := Bd.bytes
  have hml : c.maxLocals = 10 := hml0
  have hown : s.vm.findClass "java/util/Arrays" = some m.cls := findClass_of_methodNamed Bd.named
  have hnm := (name_of_methodNamed Bd.named Bd.method).1
  have X0 : Stand p l e ({ frames := 0, cells := 0, slots := 0, locals := 0 } : Room) s m #[(.ref a0), (.int (0 : Int32)), (.int (1 : Int32)), (.long q3)] below meth c s₁ [] 0 0 := Stand.of_body Bd
  have e0 : s₁.heap = h0 := by rw [← hh, Bd.state]; rfl
  have N0 := Fr.nil n0
  have K0 : Keep h0 h0 [] := Keep.refl _ _
  refine own_by (A' := s₁.setTop (mkF m 0 #[.val (.ref a0), .val (.int (0 : Int32)), .val (.int (1 : Int32)), .val (.long q3), .second, .unset, .unset, .unset, .unset, .unset] [])) (fun t k => castTop (ef_rmB001 m a0 q3) k) ?_
  refine own_by (A' := s₁.setTop (mkF m 12 #[.val (.ref a0), .val (.int (0 : Int32)), .val (.int (1 : Int32)), .val (.long q3), .second, .val (.int (0 : Int32)), .val (.int (0 : Int32)), .unset, .unset, .unset] [(.int (0 : Int32)), (.int (0 : Int32))])) (fun t kt => ?_) ?_
  · refine XS.iloadN X0.here hx rfl (hb hby d12_0) rfl ?_
    refine XS.istore X0.here hx rfl (hb hby d12_1) rfl (l' := #[.val (.ref a0), .val (.int (0 : Int32)), .val (.int (1 : Int32)), .val (.long q3), .second, .val (.int (0 : Int32)), .unset, .unset, .unset, .unset]) rfl ?_
    refine XS.iloadN X0.here hx rfl (hb hby d12_3) rfl ?_
    refine XS.iconst X0.here hx rfl (hb hby d12_4) ?_
    refine XS.isub X0.here hx rfl (hb hby d12_5) rfl ?_
    refine XS.istore X0.here hx rfl (hb hby d12_6) rfl (l' := #[.val (.ref a0), .val (.int (0 : Int32)), .val (.int (1 : Int32)), .val (.long q3), .second, .val (.int (0 : Int32)), .val (.int (0 : Int32)), .unset, .unset, .unset]) rfl ?_
    refine XS.iload X0.here hx rfl (hb hby d12_8) rfl ?_
    refine XS.iload X0.here hx rfl (hb hby d12_10) rfl ?_
    exact kt
  have hc12_1 : ¬ ((0 : Int32) < (0 : Int32)) := by decide
  refine own_by (A' := s₁.setTop (mkF m 27 #[.val (.ref a0), .val (.int (0 : Int32)), .val (.int (1 : Int32)), .val (.long q3), .second, .val (.int (0 : Int32)), .val (.int (0 : Int32)), .val (.int (0 : Int32)), .unset, .unset] [(.int (0 : Int32)), (.ref a0)])) (fun t kt => ?_) ?_
  · refine XS.icmpNo X0.here hx rfl (hb hby d12_12) rfl (flt hc12_1).2.2.1 ?_
    refine XS.iload X0.here hx rfl (hb hby d12_15) rfl ?_
    refine XS.iload X0.here hx rfl (hb hby d12_17) rfl ?_
    refine XS.iadd X0.here hx rfl (hb hby d12_19) rfl ?_
    refine XS.iconst X0.here hx rfl (hb hby d12_20) ?_
    refine XS.iushr X0.here hx rfl (hb hby d12_21) rfl ?_
    refine XS.istore X0.here hx rfl (hb hby d12_22) rfl (l' := #[.val (.ref a0), .val (.int (0 : Int32)), .val (.int (1 : Int32)), .val (.long q3), .second, .val (.int (0 : Int32)), .val (.int (0 : Int32)), .val (.int (0 : Int32)), .unset, .unset]) rfl ?_
    refine XS.aloadN X0.here hx rfl (hb hby d12_24) rfl rfl ?_
    refine XS.iload X0.here hx rfl (hb hby d12_25) rfl ?_
    exact kt
  obtain ⟨cl2, Ar2, Sz2, Mn2, Ha2⟩ := id V_a0
  have hin2 := inb_of (j := (0 : Int32)) Sz2 ⟨by decide, by decide⟩
  have hat2 : cl2.slots[((0 : Int32)).toNatClampNeg]? = some (.long t0) := (Ha2 _ (Nat.lt_of_not_le fun q => hin2 (Or.inr q))).trans (congrArg some rfl)
  refine own_by (A' := s₁.setTop (mkF m 34 #[.val (.ref a0), .val (.int (0 : Int32)), .val (.int (1 : Int32)), .val (.long q3), .second, .val (.int (0 : Int32)), .val (.int (0 : Int32)), .val (.int (0 : Int32)), .val (.long t0), .second] [(.int (lcmpW t0 q3))])) (fun t kt => ?_) ?_
  · refine X0.laload hx (j := (0 : Int32)) (v := (.long t0)) (by rw [e0]; exact Ar2.1) (State.isArrayOf_alike hZ.alike Ar2.2.1) Ar2.2.2 hin2 hat2 (g := (mkF m 27 #[.val (.ref a0), .val (.int (0 : Int32)), .val (.int (1 : Int32)), .val (.long q3), .second, .val (.int (0 : Int32)), .val (.int (0 : Int32)), .val (.int (0 : Int32)), .unset, .unset] [(.int (0 : Int32)), (.ref a0)])) rfl rfl (hb hby d12_27) _ ?_
    refine XS.lstore X0.here hx rfl (hb hby d12_28) rfl (l' := #[.val (.ref a0), .val (.int (0 : Int32)), .val (.int (1 : Int32)), .val (.long q3), .second, .val (.int (0 : Int32)), .val (.int (0 : Int32)), .val (.int (0 : Int32)), .val (.long t0), .second]) rfl ?_
    refine XS.lload X0.here hx rfl (hb hby d12_30) rfl ?_
    refine XS.lloadN X0.here hx rfl (hb hby d12_32) rfl ?_
    refine XS.lcmp X0.here hx rfl (hb hby d12_33) rfl ?_
    exact kt
  by_cases hc34_3 : t0 < q3
  · refine own_by (A' := s₁.setTop (mkF m 12 #[.val (.ref a0), .val (.int (0 : Int32)), .val (.int (1 : Int32)), .val (.long q3), .second, .val (.int (1 : Int32)), .val (.int (0 : Int32)), .val (.int (0 : Int32)), .val (.long t0), .second] [(.int (0 : Int32)), (.int (1 : Int32))])) (fun t kt => ?_) ?_
    · refine XS.ifNo X0.here hx rfl (hb hby d12_34) rfl ((if0 _ _).trans (tlt ((lw_lt _ _).mpr hc34_3)).2.1) ?_
      refine XS.iload X0.here hx rfl (hb hby d12_37) rfl ?_
      refine XS.iconst X0.here hx rfl (hb hby d12_39) ?_
      refine XS.iadd X0.here hx rfl (hb hby d12_40) rfl ?_
      refine XS.istore X0.here hx rfl (hb hby d12_41) rfl (l' := #[.val (.ref a0), .val (.int (0 : Int32)), .val (.int (1 : Int32)), .val (.long q3), .second, .val (.int (1 : Int32)), .val (.int (0 : Int32)), .val (.int (0 : Int32)), .val (.long t0), .second]) rfl ?_
      refine XS.goto X0.here hx rfl (pc0 := 43) (pc' := 65) rfl (hb hby d12_43) (by decide) (by decide) ?_
      refine XS.goto X0.here hx rfl (pc0 := 65) (pc' := 8) rfl (hb hby d12_65) (by decide) (by decide) ?_
      refine XS.iload X0.here hx rfl (hb hby d12_8) rfl ?_
      refine XS.iload X0.here hx rfl (hb hby d12_10) rfl ?_
      exact kt
    have hc12_4 : (0 : Int32) < (1 : Int32) := by decide
    refine own_by (A' := s₁.setTop (mkF m 73 #[.val (.ref a0), .val (.int (0 : Int32)), .val (.int (1 : Int32)), .val (.long q3), .second, .val (.int (1 : Int32)), .val (.int (0 : Int32)), .val (.int (0 : Int32)), .val (.long t0), .second] [(.int (-(2 : Int32)))])) (fun t kt => ?_) ?_
    · refine XS.icmpYes X0.here hx rfl (pc0 := 12) (pc' := 68) rfl (hb hby d12_12) rfl (tlt hc12_4).2.2.1 (by decide) (by decide) ?_
      refine XS.iload X0.here hx rfl (hb hby d12_68) rfl ?_
      refine XS.iconst X0.here hx rfl (hb hby d12_70) ?_
      refine XS.iadd X0.here hx rfl (hb hby d12_71) rfl ?_
      refine XS.ineg X0.here hx rfl (hb hby d12_72) rfl ?_
      exact kt
    obtain ⟨fs, hr, hrun, hended, hW, hsame⟩ := X0.leave (v := some (.int (-(2 : Int32)))) (fun h => by rw [Bd.returns] at h; cases h)
    refine ⟨_, _, ?_, hrun, hended, _, _, rfl, ?_, ⟨_, rfl⟩, hW, hsame.mono (by decide) (by decide)⟩
    · exact retI X0 hx Bd.returns (hb hby d12_73) hr
    · show QB001 Z a0 q3 t0 t1 t2 h0 n0 _ s₁.heap _
      rw [e0]
      exact ⟨(by rw [own_b001, if_pos hc34_3]), N0, rfl⟩
  · refine own_by (A' := s₁.setTop (mkF m 50 #[.val (.ref a0), .val (.int (0 : Int32)), .val (.int (1 : Int32)), .val (.long q3), .second, .val (.int (0 : Int32)), .val (.int (0 : Int32)), .val (.int (0 : Int32)), .val (.long t0), .second] [(.int (lcmpW t0 q3))])) (fun t kt => ?_) ?_
    · refine XS.ifYes X0.here hx rfl (pc0 := 34) (pc' := 46) rfl (hb hby d12_34) rfl ((if0 _ _).trans (flt (fun q => hc34_3 ((lw_lt _ _).mp q))).2.1) (by decide) (by decide) ?_
      refine XS.lload X0.here hx rfl (hb hby d12_46) rfl ?_
      refine XS.lloadN X0.here hx rfl (hb hby d12_48) rfl ?_
      refine XS.lcmp X0.here hx rfl (hb hby d12_49) rfl ?_
      exact kt
    by_cases hc50_5 : q3 < t0
    · refine own_by (A' := s₁.setTop (mkF m 12 #[.val (.ref a0), .val (.int (0 : Int32)), .val (.int (1 : Int32)), .val (.long q3), .second, .val (.int (0 : Int32)), .val (.int (-1 : Int32)), .val (.int (0 : Int32)), .val (.long t0), .second] [(.int (-1 : Int32)), (.int (0 : Int32))])) (fun t kt => ?_) ?_
      · refine XS.ifNo X0.here hx rfl (hb hby d12_50) rfl ((if0 _ _).trans (tlt ((lw_gt _ _).mpr hc50_5)).2.2.2) ?_
        refine XS.iload X0.here hx rfl (hb hby d12_53) rfl ?_
        refine XS.iconst X0.here hx rfl (hb hby d12_55) ?_
        refine XS.isub X0.here hx rfl (hb hby d12_56) rfl ?_
        refine XS.istore X0.here hx rfl (hb hby d12_57) rfl (l' := #[.val (.ref a0), .val (.int (0 : Int32)), .val (.int (1 : Int32)), .val (.long q3), .second, .val (.int (0 : Int32)), .val (.int (-1 : Int32)), .val (.int (0 : Int32)), .val (.long t0), .second]) rfl ?_
        refine XS.goto X0.here hx rfl (pc0 := 59) (pc' := 65) rfl (hb hby d12_59) (by decide) (by decide) ?_
        refine XS.goto X0.here hx rfl (pc0 := 65) (pc' := 8) rfl (hb hby d12_65) (by decide) (by decide) ?_
        refine XS.iload X0.here hx rfl (hb hby d12_8) rfl ?_
        refine XS.iload X0.here hx rfl (hb hby d12_10) rfl ?_
        exact kt
      have hc12_6 : (-1 : Int32) < (0 : Int32) := by decide
      refine own_by (A' := s₁.setTop (mkF m 73 #[.val (.ref a0), .val (.int (0 : Int32)), .val (.int (1 : Int32)), .val (.long q3), .second, .val (.int (0 : Int32)), .val (.int (-1 : Int32)), .val (.int (0 : Int32)), .val (.long t0), .second] [(.int (-(1 : Int32)))])) (fun t kt => ?_) ?_
      · refine XS.icmpYes X0.here hx rfl (pc0 := 12) (pc' := 68) rfl (hb hby d12_12) rfl (tlt hc12_6).2.2.1 (by decide) (by decide) ?_
        refine XS.iload X0.here hx rfl (hb hby d12_68) rfl ?_
        refine XS.iconst X0.here hx rfl (hb hby d12_70) ?_
        refine XS.iadd X0.here hx rfl (hb hby d12_71) rfl ?_
        refine XS.ineg X0.here hx rfl (hb hby d12_72) rfl ?_
        exact kt
      obtain ⟨fs, hr, hrun, hended, hW, hsame⟩ := X0.leave (v := some (.int (-(1 : Int32)))) (fun h => by rw [Bd.returns] at h; cases h)
      refine ⟨_, _, ?_, hrun, hended, _, _, rfl, ?_, ⟨_, rfl⟩, hW, hsame.mono (by decide) (by decide)⟩
      · exact retI X0 hx Bd.returns (hb hby d12_73) hr
      · show QB001 Z a0 q3 t0 t1 t2 h0 n0 _ s₁.heap _
        rw [e0]
        exact ⟨(by rw [own_b001, if_neg hc34_3, if_pos hc50_5]), N0, rfl⟩
    · refine own_by (A' := s₁.setTop (mkF m 64 #[.val (.ref a0), .val (.int (0 : Int32)), .val (.int (1 : Int32)), .val (.long q3), .second, .val (.int (0 : Int32)), .val (.int (0 : Int32)), .val (.int (0 : Int32)), .val (.long t0), .second] [(.int (0 : Int32))])) (fun t kt => ?_) ?_
      · refine XS.ifYes X0.here hx rfl (pc0 := 50) (pc' := 62) rfl (hb hby d12_50) rfl ((if0 _ _).trans (flt (fun q => hc50_5 ((lw_gt _ _).mp q))).2.2.2) (by decide) (by decide) ?_
        refine XS.iload X0.here hx rfl (hb hby d12_62) rfl ?_
        exact kt
      obtain ⟨fs, hr, hrun, hended, hW, hsame⟩ := X0.leave (v := some (.int (0 : Int32))) (fun h => by rw [Bd.returns] at h; cases h)
      refine ⟨_, _, ?_, hrun, hended, _, _, rfl, ?_, ⟨_, rfl⟩, hW, hsame.mono (by decide) (by decide)⟩
      · exact retI X0 hx Bd.returns (hb hby d12_64) hr
      · show QB001 Z a0 q3 t0 t1 t2 h0 n0 _ s₁.heap _
        rw [e0]
        exact ⟨(by rw [own_b001, if_neg hc34_3, if_neg hc50_5]), N0, rfl⟩
theorem pd_3 : parseMethodDescriptor "(III)V" = some ⟨[.int, .int, .int], none⟩ := by decide +kernel
theorem pd_4 : parseMethodDescriptor "([JIIJ)I" = some ⟨[(.array .long), .int, .int, .long], some .int⟩ := by decide +kernel
theorem d10_0 : decode jdk_65_method_55_code 0 = .ok (.aload_n 0, 1) := by decide +kernel
theorem d10_1 : decode jdk_65_method_55_code 1 = .ok (.arraylength, 1) := by decide +kernel
theorem d10_2 : decode jdk_65_method_55_code 2 = .ok (.iload_n 1, 1) := by decide +kernel
theorem d10_3 : decode jdk_65_method_55_code 3 = .ok (.iload_n 2, 1) := by decide +kernel
theorem d10_4 : decode jdk_65_method_55_code 4 = .ok (.invokestatic 13, 3) := by decide +kernel
theorem d10_7 : decode jdk_65_method_55_code 7 = .ok (.aload_n 0, 1) := by decide +kernel
theorem d10_8 : decode jdk_65_method_55_code 8 = .ok (.iload_n 1, 1) := by decide +kernel
theorem d10_9 : decode jdk_65_method_55_code 9 = .ok (.iload_n 2, 1) := by decide +kernel
theorem d10_10 : decode jdk_65_method_55_code 10 = .ok (.lload_n 3, 1) := by decide +kernel
theorem d10_11 : decode jdk_65_method_55_code 11 = .ok (.invokestatic 205, 3) := by decide +kernel
theorem d10_14 : decode jdk_65_method_55_code 14 = .ok (.ireturn, 1) := by decide +kernel
theorem ef_rmBS01 (m : MethodId) (a0 : Addr) (q3 : Int64) : entryFrame m #[(.ref a0), (.int (0 : Int32)), (.int (1 : Int32)), (.long q3)] 5 = mkF m 0 #[.val (.ref a0), .val (.int (0 : Int32)), .val (.int (1 : Int32)), .val (.long q3), .second] [] := by first | (simp [entryFrame, mkF, argsToLocals, Value.category]; done) | rfl
def QBS01 (Z : State) (a0 : Addr) (q3 : Int64) (t0 : Int64) (t1 : Int64) (t2 : Int64) (h0 : Heap) (n0 : Nat) (v : Option Value) (h : Heap) (L : List Loc) : Prop := v = some (.int (own_b001 t0 t1 t2 q3)) ∧ Fr n0 L ∧ h = h0
set_option maxRecDepth 65536 in
set_option maxHeartbeats 40000000 in
theorem rmBS01 (l : Launch) (Z : State) (aw : Array Value) (hw : ∀ d ∈ tables_1, d.before aw Z = true) (ws : List Jvm.Cond) (a0 : Addr) (q3 : Int64) (t0 : Int64) (t1 : Int64) (t2 : Int64) (h0 : Heap) (n0 : Nat) (Z0 : n0 ≤ h0.size) (V_a0 : AF Z h0 a0 .long (8 : Int32) (own_j3 t0 t1 t2)) :
    MetFree l (⟨"java/util/Arrays", "binarySearch", "([JIIJ)I"⟩ : MethodName) (head1 (Jvm.Cond.code (⟨"java/util/Arrays", "binarySearch", "([JIIJ)I"⟩ : MethodName) jdk_65_method_55_code 5 (some .int) :: ws) ({ frames := 1, cells := 0, slots := 0, locals := 21 } : Room)) (fun a U => a = #[(.ref a0), (.int (0 : Int32)), (.int (1 : Int32)), (.long q3)] ∧ Z.Warmed39 U.vm ∧ U.heap = h0) (fun _ _ _ _ _ => True) (fun _ U o U' => ∃ v L, o = .returned v ∧ QBS01 Z a0 q3 t0 t1 t2 h0 n0 v U'.heap L ∧ FrameEnd U o U' L ({ frames := 1, cells := 0, slots := 0, locals := 21 } : Room).cells ({ frames := 1, cells := 0, slots := 0, locals := 21 } : Room).slots) := by
  refine MetFree.of_bodySF (plainFor_of_name pn_2) hisR ?_
  intro p e s m args below meth c s₁ Bd hml0 hP hK
  obtain ⟨rfl, hZ, hh⟩ := hP
  have hx := Bd.exec
  have hby := Bd.bytes
  have hml : c.maxLocals = 5 := hml0
  have hown : s.vm.findClass "java/util/Arrays" = some m.cls := findClass_of_methodNamed Bd.named
  have hnm := (name_of_methodNamed Bd.named Bd.method).1
  have X0 : Stand p l e ({ frames := 1, cells := 0, slots := 0, locals := 21 } : Room) s m #[(.ref a0), (.int (0 : Int32)), (.int (1 : Int32)), (.long q3)] below meth c s₁ [] 0 0 := Stand.of_body Bd
  have e0 : s₁.heap = h0 := by rw [← hh, Bd.state]; rfl
  have N0 := Fr.nil n0
  have K0 : Keep h0 h0 [] := Keep.refl _ _
  refine own_by (A' := s₁.setTop (mkF m 0 #[.val (.ref a0), .val (.int (0 : Int32)), .val (.int (1 : Int32)), .val (.long q3), .second] [])) (fun t k => castTop (ef_rmBS01 m a0 q3) k) ?_
  refine own_by (A' := s₁.setTop (mkF m 1 #[.val (.ref a0), .val (.int (0 : Int32)), .val (.int (1 : Int32)), .val (.long q3), .second] [(.ref a0)])) (fun t kt => ?_) ?_
  · refine XS.aloadN X0.here hx rfl (hb hby d10_0) rfl rfl ?_
    exact kt
  obtain ⟨cl1, Ar1, Sz1, Mn1, -⟩ := id V_a0
  refine own_by (A' := s₁.setTop (mkF m 4 #[.val (.ref a0), .val (.int (0 : Int32)), .val (.int (1 : Int32)), .val (.long q3), .second] [(.int (1 : Int32)), (.int (0 : Int32)), (.int (8 : Int32))])) (fun t kt => ?_) ?_
  · refine X0.arraylength hx (by rw [e0]; exact Ar1.1) (State.isArrayOf_alike hZ.alike Ar1.2.1) (g := (mkF m 1 #[.val (.ref a0), .val (.int (0 : Int32)), .val (.int (1 : Int32)), .val (.long q3), .second] [(.ref a0)])) rfl rfl (hb hby d10_1) _ ?_
    rw [len_of Sz1 Mn1]
    refine XS.iloadN X0.here hx rfl (hb hby d10_2) rfl ?_
    refine XS.iloadN X0.here hx rfl (hb hby d10_3) rfl ?_
    exact kt
  obtain ⟨_, _, ⟨T2, L2, k2, n2⟩, -, X2, ⟨Lc2, hQ2, l2, y2, z2⟩, st2⟩ := Jvm.LawKit.callS X0 hx (y := (⟨"java/util/Arrays", "rangeCheck", "(III)V"⟩ : MethodName)) hown (mvT hZ (wd70 hw)) (mvT hZ (wd71 hw)) (mvT hZ (wd68 hw)) (mvT hZ (wd72 hw)) (by decide) (backOf (W := 0) (rmRC01 l Z aw hw []  h0 n0 (Nat.le_trans Z0 K0.1) ) hZ (wd72 hw) (wd68 hw) (by decide) (by decide)) (g := (mkF m 4 #[.val (.ref a0), .val (.int (0 : Int32)), .val (.int (1 : Int32)), .val (.long q3), .second] [(.int (1 : Int32)), (.int (0 : Int32)), (.int (8 : Int32))])) rfl (by rw [hml]; rfl) (argsL := [(.int (8 : Int32)), (.int (0 : Int32)), (.int (1 : Int32))]) (rest := []) (lenOf pd_3 rfl) rfl (by show 2 * 0 + _ ≤ _; exact Nat.le_of_eq rfl) (hb hby d10_4) (fun _ _ => ⟨rfl, e0, (by decide : 0 + 0 ≤ _), (by decide : 0 + 0 ≤ _)⟩)
  dsimp only [Pt.U, Pt.locs, Pt.cells, Pt.slots] at X2 l2 y2 z2 st2 hQ2
  subst l2 y2 z2
  obtain ⟨rfl, N2q, e2⟩ := hQ2
  have N2 := Fr.app N0 N2q
  refine own_by (A' := T2.setTop (mkF m 11 #[.val (.ref a0), .val (.int (0 : Int32)), .val (.int (1 : Int32)), .val (.long q3), .second] [(.long q3), (.int (1 : Int32)), (.int (0 : Int32)), (.ref a0)])) (fun t kt => ?_) ?_
  · refine st2 t ?_
    refine XS.aloadN X2.here hx rfl (hb hby d10_7) rfl rfl ?_
    refine XS.iloadN X2.here hx rfl (hb hby d10_8) rfl ?_
    refine XS.iloadN X2.here hx rfl (hb hby d10_9) rfl ?_
    refine XS.lloadN X2.here hx rfl (hb hby d10_10) rfl ?_
    exact kt
  obtain ⟨_, _, ⟨T3, L3, k3, n3⟩, -, X3, ⟨Lc3, hQ3, l3, y3, z3⟩, st3⟩ := Jvm.LawKit.callS X2 hx (y := (⟨"java/util/Arrays", "binarySearch0", "([JIIJ)I"⟩ : MethodName)) hown (mvT hZ (wd73 hw)) (mvT hZ (wd74 hw)) (mvT hZ (wd68 hw)) (mvT hZ (wd75 hw)) (by decide) (backOf (W := 0) (rmB001 l Z aw hw [] a0 q3 t0 t1 t2 h0 n0 (Nat.le_trans Z0 K0.1) V_a0) hZ (wd75 hw) (wd68 hw) (by decide) (by decide)) (g := (mkF m 11 #[.val (.ref a0), .val (.int (0 : Int32)), .val (.int (1 : Int32)), .val (.long q3), .second] [(.long q3), (.int (1 : Int32)), (.int (0 : Int32)), (.ref a0)])) rfl (by rw [hml]; rfl) (argsL := [(.ref a0), (.int (0 : Int32)), (.int (1 : Int32)), (.long q3)]) (rest := []) (lenOf pd_4 rfl) rfl (by show 2 * 0 + _ ≤ _; exact Nat.le_of_eq rfl) (hb hby d10_11) (fun _ _ => ⟨rfl, e2, (by decide : 0 + 0 ≤ _), (by decide : 0 + 0 ≤ _)⟩)
  dsimp only [Pt.U, Pt.locs, Pt.cells, Pt.slots] at X3 l3 y3 z3 st3 hQ3
  subst l3 y3 z3
  obtain ⟨rfl, N3q, e3⟩ := hQ3
  have N3 := Fr.app N2 N3q
  refine own_by (A' := T3.setTop (mkF m 14 #[.val (.ref a0), .val (.int (0 : Int32)), .val (.int (1 : Int32)), .val (.long q3), .second] [(.int (own_b001 t0 t1 t2 q3))])) (fun t kt => st3 t kt) ?_
  obtain ⟨fs, hr, hrun, hended, hW, hsame⟩ := X3.leave (v := some (.int (own_b001 t0 t1 t2 q3))) (fun h => by rw [Bd.returns] at h; cases h)
  refine ⟨_, _, ?_, hrun, hended, _, _, rfl, ?_, ⟨_, rfl⟩, hW, hsame.mono (by decide) (by decide)⟩
  · exact retI X3 hx Bd.returns (hb hby d10_14) hr
  · show QBS01 Z a0 q3 t0 t1 t2 h0 n0 _ T3.heap _
    rw [e3]
    exact ⟨rfl, N3, rfl⟩
theorem ef_rmRC02 (m : MethodId)  : entryFrame m #[(.int (8 : Int32)), (.int (0 : Int32)), (.int (2 : Int32))] 3 = mkF m 0 #[.val (.int (8 : Int32)), .val (.int (0 : Int32)), .val (.int (2 : Int32))] [] := by first | (simp [entryFrame, mkF, argsToLocals, Value.category]; done) | rfl
def QRC02 (Z : State)  (h0 : Heap) (n0 : Nat) (v : Option Value) (h : Heap) (L : List Loc) : Prop := v = none ∧ Fr n0 L ∧ h = h0
set_option maxRecDepth 65536 in
set_option maxHeartbeats 40000000 in
theorem rmRC02 (l : Launch) (Z : State) (aw : Array Value) (hw : ∀ d ∈ tables_1, d.before aw Z = true) (ws : List Jvm.Cond)  (h0 : Heap) (n0 : Nat) (Z0 : n0 ≤ h0.size) :
    MetFree l (⟨"java/util/Arrays", "rangeCheck", "(III)V"⟩ : MethodName) (head1 (Jvm.Cond.code (⟨"java/util/Arrays", "rangeCheck", "(III)V"⟩ : MethodName) jdk_65_method_30_code 3 none :: ws) ({ frames := 0, cells := 0, slots := 0, locals := 0 } : Room)) (fun a U => a = #[(.int (8 : Int32)), (.int (0 : Int32)), (.int (2 : Int32))] ∧ Z.Warmed39 U.vm ∧ U.heap = h0) (fun _ _ _ _ _ => True) (fun _ U o U' => ∃ v L, o = .returned v ∧ QRC02 Z  h0 n0 v U'.heap L ∧ FrameEnd U o U' L ({ frames := 0, cells := 0, slots := 0, locals := 0 } : Room).cells ({ frames := 0, cells := 0, slots := 0, locals := 0 } : Room).slots) := by
  refine MetFree.of_bodySF (plainFor_of_name pn_2) hisR ?_
  intro p e s m args below meth c s₁ Bd hml0 hP hK
  obtain ⟨rfl, hZ, hh⟩ := hP
  have hx := Bd.exec
  have hby := Bd.bytes
  have hml : c.maxLocals = 3 := hml0
  have hown : s.vm.findClass "java/util/Arrays" = some m.cls := findClass_of_methodNamed Bd.named
  have hnm := (name_of_methodNamed Bd.named Bd.method).1
  have X0 : Stand p l e ({ frames := 0, cells := 0, slots := 0, locals := 0 } : Room) s m #[(.int (8 : Int32)), (.int (0 : Int32)), (.int (2 : Int32))] below meth c s₁ [] 0 0 := Stand.of_body Bd
  have e0 : s₁.heap = h0 := by rw [← hh, Bd.state]; rfl
  have N0 := Fr.nil n0
  have K0 : Keep h0 h0 [] := Keep.refl _ _
  refine own_by (A' := s₁.setTop (mkF m 0 #[.val (.int (8 : Int32)), .val (.int (0 : Int32)), .val (.int (2 : Int32))] [])) (fun t k => castTop (ef_rmRC02 m ) k) ?_
  refine own_by (A' := s₁.setTop (mkF m 2 #[.val (.int (8 : Int32)), .val (.int (0 : Int32)), .val (.int (2 : Int32))] [(.int (2 : Int32)), (.int (0 : Int32))])) (fun t kt => ?_) ?_
  · refine XS.iloadN X0.here hx rfl (hb hby d11_0) rfl ?_
    refine XS.iloadN X0.here hx rfl (hb hby d11_1) rfl ?_
    exact kt
  have hc2_1 : ¬ ((2 : Int32) < (0 : Int32)) := by decide
  refine own_by (A' := s₁.setTop (mkF m 47 #[.val (.int (8 : Int32)), .val (.int (0 : Int32)), .val (.int (2 : Int32))] [(.int (0 : Int32))])) (fun t kt => ?_) ?_
  · refine XS.icmpYes X0.here hx rfl (pc0 := 2) (pc' := 46) rfl (hb hby d11_2) rfl (flt hc2_1).2.2.2 (by decide) (by decide) ?_
    refine XS.iloadN X0.here hx rfl (hb hby d11_46) rfl ?_
    exact kt
  have hc47_2 : ¬ ((0 : Int32) < (0 : Int32)) := by decide
  refine own_by (A' := s₁.setTop (mkF m 61 #[.val (.int (8 : Int32)), .val (.int (0 : Int32)), .val (.int (2 : Int32))] [(.int (8 : Int32)), (.int (2 : Int32))])) (fun t kt => ?_) ?_
  · refine XS.ifYes X0.here hx rfl (pc0 := 47) (pc' := 59) rfl (hb hby d11_47) rfl ((if0 _ _).trans (flt hc47_2).2.1) (by decide) (by decide) ?_
    refine XS.iloadN X0.here hx rfl (hb hby d11_59) rfl ?_
    refine XS.iloadN X0.here hx rfl (hb hby d11_60) rfl ?_
    exact kt
  have hc61_3 : ¬ ((8 : Int32) < (2 : Int32)) := by decide
  refine own_by (A' := s₁.setTop (mkF m 73 #[.val (.int (8 : Int32)), .val (.int (0 : Int32)), .val (.int (2 : Int32))] [])) (fun t kt => ?_) ?_
  · refine XS.icmpYes X0.here hx rfl (pc0 := 61) (pc' := 73) rfl (hb hby d11_61) rfl (flt hc61_3).2.2.2 (by decide) (by decide) ?_
    exact kt
  obtain ⟨fs, hr, hrun, hended, hW, hsame⟩ := X0.leave (v := none) (fun _ => rfl)
  refine ⟨_, _, ?_, hrun, hended, _, _, rfl, ?_, ⟨_, rfl⟩, hW, hsame.mono (by decide) (by decide)⟩
  · exact X0.returnOut hx Bd.returns (hb hby d11_73) hr
  · show QRC02 Z  h0 n0 _ s₁.heap _
    rw [e0]
    exact ⟨rfl, N0, rfl⟩
def own_b002 (t0 t1 t2 q3 : Int64) : Int32 := (if t0 < q3 then (if t1 < q3 then (-(3 : Int32)) else (if q3 < t1 then (-(2 : Int32)) else (1 : Int32))) else (if q3 < t0 then (-(1 : Int32)) else (0 : Int32)))
theorem ef_rmB002 (m : MethodId) (a0 : Addr) (q3 : Int64) : entryFrame m #[(.ref a0), (.int (0 : Int32)), (.int (2 : Int32)), (.long q3)] 10 = mkF m 0 #[.val (.ref a0), .val (.int (0 : Int32)), .val (.int (2 : Int32)), .val (.long q3), .second, .unset, .unset, .unset, .unset, .unset] [] := by first | (simp [entryFrame, mkF, argsToLocals, Value.category]; done) | rfl
def QB002 (Z : State) (a0 : Addr) (q3 : Int64) (t0 : Int64) (t1 : Int64) (t2 : Int64) (h0 : Heap) (n0 : Nat) (v : Option Value) (h : Heap) (L : List Loc) : Prop := v = some (.int (own_b002 t0 t1 t2 q3)) ∧ Fr n0 L ∧ h = h0
set_option maxRecDepth 65536 in
set_option maxHeartbeats 40000000 in
theorem rmB002 (l : Launch) (Z : State) (aw : Array Value) (hw : ∀ d ∈ tables_1, d.before aw Z = true) (ws : List Jvm.Cond) (a0 : Addr) (q3 : Int64) (t0 : Int64) (t1 : Int64) (t2 : Int64) (h0 : Heap) (n0 : Nat) (Z0 : n0 ≤ h0.size) (V_a0 : AF Z h0 a0 .long (8 : Int32) (own_j3 t0 t1 t2)) :
    MetFree l (⟨"java/util/Arrays", "binarySearch0", "([JIIJ)I"⟩ : MethodName) (head1 (Jvm.Cond.code (⟨"java/util/Arrays", "binarySearch0", "([JIIJ)I"⟩ : MethodName) jdk_65_method_56_code 10 (some .int) :: ws) ({ frames := 0, cells := 0, slots := 0, locals := 0 } : Room)) (fun a U => a = #[(.ref a0), (.int (0 : Int32)), (.int (2 : Int32)), (.long q3)] ∧ Z.Warmed39 U.vm ∧ U.heap = h0) (fun _ _ _ _ _ => True) (fun _ U o U' => ∃ v L, o = .returned v ∧ QB002 Z a0 q3 t0 t1 t2 h0 n0 v U'.heap L ∧ FrameEnd U o U' L ({ frames := 0, cells := 0, slots := 0, locals := 0 } : Room).cells ({ frames := 0, cells := 0, slots := 0, locals := 0 } : Room).slots) := by
  refine MetFree.of_bodySF (plainFor_of_name pn_2) hisR ?_
  intro p e s m args below meth c s₁ Bd hml0 hP hK
  obtain ⟨rfl, hZ, hh⟩ := hP
  have hx := Bd.exec
  have hby := Bd.bytes
  have hml : c.maxLocals = 10 := hml0
  have hown : s.vm.findClass "java/util/Arrays" = some m.cls := findClass_of_methodNamed Bd.named
  have hnm := (name_of_methodNamed Bd.named Bd.method).1
  have X0 : Stand p l e ({ frames := 0, cells := 0, slots := 0, locals := 0 } : Room) s m #[(.ref a0), (.int (0 : Int32)), (.int (2 : Int32)), (.long q3)] below meth c s₁ [] 0 0 := Stand.of_body Bd
  have e0 : s₁.heap = h0 := by rw [← hh, Bd.state]; rfl
  have N0 := Fr.nil n0
  have K0 : Keep h0 h0 [] := Keep.refl _ _
  refine own_by (A' := s₁.setTop (mkF m 0 #[.val (.ref a0), .val (.int (0 : Int32)), .val (.int (2 : Int32)), .val (.long q3), .second, .unset, .unset, .unset, .unset, .unset] [])) (fun t k => castTop (ef_rmB002 m a0 q3) k) ?_
  refine own_by (A' := s₁.setTop (mkF m 12 #[.val (.ref a0), .val (.int (0 : Int32)), .val (.int (2 : Int32)), .val (.long q3), .second, .val (.int (0 : Int32)), .val (.int (1 : Int32)), .unset, .unset, .unset] [(.int (1 : Int32)), (.int (0 : Int32))])) (fun t kt => ?_) ?_
  · refine XS.iloadN X0.here hx rfl (hb hby d12_0) rfl ?_
    refine XS.istore X0.here hx rfl (hb hby d12_1) rfl (l' := #[.val (.ref a0), .val (.int (0 : Int32)), .val (.int (2 : Int32)), .val (.long q3), .second, .val (.int (0 : Int32)), .unset, .unset, .unset, .unset]) rfl ?_
    refine XS.iloadN X0.here hx rfl (hb hby d12_3) rfl ?_
    refine XS.iconst X0.here hx rfl (hb hby d12_4) ?_
    refine XS.isub X0.here hx rfl (hb hby d12_5) rfl ?_
    refine XS.istore X0.here hx rfl (hb hby d12_6) rfl (l' := #[.val (.ref a0), .val (.int (0 : Int32)), .val (.int (2 : Int32)), .val (.long q3), .second, .val (.int (0 : Int32)), .val (.int (1 : Int32)), .unset, .unset, .unset]) rfl ?_
    refine XS.iload X0.here hx rfl (hb hby d12_8) rfl ?_
    refine XS.iload X0.here hx rfl (hb hby d12_10) rfl ?_
    exact kt
  have hc12_1 : ¬ ((1 : Int32) < (0 : Int32)) := by decide
  refine own_by (A' := s₁.setTop (mkF m 27 #[.val (.ref a0), .val (.int (0 : Int32)), .val (.int (2 : Int32)), .val (.long q3), .second, .val (.int (0 : Int32)), .val (.int (1 : Int32)), .val (.int (0 : Int32)), .unset, .unset] [(.int (0 : Int32)), (.ref a0)])) (fun t kt => ?_) ?_
  · refine XS.icmpNo X0.here hx rfl (hb hby d12_12) rfl (flt hc12_1).2.2.1 ?_
    refine XS.iload X0.here hx rfl (hb hby d12_15) rfl ?_
    refine XS.iload X0.here hx rfl (hb hby d12_17) rfl ?_
    refine XS.iadd X0.here hx rfl (hb hby d12_19) rfl ?_
    refine XS.iconst X0.here hx rfl (hb hby d12_20) ?_
    refine XS.iushr X0.here hx rfl (hb hby d12_21) rfl ?_
    refine XS.istore X0.here hx rfl (hb hby d12_22) rfl (l' := #[.val (.ref a0), .val (.int (0 : Int32)), .val (.int (2 : Int32)), .val (.long q3), .second, .val (.int (0 : Int32)), .val (.int (1 : Int32)), .val (.int (0 : Int32)), .unset, .unset]) rfl ?_
    refine XS.aloadN X0.here hx rfl (hb hby d12_24) rfl rfl ?_
    refine XS.iload X0.here hx rfl (hb hby d12_25) rfl ?_
    exact kt
  obtain ⟨cl2, Ar2, Sz2, Mn2, Ha2⟩ := id V_a0
  have hin2 := inb_of (j := (0 : Int32)) Sz2 ⟨by decide, by decide⟩
  have hat2 : cl2.slots[((0 : Int32)).toNatClampNeg]? = some (.long t0) := (Ha2 _ (Nat.lt_of_not_le fun q => hin2 (Or.inr q))).trans (congrArg some rfl)
  refine own_by (A' := s₁.setTop (mkF m 34 #[.val (.ref a0), .val (.int (0 : Int32)), .val (.int (2 : Int32)), .val (.long q3), .second, .val (.int (0 : Int32)), .val (.int (1 : Int32)), .val (.int (0 : Int32)), .val (.long t0), .second] [(.int (lcmpW t0 q3))])) (fun t kt => ?_) ?_
  · refine X0.laload hx (j := (0 : Int32)) (v := (.long t0)) (by rw [e0]; exact Ar2.1) (State.isArrayOf_alike hZ.alike Ar2.2.1) Ar2.2.2 hin2 hat2 (g := (mkF m 27 #[.val (.ref a0), .val (.int (0 : Int32)), .val (.int (2 : Int32)), .val (.long q3), .second, .val (.int (0 : Int32)), .val (.int (1 : Int32)), .val (.int (0 : Int32)), .unset, .unset] [(.int (0 : Int32)), (.ref a0)])) rfl rfl (hb hby d12_27) _ ?_
    refine XS.lstore X0.here hx rfl (hb hby d12_28) rfl (l' := #[.val (.ref a0), .val (.int (0 : Int32)), .val (.int (2 : Int32)), .val (.long q3), .second, .val (.int (0 : Int32)), .val (.int (1 : Int32)), .val (.int (0 : Int32)), .val (.long t0), .second]) rfl ?_
    refine XS.lload X0.here hx rfl (hb hby d12_30) rfl ?_
    refine XS.lloadN X0.here hx rfl (hb hby d12_32) rfl ?_
    refine XS.lcmp X0.here hx rfl (hb hby d12_33) rfl ?_
    exact kt
  by_cases hc34_3 : t0 < q3
  · refine own_by (A' := s₁.setTop (mkF m 12 #[.val (.ref a0), .val (.int (0 : Int32)), .val (.int (2 : Int32)), .val (.long q3), .second, .val (.int (1 : Int32)), .val (.int (1 : Int32)), .val (.int (0 : Int32)), .val (.long t0), .second] [(.int (1 : Int32)), (.int (1 : Int32))])) (fun t kt => ?_) ?_
    · refine XS.ifNo X0.here hx rfl (hb hby d12_34) rfl ((if0 _ _).trans (tlt ((lw_lt _ _).mpr hc34_3)).2.1) ?_
      refine XS.iload X0.here hx rfl (hb hby d12_37) rfl ?_
      refine XS.iconst X0.here hx rfl (hb hby d12_39) ?_
      refine XS.iadd X0.here hx rfl (hb hby d12_40) rfl ?_
      refine XS.istore X0.here hx rfl (hb hby d12_41) rfl (l' := #[.val (.ref a0), .val (.int (0 : Int32)), .val (.int (2 : Int32)), .val (.long q3), .second, .val (.int (1 : Int32)), .val (.int (1 : Int32)), .val (.int (0 : Int32)), .val (.long t0), .second]) rfl ?_
      refine XS.goto X0.here hx rfl (pc0 := 43) (pc' := 65) rfl (hb hby d12_43) (by decide) (by decide) ?_
      refine XS.goto X0.here hx rfl (pc0 := 65) (pc' := 8) rfl (hb hby d12_65) (by decide) (by decide) ?_
      refine XS.iload X0.here hx rfl (hb hby d12_8) rfl ?_
      refine XS.iload X0.here hx rfl (hb hby d12_10) rfl ?_
      exact kt
    have hc12_4 : ¬ ((1 : Int32) < (1 : Int32)) := by decide
    refine own_by (A' := s₁.setTop (mkF m 27 #[.val (.ref a0), .val (.int (0 : Int32)), .val (.int (2 : Int32)), .val (.long q3), .second, .val (.int (1 : Int32)), .val (.int (1 : Int32)), .val (.int (1 : Int32)), .val (.long t0), .second] [(.int (1 : Int32)), (.ref a0)])) (fun t kt => ?_) ?_
    · refine XS.icmpNo X0.here hx rfl (hb hby d12_12) rfl (flt hc12_4).2.2.1 ?_
      refine XS.iload X0.here hx rfl (hb hby d12_15) rfl ?_
      refine XS.iload X0.here hx rfl (hb hby d12_17) rfl ?_
      refine XS.iadd X0.here hx rfl (hb hby d12_19) rfl ?_
      refine XS.iconst X0.here hx rfl (hb hby d12_20) ?_
      refine XS.iushr X0.here hx rfl (hb hby d12_21) rfl ?_
      refine XS.istore X0.here hx rfl (hb hby d12_22) rfl (l' := #[.val (.ref a0), .val (.int (0 : Int32)), .val (.int (2 : Int32)), .val (.long q3), .second, .val (.int (1 : Int32)), .val (.int (1 : Int32)), .val (.int (1 : Int32)), .val (.long t0), .second]) rfl ?_
      refine XS.aloadN X0.here hx rfl (hb hby d12_24) rfl rfl ?_
      refine XS.iload X0.here hx rfl (hb hby d12_25) rfl ?_
      exact kt
    obtain ⟨cl5, Ar5, Sz5, Mn5, Ha5⟩ := id V_a0
    have hin5 := inb_of (j := (1 : Int32)) Sz5 ⟨by decide, by decide⟩
    have hat5 : cl5.slots[((1 : Int32)).toNatClampNeg]? = some (.long t1) := (Ha5 _ (Nat.lt_of_not_le fun q => hin5 (Or.inr q))).trans (congrArg some rfl)
    refine own_by (A' := s₁.setTop (mkF m 34 #[.val (.ref a0), .val (.int (0 : Int32)), .val (.int (2 : Int32)), .val (.long q3), .second, .val (.int (1 : Int32)), .val (.int (1 : Int32)), .val (.int (1 : Int32)), .val (.long t1), .second] [(.int (lcmpW t1 q3))])) (fun t kt => ?_) ?_
    · refine X0.laload hx (j := (1 : Int32)) (v := (.long t1)) (by rw [e0]; exact Ar5.1) (State.isArrayOf_alike hZ.alike Ar5.2.1) Ar5.2.2 hin5 hat5 (g := (mkF m 27 #[.val (.ref a0), .val (.int (0 : Int32)), .val (.int (2 : Int32)), .val (.long q3), .second, .val (.int (1 : Int32)), .val (.int (1 : Int32)), .val (.int (1 : Int32)), .val (.long t0), .second] [(.int (1 : Int32)), (.ref a0)])) rfl rfl (hb hby d12_27) _ ?_
      refine XS.lstore X0.here hx rfl (hb hby d12_28) rfl (l' := #[.val (.ref a0), .val (.int (0 : Int32)), .val (.int (2 : Int32)), .val (.long q3), .second, .val (.int (1 : Int32)), .val (.int (1 : Int32)), .val (.int (1 : Int32)), .val (.long t1), .second]) rfl ?_
      refine XS.lload X0.here hx rfl (hb hby d12_30) rfl ?_
      refine XS.lloadN X0.here hx rfl (hb hby d12_32) rfl ?_
      refine XS.lcmp X0.here hx rfl (hb hby d12_33) rfl ?_
      exact kt
    by_cases hc34_6 : t1 < q3
    · refine own_by (A' := s₁.setTop (mkF m 12 #[.val (.ref a0), .val (.int (0 : Int32)), .val (.int (2 : Int32)), .val (.long q3), .second, .val (.int (2 : Int32)), .val (.int (1 : Int32)), .val (.int (1 : Int32)), .val (.long t1), .second] [(.int (1 : Int32)), (.int (2 : Int32))])) (fun t kt => ?_) ?_
      · refine XS.ifNo X0.here hx rfl (hb hby d12_34) rfl ((if0 _ _).trans (tlt ((lw_lt _ _).mpr hc34_6)).2.1) ?_
        refine XS.iload X0.here hx rfl (hb hby d12_37) rfl ?_
        refine XS.iconst X0.here hx rfl (hb hby d12_39) ?_
        refine XS.iadd X0.here hx rfl (hb hby d12_40) rfl ?_
        refine XS.istore X0.here hx rfl (hb hby d12_41) rfl (l' := #[.val (.ref a0), .val (.int (0 : Int32)), .val (.int (2 : Int32)), .val (.long q3), .second, .val (.int (2 : Int32)), .val (.int (1 : Int32)), .val (.int (1 : Int32)), .val (.long t1), .second]) rfl ?_
        refine XS.goto X0.here hx rfl (pc0 := 43) (pc' := 65) rfl (hb hby d12_43) (by decide) (by decide) ?_
        refine XS.goto X0.here hx rfl (pc0 := 65) (pc' := 8) rfl (hb hby d12_65) (by decide) (by decide) ?_
        refine XS.iload X0.here hx rfl (hb hby d12_8) rfl ?_
        refine XS.iload X0.here hx rfl (hb hby d12_10) rfl ?_
        exact kt
      have hc12_7 : (1 : Int32) < (2 : Int32) := by decide
      refine own_by (A' := s₁.setTop (mkF m 73 #[.val (.ref a0), .val (.int (0 : Int32)), .val (.int (2 : Int32)), .val (.long q3), .second, .val (.int (2 : Int32)), .val (.int (1 : Int32)), .val (.int (1 : Int32)), .val (.long t1), .second] [(.int (-(3 : Int32)))])) (fun t kt => ?_) ?_
      · refine XS.icmpYes X0.here hx rfl (pc0 := 12) (pc' := 68) rfl (hb hby d12_12) rfl (tlt hc12_7).2.2.1 (by decide) (by decide) ?_
        refine XS.iload X0.here hx rfl (hb hby d12_68) rfl ?_
        refine XS.iconst X0.here hx rfl (hb hby d12_70) ?_
        refine XS.iadd X0.here hx rfl (hb hby d12_71) rfl ?_
        refine XS.ineg X0.here hx rfl (hb hby d12_72) rfl ?_
        exact kt
      obtain ⟨fs, hr, hrun, hended, hW, hsame⟩ := X0.leave (v := some (.int (-(3 : Int32)))) (fun h => by rw [Bd.returns] at h; cases h)
      refine ⟨_, _, ?_, hrun, hended, _, _, rfl, ?_, ⟨_, rfl⟩, hW, hsame.mono (by decide) (by decide)⟩
      · exact retI X0 hx Bd.returns (hb hby d12_73) hr
      · show QB002 Z a0 q3 t0 t1 t2 h0 n0 _ s₁.heap _
        rw [e0]
        exact ⟨(by rw [own_b002, if_pos hc34_3, if_pos hc34_6]), N0, rfl⟩
    · refine own_by (A' := s₁.setTop (mkF m 50 #[.val (.ref a0), .val (.int (0 : Int32)), .val (.int (2 : Int32)), .val (.long q3), .second, .val (.int (1 : Int32)), .val (.int (1 : Int32)), .val (.int (1 : Int32)), .val (.long t1), .second] [(.int (lcmpW t1 q3))])) (fun t kt => ?_) ?_
      · refine XS.ifYes X0.here hx rfl (pc0 := 34) (pc' := 46) rfl (hb hby d12_34) rfl ((if0 _ _).trans (flt (fun q => hc34_6 ((lw_lt _ _).mp q))).2.1) (by decide) (by decide) ?_
        refine XS.lload X0.here hx rfl (hb hby d12_46) rfl ?_
        refine XS.lloadN X0.here hx rfl (hb hby d12_48) rfl ?_
        refine XS.lcmp X0.here hx rfl (hb hby d12_49) rfl ?_
        exact kt
      by_cases hc50_8 : q3 < t1
      · refine own_by (A' := s₁.setTop (mkF m 12 #[.val (.ref a0), .val (.int (0 : Int32)), .val (.int (2 : Int32)), .val (.long q3), .second, .val (.int (1 : Int32)), .val (.int (0 : Int32)), .val (.int (1 : Int32)), .val (.long t1), .second] [(.int (0 : Int32)), (.int (1 : Int32))])) (fun t kt => ?_) ?_
        · refine XS.ifNo X0.here hx rfl (hb hby d12_50) rfl ((if0 _ _).trans (tlt ((lw_gt _ _).mpr hc50_8)).2.2.2) ?_
          refine XS.iload X0.here hx rfl (hb hby d12_53) rfl ?_
          refine XS.iconst X0.here hx rfl (hb hby d12_55) ?_
          refine XS.isub X0.here hx rfl (hb hby d12_56) rfl ?_
          refine XS.istore X0.here hx rfl (hb hby d12_57) rfl (l' := #[.val (.ref a0), .val (.int (0 : Int32)), .val (.int (2 : Int32)), .val (.long q3), .second, .val (.int (1 : Int32)), .val (.int (0 : Int32)), .val (.int (1 : Int32)), .val (.long t1), .second]) rfl ?_
          refine XS.goto X0.here hx rfl (pc0 := 59) (pc' := 65) rfl (hb hby d12_59) (by decide) (by decide) ?_
          refine XS.goto X0.here hx rfl (pc0 := 65) (pc' := 8) rfl (hb hby d12_65) (by decide) (by decide) ?_
          refine XS.iload X0.here hx rfl (hb hby d12_8) rfl ?_
          refine XS.iload X0.here hx rfl (hb hby d12_10) rfl ?_
          exact kt
        have hc12_9 : (0 : Int32) < (1 : Int32) := by decide
        refine own_by (A' := s₁.setTop (mkF m 73 #[.val (.ref a0), .val (.int (0 : Int32)), .val (.int (2 : Int32)), .val (.long q3), .second, .val (.int (1 : Int32)), .val (.int (0 : Int32)), .val (.int (1 : Int32)), .val (.long t1), .second] [(.int (-(2 : Int32)))])) (fun t kt => ?_) ?_
        · refine XS.icmpYes X0.here hx rfl (pc0 := 12) (pc' := 68) rfl (hb hby d12_12) rfl (tlt hc12_9).2.2.1 (by decide) (by decide) ?_
          refine XS.iload X0.here hx rfl (hb hby d12_68) rfl ?_
          refine XS.iconst X0.here hx rfl (hb hby d12_70) ?_
          refine XS.iadd X0.here hx rfl (hb hby d12_71) rfl ?_
          refine XS.ineg X0.here hx rfl (hb hby d12_72) rfl ?_
          exact kt
        obtain ⟨fs, hr, hrun, hended, hW, hsame⟩ := X0.leave (v := some (.int (-(2 : Int32)))) (fun h => by rw [Bd.returns] at h; cases h)
        refine ⟨_, _, ?_, hrun, hended, _, _, rfl, ?_, ⟨_, rfl⟩, hW, hsame.mono (by decide) (by decide)⟩
        · exact retI X0 hx Bd.returns (hb hby d12_73) hr
        · show QB002 Z a0 q3 t0 t1 t2 h0 n0 _ s₁.heap _
          rw [e0]
          exact ⟨(by rw [own_b002, if_pos hc34_3, if_neg hc34_6, if_pos hc50_8]), N0, rfl⟩
      · refine own_by (A' := s₁.setTop (mkF m 64 #[.val (.ref a0), .val (.int (0 : Int32)), .val (.int (2 : Int32)), .val (.long q3), .second, .val (.int (1 : Int32)), .val (.int (1 : Int32)), .val (.int (1 : Int32)), .val (.long t1), .second] [(.int (1 : Int32))])) (fun t kt => ?_) ?_
        · refine XS.ifYes X0.here hx rfl (pc0 := 50) (pc' := 62) rfl (hb hby d12_50) rfl ((if0 _ _).trans (flt (fun q => hc50_8 ((lw_gt _ _).mp q))).2.2.2) (by decide) (by decide) ?_
          refine XS.iload X0.here hx rfl (hb hby d12_62) rfl ?_
          exact kt
        obtain ⟨fs, hr, hrun, hended, hW, hsame⟩ := X0.leave (v := some (.int (1 : Int32))) (fun h => by rw [Bd.returns] at h; cases h)
        refine ⟨_, _, ?_, hrun, hended, _, _, rfl, ?_, ⟨_, rfl⟩, hW, hsame.mono (by decide) (by decide)⟩
        · exact retI X0 hx Bd.returns (hb hby d12_64) hr
        · show QB002 Z a0 q3 t0 t1 t2 h0 n0 _ s₁.heap _
          rw [e0]
          exact ⟨(by rw [own_b002, if_pos hc34_3, if_neg hc34_6, if_neg hc50_8]), N0, rfl⟩
  · refine own_by (A' := s₁.setTop (mkF m 50 #[.val (.ref a0), .val (.int (0 : Int32)), .val (.int (2 : Int32)), .val (.long q3), .second, .val (.int (0 : Int32)), .val (.int (1 : Int32)), .val (.int (0 : Int32)), .val (.long t0), .second] [(.int (lcmpW t0 q3))])) (fun t kt => ?_) ?_
    · refine XS.ifYes X0.here hx rfl (pc0 := 34) (pc' := 46) rfl (hb hby d12_34) rfl ((if0 _ _).trans (flt (fun q => hc34_3 ((lw_lt _ _).mp q))).2.1) (by decide) (by decide) ?_
      refine XS.lload X0.here hx rfl (hb hby d12_46) rfl ?_
      refine XS.lloadN X0.here hx rfl (hb hby d12_48) rfl ?_
      refine XS.lcmp X0.here hx rfl (hb hby d12_49) rfl ?_
      exact kt
    by_cases hc50_10 : q3 < t0
    · refine own_by (A' := s₁.setTop (mkF m 12 #[.val (.ref a0), .val (.int (0 : Int32)), .val (.int (2 : Int32)), .val (.long q3), .second, .val (.int (0 : Int32)), .val (.int (-1 : Int32)), .val (.int (0 : Int32)), .val (.long t0), .second] [(.int (-1 : Int32)), (.int (0 : Int32))])) (fun t kt => ?_) ?_
      · refine XS.ifNo X0.here hx rfl (hb hby d12_50) rfl ((if0 _ _).trans (tlt ((lw_gt _ _).mpr hc50_10)).2.2.2) ?_
        refine XS.iload X0.here hx rfl (hb hby d12_53) rfl ?_
        refine XS.iconst X0.here hx rfl (hb hby d12_55) ?_
        refine XS.isub X0.here hx rfl (hb hby d12_56) rfl ?_
        refine XS.istore X0.here hx rfl (hb hby d12_57) rfl (l' := #[.val (.ref a0), .val (.int (0 : Int32)), .val (.int (2 : Int32)), .val (.long q3), .second, .val (.int (0 : Int32)), .val (.int (-1 : Int32)), .val (.int (0 : Int32)), .val (.long t0), .second]) rfl ?_
        refine XS.goto X0.here hx rfl (pc0 := 59) (pc' := 65) rfl (hb hby d12_59) (by decide) (by decide) ?_
        refine XS.goto X0.here hx rfl (pc0 := 65) (pc' := 8) rfl (hb hby d12_65) (by decide) (by decide) ?_
        refine XS.iload X0.here hx rfl (hb hby d12_8) rfl ?_
        refine XS.iload X0.here hx rfl (hb hby d12_10) rfl ?_
        exact kt
      have hc12_11 : (-1 : Int32) < (0 : Int32) := by decide
      refine own_by (A' := s₁.setTop (mkF m 73 #[.val (.ref a0), .val (.int (0 : Int32)), .val (.int (2 : Int32)), .val (.long q3), .second, .val (.int (0 : Int32)), .val (.int (-1 : Int32)), .val (.int (0 : Int32)), .val (.long t0), .second] [(.int (-(1 : Int32)))])) (fun t kt => ?_) ?_
      · refine XS.icmpYes X0.here hx rfl (pc0 := 12) (pc' := 68) rfl (hb hby d12_12) rfl (tlt hc12_11).2.2.1 (by decide) (by decide) ?_
        refine XS.iload X0.here hx rfl (hb hby d12_68) rfl ?_
        refine XS.iconst X0.here hx rfl (hb hby d12_70) ?_
        refine XS.iadd X0.here hx rfl (hb hby d12_71) rfl ?_
        refine XS.ineg X0.here hx rfl (hb hby d12_72) rfl ?_
        exact kt
      obtain ⟨fs, hr, hrun, hended, hW, hsame⟩ := X0.leave (v := some (.int (-(1 : Int32)))) (fun h => by rw [Bd.returns] at h; cases h)
      refine ⟨_, _, ?_, hrun, hended, _, _, rfl, ?_, ⟨_, rfl⟩, hW, hsame.mono (by decide) (by decide)⟩
      · exact retI X0 hx Bd.returns (hb hby d12_73) hr
      · show QB002 Z a0 q3 t0 t1 t2 h0 n0 _ s₁.heap _
        rw [e0]
        exact ⟨(by rw [own_b002, if_neg hc34_3, if_pos hc50_10]), N0, rfl⟩
    · refine own_by (A' := s₁.setTop (mkF m 64 #[.val (.ref a0), .val (.int (0 : Int32)), .val (.int (2 : Int32)), .val (.long q3), .second, .val (.int (0 : Int32)), .val (.int (1 : Int32)), .val (.int (0 : Int32)), .val (.long t0), .second] [(.int (0 : Int32))])) (fun t kt => ?_) ?_
      · refine XS.ifYes X0.here hx rfl (pc0 := 50) (pc' := 62) rfl (hb hby d12_50) rfl ((if0 _ _).trans (flt (fun q => hc50_10 ((lw_gt _ _).mp q))).2.2.2) (by decide) (by decide) ?_
        refine XS.iload X0.here hx rfl (hb hby d12_62) rfl ?_
        exact kt
      obtain ⟨fs, hr, hrun, hended, hW, hsame⟩ := X0.leave (v := some (.int (0 : Int32))) (fun h => by rw [Bd.returns] at h; cases h)
      refine ⟨_, _, ?_, hrun, hended, _, _, rfl, ?_, ⟨_, rfl⟩, hW, hsame.mono (by decide) (by decide)⟩
      · exact retI X0 hx Bd.returns (hb hby d12_64) hr
      · show QB002 Z a0 q3 t0 t1 t2 h0 n0 _ s₁.heap _
        rw [e0]
        exact ⟨(by rw [own_b002, if_neg hc34_3, if_neg hc50_10]), N0, rfl⟩
theorem ef_rmBS02 (m : MethodId) (a0 : Addr) (q3 : Int64) : entryFrame m #[(.ref a0), (.int (0 : Int32)), (.int (2 : Int32)), (.long q3)] 5 = mkF m 0 #[.val (.ref a0), .val (.int (0 : Int32)), .val (.int (2 : Int32)), .val (.long q3), .second] [] := by first | (simp [entryFrame, mkF, argsToLocals, Value.category]; done) | rfl
def QBS02 (Z : State) (a0 : Addr) (q3 : Int64) (t0 : Int64) (t1 : Int64) (t2 : Int64) (h0 : Heap) (n0 : Nat) (v : Option Value) (h : Heap) (L : List Loc) : Prop := v = some (.int (own_b002 t0 t1 t2 q3)) ∧ Fr n0 L ∧ h = h0
set_option maxRecDepth 65536 in
set_option maxHeartbeats 40000000 in
theorem rmBS02 (l : Launch) (Z : State) (aw : Array Value) (hw : ∀ d ∈ tables_1, d.before aw Z = true) (ws : List Jvm.Cond) (a0 : Addr) (q3 : Int64) (t0 : Int64) (t1 : Int64) (t2 : Int64) (h0 : Heap) (n0 : Nat) (Z0 : n0 ≤ h0.size) (V_a0 : AF Z h0 a0 .long (8 : Int32) (own_j3 t0 t1 t2)) :
    MetFree l (⟨"java/util/Arrays", "binarySearch", "([JIIJ)I"⟩ : MethodName) (head1 (Jvm.Cond.code (⟨"java/util/Arrays", "binarySearch", "([JIIJ)I"⟩ : MethodName) jdk_65_method_55_code 5 (some .int) :: ws) ({ frames := 1, cells := 0, slots := 0, locals := 21 } : Room)) (fun a U => a = #[(.ref a0), (.int (0 : Int32)), (.int (2 : Int32)), (.long q3)] ∧ Z.Warmed39 U.vm ∧ U.heap = h0) (fun _ _ _ _ _ => True) (fun _ U o U' => ∃ v L, o = .returned v ∧ QBS02 Z a0 q3 t0 t1 t2 h0 n0 v U'.heap L ∧ FrameEnd U o U' L ({ frames := 1, cells := 0, slots := 0, locals := 21 } : Room).cells ({ frames := 1, cells := 0, slots := 0, locals := 21 } : Room).slots) := by
  refine MetFree.of_bodySF (plainFor_of_name pn_2) hisR ?_
  intro p e s m args below meth c s₁ Bd hml0 hP hK
  obtain ⟨rfl, hZ, hh⟩ := hP
  have hx := Bd.exec
  have hby := Bd.bytes
  have hml : c.maxLocals = 5 := hml0
  have hown : s.vm.findClass "java/util/Arrays" = some m.cls := findClass_of_methodNamed Bd.named
  have hnm := (name_of_methodNamed Bd.named Bd.method).1
  have X0 : Stand p l e ({ frames := 1, cells := 0, slots := 0, locals := 21 } : Room) s m #[(.ref a0), (.int (0 : Int32)), (.int (2 : Int32)), (.long q3)] below meth c s₁ [] 0 0 := Stand.of_body Bd
  have e0 : s₁.heap = h0 := by rw [← hh, Bd.state]; rfl
  have N0 := Fr.nil n0
  have K0 : Keep h0 h0 [] := Keep.refl _ _
  refine own_by (A' := s₁.setTop (mkF m 0 #[.val (.ref a0), .val (.int (0 : Int32)), .val (.int (2 : Int32)), .val (.long q3), .second] [])) (fun t k => castTop (ef_rmBS02 m a0 q3) k) ?_
  refine own_by (A' := s₁.setTop (mkF m 1 #[.val (.ref a0), .val (.int (0 : Int32)), .val (.int (2 : Int32)), .val (.long q3), .second] [(.ref a0)])) (fun t kt => ?_) ?_
  · refine XS.aloadN X0.here hx rfl (hb hby d10_0) rfl rfl ?_
    exact kt
  obtain ⟨cl1, Ar1, Sz1, Mn1, -⟩ := id V_a0
  refine own_by (A' := s₁.setTop (mkF m 4 #[.val (.ref a0), .val (.int (0 : Int32)), .val (.int (2 : Int32)), .val (.long q3), .second] [(.int (2 : Int32)), (.int (0 : Int32)), (.int (8 : Int32))])) (fun t kt => ?_) ?_
  · refine X0.arraylength hx (by rw [e0]; exact Ar1.1) (State.isArrayOf_alike hZ.alike Ar1.2.1) (g := (mkF m 1 #[.val (.ref a0), .val (.int (0 : Int32)), .val (.int (2 : Int32)), .val (.long q3), .second] [(.ref a0)])) rfl rfl (hb hby d10_1) _ ?_
    rw [len_of Sz1 Mn1]
    refine XS.iloadN X0.here hx rfl (hb hby d10_2) rfl ?_
    refine XS.iloadN X0.here hx rfl (hb hby d10_3) rfl ?_
    exact kt
  obtain ⟨_, _, ⟨T2, L2, k2, n2⟩, -, X2, ⟨Lc2, hQ2, l2, y2, z2⟩, st2⟩ := Jvm.LawKit.callS X0 hx (y := (⟨"java/util/Arrays", "rangeCheck", "(III)V"⟩ : MethodName)) hown (mvT hZ (wd70 hw)) (mvT hZ (wd71 hw)) (mvT hZ (wd68 hw)) (mvT hZ (wd72 hw)) (by decide) (backOf (W := 0) (rmRC02 l Z aw hw []  h0 n0 (Nat.le_trans Z0 K0.1) ) hZ (wd72 hw) (wd68 hw) (by decide) (by decide)) (g := (mkF m 4 #[.val (.ref a0), .val (.int (0 : Int32)), .val (.int (2 : Int32)), .val (.long q3), .second] [(.int (2 : Int32)), (.int (0 : Int32)), (.int (8 : Int32))])) rfl (by rw [hml]; rfl) (argsL := [(.int (8 : Int32)), (.int (0 : Int32)), (.int (2 : Int32))]) (rest := []) (lenOf pd_3 rfl) rfl (by show 2 * 0 + _ ≤ _; exact Nat.le_of_eq rfl) (hb hby d10_4) (fun _ _ => ⟨rfl, e0, (by decide : 0 + 0 ≤ _), (by decide : 0 + 0 ≤ _)⟩)
  dsimp only [Pt.U, Pt.locs, Pt.cells, Pt.slots] at X2 l2 y2 z2 st2 hQ2
  subst l2 y2 z2
  obtain ⟨rfl, N2q, e2⟩ := hQ2
  have N2 := Fr.app N0 N2q
  refine own_by (A' := T2.setTop (mkF m 11 #[.val (.ref a0), .val (.int (0 : Int32)), .val (.int (2 : Int32)), .val (.long q3), .second] [(.long q3), (.int (2 : Int32)), (.int (0 : Int32)), (.ref a0)])) (fun t kt => ?_) ?_
  · refine st2 t ?_
    refine XS.aloadN X2.here hx rfl (hb hby d10_7) rfl rfl ?_
    refine XS.iloadN X2.here hx rfl (hb hby d10_8) rfl ?_
    refine XS.iloadN X2.here hx rfl (hb hby d10_9) rfl ?_
    refine XS.lloadN X2.here hx rfl (hb hby d10_10) rfl ?_
    exact kt
  obtain ⟨_, _, ⟨T3, L3, k3, n3⟩, -, X3, ⟨Lc3, hQ3, l3, y3, z3⟩, st3⟩ := Jvm.LawKit.callS X2 hx (y := (⟨"java/util/Arrays", "binarySearch0", "([JIIJ)I"⟩ : MethodName)) hown (mvT hZ (wd73 hw)) (mvT hZ (wd74 hw)) (mvT hZ (wd68 hw)) (mvT hZ (wd75 hw)) (by decide) (backOf (W := 0) (rmB002 l Z aw hw [] a0 q3 t0 t1 t2 h0 n0 (Nat.le_trans Z0 K0.1) V_a0) hZ (wd75 hw) (wd68 hw) (by decide) (by decide)) (g := (mkF m 11 #[.val (.ref a0), .val (.int (0 : Int32)), .val (.int (2 : Int32)), .val (.long q3), .second] [(.long q3), (.int (2 : Int32)), (.int (0 : Int32)), (.ref a0)])) rfl (by rw [hml]; rfl) (argsL := [(.ref a0), (.int (0 : Int32)), (.int (2 : Int32)), (.long q3)]) (rest := []) (lenOf pd_4 rfl) rfl (by show 2 * 0 + _ ≤ _; exact Nat.le_of_eq rfl) (hb hby d10_11) (fun _ _ => ⟨rfl, e2, (by decide : 0 + 0 ≤ _), (by decide : 0 + 0 ≤ _)⟩)
  dsimp only [Pt.U, Pt.locs, Pt.cells, Pt.slots] at X3 l3 y3 z3 st3 hQ3
  subst l3 y3 z3
  obtain ⟨rfl, N3q, e3⟩ := hQ3
  have N3 := Fr.app N2 N3q
  refine own_by (A' := T3.setTop (mkF m 14 #[.val (.ref a0), .val (.int (0 : Int32)), .val (.int (2 : Int32)), .val (.long q3), .second] [(.int (own_b002 t0 t1 t2 q3))])) (fun t kt => st3 t kt) ?_
  obtain ⟨fs, hr, hrun, hended, hW, hsame⟩ := X3.leave (v := some (.int (own_b002 t0 t1 t2 q3))) (fun h => by rw [Bd.returns] at h; cases h)
  refine ⟨_, _, ?_, hrun, hended, _, _, rfl, ?_, ⟨_, rfl⟩, hW, hsame.mono (by decide) (by decide)⟩
  · exact retI X3 hx Bd.returns (hb hby d10_14) hr
  · show QBS02 Z a0 q3 t0 t1 t2 h0 n0 _ T3.heap _
    rw [e3]
    exact ⟨rfl, N3, rfl⟩
theorem ef_rmRC03 (m : MethodId)  : entryFrame m #[(.int (8 : Int32)), (.int (0 : Int32)), (.int (3 : Int32))] 3 = mkF m 0 #[.val (.int (8 : Int32)), .val (.int (0 : Int32)), .val (.int (3 : Int32))] [] := by first | (simp [entryFrame, mkF, argsToLocals, Value.category]; done) | rfl
def QRC03 (Z : State)  (h0 : Heap) (n0 : Nat) (v : Option Value) (h : Heap) (L : List Loc) : Prop := v = none ∧ Fr n0 L ∧ h = h0
set_option maxRecDepth 65536 in
set_option maxHeartbeats 40000000 in
theorem rmRC03 (l : Launch) (Z : State) (aw : Array Value) (hw : ∀ d ∈ tables_1, d.before aw Z = true) (ws : List Jvm.Cond)  (h0 : Heap) (n0 : Nat) (Z0 : n0 ≤ h0.size) :
    MetFree l (⟨"java/util/Arrays", "rangeCheck", "(III)V"⟩ : MethodName) (head1 (Jvm.Cond.code (⟨"java/util/Arrays", "rangeCheck", "(III)V"⟩ : MethodName) jdk_65_method_30_code 3 none :: ws) ({ frames := 0, cells := 0, slots := 0, locals := 0 } : Room)) (fun a U => a = #[(.int (8 : Int32)), (.int (0 : Int32)), (.int (3 : Int32))] ∧ Z.Warmed39 U.vm ∧ U.heap = h0) (fun _ _ _ _ _ => True) (fun _ U o U' => ∃ v L, o = .returned v ∧ QRC03 Z  h0 n0 v U'.heap L ∧ FrameEnd U o U' L ({ frames := 0, cells := 0, slots := 0, locals := 0 } : Room).cells ({ frames := 0, cells := 0, slots := 0, locals := 0 } : Room).slots) := by
  refine MetFree.of_bodySF (plainFor_of_name pn_2) hisR ?_
  intro p e s m args below meth c s₁ Bd hml0 hP hK
  obtain ⟨rfl, hZ, hh⟩ := hP
  have hx := Bd.exec
  have hby := Bd.bytes
  have hml : c.maxLocals = 3 := hml0
  have hown : s.vm.findClass "java/util/Arrays" = some m.cls := findClass_of_methodNamed Bd.named
  have hnm := (name_of_methodNamed Bd.named Bd.method).1
  have X0 : Stand p l e ({ frames := 0, cells := 0, slots := 0, locals := 0 } : Room) s m #[(.int (8 : Int32)), (.int (0 : Int32)), (.int (3 : Int32))] below meth c s₁ [] 0 0 := Stand.of_body Bd
  have e0 : s₁.heap = h0 := by rw [← hh, Bd.state]; rfl
  have N0 := Fr.nil n0
  have K0 : Keep h0 h0 [] := Keep.refl _ _
  refine own_by (A' := s₁.setTop (mkF m 0 #[.val (.int (8 : Int32)), .val (.int (0 : Int32)), .val (.int (3 : Int32))] [])) (fun t k => castTop (ef_rmRC03 m ) k) ?_
  refine own_by (A' := s₁.setTop (mkF m 2 #[.val (.int (8 : Int32)), .val (.int (0 : Int32)), .val (.int (3 : Int32))] [(.int (3 : Int32)), (.int (0 : Int32))])) (fun t kt => ?_) ?_
  · refine XS.iloadN X0.here hx rfl (hb hby d11_0) rfl ?_
    refine XS.iloadN X0.here hx rfl (hb hby d11_1) rfl ?_
    exact kt
  have hc2_1 : ¬ ((3 : Int32) < (0 : Int32)) := by decide
  refine own_by (A' := s₁.setTop (mkF m 47 #[.val (.int (8 : Int32)), .val (.int (0 : Int32)), .val (.int (3 : Int32))] [(.int (0 : Int32))])) (fun t kt => ?_) ?_
  · refine XS.icmpYes X0.here hx rfl (pc0 := 2) (pc' := 46) rfl (hb hby d11_2) rfl (flt hc2_1).2.2.2 (by decide) (by decide) ?_
    refine XS.iloadN X0.here hx rfl (hb hby d11_46) rfl ?_
    exact kt
  have hc47_2 : ¬ ((0 : Int32) < (0 : Int32)) := by decide
  refine own_by (A' := s₁.setTop (mkF m 61 #[.val (.int (8 : Int32)), .val (.int (0 : Int32)), .val (.int (3 : Int32))] [(.int (8 : Int32)), (.int (3 : Int32))])) (fun t kt => ?_) ?_
  · refine XS.ifYes X0.here hx rfl (pc0 := 47) (pc' := 59) rfl (hb hby d11_47) rfl ((if0 _ _).trans (flt hc47_2).2.1) (by decide) (by decide) ?_
    refine XS.iloadN X0.here hx rfl (hb hby d11_59) rfl ?_
    refine XS.iloadN X0.here hx rfl (hb hby d11_60) rfl ?_
    exact kt
  have hc61_3 : ¬ ((8 : Int32) < (3 : Int32)) := by decide
  refine own_by (A' := s₁.setTop (mkF m 73 #[.val (.int (8 : Int32)), .val (.int (0 : Int32)), .val (.int (3 : Int32))] [])) (fun t kt => ?_) ?_
  · refine XS.icmpYes X0.here hx rfl (pc0 := 61) (pc' := 73) rfl (hb hby d11_61) rfl (flt hc61_3).2.2.2 (by decide) (by decide) ?_
    exact kt
  obtain ⟨fs, hr, hrun, hended, hW, hsame⟩ := X0.leave (v := none) (fun _ => rfl)
  refine ⟨_, _, ?_, hrun, hended, _, _, rfl, ?_, ⟨_, rfl⟩, hW, hsame.mono (by decide) (by decide)⟩
  · exact X0.returnOut hx Bd.returns (hb hby d11_73) hr
  · show QRC03 Z  h0 n0 _ s₁.heap _
    rw [e0]
    exact ⟨rfl, N0, rfl⟩
def own_b003 (t0 t1 t2 q3 : Int64) : Int32 := (if t1 < q3 then (if t2 < q3 then (-(4 : Int32)) else (if q3 < t2 then (-(3 : Int32)) else (2 : Int32))) else (if q3 < t1 then (if t0 < q3 then (-(2 : Int32)) else (if q3 < t0 then (-(1 : Int32)) else (0 : Int32))) else (1 : Int32)))
theorem ef_rmB003 (m : MethodId) (a0 : Addr) (q3 : Int64) : entryFrame m #[(.ref a0), (.int (0 : Int32)), (.int (3 : Int32)), (.long q3)] 10 = mkF m 0 #[.val (.ref a0), .val (.int (0 : Int32)), .val (.int (3 : Int32)), .val (.long q3), .second, .unset, .unset, .unset, .unset, .unset] [] := by first | (simp [entryFrame, mkF, argsToLocals, Value.category]; done) | rfl
def QB003 (Z : State) (a0 : Addr) (q3 : Int64) (t0 : Int64) (t1 : Int64) (t2 : Int64) (h0 : Heap) (n0 : Nat) (v : Option Value) (h : Heap) (L : List Loc) : Prop := v = some (.int (own_b003 t0 t1 t2 q3)) ∧ Fr n0 L ∧ h = h0
set_option maxRecDepth 65536 in
set_option maxHeartbeats 40000000 in
theorem rmB003 (l : Launch) (Z : State) (aw : Array Value) (hw : ∀ d ∈ tables_1, d.before aw Z = true) (ws : List Jvm.Cond) (a0 : Addr) (q3 : Int64) (t0 : Int64) (t1 : Int64) (t2 : Int64) (h0 : Heap) (n0 : Nat) (Z0 : n0 ≤ h0.size) (V_a0 : AF Z h0 a0 .long (8 : Int32) (own_j3 t0 t1 t2)) :
    MetFree l (⟨"java/util/Arrays", "binarySearch0", "([JIIJ)I"⟩ : MethodName) (head1 (Jvm.Cond.code (⟨"java/util/Arrays", "binarySearch0", "([JIIJ)I"⟩ : MethodName) jdk_65_method_56_code 10 (some .int) :: ws) ({ frames := 0, cells := 0, slots := 0, locals := 0 } : Room)) (fun a U => a = #[(.ref a0), (.int (0 : Int32)), (.int (3 : Int32)), (.long q3)] ∧ Z.Warmed39 U.vm ∧ U.heap = h0) (fun _ _ _ _ _ => True) (fun _ U o U' => ∃ v L, o = .returned v ∧ QB003 Z a0 q3 t0 t1 t2 h0 n0 v U'.heap L ∧ FrameEnd U o U' L ({ frames := 0, cells := 0, slots := 0, locals := 0 } : Room).cells ({ frames := 0, cells := 0, slots := 0, locals := 0 } : Room).slots) := by
  refine MetFree.of_bodySF (plainFor_of_name pn_2) hisR ?_
  intro p e s m args below meth c s₁ Bd hml0 hP hK
  obtain ⟨rfl, hZ, hh⟩ := hP
  have hx := Bd.exec
  have hby := Bd.bytes
  have hml : c.maxLocals = 10 := hml0
  have hown : s.vm.findClass "java/util/Arrays" = some m.cls := findClass_of_methodNamed Bd.named
  have hnm := (name_of_methodNamed Bd.named Bd.method).1
  have X0 : Stand p l e ({ frames := 0, cells := 0, slots := 0, locals := 0 } : Room) s m #[(.ref a0), (.int (0 : Int32)), (.int (3 : Int32)), (.long q3)] below meth c s₁ [] 0 0 := Stand.of_body Bd
  have e0 : s₁.heap = h0 := by rw [← hh, Bd.state]; rfl
  have N0 := Fr.nil n0
  have K0 : Keep h0 h0 [] := Keep.refl _ _
  refine own_by (A' := s₁.setTop (mkF m 0 #[.val (.ref a0), .val (.int (0 : Int32)), .val (.int (3 : Int32)), .val (.long q3), .second, .unset, .unset, .unset, .unset, .unset] [])) (fun t k => castTop (ef_rmB003 m a0 q3) k) ?_
  refine own_by (A' := s₁.setTop (mkF m 12 #[.val (.ref a0), .val (.int (0 : Int32)), .val (.int (3 : Int32)), .val (.long q3), .second, .val (.int (0 : Int32)), .val (.int (2 : Int32)), .unset, .unset, .unset] [(.int (2 : Int32)), (.int (0 : Int32))])) (fun t kt => ?_) ?_
  · refine XS.iloadN X0.here hx rfl (hb hby d12_0) rfl ?_
    refine XS.istore X0.here hx rfl (hb hby d12_1) rfl (l' := #[.val (.ref a0), .val (.int (0 : Int32)), .val (.int (3 : Int32)), .val (.long q3), .second, .val (.int (0 : Int32)), .unset, .unset, .unset, .unset]) rfl ?_
    refine XS.iloadN X0.here hx rfl (hb hby d12_3) rfl ?_
    refine XS.iconst X0.here hx rfl (hb hby d12_4) ?_
    refine XS.isub X0.here hx rfl (hb hby d12_5) rfl ?_
    refine XS.istore X0.here hx rfl (hb hby d12_6) rfl (l' := #[.val (.ref a0), .val (.int (0 : Int32)), .val (.int (3 : Int32)), .val (.long q3), .second, .val (.int (0 : Int32)), .val (.int (2 : Int32)), .unset, .unset, .unset]) rfl ?_
    refine XS.iload X0.here hx rfl (hb hby d12_8) rfl ?_
    refine XS.iload X0.here hx rfl (hb hby d12_10) rfl ?_
    exact kt
  have hc12_1 : ¬ ((2 : Int32) < (0 : Int32)) := by decide
  refine own_by (A' := s₁.setTop (mkF m 27 #[.val (.ref a0), .val (.int (0 : Int32)), .val (.int (3 : Int32)), .val (.long q3), .second, .val (.int (0 : Int32)), .val (.int (2 : Int32)), .val (.int (1 : Int32)), .unset, .unset] [(.int (1 : Int32)), (.ref a0)])) (fun t kt => ?_) ?_
  · refine XS.icmpNo X0.here hx rfl (hb hby d12_12) rfl (flt hc12_1).2.2.1 ?_
    refine XS.iload X0.here hx rfl (hb hby d12_15) rfl ?_
    refine XS.iload X0.here hx rfl (hb hby d12_17) rfl ?_
    refine XS.iadd X0.here hx rfl (hb hby d12_19) rfl ?_
    refine XS.iconst X0.here hx rfl (hb hby d12_20) ?_
    refine XS.iushr X0.here hx rfl (hb hby d12_21) rfl ?_
    refine XS.istore X0.here hx rfl (hb hby d12_22) rfl (l' := #[.val (.ref a0), .val (.int (0 : Int32)), .val (.int (3 : Int32)), .val (.long q3), .second, .val (.int (0 : Int32)), .val (.int (2 : Int32)), .val (.int (1 : Int32)), .unset, .unset]) rfl ?_
    refine XS.aloadN X0.here hx rfl (hb hby d12_24) rfl rfl ?_
    refine XS.iload X0.here hx rfl (hb hby d12_25) rfl ?_
    exact kt
  obtain ⟨cl2, Ar2, Sz2, Mn2, Ha2⟩ := id V_a0
  have hin2 := inb_of (j := (1 : Int32)) Sz2 ⟨by decide, by decide⟩
  have hat2 : cl2.slots[((1 : Int32)).toNatClampNeg]? = some (.long t1) := (Ha2 _ (Nat.lt_of_not_le fun q => hin2 (Or.inr q))).trans (congrArg some rfl)
  refine own_by (A' := s₁.setTop (mkF m 34 #[.val (.ref a0), .val (.int (0 : Int32)), .val (.int (3 : Int32)), .val (.long q3), .second, .val (.int (0 : Int32)), .val (.int (2 : Int32)), .val (.int (1 : Int32)), .val (.long t1), .second] [(.int (lcmpW t1 q3))])) (fun t kt => ?_) ?_
  · refine X0.laload hx (j := (1 : Int32)) (v := (.long t1)) (by rw [e0]; exact Ar2.1) (State.isArrayOf_alike hZ.alike Ar2.2.1) Ar2.2.2 hin2 hat2 (g := (mkF m 27 #[.val (.ref a0), .val (.int (0 : Int32)), .val (.int (3 : Int32)), .val (.long q3), .second, .val (.int (0 : Int32)), .val (.int (2 : Int32)), .val (.int (1 : Int32)), .unset, .unset] [(.int (1 : Int32)), (.ref a0)])) rfl rfl (hb hby d12_27) _ ?_
    refine XS.lstore X0.here hx rfl (hb hby d12_28) rfl (l' := #[.val (.ref a0), .val (.int (0 : Int32)), .val (.int (3 : Int32)), .val (.long q3), .second, .val (.int (0 : Int32)), .val (.int (2 : Int32)), .val (.int (1 : Int32)), .val (.long t1), .second]) rfl ?_
    refine XS.lload X0.here hx rfl (hb hby d12_30) rfl ?_
    refine XS.lloadN X0.here hx rfl (hb hby d12_32) rfl ?_
    refine XS.lcmp X0.here hx rfl (hb hby d12_33) rfl ?_
    exact kt
  by_cases hc34_3 : t1 < q3
  · refine own_by (A' := s₁.setTop (mkF m 12 #[.val (.ref a0), .val (.int (0 : Int32)), .val (.int (3 : Int32)), .val (.long q3), .second, .val (.int (2 : Int32)), .val (.int (2 : Int32)), .val (.int (1 : Int32)), .val (.long t1), .second] [(.int (2 : Int32)), (.int (2 : Int32))])) (fun t kt => ?_) ?_
    · refine XS.ifNo X0.here hx rfl (hb hby d12_34) rfl ((if0 _ _).trans (tlt ((lw_lt _ _).mpr hc34_3)).2.1) ?_
      refine XS.iload X0.here hx rfl (hb hby d12_37) rfl ?_
      refine XS.iconst X0.here hx rfl (hb hby d12_39) ?_
      refine XS.iadd X0.here hx rfl (hb hby d12_40) rfl ?_
      refine XS.istore X0.here hx rfl (hb hby d12_41) rfl (l' := #[.val (.ref a0), .val (.int (0 : Int32)), .val (.int (3 : Int32)), .val (.long q3), .second, .val (.int (2 : Int32)), .val (.int (2 : Int32)), .val (.int (1 : Int32)), .val (.long t1), .second]) rfl ?_
      refine XS.goto X0.here hx rfl (pc0 := 43) (pc' := 65) rfl (hb hby d12_43) (by decide) (by decide) ?_
      refine XS.goto X0.here hx rfl (pc0 := 65) (pc' := 8) rfl (hb hby d12_65) (by decide) (by decide) ?_
      refine XS.iload X0.here hx rfl (hb hby d12_8) rfl ?_
      refine XS.iload X0.here hx rfl (hb hby d12_10) rfl ?_
      exact kt
    have hc12_4 : ¬ ((2 : Int32) < (2 : Int32)) := by decide
    refine own_by (A' := s₁.setTop (mkF m 27 #[.val (.ref a0), .val (.int (0 : Int32)), .val (.int (3 : Int32)), .val (.long q3), .second, .val (.int (2 : Int32)), .val (.int (2 : Int32)), .val (.int (2 : Int32)), .val (.long t1), .second] [(.int (2 : Int32)), (.ref a0)])) (fun t kt => ?_) ?_
    · refine XS.icmpNo X0.here hx rfl (hb hby d12_12) rfl (flt hc12_4).2.2.1 ?_
      refine XS.iload X0.here hx rfl (hb hby d12_15) rfl ?_
      refine XS.iload X0.here hx rfl (hb hby d12_17) rfl ?_
      refine XS.iadd X0.here hx rfl (hb hby d12_19) rfl ?_
      refine XS.iconst X0.here hx rfl (hb hby d12_20) ?_
      refine XS.iushr X0.here hx rfl (hb hby d12_21) rfl ?_
      refine XS.istore X0.here hx rfl (hb hby d12_22) rfl (l' := #[.val (.ref a0), .val (.int (0 : Int32)), .val (.int (3 : Int32)), .val (.long q3), .second, .val (.int (2 : Int32)), .val (.int (2 : Int32)), .val (.int (2 : Int32)), .val (.long t1), .second]) rfl ?_
      refine XS.aloadN X0.here hx rfl (hb hby d12_24) rfl rfl ?_
      refine XS.iload X0.here hx rfl (hb hby d12_25) rfl ?_
      exact kt
    obtain ⟨cl5, Ar5, Sz5, Mn5, Ha5⟩ := id V_a0
    have hin5 := inb_of (j := (2 : Int32)) Sz5 ⟨by decide, by decide⟩
    have hat5 : cl5.slots[((2 : Int32)).toNatClampNeg]? = some (.long t2) := (Ha5 _ (Nat.lt_of_not_le fun q => hin5 (Or.inr q))).trans (congrArg some rfl)
    refine own_by (A' := s₁.setTop (mkF m 34 #[.val (.ref a0), .val (.int (0 : Int32)), .val (.int (3 : Int32)), .val (.long q3), .second, .val (.int (2 : Int32)), .val (.int (2 : Int32)), .val (.int (2 : Int32)), .val (.long t2), .second] [(.int (lcmpW t2 q3))])) (fun t kt => ?_) ?_
    · refine X0.laload hx (j := (2 : Int32)) (v := (.long t2)) (by rw [e0]; exact Ar5.1) (State.isArrayOf_alike hZ.alike Ar5.2.1) Ar5.2.2 hin5 hat5 (g := (mkF m 27 #[.val (.ref a0), .val (.int (0 : Int32)), .val (.int (3 : Int32)), .val (.long q3), .second, .val (.int (2 : Int32)), .val (.int (2 : Int32)), .val (.int (2 : Int32)), .val (.long t1), .second] [(.int (2 : Int32)), (.ref a0)])) rfl rfl (hb hby d12_27) _ ?_
      refine XS.lstore X0.here hx rfl (hb hby d12_28) rfl (l' := #[.val (.ref a0), .val (.int (0 : Int32)), .val (.int (3 : Int32)), .val (.long q3), .second, .val (.int (2 : Int32)), .val (.int (2 : Int32)), .val (.int (2 : Int32)), .val (.long t2), .second]) rfl ?_
      refine XS.lload X0.here hx rfl (hb hby d12_30) rfl ?_
      refine XS.lloadN X0.here hx rfl (hb hby d12_32) rfl ?_
      refine XS.lcmp X0.here hx rfl (hb hby d12_33) rfl ?_
      exact kt
    by_cases hc34_6 : t2 < q3
    · refine own_by (A' := s₁.setTop (mkF m 12 #[.val (.ref a0), .val (.int (0 : Int32)), .val (.int (3 : Int32)), .val (.long q3), .second, .val (.int (3 : Int32)), .val (.int (2 : Int32)), .val (.int (2 : Int32)), .val (.long t2), .second] [(.int (2 : Int32)), (.int (3 : Int32))])) (fun t kt => ?_) ?_
      · refine XS.ifNo X0.here hx rfl (hb hby d12_34) rfl ((if0 _ _).trans (tlt ((lw_lt _ _).mpr hc34_6)).2.1) ?_
        refine XS.iload X0.here hx rfl (hb hby d12_37) rfl ?_
        refine XS.iconst X0.here hx rfl (hb hby d12_39) ?_
        refine XS.iadd X0.here hx rfl (hb hby d12_40) rfl ?_
        refine XS.istore X0.here hx rfl (hb hby d12_41) rfl (l' := #[.val (.ref a0), .val (.int (0 : Int32)), .val (.int (3 : Int32)), .val (.long q3), .second, .val (.int (3 : Int32)), .val (.int (2 : Int32)), .val (.int (2 : Int32)), .val (.long t2), .second]) rfl ?_
        refine XS.goto X0.here hx rfl (pc0 := 43) (pc' := 65) rfl (hb hby d12_43) (by decide) (by decide) ?_
        refine XS.goto X0.here hx rfl (pc0 := 65) (pc' := 8) rfl (hb hby d12_65) (by decide) (by decide) ?_
        refine XS.iload X0.here hx rfl (hb hby d12_8) rfl ?_
        refine XS.iload X0.here hx rfl (hb hby d12_10) rfl ?_
        exact kt
      have hc12_7 : (2 : Int32) < (3 : Int32) := by decide
      refine own_by (A' := s₁.setTop (mkF m 73 #[.val (.ref a0), .val (.int (0 : Int32)), .val (.int (3 : Int32)), .val (.long q3), .second, .val (.int (3 : Int32)), .val (.int (2 : Int32)), .val (.int (2 : Int32)), .val (.long t2), .second] [(.int (-(4 : Int32)))])) (fun t kt => ?_) ?_
      · refine XS.icmpYes X0.here hx rfl (pc0 := 12) (pc' := 68) rfl (hb hby d12_12) rfl (tlt hc12_7).2.2.1 (by decide) (by decide) ?_
        refine XS.iload X0.here hx rfl (hb hby d12_68) rfl ?_
        refine XS.iconst X0.here hx rfl (hb hby d12_70) ?_
        refine XS.iadd X0.here hx rfl (hb hby d12_71) rfl ?_
        refine XS.ineg X0.here hx rfl (hb hby d12_72) rfl ?_
        exact kt
      obtain ⟨fs, hr, hrun, hended, hW, hsame⟩ := X0.leave (v := some (.int (-(4 : Int32)))) (fun h => by rw [Bd.returns] at h; cases h)
      refine ⟨_, _, ?_, hrun, hended, _, _, rfl, ?_, ⟨_, rfl⟩, hW, hsame.mono (by decide) (by decide)⟩
      · exact retI X0 hx Bd.returns (hb hby d12_73) hr
      · show QB003 Z a0 q3 t0 t1 t2 h0 n0 _ s₁.heap _
        rw [e0]
        exact ⟨(by rw [own_b003, if_pos hc34_3, if_pos hc34_6]), N0, rfl⟩
    · refine own_by (A' := s₁.setTop (mkF m 50 #[.val (.ref a0), .val (.int (0 : Int32)), .val (.int (3 : Int32)), .val (.long q3), .second, .val (.int (2 : Int32)), .val (.int (2 : Int32)), .val (.int (2 : Int32)), .val (.long t2), .second] [(.int (lcmpW t2 q3))])) (fun t kt => ?_) ?_
      · refine XS.ifYes X0.here hx rfl (pc0 := 34) (pc' := 46) rfl (hb hby d12_34) rfl ((if0 _ _).trans (flt (fun q => hc34_6 ((lw_lt _ _).mp q))).2.1) (by decide) (by decide) ?_
        refine XS.lload X0.here hx rfl (hb hby d12_46) rfl ?_
        refine XS.lloadN X0.here hx rfl (hb hby d12_48) rfl ?_
        refine XS.lcmp X0.here hx rfl (hb hby d12_49) rfl ?_
        exact kt
      by_cases hc50_8 : q3 < t2
      · refine own_by (A' := s₁.setTop (mkF m 12 #[.val (.ref a0), .val (.int (0 : Int32)), .val (.int (3 : Int32)), .val (.long q3), .second, .val (.int (2 : Int32)), .val (.int (1 : Int32)), .val (.int (2 : Int32)), .val (.long t2), .second] [(.int (1 : Int32)), (.int (2 : Int32))])) (fun t kt => ?_) ?_
        · refine XS.ifNo X0.here hx rfl (hb hby d12_50) rfl ((if0 _ _).trans (tlt ((lw_gt _ _).mpr hc50_8)).2.2.2) ?_
          refine XS.iload X0.here hx rfl (hb hby d12_53) rfl ?_
          refine XS.iconst X0.here hx rfl (hb hby d12_55) ?_
          refine XS.isub X0.here hx rfl (hb hby d12_56) rfl ?_
          refine XS.istore X0.here hx rfl (hb hby d12_57) rfl (l' := #[.val (.ref a0), .val (.int (0 : Int32)), .val (.int (3 : Int32)), .val (.long q3), .second, .val (.int (2 : Int32)), .val (.int (1 : Int32)), .val (.int (2 : Int32)), .val (.long t2), .second]) rfl ?_
          refine XS.goto X0.here hx rfl (pc0 := 59) (pc' := 65) rfl (hb hby d12_59) (by decide) (by decide) ?_
          refine XS.goto X0.here hx rfl (pc0 := 65) (pc' := 8) rfl (hb hby d12_65) (by decide) (by decide) ?_
          refine XS.iload X0.here hx rfl (hb hby d12_8) rfl ?_
          refine XS.iload X0.here hx rfl (hb hby d12_10) rfl ?_
          exact kt
        have hc12_9 : (1 : Int32) < (2 : Int32) := by decide
        refine own_by (A' := s₁.setTop (mkF m 73 #[.val (.ref a0), .val (.int (0 : Int32)), .val (.int (3 : Int32)), .val (.long q3), .second, .val (.int (2 : Int32)), .val (.int (1 : Int32)), .val (.int (2 : Int32)), .val (.long t2), .second] [(.int (-(3 : Int32)))])) (fun t kt => ?_) ?_
        · refine XS.icmpYes X0.here hx rfl (pc0 := 12) (pc' := 68) rfl (hb hby d12_12) rfl (tlt hc12_9).2.2.1 (by decide) (by decide) ?_
          refine XS.iload X0.here hx rfl (hb hby d12_68) rfl ?_
          refine XS.iconst X0.here hx rfl (hb hby d12_70) ?_
          refine XS.iadd X0.here hx rfl (hb hby d12_71) rfl ?_
          refine XS.ineg X0.here hx rfl (hb hby d12_72) rfl ?_
          exact kt
        obtain ⟨fs, hr, hrun, hended, hW, hsame⟩ := X0.leave (v := some (.int (-(3 : Int32)))) (fun h => by rw [Bd.returns] at h; cases h)
        refine ⟨_, _, ?_, hrun, hended, _, _, rfl, ?_, ⟨_, rfl⟩, hW, hsame.mono (by decide) (by decide)⟩
        · exact retI X0 hx Bd.returns (hb hby d12_73) hr
        · show QB003 Z a0 q3 t0 t1 t2 h0 n0 _ s₁.heap _
          rw [e0]
          exact ⟨(by rw [own_b003, if_pos hc34_3, if_neg hc34_6, if_pos hc50_8]), N0, rfl⟩
      · refine own_by (A' := s₁.setTop (mkF m 64 #[.val (.ref a0), .val (.int (0 : Int32)), .val (.int (3 : Int32)), .val (.long q3), .second, .val (.int (2 : Int32)), .val (.int (2 : Int32)), .val (.int (2 : Int32)), .val (.long t2), .second] [(.int (2 : Int32))])) (fun t kt => ?_) ?_
        · refine XS.ifYes X0.here hx rfl (pc0 := 50) (pc' := 62) rfl (hb hby d12_50) rfl ((if0 _ _).trans (flt (fun q => hc50_8 ((lw_gt _ _).mp q))).2.2.2) (by decide) (by decide) ?_
          refine XS.iload X0.here hx rfl (hb hby d12_62) rfl ?_
          exact kt
        obtain ⟨fs, hr, hrun, hended, hW, hsame⟩ := X0.leave (v := some (.int (2 : Int32))) (fun h => by rw [Bd.returns] at h; cases h)
        refine ⟨_, _, ?_, hrun, hended, _, _, rfl, ?_, ⟨_, rfl⟩, hW, hsame.mono (by decide) (by decide)⟩
        · exact retI X0 hx Bd.returns (hb hby d12_64) hr
        · show QB003 Z a0 q3 t0 t1 t2 h0 n0 _ s₁.heap _
          rw [e0]
          exact ⟨(by rw [own_b003, if_pos hc34_3, if_neg hc34_6, if_neg hc50_8]), N0, rfl⟩
  · refine own_by (A' := s₁.setTop (mkF m 50 #[.val (.ref a0), .val (.int (0 : Int32)), .val (.int (3 : Int32)), .val (.long q3), .second, .val (.int (0 : Int32)), .val (.int (2 : Int32)), .val (.int (1 : Int32)), .val (.long t1), .second] [(.int (lcmpW t1 q3))])) (fun t kt => ?_) ?_
    · refine XS.ifYes X0.here hx rfl (pc0 := 34) (pc' := 46) rfl (hb hby d12_34) rfl ((if0 _ _).trans (flt (fun q => hc34_3 ((lw_lt _ _).mp q))).2.1) (by decide) (by decide) ?_
      refine XS.lload X0.here hx rfl (hb hby d12_46) rfl ?_
      refine XS.lloadN X0.here hx rfl (hb hby d12_48) rfl ?_
      refine XS.lcmp X0.here hx rfl (hb hby d12_49) rfl ?_
      exact kt
    by_cases hc50_10 : q3 < t1
    · refine own_by (A' := s₁.setTop (mkF m 12 #[.val (.ref a0), .val (.int (0 : Int32)), .val (.int (3 : Int32)), .val (.long q3), .second, .val (.int (0 : Int32)), .val (.int (0 : Int32)), .val (.int (1 : Int32)), .val (.long t1), .second] [(.int (0 : Int32)), (.int (0 : Int32))])) (fun t kt => ?_) ?_
      · refine XS.ifNo X0.here hx rfl (hb hby d12_50) rfl ((if0 _ _).trans (tlt ((lw_gt _ _).mpr hc50_10)).2.2.2) ?_
        refine XS.iload X0.here hx rfl (hb hby d12_53) rfl ?_
        refine XS.iconst X0.here hx rfl (hb hby d12_55) ?_
        refine XS.isub X0.here hx rfl (hb hby d12_56) rfl ?_
        refine XS.istore X0.here hx rfl (hb hby d12_57) rfl (l' := #[.val (.ref a0), .val (.int (0 : Int32)), .val (.int (3 : Int32)), .val (.long q3), .second, .val (.int (0 : Int32)), .val (.int (0 : Int32)), .val (.int (1 : Int32)), .val (.long t1), .second]) rfl ?_
        refine XS.goto X0.here hx rfl (pc0 := 59) (pc' := 65) rfl (hb hby d12_59) (by decide) (by decide) ?_
        refine XS.goto X0.here hx rfl (pc0 := 65) (pc' := 8) rfl (hb hby d12_65) (by decide) (by decide) ?_
        refine XS.iload X0.here hx rfl (hb hby d12_8) rfl ?_
        refine XS.iload X0.here hx rfl (hb hby d12_10) rfl ?_
        exact kt
      have hc12_11 : ¬ ((0 : Int32) < (0 : Int32)) := by decide
      refine own_by (A' := s₁.setTop (mkF m 27 #[.val (.ref a0), .val (.int (0 : Int32)), .val (.int (3 : Int32)), .val (.long q3), .second, .val (.int (0 : Int32)), .val (.int (0 : Int32)), .val (.int (0 : Int32)), .val (.long t1), .second] [(.int (0 : Int32)), (.ref a0)])) (fun t kt => ?_) ?_
      · refine XS.icmpNo X0.here hx rfl (hb hby d12_12) rfl (flt hc12_11).2.2.1 ?_
        refine XS.iload X0.here hx rfl (hb hby d12_15) rfl ?_
        refine XS.iload X0.here hx rfl (hb hby d12_17) rfl ?_
        refine XS.iadd X0.here hx rfl (hb hby d12_19) rfl ?_
        refine XS.iconst X0.here hx rfl (hb hby d12_20) ?_
        refine XS.iushr X0.here hx rfl (hb hby d12_21) rfl ?_
        refine XS.istore X0.here hx rfl (hb hby d12_22) rfl (l' := #[.val (.ref a0), .val (.int (0 : Int32)), .val (.int (3 : Int32)), .val (.long q3), .second, .val (.int (0 : Int32)), .val (.int (0 : Int32)), .val (.int (0 : Int32)), .val (.long t1), .second]) rfl ?_
        refine XS.aloadN X0.here hx rfl (hb hby d12_24) rfl rfl ?_
        refine XS.iload X0.here hx rfl (hb hby d12_25) rfl ?_
        exact kt
      obtain ⟨cl12, Ar12, Sz12, Mn12, Ha12⟩ := id V_a0
      have hin12 := inb_of (j := (0 : Int32)) Sz12 ⟨by decide, by decide⟩
      have hat12 : cl12.slots[((0 : Int32)).toNatClampNeg]? = some (.long t0) := (Ha12 _ (Nat.lt_of_not_le fun q => hin12 (Or.inr q))).trans (congrArg some rfl)
      refine own_by (A' := s₁.setTop (mkF m 34 #[.val (.ref a0), .val (.int (0 : Int32)), .val (.int (3 : Int32)), .val (.long q3), .second, .val (.int (0 : Int32)), .val (.int (0 : Int32)), .val (.int (0 : Int32)), .val (.long t0), .second] [(.int (lcmpW t0 q3))])) (fun t kt => ?_) ?_
      · refine X0.laload hx (j := (0 : Int32)) (v := (.long t0)) (by rw [e0]; exact Ar12.1) (State.isArrayOf_alike hZ.alike Ar12.2.1) Ar12.2.2 hin12 hat12 (g := (mkF m 27 #[.val (.ref a0), .val (.int (0 : Int32)), .val (.int (3 : Int32)), .val (.long q3), .second, .val (.int (0 : Int32)), .val (.int (0 : Int32)), .val (.int (0 : Int32)), .val (.long t1), .second] [(.int (0 : Int32)), (.ref a0)])) rfl rfl (hb hby d12_27) _ ?_
        refine XS.lstore X0.here hx rfl (hb hby d12_28) rfl (l' := #[.val (.ref a0), .val (.int (0 : Int32)), .val (.int (3 : Int32)), .val (.long q3), .second, .val (.int (0 : Int32)), .val (.int (0 : Int32)), .val (.int (0 : Int32)), .val (.long t0), .second]) rfl ?_
        refine XS.lload X0.here hx rfl (hb hby d12_30) rfl ?_
        refine XS.lloadN X0.here hx rfl (hb hby d12_32) rfl ?_
        refine XS.lcmp X0.here hx rfl (hb hby d12_33) rfl ?_
        exact kt
      by_cases hc34_13 : t0 < q3
      · refine own_by (A' := s₁.setTop (mkF m 12 #[.val (.ref a0), .val (.int (0 : Int32)), .val (.int (3 : Int32)), .val (.long q3), .second, .val (.int (1 : Int32)), .val (.int (0 : Int32)), .val (.int (0 : Int32)), .val (.long t0), .second] [(.int (0 : Int32)), (.int (1 : Int32))])) (fun t kt => ?_) ?_
        · refine XS.ifNo X0.here hx rfl (hb hby d12_34) rfl ((if0 _ _).trans (tlt ((lw_lt _ _).mpr hc34_13)).2.1) ?_
          refine XS.iload X0.here hx rfl (hb hby d12_37) rfl ?_
          refine XS.iconst X0.here hx rfl (hb hby d12_39) ?_
          refine XS.iadd X0.here hx rfl (hb hby d12_40) rfl ?_
          refine XS.istore X0.here hx rfl (hb hby d12_41) rfl (l' := #[.val (.ref a0), .val (.int (0 : Int32)), .val (.int (3 : Int32)), .val (.long q3), .second, .val (.int (1 : Int32)), .val (.int (0 : Int32)), .val (.int (0 : Int32)), .val (.long t0), .second]) rfl ?_
          refine XS.goto X0.here hx rfl (pc0 := 43) (pc' := 65) rfl (hb hby d12_43) (by decide) (by decide) ?_
          refine XS.goto X0.here hx rfl (pc0 := 65) (pc' := 8) rfl (hb hby d12_65) (by decide) (by decide) ?_
          refine XS.iload X0.here hx rfl (hb hby d12_8) rfl ?_
          refine XS.iload X0.here hx rfl (hb hby d12_10) rfl ?_
          exact kt
        have hc12_14 : (0 : Int32) < (1 : Int32) := by decide
        refine own_by (A' := s₁.setTop (mkF m 73 #[.val (.ref a0), .val (.int (0 : Int32)), .val (.int (3 : Int32)), .val (.long q3), .second, .val (.int (1 : Int32)), .val (.int (0 : Int32)), .val (.int (0 : Int32)), .val (.long t0), .second] [(.int (-(2 : Int32)))])) (fun t kt => ?_) ?_
        · refine XS.icmpYes X0.here hx rfl (pc0 := 12) (pc' := 68) rfl (hb hby d12_12) rfl (tlt hc12_14).2.2.1 (by decide) (by decide) ?_
          refine XS.iload X0.here hx rfl (hb hby d12_68) rfl ?_
          refine XS.iconst X0.here hx rfl (hb hby d12_70) ?_
          refine XS.iadd X0.here hx rfl (hb hby d12_71) rfl ?_
          refine XS.ineg X0.here hx rfl (hb hby d12_72) rfl ?_
          exact kt
        obtain ⟨fs, hr, hrun, hended, hW, hsame⟩ := X0.leave (v := some (.int (-(2 : Int32)))) (fun h => by rw [Bd.returns] at h; cases h)
        refine ⟨_, _, ?_, hrun, hended, _, _, rfl, ?_, ⟨_, rfl⟩, hW, hsame.mono (by decide) (by decide)⟩
        · exact retI X0 hx Bd.returns (hb hby d12_73) hr
        · show QB003 Z a0 q3 t0 t1 t2 h0 n0 _ s₁.heap _
          rw [e0]
          exact ⟨(by rw [own_b003, if_neg hc34_3, if_pos hc50_10, if_pos hc34_13]), N0, rfl⟩
      · refine own_by (A' := s₁.setTop (mkF m 50 #[.val (.ref a0), .val (.int (0 : Int32)), .val (.int (3 : Int32)), .val (.long q3), .second, .val (.int (0 : Int32)), .val (.int (0 : Int32)), .val (.int (0 : Int32)), .val (.long t0), .second] [(.int (lcmpW t0 q3))])) (fun t kt => ?_) ?_
        · refine XS.ifYes X0.here hx rfl (pc0 := 34) (pc' := 46) rfl (hb hby d12_34) rfl ((if0 _ _).trans (flt (fun q => hc34_13 ((lw_lt _ _).mp q))).2.1) (by decide) (by decide) ?_
          refine XS.lload X0.here hx rfl (hb hby d12_46) rfl ?_
          refine XS.lloadN X0.here hx rfl (hb hby d12_48) rfl ?_
          refine XS.lcmp X0.here hx rfl (hb hby d12_49) rfl ?_
          exact kt
        by_cases hc50_15 : q3 < t0
        · refine own_by (A' := s₁.setTop (mkF m 12 #[.val (.ref a0), .val (.int (0 : Int32)), .val (.int (3 : Int32)), .val (.long q3), .second, .val (.int (0 : Int32)), .val (.int (-1 : Int32)), .val (.int (0 : Int32)), .val (.long t0), .second] [(.int (-1 : Int32)), (.int (0 : Int32))])) (fun t kt => ?_) ?_
          · refine XS.ifNo X0.here hx rfl (hb hby d12_50) rfl ((if0 _ _).trans (tlt ((lw_gt _ _).mpr hc50_15)).2.2.2) ?_
            refine XS.iload X0.here hx rfl (hb hby d12_53) rfl ?_
            refine XS.iconst X0.here hx rfl (hb hby d12_55) ?_
            refine XS.isub X0.here hx rfl (hb hby d12_56) rfl ?_
            refine XS.istore X0.here hx rfl (hb hby d12_57) rfl (l' := #[.val (.ref a0), .val (.int (0 : Int32)), .val (.int (3 : Int32)), .val (.long q3), .second, .val (.int (0 : Int32)), .val (.int (-1 : Int32)), .val (.int (0 : Int32)), .val (.long t0), .second]) rfl ?_
            refine XS.goto X0.here hx rfl (pc0 := 59) (pc' := 65) rfl (hb hby d12_59) (by decide) (by decide) ?_
            refine XS.goto X0.here hx rfl (pc0 := 65) (pc' := 8) rfl (hb hby d12_65) (by decide) (by decide) ?_
            refine XS.iload X0.here hx rfl (hb hby d12_8) rfl ?_
            refine XS.iload X0.here hx rfl (hb hby d12_10) rfl ?_
            exact kt
          have hc12_16 : (-1 : Int32) < (0 : Int32) := by decide
          refine own_by (A' := s₁.setTop (mkF m 73 #[.val (.ref a0), .val (.int (0 : Int32)), .val (.int (3 : Int32)), .val (.long q3), .second, .val (.int (0 : Int32)), .val (.int (-1 : Int32)), .val (.int (0 : Int32)), .val (.long t0), .second] [(.int (-(1 : Int32)))])) (fun t kt => ?_) ?_
          · refine XS.icmpYes X0.here hx rfl (pc0 := 12) (pc' := 68) rfl (hb hby d12_12) rfl (tlt hc12_16).2.2.1 (by decide) (by decide) ?_
            refine XS.iload X0.here hx rfl (hb hby d12_68) rfl ?_
            refine XS.iconst X0.here hx rfl (hb hby d12_70) ?_
            refine XS.iadd X0.here hx rfl (hb hby d12_71) rfl ?_
            refine XS.ineg X0.here hx rfl (hb hby d12_72) rfl ?_
            exact kt
          obtain ⟨fs, hr, hrun, hended, hW, hsame⟩ := X0.leave (v := some (.int (-(1 : Int32)))) (fun h => by rw [Bd.returns] at h; cases h)
          refine ⟨_, _, ?_, hrun, hended, _, _, rfl, ?_, ⟨_, rfl⟩, hW, hsame.mono (by decide) (by decide)⟩
          · exact retI X0 hx Bd.returns (hb hby d12_73) hr
          · show QB003 Z a0 q3 t0 t1 t2 h0 n0 _ s₁.heap _
            rw [e0]
            exact ⟨(by rw [own_b003, if_neg hc34_3, if_pos hc50_10, if_neg hc34_13, if_pos hc50_15]), N0, rfl⟩
        · refine own_by (A' := s₁.setTop (mkF m 64 #[.val (.ref a0), .val (.int (0 : Int32)), .val (.int (3 : Int32)), .val (.long q3), .second, .val (.int (0 : Int32)), .val (.int (0 : Int32)), .val (.int (0 : Int32)), .val (.long t0), .second] [(.int (0 : Int32))])) (fun t kt => ?_) ?_
          · refine XS.ifYes X0.here hx rfl (pc0 := 50) (pc' := 62) rfl (hb hby d12_50) rfl ((if0 _ _).trans (flt (fun q => hc50_15 ((lw_gt _ _).mp q))).2.2.2) (by decide) (by decide) ?_
            refine XS.iload X0.here hx rfl (hb hby d12_62) rfl ?_
            exact kt
          obtain ⟨fs, hr, hrun, hended, hW, hsame⟩ := X0.leave (v := some (.int (0 : Int32))) (fun h => by rw [Bd.returns] at h; cases h)
          refine ⟨_, _, ?_, hrun, hended, _, _, rfl, ?_, ⟨_, rfl⟩, hW, hsame.mono (by decide) (by decide)⟩
          · exact retI X0 hx Bd.returns (hb hby d12_64) hr
          · show QB003 Z a0 q3 t0 t1 t2 h0 n0 _ s₁.heap _
            rw [e0]
            exact ⟨(by rw [own_b003, if_neg hc34_3, if_pos hc50_10, if_neg hc34_13, if_neg hc50_15]), N0, rfl⟩
    · refine own_by (A' := s₁.setTop (mkF m 64 #[.val (.ref a0), .val (.int (0 : Int32)), .val (.int (3 : Int32)), .val (.long q3), .second, .val (.int (0 : Int32)), .val (.int (2 : Int32)), .val (.int (1 : Int32)), .val (.long t1), .second] [(.int (1 : Int32))])) (fun t kt => ?_) ?_
      · refine XS.ifYes X0.here hx rfl (pc0 := 50) (pc' := 62) rfl (hb hby d12_50) rfl ((if0 _ _).trans (flt (fun q => hc50_10 ((lw_gt _ _).mp q))).2.2.2) (by decide) (by decide) ?_
        refine XS.iload X0.here hx rfl (hb hby d12_62) rfl ?_
        exact kt
      obtain ⟨fs, hr, hrun, hended, hW, hsame⟩ := X0.leave (v := some (.int (1 : Int32))) (fun h => by rw [Bd.returns] at h; cases h)
      refine ⟨_, _, ?_, hrun, hended, _, _, rfl, ?_, ⟨_, rfl⟩, hW, hsame.mono (by decide) (by decide)⟩
      · exact retI X0 hx Bd.returns (hb hby d12_64) hr
      · show QB003 Z a0 q3 t0 t1 t2 h0 n0 _ s₁.heap _
        rw [e0]
        exact ⟨(by rw [own_b003, if_neg hc34_3, if_neg hc50_10]), N0, rfl⟩
theorem ef_rmBS03 (m : MethodId) (a0 : Addr) (q3 : Int64) : entryFrame m #[(.ref a0), (.int (0 : Int32)), (.int (3 : Int32)), (.long q3)] 5 = mkF m 0 #[.val (.ref a0), .val (.int (0 : Int32)), .val (.int (3 : Int32)), .val (.long q3), .second] [] := by first | (simp [entryFrame, mkF, argsToLocals, Value.category]; done) | rfl
def QBS03 (Z : State) (a0 : Addr) (q3 : Int64) (t0 : Int64) (t1 : Int64) (t2 : Int64) (h0 : Heap) (n0 : Nat) (v : Option Value) (h : Heap) (L : List Loc) : Prop := v = some (.int (own_b003 t0 t1 t2 q3)) ∧ Fr n0 L ∧ h = h0
set_option maxRecDepth 65536 in
set_option maxHeartbeats 40000000 in
theorem rmBS03 (l : Launch) (Z : State) (aw : Array Value) (hw : ∀ d ∈ tables_1, d.before aw Z = true) (ws : List Jvm.Cond) (a0 : Addr) (q3 : Int64) (t0 : Int64) (t1 : Int64) (t2 : Int64) (h0 : Heap) (n0 : Nat) (Z0 : n0 ≤ h0.size) (V_a0 : AF Z h0 a0 .long (8 : Int32) (own_j3 t0 t1 t2)) :
    MetFree l (⟨"java/util/Arrays", "binarySearch", "([JIIJ)I"⟩ : MethodName) (head1 (Jvm.Cond.code (⟨"java/util/Arrays", "binarySearch", "([JIIJ)I"⟩ : MethodName) jdk_65_method_55_code 5 (some .int) :: ws) ({ frames := 1, cells := 0, slots := 0, locals := 21 } : Room)) (fun a U => a = #[(.ref a0), (.int (0 : Int32)), (.int (3 : Int32)), (.long q3)] ∧ Z.Warmed39 U.vm ∧ U.heap = h0) (fun _ _ _ _ _ => True) (fun _ U o U' => ∃ v L, o = .returned v ∧ QBS03 Z a0 q3 t0 t1 t2 h0 n0 v U'.heap L ∧ FrameEnd U o U' L ({ frames := 1, cells := 0, slots := 0, locals := 21 } : Room).cells ({ frames := 1, cells := 0, slots := 0, locals := 21 } : Room).slots) := by
  refine MetFree.of_bodySF (plainFor_of_name pn_2) hisR ?_
  intro p e s m args below meth c s₁ Bd hml0 hP hK
  obtain ⟨rfl, hZ, hh⟩ := hP
  have hx := Bd.exec
  have hby := Bd.bytes
  have hml : c.maxLocals = 5 := hml0
  have hown : s.vm.findClass "java/util/Arrays" = some m.cls := findClass_of_methodNamed Bd.named
  have hnm := (name_of_methodNamed Bd.named Bd.method).1
  have X0 : Stand p l e ({ frames := 1, cells := 0, slots := 0, locals := 21 } : Room) s m #[(.ref a0), (.int (0 : Int32)), (.int (3 : Int32)), (.long q3)] below meth c s₁ [] 0 0 := Stand.of_body Bd
  have e0 : s₁.heap = h0 := by rw [← hh, Bd.state]; rfl
  have N0 := Fr.nil n0
  have K0 : Keep h0 h0 [] := Keep.refl _ _
  refine own_by (A' := s₁.setTop (mkF m 0 #[.val (.ref a0), .val (.int (0 : Int32)), .val (.int (3 : Int32)), .val (.long q3), .second] [])) (fun t k => castTop (ef_rmBS03 m a0 q3) k) ?_
  refine own_by (A' := s₁.setTop (mkF m 1 #[.val (.ref a0), .val (.int (0 : Int32)), .val (.int (3 : Int32)), .val (.long q3), .second] [(.ref a0)])) (fun t kt => ?_) ?_
  · refine XS.aloadN X0.here hx rfl (hb hby d10_0) rfl rfl ?_
    exact kt
  obtain ⟨cl1, Ar1, Sz1, Mn1, -⟩ := id V_a0
  refine own_by (A' := s₁.setTop (mkF m 4 #[.val (.ref a0), .val (.int (0 : Int32)), .val (.int (3 : Int32)), .val (.long q3), .second] [(.int (3 : Int32)), (.int (0 : Int32)), (.int (8 : Int32))])) (fun t kt => ?_) ?_
  · refine X0.arraylength hx (by rw [e0]; exact Ar1.1) (State.isArrayOf_alike hZ.alike Ar1.2.1) (g := (mkF m 1 #[.val (.ref a0), .val (.int (0 : Int32)), .val (.int (3 : Int32)), .val (.long q3), .second] [(.ref a0)])) rfl rfl (hb hby d10_1) _ ?_
    rw [len_of Sz1 Mn1]
    refine XS.iloadN X0.here hx rfl (hb hby d10_2) rfl ?_
    refine XS.iloadN X0.here hx rfl (hb hby d10_3) rfl ?_
    exact kt
  obtain ⟨_, _, ⟨T2, L2, k2, n2⟩, -, X2, ⟨Lc2, hQ2, l2, y2, z2⟩, st2⟩ := Jvm.LawKit.callS X0 hx (y := (⟨"java/util/Arrays", "rangeCheck", "(III)V"⟩ : MethodName)) hown (mvT hZ (wd70 hw)) (mvT hZ (wd71 hw)) (mvT hZ (wd68 hw)) (mvT hZ (wd72 hw)) (by decide) (backOf (W := 0) (rmRC03 l Z aw hw []  h0 n0 (Nat.le_trans Z0 K0.1) ) hZ (wd72 hw) (wd68 hw) (by decide) (by decide)) (g := (mkF m 4 #[.val (.ref a0), .val (.int (0 : Int32)), .val (.int (3 : Int32)), .val (.long q3), .second] [(.int (3 : Int32)), (.int (0 : Int32)), (.int (8 : Int32))])) rfl (by rw [hml]; rfl) (argsL := [(.int (8 : Int32)), (.int (0 : Int32)), (.int (3 : Int32))]) (rest := []) (lenOf pd_3 rfl) rfl (by show 2 * 0 + _ ≤ _; exact Nat.le_of_eq rfl) (hb hby d10_4) (fun _ _ => ⟨rfl, e0, (by decide : 0 + 0 ≤ _), (by decide : 0 + 0 ≤ _)⟩)
  dsimp only [Pt.U, Pt.locs, Pt.cells, Pt.slots] at X2 l2 y2 z2 st2 hQ2
  subst l2 y2 z2
  obtain ⟨rfl, N2q, e2⟩ := hQ2
  have N2 := Fr.app N0 N2q
  refine own_by (A' := T2.setTop (mkF m 11 #[.val (.ref a0), .val (.int (0 : Int32)), .val (.int (3 : Int32)), .val (.long q3), .second] [(.long q3), (.int (3 : Int32)), (.int (0 : Int32)), (.ref a0)])) (fun t kt => ?_) ?_
  · refine st2 t ?_
    refine XS.aloadN X2.here hx rfl (hb hby d10_7) rfl rfl ?_
    refine XS.iloadN X2.here hx rfl (hb hby d10_8) rfl ?_
    refine XS.iloadN X2.here hx rfl (hb hby d10_9) rfl ?_
    refine XS.lloadN X2.here hx rfl (hb hby d10_10) rfl ?_
    exact kt
  obtain ⟨_, _, ⟨T3, L3, k3, n3⟩, -, X3, ⟨Lc3, hQ3, l3, y3, z3⟩, st3⟩ := Jvm.LawKit.callS X2 hx (y := (⟨"java/util/Arrays", "binarySearch0", "([JIIJ)I"⟩ : MethodName)) hown (mvT hZ (wd73 hw)) (mvT hZ (wd74 hw)) (mvT hZ (wd68 hw)) (mvT hZ (wd75 hw)) (by decide) (backOf (W := 0) (rmB003 l Z aw hw [] a0 q3 t0 t1 t2 h0 n0 (Nat.le_trans Z0 K0.1) V_a0) hZ (wd75 hw) (wd68 hw) (by decide) (by decide)) (g := (mkF m 11 #[.val (.ref a0), .val (.int (0 : Int32)), .val (.int (3 : Int32)), .val (.long q3), .second] [(.long q3), (.int (3 : Int32)), (.int (0 : Int32)), (.ref a0)])) rfl (by rw [hml]; rfl) (argsL := [(.ref a0), (.int (0 : Int32)), (.int (3 : Int32)), (.long q3)]) (rest := []) (lenOf pd_4 rfl) rfl (by show 2 * 0 + _ ≤ _; exact Nat.le_of_eq rfl) (hb hby d10_11) (fun _ _ => ⟨rfl, e2, (by decide : 0 + 0 ≤ _), (by decide : 0 + 0 ≤ _)⟩)
  dsimp only [Pt.U, Pt.locs, Pt.cells, Pt.slots] at X3 l3 y3 z3 st3 hQ3
  subst l3 y3 z3
  obtain ⟨rfl, N3q, e3⟩ := hQ3
  have N3 := Fr.app N2 N3q
  refine own_by (A' := T3.setTop (mkF m 14 #[.val (.ref a0), .val (.int (0 : Int32)), .val (.int (3 : Int32)), .val (.long q3), .second] [(.int (own_b003 t0 t1 t2 q3))])) (fun t kt => st3 t kt) ?_
  obtain ⟨fs, hr, hrun, hended, hW, hsame⟩ := X3.leave (v := some (.int (own_b003 t0 t1 t2 q3))) (fun h => by rw [Bd.returns] at h; cases h)
  refine ⟨_, _, ?_, hrun, hended, _, _, rfl, ?_, ⟨_, rfl⟩, hW, hsame.mono (by decide) (by decide)⟩
  · exact retI X3 hx Bd.returns (hb hby d10_14) hr
  · show QBS03 Z a0 q3 t0 t1 t2 h0 n0 _ T3.heap _
    rw [e3]
    exact ⟨rfl, N3, rfl⟩
theorem ef_rmRC12 (m : MethodId)  : entryFrame m #[(.int (8 : Int32)), (.int (1 : Int32)), (.int (2 : Int32))] 3 = mkF m 0 #[.val (.int (8 : Int32)), .val (.int (1 : Int32)), .val (.int (2 : Int32))] [] := by first | (simp [entryFrame, mkF, argsToLocals, Value.category]; done) | rfl
def QRC12 (Z : State)  (h0 : Heap) (n0 : Nat) (v : Option Value) (h : Heap) (L : List Loc) : Prop := v = none ∧ Fr n0 L ∧ h = h0
set_option maxRecDepth 65536 in
set_option maxHeartbeats 40000000 in
theorem rmRC12 (l : Launch) (Z : State) (aw : Array Value) (hw : ∀ d ∈ tables_1, d.before aw Z = true) (ws : List Jvm.Cond)  (h0 : Heap) (n0 : Nat) (Z0 : n0 ≤ h0.size) :
    MetFree l (⟨"java/util/Arrays", "rangeCheck", "(III)V"⟩ : MethodName) (head1 (Jvm.Cond.code (⟨"java/util/Arrays", "rangeCheck", "(III)V"⟩ : MethodName) jdk_65_method_30_code 3 none :: ws) ({ frames := 0, cells := 0, slots := 0, locals := 0 } : Room)) (fun a U => a = #[(.int (8 : Int32)), (.int (1 : Int32)), (.int (2 : Int32))] ∧ Z.Warmed39 U.vm ∧ U.heap = h0) (fun _ _ _ _ _ => True) (fun _ U o U' => ∃ v L, o = .returned v ∧ QRC12 Z  h0 n0 v U'.heap L ∧ FrameEnd U o U' L ({ frames := 0, cells := 0, slots := 0, locals := 0 } : Room).cells ({ frames := 0, cells := 0, slots := 0, locals := 0 } : Room).slots) := by
  refine MetFree.of_bodySF (plainFor_of_name pn_2) hisR ?_
  intro p e s m args below meth c s₁ Bd hml0 hP hK
  obtain ⟨rfl, hZ, hh⟩ := hP
  have hx := Bd.exec
  have hby := Bd.bytes
  have hml : c.maxLocals = 3 := hml0
  have hown : s.vm.findClass "java/util/Arrays" = some m.cls := findClass_of_methodNamed Bd.named
  have hnm := (name_of_methodNamed Bd.named Bd.method).1
  have X0 : Stand p l e ({ frames := 0, cells := 0, slots := 0, locals := 0 } : Room) s m #[(.int (8 : Int32)), (.int (1 : Int32)), (.int (2 : Int32))] below meth c s₁ [] 0 0 := Stand.of_body Bd
  have e0 : s₁.heap = h0 := by rw [← hh, Bd.state]; rfl
  have N0 := Fr.nil n0
  have K0 : Keep h0 h0 [] := Keep.refl _ _
  refine own_by (A' := s₁.setTop (mkF m 0 #[.val (.int (8 : Int32)), .val (.int (1 : Int32)), .val (.int (2 : Int32))] [])) (fun t k => castTop (ef_rmRC12 m ) k) ?_
  refine own_by (A' := s₁.setTop (mkF m 2 #[.val (.int (8 : Int32)), .val (.int (1 : Int32)), .val (.int (2 : Int32))] [(.int (2 : Int32)), (.int (1 : Int32))])) (fun t kt => ?_) ?_
  · refine XS.iloadN X0.here hx rfl (hb hby d11_0) rfl ?_
    refine XS.iloadN X0.here hx rfl (hb hby d11_1) rfl ?_
    exact kt
  have hc2_1 : ¬ ((2 : Int32) < (1 : Int32)) := by decide
  refine own_by (A' := s₁.setTop (mkF m 47 #[.val (.int (8 : Int32)), .val (.int (1 : Int32)), .val (.int (2 : Int32))] [(.int (1 : Int32))])) (fun t kt => ?_) ?_
  · refine XS.icmpYes X0.here hx rfl (pc0 := 2) (pc' := 46) rfl (hb hby d11_2) rfl (flt hc2_1).2.2.2 (by decide) (by decide) ?_
    refine XS.iloadN X0.here hx rfl (hb hby d11_46) rfl ?_
    exact kt
  have hc47_2 : ¬ ((1 : Int32) < (0 : Int32)) := by decide
  refine own_by (A' := s₁.setTop (mkF m 61 #[.val (.int (8 : Int32)), .val (.int (1 : Int32)), .val (.int (2 : Int32))] [(.int (8 : Int32)), (.int (2 : Int32))])) (fun t kt => ?_) ?_
  · refine XS.ifYes X0.here hx rfl (pc0 := 47) (pc' := 59) rfl (hb hby d11_47) rfl ((if0 _ _).trans (flt hc47_2).2.1) (by decide) (by decide) ?_
    refine XS.iloadN X0.here hx rfl (hb hby d11_59) rfl ?_
    refine XS.iloadN X0.here hx rfl (hb hby d11_60) rfl ?_
    exact kt
  have hc61_3 : ¬ ((8 : Int32) < (2 : Int32)) := by decide
  refine own_by (A' := s₁.setTop (mkF m 73 #[.val (.int (8 : Int32)), .val (.int (1 : Int32)), .val (.int (2 : Int32))] [])) (fun t kt => ?_) ?_
  · refine XS.icmpYes X0.here hx rfl (pc0 := 61) (pc' := 73) rfl (hb hby d11_61) rfl (flt hc61_3).2.2.2 (by decide) (by decide) ?_
    exact kt
  obtain ⟨fs, hr, hrun, hended, hW, hsame⟩ := X0.leave (v := none) (fun _ => rfl)
  refine ⟨_, _, ?_, hrun, hended, _, _, rfl, ?_, ⟨_, rfl⟩, hW, hsame.mono (by decide) (by decide)⟩
  · exact X0.returnOut hx Bd.returns (hb hby d11_73) hr
  · show QRC12 Z  h0 n0 _ s₁.heap _
    rw [e0]
    exact ⟨rfl, N0, rfl⟩
def own_b012 (t0 t1 t2 q3 : Int64) : Int32 := (if t1 < q3 then (-(3 : Int32)) else (if q3 < t1 then (-(2 : Int32)) else (1 : Int32)))
theorem ef_rmB012 (m : MethodId) (a0 : Addr) (q3 : Int64) : entryFrame m #[(.ref a0), (.int (1 : Int32)), (.int (2 : Int32)), (.long q3)] 10 = mkF m 0 #[.val (.ref a0), .val (.int (1 : Int32)), .val (.int (2 : Int32)), .val (.long q3), .second, .unset, .unset, .unset, .unset, .unset] [] := by first | (simp [entryFrame, mkF, argsToLocals, Value.category]; done) | rfl
def QB012 (Z : State) (a0 : Addr) (q3 : Int64) (t0 : Int64) (t1 : Int64) (t2 : Int64) (h0 : Heap) (n0 : Nat) (v : Option Value) (h : Heap) (L : List Loc) : Prop := v = some (.int (own_b012 t0 t1 t2 q3)) ∧ Fr n0 L ∧ h = h0
set_option maxRecDepth 65536 in
set_option maxHeartbeats 40000000 in
theorem rmB012 (l : Launch) (Z : State) (aw : Array Value) (hw : ∀ d ∈ tables_1, d.before aw Z = true) (ws : List Jvm.Cond) (a0 : Addr) (q3 : Int64) (t0 : Int64) (t1 : Int64) (t2 : Int64) (h0 : Heap) (n0 : Nat) (Z0 : n0 ≤ h0.size) (V_a0 : AF Z h0 a0 .long (8 : Int32) (own_j3 t0 t1 t2)) :
    MetFree l (⟨"java/util/Arrays", "binarySearch0", "([JIIJ)I"⟩ : MethodName) (head1 (Jvm.Cond.code (⟨"java/util/Arrays", "binarySearch0", "([JIIJ)I"⟩ : MethodName) jdk_65_method_56_code 10 (some .int) :: ws) ({ frames := 0, cells := 0, slots := 0, locals := 0 } : Room)) (fun a U => a = #[(.ref a0), (.int (1 : Int32)), (.int (2 : Int32)), (.long q3)] ∧ Z.Warmed39 U.vm ∧ U.heap = h0) (fun _ _ _ _ _ => True) (fun _ U o U' => ∃ v L, o = .returned v ∧ QB012 Z a0 q3 t0 t1 t2 h0 n0 v U'.heap L ∧ FrameEnd U o U' L ({ frames := 0, cells := 0, slots := 0, locals := 0 } : Room).cells ({ frames := 0, cells := 0, slots := 0, locals := 0 } : Room).slots) := by
  refine MetFree.of_bodySF (plainFor_of_name pn_2) hisR ?_
  intro p e s m args below meth c s₁ Bd hml0 hP hK
  obtain ⟨rfl, hZ, hh⟩ := hP
  have hx := Bd.exec
  have hby := Bd.bytes
  have hml : c.maxLocals = 10 := hml0
  have hown : s.vm.findClass "java/util/Arrays" = some m.cls := findClass_of_methodNamed Bd.named
  have hnm := (name_of_methodNamed Bd.named Bd.method).1
  have X0 : Stand p l e ({ frames := 0, cells := 0, slots := 0, locals := 0 } : Room) s m #[(.ref a0), (.int (1 : Int32)), (.int (2 : Int32)), (.long q3)] below meth c s₁ [] 0 0 := Stand.of_body Bd
  have e0 : s₁.heap = h0 := by rw [← hh, Bd.state]; rfl
  have N0 := Fr.nil n0
  have K0 : Keep h0 h0 [] := Keep.refl _ _
  refine own_by (A' := s₁.setTop (mkF m 0 #[.val (.ref a0), .val (.int (1 : Int32)), .val (.int (2 : Int32)), .val (.long q3), .second, .unset, .unset, .unset, .unset, .unset] [])) (fun t k => castTop (ef_rmB012 m a0 q3) k) ?_
  refine own_by (A' := s₁.setTop (mkF m 12 #[.val (.ref a0), .val (.int (1 : Int32)), .val (.int (2 : Int32)), .val (.long q3), .second, .val (.int (1 : Int32)), .val (.int (1 : Int32)), .unset, .unset, .unset] [(.int (1 : Int32)), (.int (1 : Int32))])) (fun t kt => ?_) ?_
  · refine XS.iloadN X0.here hx rfl (hb hby d12_0) rfl ?_
    refine XS.istore X0.here hx rfl (hb hby d12_1) rfl (l' := #[.val (.ref a0), .val (.int (1 : Int32)), .val (.int (2 : Int32)), .val (.long q3), .second, .val (.int (1 : Int32)), .unset, .unset, .unset, .unset]) rfl ?_
    refine XS.iloadN X0.here hx rfl (hb hby d12_3) rfl ?_
    refine XS.iconst X0.here hx rfl (hb hby d12_4) ?_
    refine XS.isub X0.here hx rfl (hb hby d12_5) rfl ?_
    refine XS.istore X0.here hx rfl (hb hby d12_6) rfl (l' := #[.val (.ref a0), .val (.int (1 : Int32)), .val (.int (2 : Int32)), .val (.long q3), .second, .val (.int (1 : Int32)), .val (.int (1 : Int32)), .unset, .unset, .unset]) rfl ?_
    refine XS.iload X0.here hx rfl (hb hby d12_8) rfl ?_
    refine XS.iload X0.here hx rfl (hb hby d12_10) rfl ?_
    exact kt
  have hc12_1 : ¬ ((1 : Int32) < (1 : Int32)) := by decide
  refine own_by (A' := s₁.setTop (mkF m 27 #[.val (.ref a0), .val (.int (1 : Int32)), .val (.int (2 : Int32)), .val (.long q3), .second, .val (.int (1 : Int32)), .val (.int (1 : Int32)), .val (.int (1 : Int32)), .unset, .unset] [(.int (1 : Int32)), (.ref a0)])) (fun t kt => ?_) ?_
  · refine XS.icmpNo X0.here hx rfl (hb hby d12_12) rfl (flt hc12_1).2.2.1 ?_
    refine XS.iload X0.here hx rfl (hb hby d12_15) rfl ?_
    refine XS.iload X0.here hx rfl (hb hby d12_17) rfl ?_
    refine XS.iadd X0.here hx rfl (hb hby d12_19) rfl ?_
    refine XS.iconst X0.here hx rfl (hb hby d12_20) ?_
    refine XS.iushr X0.here hx rfl (hb hby d12_21) rfl ?_
    refine XS.istore X0.here hx rfl (hb hby d12_22) rfl (l' := #[.val (.ref a0), .val (.int (1 : Int32)), .val (.int (2 : Int32)), .val (.long q3), .second, .val (.int (1 : Int32)), .val (.int (1 : Int32)), .val (.int (1 : Int32)), .unset, .unset]) rfl ?_
    refine XS.aloadN X0.here hx rfl (hb hby d12_24) rfl rfl ?_
    refine XS.iload X0.here hx rfl (hb hby d12_25) rfl ?_
    exact kt
  obtain ⟨cl2, Ar2, Sz2, Mn2, Ha2⟩ := id V_a0
  have hin2 := inb_of (j := (1 : Int32)) Sz2 ⟨by decide, by decide⟩
  have hat2 : cl2.slots[((1 : Int32)).toNatClampNeg]? = some (.long t1) := (Ha2 _ (Nat.lt_of_not_le fun q => hin2 (Or.inr q))).trans (congrArg some rfl)
  refine own_by (A' := s₁.setTop (mkF m 34 #[.val (.ref a0), .val (.int (1 : Int32)), .val (.int (2 : Int32)), .val (.long q3), .second, .val (.int (1 : Int32)), .val (.int (1 : Int32)), .val (.int (1 : Int32)), .val (.long t1), .second] [(.int (lcmpW t1 q3))])) (fun t kt => ?_) ?_
  · refine X0.laload hx (j := (1 : Int32)) (v := (.long t1)) (by rw [e0]; exact Ar2.1) (State.isArrayOf_alike hZ.alike Ar2.2.1) Ar2.2.2 hin2 hat2 (g := (mkF m 27 #[.val (.ref a0), .val (.int (1 : Int32)), .val (.int (2 : Int32)), .val (.long q3), .second, .val (.int (1 : Int32)), .val (.int (1 : Int32)), .val (.int (1 : Int32)), .unset, .unset] [(.int (1 : Int32)), (.ref a0)])) rfl rfl (hb hby d12_27) _ ?_
    refine XS.lstore X0.here hx rfl (hb hby d12_28) rfl (l' := #[.val (.ref a0), .val (.int (1 : Int32)), .val (.int (2 : Int32)), .val (.long q3), .second, .val (.int (1 : Int32)), .val (.int (1 : Int32)), .val (.int (1 : Int32)), .val (.long t1), .second]) rfl ?_
    refine XS.lload X0.here hx rfl (hb hby d12_30) rfl ?_
    refine XS.lloadN X0.here hx rfl (hb hby d12_32) rfl ?_
    refine XS.lcmp X0.here hx rfl (hb hby d12_33) rfl ?_
    exact kt
  by_cases hc34_3 : t1 < q3
  · refine own_by (A' := s₁.setTop (mkF m 12 #[.val (.ref a0), .val (.int (1 : Int32)), .val (.int (2 : Int32)), .val (.long q3), .second, .val (.int (2 : Int32)), .val (.int (1 : Int32)), .val (.int (1 : Int32)), .val (.long t1), .second] [(.int (1 : Int32)), (.int (2 : Int32))])) (fun t kt => ?_) ?_
    · refine XS.ifNo X0.here hx rfl (hb hby d12_34) rfl ((if0 _ _).trans (tlt ((lw_lt _ _).mpr hc34_3)).2.1) ?_
      refine XS.iload X0.here hx rfl (hb hby d12_37) rfl ?_
      refine XS.iconst X0.here hx rfl (hb hby d12_39) ?_
      refine XS.iadd X0.here hx rfl (hb hby d12_40) rfl ?_
      refine XS.istore X0.here hx rfl (hb hby d12_41) rfl (l' := #[.val (.ref a0), .val (.int (1 : Int32)), .val (.int (2 : Int32)), .val (.long q3), .second, .val (.int (2 : Int32)), .val (.int (1 : Int32)), .val (.int (1 : Int32)), .val (.long t1), .second]) rfl ?_
      refine XS.goto X0.here hx rfl (pc0 := 43) (pc' := 65) rfl (hb hby d12_43) (by decide) (by decide) ?_
      refine XS.goto X0.here hx rfl (pc0 := 65) (pc' := 8) rfl (hb hby d12_65) (by decide) (by decide) ?_
      refine XS.iload X0.here hx rfl (hb hby d12_8) rfl ?_
      refine XS.iload X0.here hx rfl (hb hby d12_10) rfl ?_
      exact kt
    have hc12_4 : (1 : Int32) < (2 : Int32) := by decide
    refine own_by (A' := s₁.setTop (mkF m 73 #[.val (.ref a0), .val (.int (1 : Int32)), .val (.int (2 : Int32)), .val (.long q3), .second, .val (.int (2 : Int32)), .val (.int (1 : Int32)), .val (.int (1 : Int32)), .val (.long t1), .second] [(.int (-(3 : Int32)))])) (fun t kt => ?_) ?_
    · refine XS.icmpYes X0.here hx rfl (pc0 := 12) (pc' := 68) rfl (hb hby d12_12) rfl (tlt hc12_4).2.2.1 (by decide) (by decide) ?_
      refine XS.iload X0.here hx rfl (hb hby d12_68) rfl ?_
      refine XS.iconst X0.here hx rfl (hb hby d12_70) ?_
      refine XS.iadd X0.here hx rfl (hb hby d12_71) rfl ?_
      refine XS.ineg X0.here hx rfl (hb hby d12_72) rfl ?_
      exact kt
    obtain ⟨fs, hr, hrun, hended, hW, hsame⟩ := X0.leave (v := some (.int (-(3 : Int32)))) (fun h => by rw [Bd.returns] at h; cases h)
    refine ⟨_, _, ?_, hrun, hended, _, _, rfl, ?_, ⟨_, rfl⟩, hW, hsame.mono (by decide) (by decide)⟩
    · exact retI X0 hx Bd.returns (hb hby d12_73) hr
    · show QB012 Z a0 q3 t0 t1 t2 h0 n0 _ s₁.heap _
      rw [e0]
      exact ⟨(by rw [own_b012, if_pos hc34_3]), N0, rfl⟩
  · refine own_by (A' := s₁.setTop (mkF m 50 #[.val (.ref a0), .val (.int (1 : Int32)), .val (.int (2 : Int32)), .val (.long q3), .second, .val (.int (1 : Int32)), .val (.int (1 : Int32)), .val (.int (1 : Int32)), .val (.long t1), .second] [(.int (lcmpW t1 q3))])) (fun t kt => ?_) ?_
    · refine XS.ifYes X0.here hx rfl (pc0 := 34) (pc' := 46) rfl (hb hby d12_34) rfl ((if0 _ _).trans (flt (fun q => hc34_3 ((lw_lt _ _).mp q))).2.1) (by decide) (by decide) ?_
      refine XS.lload X0.here hx rfl (hb hby d12_46) rfl ?_
      refine XS.lloadN X0.here hx rfl (hb hby d12_48) rfl ?_
      refine XS.lcmp X0.here hx rfl (hb hby d12_49) rfl ?_
      exact kt
    by_cases hc50_5 : q3 < t1
    · refine own_by (A' := s₁.setTop (mkF m 12 #[.val (.ref a0), .val (.int (1 : Int32)), .val (.int (2 : Int32)), .val (.long q3), .second, .val (.int (1 : Int32)), .val (.int (0 : Int32)), .val (.int (1 : Int32)), .val (.long t1), .second] [(.int (0 : Int32)), (.int (1 : Int32))])) (fun t kt => ?_) ?_
      · refine XS.ifNo X0.here hx rfl (hb hby d12_50) rfl ((if0 _ _).trans (tlt ((lw_gt _ _).mpr hc50_5)).2.2.2) ?_
        refine XS.iload X0.here hx rfl (hb hby d12_53) rfl ?_
        refine XS.iconst X0.here hx rfl (hb hby d12_55) ?_
        refine XS.isub X0.here hx rfl (hb hby d12_56) rfl ?_
        refine XS.istore X0.here hx rfl (hb hby d12_57) rfl (l' := #[.val (.ref a0), .val (.int (1 : Int32)), .val (.int (2 : Int32)), .val (.long q3), .second, .val (.int (1 : Int32)), .val (.int (0 : Int32)), .val (.int (1 : Int32)), .val (.long t1), .second]) rfl ?_
        refine XS.goto X0.here hx rfl (pc0 := 59) (pc' := 65) rfl (hb hby d12_59) (by decide) (by decide) ?_
        refine XS.goto X0.here hx rfl (pc0 := 65) (pc' := 8) rfl (hb hby d12_65) (by decide) (by decide) ?_
        refine XS.iload X0.here hx rfl (hb hby d12_8) rfl ?_
        refine XS.iload X0.here hx rfl (hb hby d12_10) rfl ?_
        exact kt
      have hc12_6 : (0 : Int32) < (1 : Int32) := by decide
      refine own_by (A' := s₁.setTop (mkF m 73 #[.val (.ref a0), .val (.int (1 : Int32)), .val (.int (2 : Int32)), .val (.long q3), .second, .val (.int (1 : Int32)), .val (.int (0 : Int32)), .val (.int (1 : Int32)), .val (.long t1), .second] [(.int (-(2 : Int32)))])) (fun t kt => ?_) ?_
      · refine XS.icmpYes X0.here hx rfl (pc0 := 12) (pc' := 68) rfl (hb hby d12_12) rfl (tlt hc12_6).2.2.1 (by decide) (by decide) ?_
        refine XS.iload X0.here hx rfl (hb hby d12_68) rfl ?_
        refine XS.iconst X0.here hx rfl (hb hby d12_70) ?_
        refine XS.iadd X0.here hx rfl (hb hby d12_71) rfl ?_
        refine XS.ineg X0.here hx rfl (hb hby d12_72) rfl ?_
        exact kt
      obtain ⟨fs, hr, hrun, hended, hW, hsame⟩ := X0.leave (v := some (.int (-(2 : Int32)))) (fun h => by rw [Bd.returns] at h; cases h)
      refine ⟨_, _, ?_, hrun, hended, _, _, rfl, ?_, ⟨_, rfl⟩, hW, hsame.mono (by decide) (by decide)⟩
      · exact retI X0 hx Bd.returns (hb hby d12_73) hr
      · show QB012 Z a0 q3 t0 t1 t2 h0 n0 _ s₁.heap _
        rw [e0]
        exact ⟨(by rw [own_b012, if_neg hc34_3, if_pos hc50_5]), N0, rfl⟩
    · refine own_by (A' := s₁.setTop (mkF m 64 #[.val (.ref a0), .val (.int (1 : Int32)), .val (.int (2 : Int32)), .val (.long q3), .second, .val (.int (1 : Int32)), .val (.int (1 : Int32)), .val (.int (1 : Int32)), .val (.long t1), .second] [(.int (1 : Int32))])) (fun t kt => ?_) ?_
      · refine XS.ifYes X0.here hx rfl (pc0 := 50) (pc' := 62) rfl (hb hby d12_50) rfl ((if0 _ _).trans (flt (fun q => hc50_5 ((lw_gt _ _).mp q))).2.2.2) (by decide) (by decide) ?_
        refine XS.iload X0.here hx rfl (hb hby d12_62) rfl ?_
        exact kt
      obtain ⟨fs, hr, hrun, hended, hW, hsame⟩ := X0.leave (v := some (.int (1 : Int32))) (fun h => by rw [Bd.returns] at h; cases h)
      refine ⟨_, _, ?_, hrun, hended, _, _, rfl, ?_, ⟨_, rfl⟩, hW, hsame.mono (by decide) (by decide)⟩
      · exact retI X0 hx Bd.returns (hb hby d12_64) hr
      · show QB012 Z a0 q3 t0 t1 t2 h0 n0 _ s₁.heap _
        rw [e0]
        exact ⟨(by rw [own_b012, if_neg hc34_3, if_neg hc50_5]), N0, rfl⟩
theorem ef_rmBS12 (m : MethodId) (a0 : Addr) (q3 : Int64) : entryFrame m #[(.ref a0), (.int (1 : Int32)), (.int (2 : Int32)), (.long q3)] 5 = mkF m 0 #[.val (.ref a0), .val (.int (1 : Int32)), .val (.int (2 : Int32)), .val (.long q3), .second] [] := by first | (simp [entryFrame, mkF, argsToLocals, Value.category]; done) | rfl
def QBS12 (Z : State) (a0 : Addr) (q3 : Int64) (t0 : Int64) (t1 : Int64) (t2 : Int64) (h0 : Heap) (n0 : Nat) (v : Option Value) (h : Heap) (L : List Loc) : Prop := v = some (.int (own_b012 t0 t1 t2 q3)) ∧ Fr n0 L ∧ h = h0
set_option maxRecDepth 65536 in
set_option maxHeartbeats 40000000 in
theorem rmBS12 (l : Launch) (Z : State) (aw : Array Value) (hw : ∀ d ∈ tables_1, d.before aw Z = true) (ws : List Jvm.Cond) (a0 : Addr) (q3 : Int64) (t0 : Int64) (t1 : Int64) (t2 : Int64) (h0 : Heap) (n0 : Nat) (Z0 : n0 ≤ h0.size) (V_a0 : AF Z h0 a0 .long (8 : Int32) (own_j3 t0 t1 t2)) :
    MetFree l (⟨"java/util/Arrays", "binarySearch", "([JIIJ)I"⟩ : MethodName) (head1 (Jvm.Cond.code (⟨"java/util/Arrays", "binarySearch", "([JIIJ)I"⟩ : MethodName) jdk_65_method_55_code 5 (some .int) :: ws) ({ frames := 1, cells := 0, slots := 0, locals := 21 } : Room)) (fun a U => a = #[(.ref a0), (.int (1 : Int32)), (.int (2 : Int32)), (.long q3)] ∧ Z.Warmed39 U.vm ∧ U.heap = h0) (fun _ _ _ _ _ => True) (fun _ U o U' => ∃ v L, o = .returned v ∧ QBS12 Z a0 q3 t0 t1 t2 h0 n0 v U'.heap L ∧ FrameEnd U o U' L ({ frames := 1, cells := 0, slots := 0, locals := 21 } : Room).cells ({ frames := 1, cells := 0, slots := 0, locals := 21 } : Room).slots) := by
  refine MetFree.of_bodySF (plainFor_of_name pn_2) hisR ?_
  intro p e s m args below meth c s₁ Bd hml0 hP hK
  obtain ⟨rfl, hZ, hh⟩ := hP
  have hx := Bd.exec
  have hby := Bd.bytes
  have hml : c.maxLocals = 5 := hml0
  have hown : s.vm.findClass "java/util/Arrays" = some m.cls := findClass_of_methodNamed Bd.named
  have hnm := (name_of_methodNamed Bd.named Bd.method).1
  have X0 : Stand p l e ({ frames := 1, cells := 0, slots := 0, locals := 21 } : Room) s m #[(.ref a0), (.int (1 : Int32)), (.int (2 : Int32)), (.long q3)] below meth c s₁ [] 0 0 := Stand.of_body Bd
  have e0 : s₁.heap = h0 := by rw [← hh, Bd.state]; rfl
  have N0 := Fr.nil n0
  have K0 : Keep h0 h0 [] := Keep.refl _ _
  refine own_by (A' := s₁.setTop (mkF m 0 #[.val (.ref a0), .val (.int (1 : Int32)), .val (.int (2 : Int32)), .val (.long q3), .second] [])) (fun t k => castTop (ef_rmBS12 m a0 q3) k) ?_
  refine own_by (A' := s₁.setTop (mkF m 1 #[.val (.ref a0), .val (.int (1 : Int32)), .val (.int (2 : Int32)), .val (.long q3), .second] [(.ref a0)])) (fun t kt => ?_) ?_
  · refine XS.aloadN X0.here hx rfl (hb hby d10_0) rfl rfl ?_
    exact kt
  obtain ⟨cl1, Ar1, Sz1, Mn1, -⟩ := id V_a0
  refine own_by (A' := s₁.setTop (mkF m 4 #[.val (.ref a0), .val (.int (1 : Int32)), .val (.int (2 : Int32)), .val (.long q3), .second] [(.int (2 : Int32)), (.int (1 : Int32)), (.int (8 : Int32))])) (fun t kt => ?_) ?_
  · refine X0.arraylength hx (by rw [e0]; exact Ar1.1) (State.isArrayOf_alike hZ.alike Ar1.2.1) (g := (mkF m 1 #[.val (.ref a0), .val (.int (1 : Int32)), .val (.int (2 : Int32)), .val (.long q3), .second] [(.ref a0)])) rfl rfl (hb hby d10_1) _ ?_
    rw [len_of Sz1 Mn1]
    refine XS.iloadN X0.here hx rfl (hb hby d10_2) rfl ?_
    refine XS.iloadN X0.here hx rfl (hb hby d10_3) rfl ?_
    exact kt
  obtain ⟨_, _, ⟨T2, L2, k2, n2⟩, -, X2, ⟨Lc2, hQ2, l2, y2, z2⟩, st2⟩ := Jvm.LawKit.callS X0 hx (y := (⟨"java/util/Arrays", "rangeCheck", "(III)V"⟩ : MethodName)) hown (mvT hZ (wd70 hw)) (mvT hZ (wd71 hw)) (mvT hZ (wd68 hw)) (mvT hZ (wd72 hw)) (by decide) (backOf (W := 0) (rmRC12 l Z aw hw []  h0 n0 (Nat.le_trans Z0 K0.1) ) hZ (wd72 hw) (wd68 hw) (by decide) (by decide)) (g := (mkF m 4 #[.val (.ref a0), .val (.int (1 : Int32)), .val (.int (2 : Int32)), .val (.long q3), .second] [(.int (2 : Int32)), (.int (1 : Int32)), (.int (8 : Int32))])) rfl (by rw [hml]; rfl) (argsL := [(.int (8 : Int32)), (.int (1 : Int32)), (.int (2 : Int32))]) (rest := []) (lenOf pd_3 rfl) rfl (by show 2 * 0 + _ ≤ _; exact Nat.le_of_eq rfl) (hb hby d10_4) (fun _ _ => ⟨rfl, e0, (by decide : 0 + 0 ≤ _), (by decide : 0 + 0 ≤ _)⟩)
  dsimp only [Pt.U, Pt.locs, Pt.cells, Pt.slots] at X2 l2 y2 z2 st2 hQ2
  subst l2 y2 z2
  obtain ⟨rfl, N2q, e2⟩ := hQ2
  have N2 := Fr.app N0 N2q
  refine own_by (A' := T2.setTop (mkF m 11 #[.val (.ref a0), .val (.int (1 : Int32)), .val (.int (2 : Int32)), .val (.long q3), .second] [(.long q3), (.int (2 : Int32)), (.int (1 : Int32)), (.ref a0)])) (fun t kt => ?_) ?_
  · refine st2 t ?_
    refine XS.aloadN X2.here hx rfl (hb hby d10_7) rfl rfl ?_
    refine XS.iloadN X2.here hx rfl (hb hby d10_8) rfl ?_
    refine XS.iloadN X2.here hx rfl (hb hby d10_9) rfl ?_
    refine XS.lloadN X2.here hx rfl (hb hby d10_10) rfl ?_
    exact kt
  obtain ⟨_, _, ⟨T3, L3, k3, n3⟩, -, X3, ⟨Lc3, hQ3, l3, y3, z3⟩, st3⟩ := Jvm.LawKit.callS X2 hx (y := (⟨"java/util/Arrays", "binarySearch0", "([JIIJ)I"⟩ : MethodName)) hown (mvT hZ (wd73 hw)) (mvT hZ (wd74 hw)) (mvT hZ (wd68 hw)) (mvT hZ (wd75 hw)) (by decide) (backOf (W := 0) (rmB012 l Z aw hw [] a0 q3 t0 t1 t2 h0 n0 (Nat.le_trans Z0 K0.1) V_a0) hZ (wd75 hw) (wd68 hw) (by decide) (by decide)) (g := (mkF m 11 #[.val (.ref a0), .val (.int (1 : Int32)), .val (.int (2 : Int32)), .val (.long q3), .second] [(.long q3), (.int (2 : Int32)), (.int (1 : Int32)), (.ref a0)])) rfl (by rw [hml]; rfl) (argsL := [(.ref a0), (.int (1 : Int32)), (.int (2 : Int32)), (.long q3)]) (rest := []) (lenOf pd_4 rfl) rfl (by show 2 * 0 + _ ≤ _; exact Nat.le_of_eq rfl) (hb hby d10_11) (fun _ _ => ⟨rfl, e2, (by decide : 0 + 0 ≤ _), (by decide : 0 + 0 ≤ _)⟩)
  dsimp only [Pt.U, Pt.locs, Pt.cells, Pt.slots] at X3 l3 y3 z3 st3 hQ3
  subst l3 y3 z3
  obtain ⟨rfl, N3q, e3⟩ := hQ3
  have N3 := Fr.app N2 N3q
  refine own_by (A' := T3.setTop (mkF m 14 #[.val (.ref a0), .val (.int (1 : Int32)), .val (.int (2 : Int32)), .val (.long q3), .second] [(.int (own_b012 t0 t1 t2 q3))])) (fun t kt => st3 t kt) ?_
  obtain ⟨fs, hr, hrun, hended, hW, hsame⟩ := X3.leave (v := some (.int (own_b012 t0 t1 t2 q3))) (fun h => by rw [Bd.returns] at h; cases h)
  refine ⟨_, _, ?_, hrun, hended, _, _, rfl, ?_, ⟨_, rfl⟩, hW, hsame.mono (by decide) (by decide)⟩
  · exact retI X3 hx Bd.returns (hb hby d10_14) hr
  · show QBS12 Z a0 q3 t0 t1 t2 h0 n0 _ T3.heap _
    rw [e3]
    exact ⟨rfl, N3, rfl⟩
theorem ef_rmRC13 (m : MethodId)  : entryFrame m #[(.int (8 : Int32)), (.int (1 : Int32)), (.int (3 : Int32))] 3 = mkF m 0 #[.val (.int (8 : Int32)), .val (.int (1 : Int32)), .val (.int (3 : Int32))] [] := by first | (simp [entryFrame, mkF, argsToLocals, Value.category]; done) | rfl
def QRC13 (Z : State)  (h0 : Heap) (n0 : Nat) (v : Option Value) (h : Heap) (L : List Loc) : Prop := v = none ∧ Fr n0 L ∧ h = h0
set_option maxRecDepth 65536 in
set_option maxHeartbeats 40000000 in
theorem rmRC13 (l : Launch) (Z : State) (aw : Array Value) (hw : ∀ d ∈ tables_1, d.before aw Z = true) (ws : List Jvm.Cond)  (h0 : Heap) (n0 : Nat) (Z0 : n0 ≤ h0.size) :
    MetFree l (⟨"java/util/Arrays", "rangeCheck", "(III)V"⟩ : MethodName) (head1 (Jvm.Cond.code (⟨"java/util/Arrays", "rangeCheck", "(III)V"⟩ : MethodName) jdk_65_method_30_code 3 none :: ws) ({ frames := 0, cells := 0, slots := 0, locals := 0 } : Room)) (fun a U => a = #[(.int (8 : Int32)), (.int (1 : Int32)), (.int (3 : Int32))] ∧ Z.Warmed39 U.vm ∧ U.heap = h0) (fun _ _ _ _ _ => True) (fun _ U o U' => ∃ v L, o = .returned v ∧ QRC13 Z  h0 n0 v U'.heap L ∧ FrameEnd U o U' L ({ frames := 0, cells := 0, slots := 0, locals := 0 } : Room).cells ({ frames := 0, cells := 0, slots := 0, locals := 0 } : Room).slots) := by
  refine MetFree.of_bodySF (plainFor_of_name pn_2) hisR ?_
  intro p e s m args below meth c s₁ Bd hml0 hP hK
  obtain ⟨rfl, hZ, hh⟩ := hP
  have hx := Bd.exec
  have hby := Bd.bytes
  have hml : c.maxLocals = 3 := hml0
  have hown : s.vm.findClass "java/util/Arrays" = some m.cls := findClass_of_methodNamed Bd.named
  have hnm := (name_of_methodNamed Bd.named Bd.method).1
  have X0 : Stand p l e ({ frames := 0, cells := 0, slots := 0, locals := 0 } : Room) s m #[(.int (8 : Int32)), (.int (1 : Int32)), (.int (3 : Int32))] below meth c s₁ [] 0 0 := Stand.of_body Bd
  have e0 : s₁.heap = h0 := by rw [← hh, Bd.state]; rfl
  have N0 := Fr.nil n0
  have K0 : Keep h0 h0 [] := Keep.refl _ _
  refine own_by (A' := s₁.setTop (mkF m 0 #[.val (.int (8 : Int32)), .val (.int (1 : Int32)), .val (.int (3 : Int32))] [])) (fun t k => castTop (ef_rmRC13 m ) k) ?_
  refine own_by (A' := s₁.setTop (mkF m 2 #[.val (.int (8 : Int32)), .val (.int (1 : Int32)), .val (.int (3 : Int32))] [(.int (3 : Int32)), (.int (1 : Int32))])) (fun t kt => ?_) ?_
  · refine XS.iloadN X0.here hx rfl (hb hby d11_0) rfl ?_
    refine XS.iloadN X0.here hx rfl (hb hby d11_1) rfl ?_
    exact kt
  have hc2_1 : ¬ ((3 : Int32) < (1 : Int32)) := by decide
  refine own_by (A' := s₁.setTop (mkF m 47 #[.val (.int (8 : Int32)), .val (.int (1 : Int32)), .val (.int (3 : Int32))] [(.int (1 : Int32))])) (fun t kt => ?_) ?_
  · refine XS.icmpYes X0.here hx rfl (pc0 := 2) (pc' := 46) rfl (hb hby d11_2) rfl (flt hc2_1).2.2.2 (by decide) (by decide) ?_
    refine XS.iloadN X0.here hx rfl (hb hby d11_46) rfl ?_
    exact kt
  have hc47_2 : ¬ ((1 : Int32) < (0 : Int32)) := by decide
  refine own_by (A' := s₁.setTop (mkF m 61 #[.val (.int (8 : Int32)), .val (.int (1 : Int32)), .val (.int (3 : Int32))] [(.int (8 : Int32)), (.int (3 : Int32))])) (fun t kt => ?_) ?_
  · refine XS.ifYes X0.here hx rfl (pc0 := 47) (pc' := 59) rfl (hb hby d11_47) rfl ((if0 _ _).trans (flt hc47_2).2.1) (by decide) (by decide) ?_
    refine XS.iloadN X0.here hx rfl (hb hby d11_59) rfl ?_
    refine XS.iloadN X0.here hx rfl (hb hby d11_60) rfl ?_
    exact kt
  have hc61_3 : ¬ ((8 : Int32) < (3 : Int32)) := by decide
  refine own_by (A' := s₁.setTop (mkF m 73 #[.val (.int (8 : Int32)), .val (.int (1 : Int32)), .val (.int (3 : Int32))] [])) (fun t kt => ?_) ?_
  · refine XS.icmpYes X0.here hx rfl (pc0 := 61) (pc' := 73) rfl (hb hby d11_61) rfl (flt hc61_3).2.2.2 (by decide) (by decide) ?_
    exact kt
  obtain ⟨fs, hr, hrun, hended, hW, hsame⟩ := X0.leave (v := none) (fun _ => rfl)
  refine ⟨_, _, ?_, hrun, hended, _, _, rfl, ?_, ⟨_, rfl⟩, hW, hsame.mono (by decide) (by decide)⟩
  · exact X0.returnOut hx Bd.returns (hb hby d11_73) hr
  · show QRC13 Z  h0 n0 _ s₁.heap _
    rw [e0]
    exact ⟨rfl, N0, rfl⟩
def own_b013 (t0 t1 t2 q3 : Int64) : Int32 := (if t1 < q3 then (if t2 < q3 then (-(4 : Int32)) else (if q3 < t2 then (-(3 : Int32)) else (2 : Int32))) else (if q3 < t1 then (-(2 : Int32)) else (1 : Int32)))
theorem ef_rmB013 (m : MethodId) (a0 : Addr) (q3 : Int64) : entryFrame m #[(.ref a0), (.int (1 : Int32)), (.int (3 : Int32)), (.long q3)] 10 = mkF m 0 #[.val (.ref a0), .val (.int (1 : Int32)), .val (.int (3 : Int32)), .val (.long q3), .second, .unset, .unset, .unset, .unset, .unset] [] := by first | (simp [entryFrame, mkF, argsToLocals, Value.category]; done) | rfl
def QB013 (Z : State) (a0 : Addr) (q3 : Int64) (t0 : Int64) (t1 : Int64) (t2 : Int64) (h0 : Heap) (n0 : Nat) (v : Option Value) (h : Heap) (L : List Loc) : Prop := v = some (.int (own_b013 t0 t1 t2 q3)) ∧ Fr n0 L ∧ h = h0
set_option maxRecDepth 65536 in
set_option maxHeartbeats 40000000 in
theorem rmB013 (l : Launch) (Z : State) (aw : Array Value) (hw : ∀ d ∈ tables_1, d.before aw Z = true) (ws : List Jvm.Cond) (a0 : Addr) (q3 : Int64) (t0 : Int64) (t1 : Int64) (t2 : Int64) (h0 : Heap) (n0 : Nat) (Z0 : n0 ≤ h0.size) (V_a0 : AF Z h0 a0 .long (8 : Int32) (own_j3 t0 t1 t2)) :
    MetFree l (⟨"java/util/Arrays", "binarySearch0", "([JIIJ)I"⟩ : MethodName) (head1 (Jvm.Cond.code (⟨"java/util/Arrays", "binarySearch0", "([JIIJ)I"⟩ : MethodName) jdk_65_method_56_code 10 (some .int) :: ws) ({ frames := 0, cells := 0, slots := 0, locals := 0 } : Room)) (fun a U => a = #[(.ref a0), (.int (1 : Int32)), (.int (3 : Int32)), (.long q3)] ∧ Z.Warmed39 U.vm ∧ U.heap = h0) (fun _ _ _ _ _ => True) (fun _ U o U' => ∃ v L, o = .returned v ∧ QB013 Z a0 q3 t0 t1 t2 h0 n0 v U'.heap L ∧ FrameEnd U o U' L ({ frames := 0, cells := 0, slots := 0, locals := 0 } : Room).cells ({ frames := 0, cells := 0, slots := 0, locals := 0 } : Room).slots) := by
  refine MetFree.of_bodySF (plainFor_of_name pn_2) hisR ?_
  intro p e s m args below meth c s₁ Bd hml0 hP hK
  obtain ⟨rfl, hZ, hh⟩ := hP
  have hx := Bd.exec
  have hby := Bd.bytes
  have hml : c.maxLocals = 10 := hml0
  have hown : s.vm.findClass "java/util/Arrays" = some m.cls := findClass_of_methodNamed Bd.named
  have hnm := (name_of_methodNamed Bd.named Bd.method).1
  have X0 : Stand p l e ({ frames := 0, cells := 0, slots := 0, locals := 0 } : Room) s m #[(.ref a0), (.int (1 : Int32)), (.int (3 : Int32)), (.long q3)] below meth c s₁ [] 0 0 := Stand.of_body Bd
  have e0 : s₁.heap = h0 := by rw [← hh, Bd.state]; rfl
  have N0 := Fr.nil n0
  have K0 : Keep h0 h0 [] := Keep.refl _ _
  refine own_by (A' := s₁.setTop (mkF m 0 #[.val (.ref a0), .val (.int (1 : Int32)), .val (.int (3 : Int32)), .val (.long q3), .second, .unset, .unset, .unset, .unset, .unset] [])) (fun t k => castTop (ef_rmB013 m a0 q3) k) ?_
  refine own_by (A' := s₁.setTop (mkF m 12 #[.val (.ref a0), .val (.int (1 : Int32)), .val (.int (3 : Int32)), .val (.long q3), .second, .val (.int (1 : Int32)), .val (.int (2 : Int32)), .unset, .unset, .unset] [(.int (2 : Int32)), (.int (1 : Int32))])) (fun t kt => ?_) ?_
  · refine XS.iloadN X0.here hx rfl (hb hby d12_0) rfl ?_
    refine XS.istore X0.here hx rfl (hb hby d12_1) rfl (l' := #[.val (.ref a0), .val (.int (1 : Int32)), .val (.int (3 : Int32)), .val (.long q3), .second, .val (.int (1 : Int32)), .unset, .unset, .unset, .unset]) rfl ?_
    refine XS.iloadN X0.here hx rfl (hb hby d12_3) rfl ?_
    refine XS.iconst X0.here hx rfl (hb hby d12_4) ?_
    refine XS.isub X0.here hx rfl (hb hby d12_5) rfl ?_
    refine XS.istore X0.here hx rfl (hb hby d12_6) rfl (l' := #[.val (.ref a0), .val (.int (1 : Int32)), .val (.int (3 : Int32)), .val (.long q3), .second, .val (.int (1 : Int32)), .val (.int (2 : Int32)), .unset, .unset, .unset]) rfl ?_
    refine XS.iload X0.here hx rfl (hb hby d12_8) rfl ?_
    refine XS.iload X0.here hx rfl (hb hby d12_10) rfl ?_
    exact kt
  have hc12_1 : ¬ ((2 : Int32) < (1 : Int32)) := by decide
  refine own_by (A' := s₁.setTop (mkF m 27 #[.val (.ref a0), .val (.int (1 : Int32)), .val (.int (3 : Int32)), .val (.long q3), .second, .val (.int (1 : Int32)), .val (.int (2 : Int32)), .val (.int (1 : Int32)), .unset, .unset] [(.int (1 : Int32)), (.ref a0)])) (fun t kt => ?_) ?_
  · refine XS.icmpNo X0.here hx rfl (hb hby d12_12) rfl (flt hc12_1).2.2.1 ?_
    refine XS.iload X0.here hx rfl (hb hby d12_15) rfl ?_
    refine XS.iload X0.here hx rfl (hb hby d12_17) rfl ?_
    refine XS.iadd X0.here hx rfl (hb hby d12_19) rfl ?_
    refine XS.iconst X0.here hx rfl (hb hby d12_20) ?_
    refine XS.iushr X0.here hx rfl (hb hby d12_21) rfl ?_
    refine XS.istore X0.here hx rfl (hb hby d12_22) rfl (l' := #[.val (.ref a0), .val (.int (1 : Int32)), .val (.int (3 : Int32)), .val (.long q3), .second, .val (.int (1 : Int32)), .val (.int (2 : Int32)), .val (.int (1 : Int32)), .unset, .unset]) rfl ?_
    refine XS.aloadN X0.here hx rfl (hb hby d12_24) rfl rfl ?_
    refine XS.iload X0.here hx rfl (hb hby d12_25) rfl ?_
    exact kt
  obtain ⟨cl2, Ar2, Sz2, Mn2, Ha2⟩ := id V_a0
  have hin2 := inb_of (j := (1 : Int32)) Sz2 ⟨by decide, by decide⟩
  have hat2 : cl2.slots[((1 : Int32)).toNatClampNeg]? = some (.long t1) := (Ha2 _ (Nat.lt_of_not_le fun q => hin2 (Or.inr q))).trans (congrArg some rfl)
  refine own_by (A' := s₁.setTop (mkF m 34 #[.val (.ref a0), .val (.int (1 : Int32)), .val (.int (3 : Int32)), .val (.long q3), .second, .val (.int (1 : Int32)), .val (.int (2 : Int32)), .val (.int (1 : Int32)), .val (.long t1), .second] [(.int (lcmpW t1 q3))])) (fun t kt => ?_) ?_
  · refine X0.laload hx (j := (1 : Int32)) (v := (.long t1)) (by rw [e0]; exact Ar2.1) (State.isArrayOf_alike hZ.alike Ar2.2.1) Ar2.2.2 hin2 hat2 (g := (mkF m 27 #[.val (.ref a0), .val (.int (1 : Int32)), .val (.int (3 : Int32)), .val (.long q3), .second, .val (.int (1 : Int32)), .val (.int (2 : Int32)), .val (.int (1 : Int32)), .unset, .unset] [(.int (1 : Int32)), (.ref a0)])) rfl rfl (hb hby d12_27) _ ?_
    refine XS.lstore X0.here hx rfl (hb hby d12_28) rfl (l' := #[.val (.ref a0), .val (.int (1 : Int32)), .val (.int (3 : Int32)), .val (.long q3), .second, .val (.int (1 : Int32)), .val (.int (2 : Int32)), .val (.int (1 : Int32)), .val (.long t1), .second]) rfl ?_
    refine XS.lload X0.here hx rfl (hb hby d12_30) rfl ?_
    refine XS.lloadN X0.here hx rfl (hb hby d12_32) rfl ?_
    refine XS.lcmp X0.here hx rfl (hb hby d12_33) rfl ?_
    exact kt
  by_cases hc34_3 : t1 < q3
  · refine own_by (A' := s₁.setTop (mkF m 12 #[.val (.ref a0), .val (.int (1 : Int32)), .val (.int (3 : Int32)), .val (.long q3), .second, .val (.int (2 : Int32)), .val (.int (2 : Int32)), .val (.int (1 : Int32)), .val (.long t1), .second] [(.int (2 : Int32)), (.int (2 : Int32))])) (fun t kt => ?_) ?_
    · refine XS.ifNo X0.here hx rfl (hb hby d12_34) rfl ((if0 _ _).trans (tlt ((lw_lt _ _).mpr hc34_3)).2.1) ?_
      refine XS.iload X0.here hx rfl (hb hby d12_37) rfl ?_
      refine XS.iconst X0.here hx rfl (hb hby d12_39) ?_
      refine XS.iadd X0.here hx rfl (hb hby d12_40) rfl ?_
      refine XS.istore X0.here hx rfl (hb hby d12_41) rfl (l' := #[.val (.ref a0), .val (.int (1 : Int32)), .val (.int (3 : Int32)), .val (.long q3), .second, .val (.int (2 : Int32)), .val (.int (2 : Int32)), .val (.int (1 : Int32)), .val (.long t1), .second]) rfl ?_
      refine XS.goto X0.here hx rfl (pc0 := 43) (pc' := 65) rfl (hb hby d12_43) (by decide) (by decide) ?_
      refine XS.goto X0.here hx rfl (pc0 := 65) (pc' := 8) rfl (hb hby d12_65) (by decide) (by decide) ?_
      refine XS.iload X0.here hx rfl (hb hby d12_8) rfl ?_
      refine XS.iload X0.here hx rfl (hb hby d12_10) rfl ?_
      exact kt
    have hc12_4 : ¬ ((2 : Int32) < (2 : Int32)) := by decide
    refine own_by (A' := s₁.setTop (mkF m 27 #[.val (.ref a0), .val (.int (1 : Int32)), .val (.int (3 : Int32)), .val (.long q3), .second, .val (.int (2 : Int32)), .val (.int (2 : Int32)), .val (.int (2 : Int32)), .val (.long t1), .second] [(.int (2 : Int32)), (.ref a0)])) (fun t kt => ?_) ?_
    · refine XS.icmpNo X0.here hx rfl (hb hby d12_12) rfl (flt hc12_4).2.2.1 ?_
      refine XS.iload X0.here hx rfl (hb hby d12_15) rfl ?_
      refine XS.iload X0.here hx rfl (hb hby d12_17) rfl ?_
      refine XS.iadd X0.here hx rfl (hb hby d12_19) rfl ?_
      refine XS.iconst X0.here hx rfl (hb hby d12_20) ?_
      refine XS.iushr X0.here hx rfl (hb hby d12_21) rfl ?_
      refine XS.istore X0.here hx rfl (hb hby d12_22) rfl (l' := #[.val (.ref a0), .val (.int (1 : Int32)), .val (.int (3 : Int32)), .val (.long q3), .second, .val (.int (2 : Int32)), .val (.int (2 : Int32)), .val (.int (2 : Int32)), .val (.long t1), .second]) rfl ?_
      refine XS.aloadN X0.here hx rfl (hb hby d12_24) rfl rfl ?_
      refine XS.iload X0.here hx rfl (hb hby d12_25) rfl ?_
      exact kt
    obtain ⟨cl5, Ar5, Sz5, Mn5, Ha5⟩ := id V_a0
    have hin5 := inb_of (j := (2 : Int32)) Sz5 ⟨by decide, by decide⟩
    have hat5 : cl5.slots[((2 : Int32)).toNatClampNeg]? = some (.long t2) := (Ha5 _ (Nat.lt_of_not_le fun q => hin5 (Or.inr q))).trans (congrArg some rfl)
    refine own_by (A' := s₁.setTop (mkF m 34 #[.val (.ref a0), .val (.int (1 : Int32)), .val (.int (3 : Int32)), .val (.long q3), .second, .val (.int (2 : Int32)), .val (.int (2 : Int32)), .val (.int (2 : Int32)), .val (.long t2), .second] [(.int (lcmpW t2 q3))])) (fun t kt => ?_) ?_
    · refine X0.laload hx (j := (2 : Int32)) (v := (.long t2)) (by rw [e0]; exact Ar5.1) (State.isArrayOf_alike hZ.alike Ar5.2.1) Ar5.2.2 hin5 hat5 (g := (mkF m 27 #[.val (.ref a0), .val (.int (1 : Int32)), .val (.int (3 : Int32)), .val (.long q3), .second, .val (.int (2 : Int32)), .val (.int (2 : Int32)), .val (.int (2 : Int32)), .val (.long t1), .second] [(.int (2 : Int32)), (.ref a0)])) rfl rfl (hb hby d12_27) _ ?_
      refine XS.lstore X0.here hx rfl (hb hby d12_28) rfl (l' := #[.val (.ref a0), .val (.int (1 : Int32)), .val (.int (3 : Int32)), .val (.long q3), .second, .val (.int (2 : Int32)), .val (.int (2 : Int32)), .val (.int (2 : Int32)), .val (.long t2), .second]) rfl ?_
      refine XS.lload X0.here hx rfl (hb hby d12_30) rfl ?_
      refine XS.lloadN X0.here hx rfl (hb hby d12_32) rfl ?_
      refine XS.lcmp X0.here hx rfl (hb hby d12_33) rfl ?_
      exact kt
    by_cases hc34_6 : t2 < q3
    · refine own_by (A' := s₁.setTop (mkF m 12 #[.val (.ref a0), .val (.int (1 : Int32)), .val (.int (3 : Int32)), .val (.long q3), .second, .val (.int (3 : Int32)), .val (.int (2 : Int32)), .val (.int (2 : Int32)), .val (.long t2), .second] [(.int (2 : Int32)), (.int (3 : Int32))])) (fun t kt => ?_) ?_
      · refine XS.ifNo X0.here hx rfl (hb hby d12_34) rfl ((if0 _ _).trans (tlt ((lw_lt _ _).mpr hc34_6)).2.1) ?_
        refine XS.iload X0.here hx rfl (hb hby d12_37) rfl ?_
        refine XS.iconst X0.here hx rfl (hb hby d12_39) ?_
        refine XS.iadd X0.here hx rfl (hb hby d12_40) rfl ?_
        refine XS.istore X0.here hx rfl (hb hby d12_41) rfl (l' := #[.val (.ref a0), .val (.int (1 : Int32)), .val (.int (3 : Int32)), .val (.long q3), .second, .val (.int (3 : Int32)), .val (.int (2 : Int32)), .val (.int (2 : Int32)), .val (.long t2), .second]) rfl ?_
        refine XS.goto X0.here hx rfl (pc0 := 43) (pc' := 65) rfl (hb hby d12_43) (by decide) (by decide) ?_
        refine XS.goto X0.here hx rfl (pc0 := 65) (pc' := 8) rfl (hb hby d12_65) (by decide) (by decide) ?_
        refine XS.iload X0.here hx rfl (hb hby d12_8) rfl ?_
        refine XS.iload X0.here hx rfl (hb hby d12_10) rfl ?_
        exact kt
      have hc12_7 : (2 : Int32) < (3 : Int32) := by decide
      refine own_by (A' := s₁.setTop (mkF m 73 #[.val (.ref a0), .val (.int (1 : Int32)), .val (.int (3 : Int32)), .val (.long q3), .second, .val (.int (3 : Int32)), .val (.int (2 : Int32)), .val (.int (2 : Int32)), .val (.long t2), .second] [(.int (-(4 : Int32)))])) (fun t kt => ?_) ?_
      · refine XS.icmpYes X0.here hx rfl (pc0 := 12) (pc' := 68) rfl (hb hby d12_12) rfl (tlt hc12_7).2.2.1 (by decide) (by decide) ?_
        refine XS.iload X0.here hx rfl (hb hby d12_68) rfl ?_
        refine XS.iconst X0.here hx rfl (hb hby d12_70) ?_
        refine XS.iadd X0.here hx rfl (hb hby d12_71) rfl ?_
        refine XS.ineg X0.here hx rfl (hb hby d12_72) rfl ?_
        exact kt
      obtain ⟨fs, hr, hrun, hended, hW, hsame⟩ := X0.leave (v := some (.int (-(4 : Int32)))) (fun h => by rw [Bd.returns] at h; cases h)
      refine ⟨_, _, ?_, hrun, hended, _, _, rfl, ?_, ⟨_, rfl⟩, hW, hsame.mono (by decide) (by decide)⟩
      · exact retI X0 hx Bd.returns (hb hby d12_73) hr
      · show QB013 Z a0 q3 t0 t1 t2 h0 n0 _ s₁.heap _
        rw [e0]
        exact ⟨(by rw [own_b013, if_pos hc34_3, if_pos hc34_6]), N0, rfl⟩
    · refine own_by (A' := s₁.setTop (mkF m 50 #[.val (.ref a0), .val (.int (1 : Int32)), .val (.int (3 : Int32)), .val (.long q3), .second, .val (.int (2 : Int32)), .val (.int (2 : Int32)), .val (.int (2 : Int32)), .val (.long t2), .second] [(.int (lcmpW t2 q3))])) (fun t kt => ?_) ?_
      · refine XS.ifYes X0.here hx rfl (pc0 := 34) (pc' := 46) rfl (hb hby d12_34) rfl ((if0 _ _).trans (flt (fun q => hc34_6 ((lw_lt _ _).mp q))).2.1) (by decide) (by decide) ?_
        refine XS.lload X0.here hx rfl (hb hby d12_46) rfl ?_
        refine XS.lloadN X0.here hx rfl (hb hby d12_48) rfl ?_
        refine XS.lcmp X0.here hx rfl (hb hby d12_49) rfl ?_
        exact kt
      by_cases hc50_8 : q3 < t2
      · refine own_by (A' := s₁.setTop (mkF m 12 #[.val (.ref a0), .val (.int (1 : Int32)), .val (.int (3 : Int32)), .val (.long q3), .second, .val (.int (2 : Int32)), .val (.int (1 : Int32)), .val (.int (2 : Int32)), .val (.long t2), .second] [(.int (1 : Int32)), (.int (2 : Int32))])) (fun t kt => ?_) ?_
        · refine XS.ifNo X0.here hx rfl (hb hby d12_50) rfl ((if0 _ _).trans (tlt ((lw_gt _ _).mpr hc50_8)).2.2.2) ?_
          refine XS.iload X0.here hx rfl (hb hby d12_53) rfl ?_
          refine XS.iconst X0.here hx rfl (hb hby d12_55) ?_
          refine XS.isub X0.here hx rfl (hb hby d12_56) rfl ?_
          refine XS.istore X0.here hx rfl (hb hby d12_57) rfl (l' := #[.val (.ref a0), .val (.int (1 : Int32)), .val (.int (3 : Int32)), .val (.long q3), .second, .val (.int (2 : Int32)), .val (.int (1 : Int32)), .val (.int (2 : Int32)), .val (.long t2), .second]) rfl ?_
          refine XS.goto X0.here hx rfl (pc0 := 59) (pc' := 65) rfl (hb hby d12_59) (by decide) (by decide) ?_
          refine XS.goto X0.here hx rfl (pc0 := 65) (pc' := 8) rfl (hb hby d12_65) (by decide) (by decide) ?_
          refine XS.iload X0.here hx rfl (hb hby d12_8) rfl ?_
          refine XS.iload X0.here hx rfl (hb hby d12_10) rfl ?_
          exact kt
        have hc12_9 : (1 : Int32) < (2 : Int32) := by decide
        refine own_by (A' := s₁.setTop (mkF m 73 #[.val (.ref a0), .val (.int (1 : Int32)), .val (.int (3 : Int32)), .val (.long q3), .second, .val (.int (2 : Int32)), .val (.int (1 : Int32)), .val (.int (2 : Int32)), .val (.long t2), .second] [(.int (-(3 : Int32)))])) (fun t kt => ?_) ?_
        · refine XS.icmpYes X0.here hx rfl (pc0 := 12) (pc' := 68) rfl (hb hby d12_12) rfl (tlt hc12_9).2.2.1 (by decide) (by decide) ?_
          refine XS.iload X0.here hx rfl (hb hby d12_68) rfl ?_
          refine XS.iconst X0.here hx rfl (hb hby d12_70) ?_
          refine XS.iadd X0.here hx rfl (hb hby d12_71) rfl ?_
          refine XS.ineg X0.here hx rfl (hb hby d12_72) rfl ?_
          exact kt
        obtain ⟨fs, hr, hrun, hended, hW, hsame⟩ := X0.leave (v := some (.int (-(3 : Int32)))) (fun h => by rw [Bd.returns] at h; cases h)
        refine ⟨_, _, ?_, hrun, hended, _, _, rfl, ?_, ⟨_, rfl⟩, hW, hsame.mono (by decide) (by decide)⟩
        · exact retI X0 hx Bd.returns (hb hby d12_73) hr
        · show QB013 Z a0 q3 t0 t1 t2 h0 n0 _ s₁.heap _
          rw [e0]
          exact ⟨(by rw [own_b013, if_pos hc34_3, if_neg hc34_6, if_pos hc50_8]), N0, rfl⟩
      · refine own_by (A' := s₁.setTop (mkF m 64 #[.val (.ref a0), .val (.int (1 : Int32)), .val (.int (3 : Int32)), .val (.long q3), .second, .val (.int (2 : Int32)), .val (.int (2 : Int32)), .val (.int (2 : Int32)), .val (.long t2), .second] [(.int (2 : Int32))])) (fun t kt => ?_) ?_
        · refine XS.ifYes X0.here hx rfl (pc0 := 50) (pc' := 62) rfl (hb hby d12_50) rfl ((if0 _ _).trans (flt (fun q => hc50_8 ((lw_gt _ _).mp q))).2.2.2) (by decide) (by decide) ?_
          refine XS.iload X0.here hx rfl (hb hby d12_62) rfl ?_
          exact kt
        obtain ⟨fs, hr, hrun, hended, hW, hsame⟩ := X0.leave (v := some (.int (2 : Int32))) (fun h => by rw [Bd.returns] at h; cases h)
        refine ⟨_, _, ?_, hrun, hended, _, _, rfl, ?_, ⟨_, rfl⟩, hW, hsame.mono (by decide) (by decide)⟩
        · exact retI X0 hx Bd.returns (hb hby d12_64) hr
        · show QB013 Z a0 q3 t0 t1 t2 h0 n0 _ s₁.heap _
          rw [e0]
          exact ⟨(by rw [own_b013, if_pos hc34_3, if_neg hc34_6, if_neg hc50_8]), N0, rfl⟩
  · refine own_by (A' := s₁.setTop (mkF m 50 #[.val (.ref a0), .val (.int (1 : Int32)), .val (.int (3 : Int32)), .val (.long q3), .second, .val (.int (1 : Int32)), .val (.int (2 : Int32)), .val (.int (1 : Int32)), .val (.long t1), .second] [(.int (lcmpW t1 q3))])) (fun t kt => ?_) ?_
    · refine XS.ifYes X0.here hx rfl (pc0 := 34) (pc' := 46) rfl (hb hby d12_34) rfl ((if0 _ _).trans (flt (fun q => hc34_3 ((lw_lt _ _).mp q))).2.1) (by decide) (by decide) ?_
      refine XS.lload X0.here hx rfl (hb hby d12_46) rfl ?_
      refine XS.lloadN X0.here hx rfl (hb hby d12_48) rfl ?_
      refine XS.lcmp X0.here hx rfl (hb hby d12_49) rfl ?_
      exact kt
    by_cases hc50_10 : q3 < t1
    · refine own_by (A' := s₁.setTop (mkF m 12 #[.val (.ref a0), .val (.int (1 : Int32)), .val (.int (3 : Int32)), .val (.long q3), .second, .val (.int (1 : Int32)), .val (.int (0 : Int32)), .val (.int (1 : Int32)), .val (.long t1), .second] [(.int (0 : Int32)), (.int (1 : Int32))])) (fun t kt => ?_) ?_
      · refine XS.ifNo X0.here hx rfl (hb hby d12_50) rfl ((if0 _ _).trans (tlt ((lw_gt _ _).mpr hc50_10)).2.2.2) ?_
        refine XS.iload X0.here hx rfl (hb hby d12_53) rfl ?_
        refine XS.iconst X0.here hx rfl (hb hby d12_55) ?_
        refine XS.isub X0.here hx rfl (hb hby d12_56) rfl ?_
        refine XS.istore X0.here hx rfl (hb hby d12_57) rfl (l' := #[.val (.ref a0), .val (.int (1 : Int32)), .val (.int (3 : Int32)), .val (.long q3), .second, .val (.int (1 : Int32)), .val (.int (0 : Int32)), .val (.int (1 : Int32)), .val (.long t1), .second]) rfl ?_
        refine XS.goto X0.here hx rfl (pc0 := 59) (pc' := 65) rfl (hb hby d12_59) (by decide) (by decide) ?_
        refine XS.goto X0.here hx rfl (pc0 := 65) (pc' := 8) rfl (hb hby d12_65) (by decide) (by decide) ?_
        refine XS.iload X0.here hx rfl (hb hby d12_8) rfl ?_
        refine XS.iload X0.here hx rfl (hb hby d12_10) rfl ?_
        exact kt
      have hc12_11 : (0 : Int32) < (1 : Int32) := by decide
      refine own_by (A' := s₁.setTop (mkF m 73 #[.val (.ref a0), .val (.int (1 : Int32)), .val (.int (3 : Int32)), .val (.long q3), .second, .val (.int (1 : Int32)), .val (.int (0 : Int32)), .val (.int (1 : Int32)), .val (.long t1), .second] [(.int (-(2 : Int32)))])) (fun t kt => ?_) ?_
      · refine XS.icmpYes X0.here hx rfl (pc0 := 12) (pc' := 68) rfl (hb hby d12_12) rfl (tlt hc12_11).2.2.1 (by decide) (by decide) ?_
        refine XS.iload X0.here hx rfl (hb hby d12_68) rfl ?_
        refine XS.iconst X0.here hx rfl (hb hby d12_70) ?_
        refine XS.iadd X0.here hx rfl (hb hby d12_71) rfl ?_
        refine XS.ineg X0.here hx rfl (hb hby d12_72) rfl ?_
        exact kt
      obtain ⟨fs, hr, hrun, hended, hW, hsame⟩ := X0.leave (v := some (.int (-(2 : Int32)))) (fun h => by rw [Bd.returns] at h; cases h)
      refine ⟨_, _, ?_, hrun, hended, _, _, rfl, ?_, ⟨_, rfl⟩, hW, hsame.mono (by decide) (by decide)⟩
      · exact retI X0 hx Bd.returns (hb hby d12_73) hr
      · show QB013 Z a0 q3 t0 t1 t2 h0 n0 _ s₁.heap _
        rw [e0]
        exact ⟨(by rw [own_b013, if_neg hc34_3, if_pos hc50_10]), N0, rfl⟩
    · refine own_by (A' := s₁.setTop (mkF m 64 #[.val (.ref a0), .val (.int (1 : Int32)), .val (.int (3 : Int32)), .val (.long q3), .second, .val (.int (1 : Int32)), .val (.int (2 : Int32)), .val (.int (1 : Int32)), .val (.long t1), .second] [(.int (1 : Int32))])) (fun t kt => ?_) ?_
      · refine XS.ifYes X0.here hx rfl (pc0 := 50) (pc' := 62) rfl (hb hby d12_50) rfl ((if0 _ _).trans (flt (fun q => hc50_10 ((lw_gt _ _).mp q))).2.2.2) (by decide) (by decide) ?_
        refine XS.iload X0.here hx rfl (hb hby d12_62) rfl ?_
        exact kt
      obtain ⟨fs, hr, hrun, hended, hW, hsame⟩ := X0.leave (v := some (.int (1 : Int32))) (fun h => by rw [Bd.returns] at h; cases h)
      refine ⟨_, _, ?_, hrun, hended, _, _, rfl, ?_, ⟨_, rfl⟩, hW, hsame.mono (by decide) (by decide)⟩
      · exact retI X0 hx Bd.returns (hb hby d12_64) hr
      · show QB013 Z a0 q3 t0 t1 t2 h0 n0 _ s₁.heap _
        rw [e0]
        exact ⟨(by rw [own_b013, if_neg hc34_3, if_neg hc50_10]), N0, rfl⟩
theorem ef_rmBS13 (m : MethodId) (a0 : Addr) (q3 : Int64) : entryFrame m #[(.ref a0), (.int (1 : Int32)), (.int (3 : Int32)), (.long q3)] 5 = mkF m 0 #[.val (.ref a0), .val (.int (1 : Int32)), .val (.int (3 : Int32)), .val (.long q3), .second] [] := by first | (simp [entryFrame, mkF, argsToLocals, Value.category]; done) | rfl
def QBS13 (Z : State) (a0 : Addr) (q3 : Int64) (t0 : Int64) (t1 : Int64) (t2 : Int64) (h0 : Heap) (n0 : Nat) (v : Option Value) (h : Heap) (L : List Loc) : Prop := v = some (.int (own_b013 t0 t1 t2 q3)) ∧ Fr n0 L ∧ h = h0
set_option maxRecDepth 65536 in
set_option maxHeartbeats 40000000 in
theorem rmBS13 (l : Launch) (Z : State) (aw : Array Value) (hw : ∀ d ∈ tables_1, d.before aw Z = true) (ws : List Jvm.Cond) (a0 : Addr) (q3 : Int64) (t0 : Int64) (t1 : Int64) (t2 : Int64) (h0 : Heap) (n0 : Nat) (Z0 : n0 ≤ h0.size) (V_a0 : AF Z h0 a0 .long (8 : Int32) (own_j3 t0 t1 t2)) :
    MetFree l (⟨"java/util/Arrays", "binarySearch", "([JIIJ)I"⟩ : MethodName) (head1 (Jvm.Cond.code (⟨"java/util/Arrays", "binarySearch", "([JIIJ)I"⟩ : MethodName) jdk_65_method_55_code 5 (some .int) :: ws) ({ frames := 1, cells := 0, slots := 0, locals := 21 } : Room)) (fun a U => a = #[(.ref a0), (.int (1 : Int32)), (.int (3 : Int32)), (.long q3)] ∧ Z.Warmed39 U.vm ∧ U.heap = h0) (fun _ _ _ _ _ => True) (fun _ U o U' => ∃ v L, o = .returned v ∧ QBS13 Z a0 q3 t0 t1 t2 h0 n0 v U'.heap L ∧ FrameEnd U o U' L ({ frames := 1, cells := 0, slots := 0, locals := 21 } : Room).cells ({ frames := 1, cells := 0, slots := 0, locals := 21 } : Room).slots) := by
  refine MetFree.of_bodySF (plainFor_of_name pn_2) hisR ?_
  intro p e s m args below meth c s₁ Bd hml0 hP hK
  obtain ⟨rfl, hZ, hh⟩ := hP
  have hx := Bd.exec
  have hby := Bd.bytes
  have hml : c.maxLocals = 5 := hml0
  have hown : s.vm.findClass "java/util/Arrays" = some m.cls := findClass_of_methodNamed Bd.named
  have hnm := (name_of_methodNamed Bd.named Bd.method).1
  have X0 : Stand p l e ({ frames := 1, cells := 0, slots := 0, locals := 21 } : Room) s m #[(.ref a0), (.int (1 : Int32)), (.int (3 : Int32)), (.long q3)] below meth c s₁ [] 0 0 := Stand.of_body Bd
  have e0 : s₁.heap = h0 := by rw [← hh, Bd.state]; rfl
  have N0 := Fr.nil n0
  have K0 : Keep h0 h0 [] := Keep.refl _ _
  refine own_by (A' := s₁.setTop (mkF m 0 #[.val (.ref a0), .val (.int (1 : Int32)), .val (.int (3 : Int32)), .val (.long q3), .second] [])) (fun t k => castTop (ef_rmBS13 m a0 q3) k) ?_
  refine own_by (A' := s₁.setTop (mkF m 1 #[.val (.ref a0), .val (.int (1 : Int32)), .val (.int (3 : Int32)), .val (.long q3), .second] [(.ref a0)])) (fun t kt => ?_) ?_
  · refine XS.aloadN X0.here hx rfl (hb hby d10_0) rfl rfl ?_
    exact kt
  obtain ⟨cl1, Ar1, Sz1, Mn1, -⟩ := id V_a0
  refine own_by (A' := s₁.setTop (mkF m 4 #[.val (.ref a0), .val (.int (1 : Int32)), .val (.int (3 : Int32)), .val (.long q3), .second] [(.int (3 : Int32)), (.int (1 : Int32)), (.int (8 : Int32))])) (fun t kt => ?_) ?_
  · refine X0.arraylength hx (by rw [e0]; exact Ar1.1) (State.isArrayOf_alike hZ.alike Ar1.2.1) (g := (mkF m 1 #[.val (.ref a0), .val (.int (1 : Int32)), .val (.int (3 : Int32)), .val (.long q3), .second] [(.ref a0)])) rfl rfl (hb hby d10_1) _ ?_
    rw [len_of Sz1 Mn1]
    refine XS.iloadN X0.here hx rfl (hb hby d10_2) rfl ?_
    refine XS.iloadN X0.here hx rfl (hb hby d10_3) rfl ?_
    exact kt
  obtain ⟨_, _, ⟨T2, L2, k2, n2⟩, -, X2, ⟨Lc2, hQ2, l2, y2, z2⟩, st2⟩ := Jvm.LawKit.callS X0 hx (y := (⟨"java/util/Arrays", "rangeCheck", "(III)V"⟩ : MethodName)) hown (mvT hZ (wd70 hw)) (mvT hZ (wd71 hw)) (mvT hZ (wd68 hw)) (mvT hZ (wd72 hw)) (by decide) (backOf (W := 0) (rmRC13 l Z aw hw []  h0 n0 (Nat.le_trans Z0 K0.1) ) hZ (wd72 hw) (wd68 hw) (by decide) (by decide)) (g := (mkF m 4 #[.val (.ref a0), .val (.int (1 : Int32)), .val (.int (3 : Int32)), .val (.long q3), .second] [(.int (3 : Int32)), (.int (1 : Int32)), (.int (8 : Int32))])) rfl (by rw [hml]; rfl) (argsL := [(.int (8 : Int32)), (.int (1 : Int32)), (.int (3 : Int32))]) (rest := []) (lenOf pd_3 rfl) rfl (by show 2 * 0 + _ ≤ _; exact Nat.le_of_eq rfl) (hb hby d10_4) (fun _ _ => ⟨rfl, e0, (by decide : 0 + 0 ≤ _), (by decide : 0 + 0 ≤ _)⟩)
  dsimp only [Pt.U, Pt.locs, Pt.cells, Pt.slots] at X2 l2 y2 z2 st2 hQ2
  subst l2 y2 z2
  obtain ⟨rfl, N2q, e2⟩ := hQ2
  have N2 := Fr.app N0 N2q
  refine own_by (A' := T2.setTop (mkF m 11 #[.val (.ref a0), .val (.int (1 : Int32)), .val (.int (3 : Int32)), .val (.long q3), .second] [(.long q3), (.int (3 : Int32)), (.int (1 : Int32)), (.ref a0)])) (fun t kt => ?_) ?_
  · refine st2 t ?_
    refine XS.aloadN X2.here hx rfl (hb hby d10_7) rfl rfl ?_
    refine XS.iloadN X2.here hx rfl (hb hby d10_8) rfl ?_
    refine XS.iloadN X2.here hx rfl (hb hby d10_9) rfl ?_
    refine XS.lloadN X2.here hx rfl (hb hby d10_10) rfl ?_
    exact kt
  obtain ⟨_, _, ⟨T3, L3, k3, n3⟩, -, X3, ⟨Lc3, hQ3, l3, y3, z3⟩, st3⟩ := Jvm.LawKit.callS X2 hx (y := (⟨"java/util/Arrays", "binarySearch0", "([JIIJ)I"⟩ : MethodName)) hown (mvT hZ (wd73 hw)) (mvT hZ (wd74 hw)) (mvT hZ (wd68 hw)) (mvT hZ (wd75 hw)) (by decide) (backOf (W := 0) (rmB013 l Z aw hw [] a0 q3 t0 t1 t2 h0 n0 (Nat.le_trans Z0 K0.1) V_a0) hZ (wd75 hw) (wd68 hw) (by decide) (by decide)) (g := (mkF m 11 #[.val (.ref a0), .val (.int (1 : Int32)), .val (.int (3 : Int32)), .val (.long q3), .second] [(.long q3), (.int (3 : Int32)), (.int (1 : Int32)), (.ref a0)])) rfl (by rw [hml]; rfl) (argsL := [(.ref a0), (.int (1 : Int32)), (.int (3 : Int32)), (.long q3)]) (rest := []) (lenOf pd_4 rfl) rfl (by show 2 * 0 + _ ≤ _; exact Nat.le_of_eq rfl) (hb hby d10_11) (fun _ _ => ⟨rfl, e2, (by decide : 0 + 0 ≤ _), (by decide : 0 + 0 ≤ _)⟩)
  dsimp only [Pt.U, Pt.locs, Pt.cells, Pt.slots] at X3 l3 y3 z3 st3 hQ3
  subst l3 y3 z3
  obtain ⟨rfl, N3q, e3⟩ := hQ3
  have N3 := Fr.app N2 N3q
  refine own_by (A' := T3.setTop (mkF m 14 #[.val (.ref a0), .val (.int (1 : Int32)), .val (.int (3 : Int32)), .val (.long q3), .second] [(.int (own_b013 t0 t1 t2 q3))])) (fun t kt => st3 t kt) ?_
  obtain ⟨fs, hr, hrun, hended, hW, hsame⟩ := X3.leave (v := some (.int (own_b013 t0 t1 t2 q3))) (fun h => by rw [Bd.returns] at h; cases h)
  refine ⟨_, _, ?_, hrun, hended, _, _, rfl, ?_, ⟨_, rfl⟩, hW, hsame.mono (by decide) (by decide)⟩
  · exact retI X3 hx Bd.returns (hb hby d10_14) hr
  · show QBS13 Z a0 q3 t0 t1 t2 h0 n0 _ T3.heap _
    rw [e3]
    exact ⟨rfl, N3, rfl⟩
theorem ef_rmRC23 (m : MethodId)  : entryFrame m #[(.int (8 : Int32)), (.int (2 : Int32)), (.int (3 : Int32))] 3 = mkF m 0 #[.val (.int (8 : Int32)), .val (.int (2 : Int32)), .val (.int (3 : Int32))] [] := by first | (simp [entryFrame, mkF, argsToLocals, Value.category]; done) | rfl
def QRC23 (Z : State)  (h0 : Heap) (n0 : Nat) (v : Option Value) (h : Heap) (L : List Loc) : Prop := v = none ∧ Fr n0 L ∧ h = h0
set_option maxRecDepth 65536 in
set_option maxHeartbeats 40000000 in
theorem rmRC23 (l : Launch) (Z : State) (aw : Array Value) (hw : ∀ d ∈ tables_1, d.before aw Z = true) (ws : List Jvm.Cond)  (h0 : Heap) (n0 : Nat) (Z0 : n0 ≤ h0.size) :
    MetFree l (⟨"java/util/Arrays", "rangeCheck", "(III)V"⟩ : MethodName) (head1 (Jvm.Cond.code (⟨"java/util/Arrays", "rangeCheck", "(III)V"⟩ : MethodName) jdk_65_method_30_code 3 none :: ws) ({ frames := 0, cells := 0, slots := 0, locals := 0 } : Room)) (fun a U => a = #[(.int (8 : Int32)), (.int (2 : Int32)), (.int (3 : Int32))] ∧ Z.Warmed39 U.vm ∧ U.heap = h0) (fun _ _ _ _ _ => True) (fun _ U o U' => ∃ v L, o = .returned v ∧ QRC23 Z  h0 n0 v U'.heap L ∧ FrameEnd U o U' L ({ frames := 0, cells := 0, slots := 0, locals := 0 } : Room).cells ({ frames := 0, cells := 0, slots := 0, locals := 0 } : Room).slots) := by
  refine MetFree.of_bodySF (plainFor_of_name pn_2) hisR ?_
  intro p e s m args below meth c s₁ Bd hml0 hP hK
  obtain ⟨rfl, hZ, hh⟩ := hP
  have hx := Bd.exec
  have hby := Bd.bytes
  have hml : c.maxLocals = 3 := hml0
  have hown : s.vm.findClass "java/util/Arrays" = some m.cls := findClass_of_methodNamed Bd.named
  have hnm := (name_of_methodNamed Bd.named Bd.method).1
  have X0 : Stand p l e ({ frames := 0, cells := 0, slots := 0, locals := 0 } : Room) s m #[(.int (8 : Int32)), (.int (2 : Int32)), (.int (3 : Int32))] below meth c s₁ [] 0 0 := Stand.of_body Bd
  have e0 : s₁.heap = h0 := by rw [← hh, Bd.state]; rfl
  have N0 := Fr.nil n0
  have K0 : Keep h0 h0 [] := Keep.refl _ _
  refine own_by (A' := s₁.setTop (mkF m 0 #[.val (.int (8 : Int32)), .val (.int (2 : Int32)), .val (.int (3 : Int32))] [])) (fun t k => castTop (ef_rmRC23 m ) k) ?_
  refine own_by (A' := s₁.setTop (mkF m 2 #[.val (.int (8 : Int32)), .val (.int (2 : Int32)), .val (.int (3 : Int32))] [(.int (3 : Int32)), (.int (2 : Int32))])) (fun t kt => ?_) ?_
  · refine XS.iloadN X0.here hx rfl (hb hby d11_0) rfl ?_
    refine XS.iloadN X0.here hx rfl (hb hby d11_1) rfl ?_
    exact kt
  have hc2_1 : ¬ ((3 : Int32) < (2 : Int32)) := by decide
  refine own_by (A' := s₁.setTop (mkF m 47 #[.val (.int (8 : Int32)), .val (.int (2 : Int32)), .val (.int (3 : Int32))] [(.int (2 : Int32))])) (fun t kt => ?_) ?_
  · refine XS.icmpYes X0.here hx rfl (pc0 := 2) (pc' := 46) rfl (hb hby d11_2) rfl (flt hc2_1).2.2.2 (by decide) (by decide) ?_
    refine XS.iloadN X0.here hx rfl (hb hby d11_46) rfl ?_
    exact kt
  have hc47_2 : ¬ ((2 : Int32) < (0 : Int32)) := by decide
  refine own_by (A' := s₁.setTop (mkF m 61 #[.val (.int (8 : Int32)), .val (.int (2 : Int32)), .val (.int (3 : Int32))] [(.int (8 : Int32)), (.int (3 : Int32))])) (fun t kt => ?_) ?_
  · refine XS.ifYes X0.here hx rfl (pc0 := 47) (pc' := 59) rfl (hb hby d11_47) rfl ((if0 _ _).trans (flt hc47_2).2.1) (by decide) (by decide) ?_
    refine XS.iloadN X0.here hx rfl (hb hby d11_59) rfl ?_
    refine XS.iloadN X0.here hx rfl (hb hby d11_60) rfl ?_
    exact kt
  have hc61_3 : ¬ ((8 : Int32) < (3 : Int32)) := by decide
  refine own_by (A' := s₁.setTop (mkF m 73 #[.val (.int (8 : Int32)), .val (.int (2 : Int32)), .val (.int (3 : Int32))] [])) (fun t kt => ?_) ?_
  · refine XS.icmpYes X0.here hx rfl (pc0 := 61) (pc' := 73) rfl (hb hby d11_61) rfl (flt hc61_3).2.2.2 (by decide) (by decide) ?_
    exact kt
  obtain ⟨fs, hr, hrun, hended, hW, hsame⟩ := X0.leave (v := none) (fun _ => rfl)
  refine ⟨_, _, ?_, hrun, hended, _, _, rfl, ?_, ⟨_, rfl⟩, hW, hsame.mono (by decide) (by decide)⟩
  · exact X0.returnOut hx Bd.returns (hb hby d11_73) hr
  · show QRC23 Z  h0 n0 _ s₁.heap _
    rw [e0]
    exact ⟨rfl, N0, rfl⟩
def own_b023 (t0 t1 t2 q3 : Int64) : Int32 := (if t2 < q3 then (-(4 : Int32)) else (if q3 < t2 then (-(3 : Int32)) else (2 : Int32)))
theorem ef_rmB023 (m : MethodId) (a0 : Addr) (q3 : Int64) : entryFrame m #[(.ref a0), (.int (2 : Int32)), (.int (3 : Int32)), (.long q3)] 10 = mkF m 0 #[.val (.ref a0), .val (.int (2 : Int32)), .val (.int (3 : Int32)), .val (.long q3), .second, .unset, .unset, .unset, .unset, .unset] [] := by first | (simp [entryFrame, mkF, argsToLocals, Value.category]; done) | rfl
def QB023 (Z : State) (a0 : Addr) (q3 : Int64) (t0 : Int64) (t1 : Int64) (t2 : Int64) (h0 : Heap) (n0 : Nat) (v : Option Value) (h : Heap) (L : List Loc) : Prop := v = some (.int (own_b023 t0 t1 t2 q3)) ∧ Fr n0 L ∧ h = h0
set_option maxRecDepth 65536 in
set_option maxHeartbeats 40000000 in
theorem rmB023 (l : Launch) (Z : State) (aw : Array Value) (hw : ∀ d ∈ tables_1, d.before aw Z = true) (ws : List Jvm.Cond) (a0 : Addr) (q3 : Int64) (t0 : Int64) (t1 : Int64) (t2 : Int64) (h0 : Heap) (n0 : Nat) (Z0 : n0 ≤ h0.size) (V_a0 : AF Z h0 a0 .long (8 : Int32) (own_j3 t0 t1 t2)) :
    MetFree l (⟨"java/util/Arrays", "binarySearch0", "([JIIJ)I"⟩ : MethodName) (head1 (Jvm.Cond.code (⟨"java/util/Arrays", "binarySearch0", "([JIIJ)I"⟩ : MethodName) jdk_65_method_56_code 10 (some .int) :: ws) ({ frames := 0, cells := 0, slots := 0, locals := 0 } : Room)) (fun a U => a = #[(.ref a0), (.int (2 : Int32)), (.int (3 : Int32)), (.long q3)] ∧ Z.Warmed39 U.vm ∧ U.heap = h0) (fun _ _ _ _ _ => True) (fun _ U o U' => ∃ v L, o = .returned v ∧ QB023 Z a0 q3 t0 t1 t2 h0 n0 v U'.heap L ∧ FrameEnd U o U' L ({ frames := 0, cells := 0, slots := 0, locals := 0 } : Room).cells ({ frames := 0, cells := 0, slots := 0, locals := 0 } : Room).slots) := by
  refine MetFree.of_bodySF (plainFor_of_name pn_2) hisR ?_
  intro p e s m args below meth c s₁ Bd hml0 hP hK
  obtain ⟨rfl, hZ, hh⟩ := hP
  have hx := Bd.exec
  have hby := Bd.bytes
  have hml : c.maxLocals = 10 := hml0
  have hown : s.vm.findClass "java/util/Arrays" = some m.cls := findClass_of_methodNamed Bd.named
  have hnm := (name_of_methodNamed Bd.named Bd.method).1
  have X0 : Stand p l e ({ frames := 0, cells := 0, slots := 0, locals := 0 } : Room) s m #[(.ref a0), (.int (2 : Int32)), (.int (3 : Int32)), (.long q3)] below meth c s₁ [] 0 0 := Stand.of_body Bd
  have e0 : s₁.heap = h0 := by rw [← hh, Bd.state]; rfl
  have N0 := Fr.nil n0
  have K0 : Keep h0 h0 [] := Keep.refl _ _
  refine own_by (A' := s₁.setTop (mkF m 0 #[.val (.ref a0), .val (.int (2 : Int32)), .val (.int (3 : Int32)), .val (.long q3), .second, .unset, .unset, .unset, .unset, .unset] [])) (fun t k => castTop (ef_rmB023 m a0 q3) k) ?_
  refine own_by (A' := s₁.setTop (mkF m 12 #[.val (.ref a0), .val (.int (2 : Int32)), .val (.int (3 : Int32)), .val (.long q3), .second, .val (.int (2 : Int32)), .val (.int (2 : Int32)), .unset, .unset, .unset] [(.int (2 : Int32)), (.int (2 : Int32))])) (fun t kt => ?_) ?_
  · refine XS.iloadN X0.here hx rfl (hb hby d12_0) rfl ?_
    refine XS.istore X0.here hx rfl (hb hby d12_1) rfl (l' := #[.val (.ref a0), .val (.int (2 : Int32)), .val (.int (3 : Int32)), .val (.long q3), .second, .val (.int (2 : Int32)), .unset, .unset, .unset, .unset]) rfl ?_
    refine XS.iloadN X0.here hx rfl (hb hby d12_3) rfl ?_
    refine XS.iconst X0.here hx rfl (hb hby d12_4) ?_
    refine XS.isub X0.here hx rfl (hb hby d12_5) rfl ?_
    refine XS.istore X0.here hx rfl (hb hby d12_6) rfl (l' := #[.val (.ref a0), .val (.int (2 : Int32)), .val (.int (3 : Int32)), .val (.long q3), .second, .val (.int (2 : Int32)), .val (.int (2 : Int32)), .unset, .unset, .unset]) rfl ?_
    refine XS.iload X0.here hx rfl (hb hby d12_8) rfl ?_
    refine XS.iload X0.here hx rfl (hb hby d12_10) rfl ?_
    exact kt
  have hc12_1 : ¬ ((2 : Int32) < (2 : Int32)) := by decide
  refine own_by (A' := s₁.setTop (mkF m 27 #[.val (.ref a0), .val (.int (2 : Int32)), .val (.int (3 : Int32)), .val (.long q3), .second, .val (.int (2 : Int32)), .val (.int (2 : Int32)), .val (.int (2 : Int32)), .unset, .unset] [(.int (2 : Int32)), (.ref a0)])) (fun t kt => ?_) ?_
  · refine XS.icmpNo X0.here hx rfl (hb hby d12_12) rfl (flt hc12_1).2.2.1 ?_
    refine XS.iload X0.here hx rfl (hb hby d12_15) rfl ?_
    refine XS.iload X0.here hx rfl (hb hby d12_17) rfl ?_
    refine XS.iadd X0.here hx rfl (hb hby d12_19) rfl ?_
    refine XS.iconst X0.here hx rfl (hb hby d12_20) ?_
    refine XS.iushr X0.here hx rfl (hb hby d12_21) rfl ?_
    refine XS.istore X0.here hx rfl (hb hby d12_22) rfl (l' := #[.val (.ref a0), .val (.int (2 : Int32)), .val (.int (3 : Int32)), .val (.long q3), .second, .val (.int (2 : Int32)), .val (.int (2 : Int32)), .val (.int (2 : Int32)), .unset, .unset]) rfl ?_
    refine XS.aloadN X0.here hx rfl (hb hby d12_24) rfl rfl ?_
    refine XS.iload X0.here hx rfl (hb hby d12_25) rfl ?_
    exact kt
  obtain ⟨cl2, Ar2, Sz2, Mn2, Ha2⟩ := id V_a0
  have hin2 := inb_of (j := (2 : Int32)) Sz2 ⟨by decide, by decide⟩
  have hat2 : cl2.slots[((2 : Int32)).toNatClampNeg]? = some (.long t2) := (Ha2 _ (Nat.lt_of_not_le fun q => hin2 (Or.inr q))).trans (congrArg some rfl)
  refine own_by (A' := s₁.setTop (mkF m 34 #[.val (.ref a0), .val (.int (2 : Int32)), .val (.int (3 : Int32)), .val (.long q3), .second, .val (.int (2 : Int32)), .val (.int (2 : Int32)), .val (.int (2 : Int32)), .val (.long t2), .second] [(.int (lcmpW t2 q3))])) (fun t kt => ?_) ?_
  · refine X0.laload hx (j := (2 : Int32)) (v := (.long t2)) (by rw [e0]; exact Ar2.1) (State.isArrayOf_alike hZ.alike Ar2.2.1) Ar2.2.2 hin2 hat2 (g := (mkF m 27 #[.val (.ref a0), .val (.int (2 : Int32)), .val (.int (3 : Int32)), .val (.long q3), .second, .val (.int (2 : Int32)), .val (.int (2 : Int32)), .val (.int (2 : Int32)), .unset, .unset] [(.int (2 : Int32)), (.ref a0)])) rfl rfl (hb hby d12_27) _ ?_
    refine XS.lstore X0.here hx rfl (hb hby d12_28) rfl (l' := #[.val (.ref a0), .val (.int (2 : Int32)), .val (.int (3 : Int32)), .val (.long q3), .second, .val (.int (2 : Int32)), .val (.int (2 : Int32)), .val (.int (2 : Int32)), .val (.long t2), .second]) rfl ?_
    refine XS.lload X0.here hx rfl (hb hby d12_30) rfl ?_
    refine XS.lloadN X0.here hx rfl (hb hby d12_32) rfl ?_
    refine XS.lcmp X0.here hx rfl (hb hby d12_33) rfl ?_
    exact kt
  by_cases hc34_3 : t2 < q3
  · refine own_by (A' := s₁.setTop (mkF m 12 #[.val (.ref a0), .val (.int (2 : Int32)), .val (.int (3 : Int32)), .val (.long q3), .second, .val (.int (3 : Int32)), .val (.int (2 : Int32)), .val (.int (2 : Int32)), .val (.long t2), .second] [(.int (2 : Int32)), (.int (3 : Int32))])) (fun t kt => ?_) ?_
    · refine XS.ifNo X0.here hx rfl (hb hby d12_34) rfl ((if0 _ _).trans (tlt ((lw_lt _ _).mpr hc34_3)).2.1) ?_
      refine XS.iload X0.here hx rfl (hb hby d12_37) rfl ?_
      refine XS.iconst X0.here hx rfl (hb hby d12_39) ?_
      refine XS.iadd X0.here hx rfl (hb hby d12_40) rfl ?_
      refine XS.istore X0.here hx rfl (hb hby d12_41) rfl (l' := #[.val (.ref a0), .val (.int (2 : Int32)), .val (.int (3 : Int32)), .val (.long q3), .second, .val (.int (3 : Int32)), .val (.int (2 : Int32)), .val (.int (2 : Int32)), .val (.long t2), .second]) rfl ?_
      refine XS.goto X0.here hx rfl (pc0 := 43) (pc' := 65) rfl (hb hby d12_43) (by decide) (by decide) ?_
      refine XS.goto X0.here hx rfl (pc0 := 65) (pc' := 8) rfl (hb hby d12_65) (by decide) (by decide) ?_
      refine XS.iload X0.here hx rfl (hb hby d12_8) rfl ?_
      refine XS.iload X0.here hx rfl (hb hby d12_10) rfl ?_
      exact kt
    have hc12_4 : (2 : Int32) < (3 : Int32) := by decide
    refine own_by (A' := s₁.setTop (mkF m 73 #[.val (.ref a0), .val (.int (2 : Int32)), .val (.int (3 : Int32)), .val (.long q3), .second, .val (.int (3 : Int32)), .val (.int (2 : Int32)), .val (.int (2 : Int32)), .val (.long t2), .second] [(.int (-(4 : Int32)))])) (fun t kt => ?_) ?_
    · refine XS.icmpYes X0.here hx rfl (pc0 := 12) (pc' := 68) rfl (hb hby d12_12) rfl (tlt hc12_4).2.2.1 (by decide) (by decide) ?_
      refine XS.iload X0.here hx rfl (hb hby d12_68) rfl ?_
      refine XS.iconst X0.here hx rfl (hb hby d12_70) ?_
      refine XS.iadd X0.here hx rfl (hb hby d12_71) rfl ?_
      refine XS.ineg X0.here hx rfl (hb hby d12_72) rfl ?_
      exact kt
    obtain ⟨fs, hr, hrun, hended, hW, hsame⟩ := X0.leave (v := some (.int (-(4 : Int32)))) (fun h => by rw [Bd.returns] at h; cases h)
    refine ⟨_, _, ?_, hrun, hended, _, _, rfl, ?_, ⟨_, rfl⟩, hW, hsame.mono (by decide) (by decide)⟩
    · exact retI X0 hx Bd.returns (hb hby d12_73) hr
    · show QB023 Z a0 q3 t0 t1 t2 h0 n0 _ s₁.heap _
      rw [e0]
      exact ⟨(by rw [own_b023, if_pos hc34_3]), N0, rfl⟩
  · refine own_by (A' := s₁.setTop (mkF m 50 #[.val (.ref a0), .val (.int (2 : Int32)), .val (.int (3 : Int32)), .val (.long q3), .second, .val (.int (2 : Int32)), .val (.int (2 : Int32)), .val (.int (2 : Int32)), .val (.long t2), .second] [(.int (lcmpW t2 q3))])) (fun t kt => ?_) ?_
    · refine XS.ifYes X0.here hx rfl (pc0 := 34) (pc' := 46) rfl (hb hby d12_34) rfl ((if0 _ _).trans (flt (fun q => hc34_3 ((lw_lt _ _).mp q))).2.1) (by decide) (by decide) ?_
      refine XS.lload X0.here hx rfl (hb hby d12_46) rfl ?_
      refine XS.lloadN X0.here hx rfl (hb hby d12_48) rfl ?_
      refine XS.lcmp X0.here hx rfl (hb hby d12_49) rfl ?_
      exact kt
    by_cases hc50_5 : q3 < t2
    · refine own_by (A' := s₁.setTop (mkF m 12 #[.val (.ref a0), .val (.int (2 : Int32)), .val (.int (3 : Int32)), .val (.long q3), .second, .val (.int (2 : Int32)), .val (.int (1 : Int32)), .val (.int (2 : Int32)), .val (.long t2), .second] [(.int (1 : Int32)), (.int (2 : Int32))])) (fun t kt => ?_) ?_
      · refine XS.ifNo X0.here hx rfl (hb hby d12_50) rfl ((if0 _ _).trans (tlt ((lw_gt _ _).mpr hc50_5)).2.2.2) ?_
        refine XS.iload X0.here hx rfl (hb hby d12_53) rfl ?_
        refine XS.iconst X0.here hx rfl (hb hby d12_55) ?_
        refine XS.isub X0.here hx rfl (hb hby d12_56) rfl ?_
        refine XS.istore X0.here hx rfl (hb hby d12_57) rfl (l' := #[.val (.ref a0), .val (.int (2 : Int32)), .val (.int (3 : Int32)), .val (.long q3), .second, .val (.int (2 : Int32)), .val (.int (1 : Int32)), .val (.int (2 : Int32)), .val (.long t2), .second]) rfl ?_
        refine XS.goto X0.here hx rfl (pc0 := 59) (pc' := 65) rfl (hb hby d12_59) (by decide) (by decide) ?_
        refine XS.goto X0.here hx rfl (pc0 := 65) (pc' := 8) rfl (hb hby d12_65) (by decide) (by decide) ?_
        refine XS.iload X0.here hx rfl (hb hby d12_8) rfl ?_
        refine XS.iload X0.here hx rfl (hb hby d12_10) rfl ?_
        exact kt
      have hc12_6 : (1 : Int32) < (2 : Int32) := by decide
      refine own_by (A' := s₁.setTop (mkF m 73 #[.val (.ref a0), .val (.int (2 : Int32)), .val (.int (3 : Int32)), .val (.long q3), .second, .val (.int (2 : Int32)), .val (.int (1 : Int32)), .val (.int (2 : Int32)), .val (.long t2), .second] [(.int (-(3 : Int32)))])) (fun t kt => ?_) ?_
      · refine XS.icmpYes X0.here hx rfl (pc0 := 12) (pc' := 68) rfl (hb hby d12_12) rfl (tlt hc12_6).2.2.1 (by decide) (by decide) ?_
        refine XS.iload X0.here hx rfl (hb hby d12_68) rfl ?_
        refine XS.iconst X0.here hx rfl (hb hby d12_70) ?_
        refine XS.iadd X0.here hx rfl (hb hby d12_71) rfl ?_
        refine XS.ineg X0.here hx rfl (hb hby d12_72) rfl ?_
        exact kt
      obtain ⟨fs, hr, hrun, hended, hW, hsame⟩ := X0.leave (v := some (.int (-(3 : Int32)))) (fun h => by rw [Bd.returns] at h; cases h)
      refine ⟨_, _, ?_, hrun, hended, _, _, rfl, ?_, ⟨_, rfl⟩, hW, hsame.mono (by decide) (by decide)⟩
      · exact retI X0 hx Bd.returns (hb hby d12_73) hr
      · show QB023 Z a0 q3 t0 t1 t2 h0 n0 _ s₁.heap _
        rw [e0]
        exact ⟨(by rw [own_b023, if_neg hc34_3, if_pos hc50_5]), N0, rfl⟩
    · refine own_by (A' := s₁.setTop (mkF m 64 #[.val (.ref a0), .val (.int (2 : Int32)), .val (.int (3 : Int32)), .val (.long q3), .second, .val (.int (2 : Int32)), .val (.int (2 : Int32)), .val (.int (2 : Int32)), .val (.long t2), .second] [(.int (2 : Int32))])) (fun t kt => ?_) ?_
      · refine XS.ifYes X0.here hx rfl (pc0 := 50) (pc' := 62) rfl (hb hby d12_50) rfl ((if0 _ _).trans (flt (fun q => hc50_5 ((lw_gt _ _).mp q))).2.2.2) (by decide) (by decide) ?_
        refine XS.iload X0.here hx rfl (hb hby d12_62) rfl ?_
        exact kt
      obtain ⟨fs, hr, hrun, hended, hW, hsame⟩ := X0.leave (v := some (.int (2 : Int32))) (fun h => by rw [Bd.returns] at h; cases h)
      refine ⟨_, _, ?_, hrun, hended, _, _, rfl, ?_, ⟨_, rfl⟩, hW, hsame.mono (by decide) (by decide)⟩
      · exact retI X0 hx Bd.returns (hb hby d12_64) hr
      · show QB023 Z a0 q3 t0 t1 t2 h0 n0 _ s₁.heap _
        rw [e0]
        exact ⟨(by rw [own_b023, if_neg hc34_3, if_neg hc50_5]), N0, rfl⟩
theorem ef_rmBS23 (m : MethodId) (a0 : Addr) (q3 : Int64) : entryFrame m #[(.ref a0), (.int (2 : Int32)), (.int (3 : Int32)), (.long q3)] 5 = mkF m 0 #[.val (.ref a0), .val (.int (2 : Int32)), .val (.int (3 : Int32)), .val (.long q3), .second] [] := by first | (simp [entryFrame, mkF, argsToLocals, Value.category]; done) | rfl
def QBS23 (Z : State) (a0 : Addr) (q3 : Int64) (t0 : Int64) (t1 : Int64) (t2 : Int64) (h0 : Heap) (n0 : Nat) (v : Option Value) (h : Heap) (L : List Loc) : Prop := v = some (.int (own_b023 t0 t1 t2 q3)) ∧ Fr n0 L ∧ h = h0
set_option maxRecDepth 65536 in
set_option maxHeartbeats 40000000 in
theorem rmBS23 (l : Launch) (Z : State) (aw : Array Value) (hw : ∀ d ∈ tables_1, d.before aw Z = true) (ws : List Jvm.Cond) (a0 : Addr) (q3 : Int64) (t0 : Int64) (t1 : Int64) (t2 : Int64) (h0 : Heap) (n0 : Nat) (Z0 : n0 ≤ h0.size) (V_a0 : AF Z h0 a0 .long (8 : Int32) (own_j3 t0 t1 t2)) :
    MetFree l (⟨"java/util/Arrays", "binarySearch", "([JIIJ)I"⟩ : MethodName) (head1 (Jvm.Cond.code (⟨"java/util/Arrays", "binarySearch", "([JIIJ)I"⟩ : MethodName) jdk_65_method_55_code 5 (some .int) :: ws) ({ frames := 1, cells := 0, slots := 0, locals := 21 } : Room)) (fun a U => a = #[(.ref a0), (.int (2 : Int32)), (.int (3 : Int32)), (.long q3)] ∧ Z.Warmed39 U.vm ∧ U.heap = h0) (fun _ _ _ _ _ => True) (fun _ U o U' => ∃ v L, o = .returned v ∧ QBS23 Z a0 q3 t0 t1 t2 h0 n0 v U'.heap L ∧ FrameEnd U o U' L ({ frames := 1, cells := 0, slots := 0, locals := 21 } : Room).cells ({ frames := 1, cells := 0, slots := 0, locals := 21 } : Room).slots) := by
  refine MetFree.of_bodySF (plainFor_of_name pn_2) hisR ?_
  intro p e s m args below meth c s₁ Bd hml0 hP hK
  obtain ⟨rfl, hZ, hh⟩ := hP
  have hx := Bd.exec
  have hby := Bd.bytes
  have hml : c.maxLocals = 5 := hml0
  have hown : s.vm.findClass "java/util/Arrays" = some m.cls := findClass_of_methodNamed Bd.named
  have hnm := (name_of_methodNamed Bd.named Bd.method).1
  have X0 : Stand p l e ({ frames := 1, cells := 0, slots := 0, locals := 21 } : Room) s m #[(.ref a0), (.int (2 : Int32)), (.int (3 : Int32)), (.long q3)] below meth c s₁ [] 0 0 := Stand.of_body Bd
  have e0 : s₁.heap = h0 := by rw [← hh, Bd.state]; rfl
  have N0 := Fr.nil n0
  have K0 : Keep h0 h0 [] := Keep.refl _ _
  refine own_by (A' := s₁.setTop (mkF m 0 #[.val (.ref a0), .val (.int (2 : Int32)), .val (.int (3 : Int32)), .val (.long q3), .second] [])) (fun t k => castTop (ef_rmBS23 m a0 q3) k) ?_
  refine own_by (A' := s₁.setTop (mkF m 1 #[.val (.ref a0), .val (.int (2 : Int32)), .val (.int (3 : Int32)), .val (.long q3), .second] [(.ref a0)])) (fun t kt => ?_) ?_
  · refine XS.aloadN X0.here hx rfl (hb hby d10_0) rfl rfl ?_
    exact kt
  obtain ⟨cl1, Ar1, Sz1, Mn1, -⟩ := id V_a0
  refine own_by (A' := s₁.setTop (mkF m 4 #[.val (.ref a0), .val (.int (2 : Int32)), .val (.int (3 : Int32)), .val (.long q3), .second] [(.int (3 : Int32)), (.int (2 : Int32)), (.int (8 : Int32))])) (fun t kt => ?_) ?_
  · refine X0.arraylength hx (by rw [e0]; exact Ar1.1) (State.isArrayOf_alike hZ.alike Ar1.2.1) (g := (mkF m 1 #[.val (.ref a0), .val (.int (2 : Int32)), .val (.int (3 : Int32)), .val (.long q3), .second] [(.ref a0)])) rfl rfl (hb hby d10_1) _ ?_
    rw [len_of Sz1 Mn1]
    refine XS.iloadN X0.here hx rfl (hb hby d10_2) rfl ?_
    refine XS.iloadN X0.here hx rfl (hb hby d10_3) rfl ?_
    exact kt
  obtain ⟨_, _, ⟨T2, L2, k2, n2⟩, -, X2, ⟨Lc2, hQ2, l2, y2, z2⟩, st2⟩ := Jvm.LawKit.callS X0 hx (y := (⟨"java/util/Arrays", "rangeCheck", "(III)V"⟩ : MethodName)) hown (mvT hZ (wd70 hw)) (mvT hZ (wd71 hw)) (mvT hZ (wd68 hw)) (mvT hZ (wd72 hw)) (by decide) (backOf (W := 0) (rmRC23 l Z aw hw []  h0 n0 (Nat.le_trans Z0 K0.1) ) hZ (wd72 hw) (wd68 hw) (by decide) (by decide)) (g := (mkF m 4 #[.val (.ref a0), .val (.int (2 : Int32)), .val (.int (3 : Int32)), .val (.long q3), .second] [(.int (3 : Int32)), (.int (2 : Int32)), (.int (8 : Int32))])) rfl (by rw [hml]; rfl) (argsL := [(.int (8 : Int32)), (.int (2 : Int32)), (.int (3 : Int32))]) (rest := []) (lenOf pd_3 rfl) rfl (by show 2 * 0 + _ ≤ _; exact Nat.le_of_eq rfl) (hb hby d10_4) (fun _ _ => ⟨rfl, e0, (by decide : 0 + 0 ≤ _), (by decide : 0 + 0 ≤ _)⟩)
  dsimp only [Pt.U, Pt.locs, Pt.cells, Pt.slots] at X2 l2 y2 z2 st2 hQ2
  subst l2 y2 z2
  obtain ⟨rfl, N2q, e2⟩ := hQ2
  have N2 := Fr.app N0 N2q
  refine own_by (A' := T2.setTop (mkF m 11 #[.val (.ref a0), .val (.int (2 : Int32)), .val (.int (3 : Int32)), .val (.long q3), .second] [(.long q3), (.int (3 : Int32)), (.int (2 : Int32)), (.ref a0)])) (fun t kt => ?_) ?_
  · refine st2 t ?_
    refine XS.aloadN X2.here hx rfl (hb hby d10_7) rfl rfl ?_
    refine XS.iloadN X2.here hx rfl (hb hby d10_8) rfl ?_
    refine XS.iloadN X2.here hx rfl (hb hby d10_9) rfl ?_
    refine XS.lloadN X2.here hx rfl (hb hby d10_10) rfl ?_
    exact kt
  obtain ⟨_, _, ⟨T3, L3, k3, n3⟩, -, X3, ⟨Lc3, hQ3, l3, y3, z3⟩, st3⟩ := Jvm.LawKit.callS X2 hx (y := (⟨"java/util/Arrays", "binarySearch0", "([JIIJ)I"⟩ : MethodName)) hown (mvT hZ (wd73 hw)) (mvT hZ (wd74 hw)) (mvT hZ (wd68 hw)) (mvT hZ (wd75 hw)) (by decide) (backOf (W := 0) (rmB023 l Z aw hw [] a0 q3 t0 t1 t2 h0 n0 (Nat.le_trans Z0 K0.1) V_a0) hZ (wd75 hw) (wd68 hw) (by decide) (by decide)) (g := (mkF m 11 #[.val (.ref a0), .val (.int (2 : Int32)), .val (.int (3 : Int32)), .val (.long q3), .second] [(.long q3), (.int (3 : Int32)), (.int (2 : Int32)), (.ref a0)])) rfl (by rw [hml]; rfl) (argsL := [(.ref a0), (.int (2 : Int32)), (.int (3 : Int32)), (.long q3)]) (rest := []) (lenOf pd_4 rfl) rfl (by show 2 * 0 + _ ≤ _; exact Nat.le_of_eq rfl) (hb hby d10_11) (fun _ _ => ⟨rfl, e2, (by decide : 0 + 0 ≤ _), (by decide : 0 + 0 ≤ _)⟩)
  dsimp only [Pt.U, Pt.locs, Pt.cells, Pt.slots] at X3 l3 y3 z3 st3 hQ3
  subst l3 y3 z3
  obtain ⟨rfl, N3q, e3⟩ := hQ3
  have N3 := Fr.app N2 N3q
  refine own_by (A' := T3.setTop (mkF m 14 #[.val (.ref a0), .val (.int (2 : Int32)), .val (.int (3 : Int32)), .val (.long q3), .second] [(.int (own_b023 t0 t1 t2 q3))])) (fun t kt => st3 t kt) ?_
  obtain ⟨fs, hr, hrun, hended, hW, hsame⟩ := X3.leave (v := some (.int (own_b023 t0 t1 t2 q3))) (fun h => by rw [Bd.returns] at h; cases h)
  refine ⟨_, _, ?_, hrun, hended, _, _, rfl, ?_, ⟨_, rfl⟩, hW, hsame.mono (by decide) (by decide)⟩
  · exact retI X3 hx Bd.returns (hb hby d10_14) hr
  · show QBS23 Z a0 q3 t0 t1 t2 h0 n0 _ T3.heap _
    rw [e3]
    exact ⟨rfl, N3, rfl⟩
def own_fa00 (t0 t1 t2 q1 : Int64) : Int32 := (0 : Int32)
theorem own_faS00 {t0 t1 t2 x : Int64} (hs : own_Srt 0 0 t0 t1 t2) : own_FA 0 0 t0 t1 t2 x (own_fa00 t0 t1 t2 x) := by
  simp only [own_Srt, Int64.lt_iff_toInt_lt, Int32.reduceToInt] at hs
  all_goals first
    | (exfalso; simp only [Int64.lt_iff_toInt_lt] at *; omega)
    | (simp [own_FA, own_fa00]; done)
    | (simp [own_FA, own_fa00]; simp only [Int64.lt_iff_toInt_lt] at *; omega)
theorem d6_0 : decode prog_124_method_7_code 0 = .ok (.aload_n 0, 1) := by decide +kernel
theorem d6_1 : decode prog_124_method_7_code 1 = .ok (.getfield 25, 3) := by decide +kernel
theorem d6_4 : decode prog_124_method_7_code 4 = .ok (.aload_n 0, 1) := by decide +kernel
theorem d6_5 : decode prog_124_method_7_code 5 = .ok (.getfield 28, 3) := by decide +kernel
theorem d6_8 : decode prog_124_method_7_code 8 = .ok (.if_icmp .eq 19, 3) := by decide +kernel
theorem d6_27 : decode prog_124_method_7_code 27 = .ok (.aload_n 0, 1) := by decide +kernel
theorem d6_28 : decode prog_124_method_7_code 28 = .ok (.getfield 28, 3) := by decide +kernel
theorem d6_31 : decode prog_124_method_7_code 31 = .ok (.ireturn, 1) := by decide +kernel
theorem ef_rmFA00 (m : MethodId) (a0 : Addr) (q1 : Int64) : entryFrame m #[(.ref a0), (.long q1)] 4 = mkF m 0 #[.val (.ref a0), .val (.long q1), .second, .unset] [] := by first | (simp [entryFrame, mkF, argsToLocals, Value.category]; done) | rfl
set_option maxRecDepth 65536 in
set_option maxHeartbeats 40000000 in
theorem rmFA00 (l : Launch) (Z : State) (aw : Array Value) (hw : ∀ d ∈ tables_1, d.before aw Z = true) (ws : List Jvm.Cond) (a0 : Addr) (q1 : Int64) (tt : Addr) (t0 : Int64) (t1 : Int64) (t2 : Int64) (h0 : Heap) (n0 : Nat) (Z0 : n0 ≤ h0.size) (F_t : Fld Z h0 a0 "com/example/fairshed/fairshed/shedding/SicByTime" "timesUs" "[J" (.ref tt)) (F_f : Fld Z h0 a0 "com/example/fairshed/fairshed/shedding/SicByTime" "first" "I" (.int (0 : Int32))) (F_n : Fld Z h0 a0 "com/example/fairshed/fairshed/shedding/SicByTime" "end" "I" (.int (0 : Int32))) (V_t : AF Z h0 tt .long (8 : Int32) (own_j3 t0 t1 t2)) (hs : own_Srt (0 : Int32) (0 : Int32) t0 t1 t2) :
    MetFree l (⟨"com/example/fairshed/fairshed/shedding/SicByTime", "firstAfter", "(J)I"⟩ : MethodName) (head1 (Jvm.Cond.code (⟨"com/example/fairshed/fairshed/shedding/SicByTime", "firstAfter", "(J)I"⟩ : MethodName) prog_124_method_7_code 4 (some .int) :: ws) ({ frames := 2, cells := 0, slots := 0, locals := 37 } : Room)) (fun a U => a = #[(.ref a0), (.long q1)] ∧ Z.Warmed39 U.vm ∧ U.heap = h0) (fun _ _ _ _ _ => True) (fun _ U o U' => ∃ v L, o = .returned v ∧ QFAu Z a0 q1 t0 t1 t2 (0 : Int32) (0 : Int32) h0 n0 v U'.heap L ∧ FrameEnd U o U' L ({ frames := 2, cells := 0, slots := 0, locals := 37 } : Room).cells ({ frames := 2, cells := 0, slots := 0, locals := 37 } : Room).slots) := by
  refine MetFree.of_bodySF (plainFor_of_name pn_0) hisR ?_
  intro p e s m args below meth c s₁ Bd hml0 hP hK
  obtain ⟨rfl, hZ, hh⟩ := hP
  have hx := Bd.exec
  have hby := Bd.bytes
  have hml : c.maxLocals = 4 := hml0
  have hown : s.vm.findClass "com/example/fairshed/fairshed/shedding/SicByTime" = some m.cls := findClass_of_methodNamed Bd.named
  have hnm := (name_of_methodNamed Bd.named Bd.method).1
  have X0 : Stand p l e ({ frames := 2, cells := 0, slots := 0, locals := 37 } : Room) s m #[(.ref a0), (.long q1)] below meth c s₁ [] 0 0 := Stand.of_body Bd
  have e0 : s₁.heap = h0 := by rw [← hh, Bd.state]; rfl
  have N0 := Fr.nil n0
  have K0 : Keep h0 h0 [] := Keep.refl _ _
  refine own_by (A' := s₁.setTop (mkF m 0 #[.val (.ref a0), .val (.long q1), .second, .unset] [])) (fun t k => castTop (ef_rmFA00 m a0 q1) k) ?_
  refine own_by (A' := s₁.setTop (mkF m 1 #[.val (.ref a0), .val (.long q1), .second, .unset] [(.ref a0)])) (fun t kt => ?_) ?_
  · refine XS.aloadN X0.here hx rfl (hb hby d6_0) rfl rfl ?_
    exact kt
  obtain ⟨T1, X1, e1, st1⟩ := getF X0 hx hZ hown (host := "") (Or.inl (wd26 hw)) Via.refl e0 F_f (g := (mkF m 1 #[.val (.ref a0), .val (.long q1), .second, .unset] [(.ref a0)])) rfl rfl (hb hby d6_1)
  refine own_by (A' := T1.setTop (mkF m 5 #[.val (.ref a0), .val (.long q1), .second, .unset] [(.ref a0), (.int (0 : Int32))])) (fun t kt => ?_) ?_
  · refine st1 t ?_
    refine XS.aloadN X1.here hx rfl (hb hby d6_4) rfl rfl ?_
    exact kt
  obtain ⟨T2, X2, e2, st2⟩ := getF X1 hx hZ hown (host := "") (Or.inl (wd28 hw)) Via.refl e1 F_n (g := (mkF m 5 #[.val (.ref a0), .val (.long q1), .second, .unset] [(.ref a0), (.int (0 : Int32))])) rfl rfl (hb hby d6_5)
  refine own_by (A' := T2.setTop (mkF m 8 #[.val (.ref a0), .val (.long q1), .second, .unset] [(.int (0 : Int32)), (.int (0 : Int32))])) (fun t kt => st2 t kt) ?_
  have hc8_3 : (0 : Int32) = (0 : Int32) := by decide
  refine own_by (A' := T2.setTop (mkF m 28 #[.val (.ref a0), .val (.long q1), .second, .unset] [(.ref a0)])) (fun t kt => ?_) ?_
  · refine XS.icmpYes X2.here hx rfl (pc0 := 8) (pc' := 27) rfl (hb hby d6_8) rfl (teq hc8_3).1 (by decide) (by decide) ?_
    refine XS.aloadN X2.here hx rfl (hb hby d6_27) rfl rfl ?_
    exact kt
  obtain ⟨T4, X4, e4, st4⟩ := getF X2 hx hZ hown (host := "") (Or.inl (wd28 hw)) Via.refl e2 F_n (g := (mkF m 28 #[.val (.ref a0), .val (.long q1), .second, .unset] [(.ref a0)])) rfl rfl (hb hby d6_28)
  refine own_by (A' := T4.setTop (mkF m 31 #[.val (.ref a0), .val (.long q1), .second, .unset] [(.int (0 : Int32))])) (fun t kt => st4 t kt) ?_
  obtain ⟨fs, hr, hrun, hended, hW, hsame⟩ := X4.leave (v := some (.int (0 : Int32))) (fun h => by rw [Bd.returns] at h; cases h)
  refine ⟨_, _, ?_, hrun, hended, _, _, rfl, ?_, ⟨_, rfl⟩, hW, hsame.mono (by decide) (by decide)⟩
  · exact retI X4 hx Bd.returns (hb hby d6_31) hr
  · show QFAu Z a0 q1 t0 t1 t2 (0 : Int32) (0 : Int32) h0 n0 _ T4.heap _
    rw [e4]
    exact ⟨_, rfl, own_faS00 hs, N0, rfl⟩
def own_fa01 (t0 t1 t2 q1 : Int64) : Int32 := (if q1 < t0 then (if q1 < t0 then (0 : Int32) else (if (own_b001 t0 t1 t2 q1) < (0 : Int32) then ((-(own_b001 t0 t1 t2 q1)) - (1 : Int32)) else ((own_b001 t0 t1 t2 q1) + (1 : Int32)))) else (1 : Int32))
theorem own_faS01 {t0 t1 t2 x : Int64} (hs : own_Srt 0 1 t0 t1 t2) : own_FA 0 1 t0 t1 t2 x (own_fa01 t0 t1 t2 x) := by
  simp only [own_Srt, Int64.lt_iff_toInt_lt, Int32.reduceToInt] at hs
  by_cases c0 : x < t0 <;> by_cases d0 : t0 < x
  all_goals first
    | (exfalso; simp only [Int64.lt_iff_toInt_lt] at *; omega)
    | (simp [own_FA, own_fa01, own_b001, c0, d0]; done)
    | (simp [own_FA, own_fa01, own_b001, c0, d0]; simp only [Int64.lt_iff_toInt_lt] at *; omega)
theorem d6_11 : decode prog_124_method_7_code 11 = .ok (.aload_n 0, 1) := by decide +kernel
theorem d6_12 : decode prog_124_method_7_code 12 = .ok (.getfield 9, 3) := by decide +kernel
theorem d6_15 : decode prog_124_method_7_code 15 = .ok (.aload_n 0, 1) := by decide +kernel
theorem d6_16 : decode prog_124_method_7_code 16 = .ok (.getfield 28, 3) := by decide +kernel
theorem d6_19 : decode prog_124_method_7_code 19 = .ok (.iconst 1, 1) := by decide +kernel
theorem d6_20 : decode prog_124_method_7_code 20 = .ok (.isub, 1) := by decide +kernel
theorem d6_21 : decode prog_124_method_7_code 21 = .ok (.laload, 1) := by decide +kernel
theorem d6_22 : decode prog_124_method_7_code 22 = .ok (.lload_n 1, 1) := by decide +kernel
theorem d6_23 : decode prog_124_method_7_code 23 = .ok (.lcmp, 1) := by decide +kernel
theorem d6_24 : decode prog_124_method_7_code 24 = .ok (.ifCond .gt 8, 3) := by decide +kernel
theorem d6_32 : decode prog_124_method_7_code 32 = .ok (.aload_n 0, 1) := by decide +kernel
theorem d6_33 : decode prog_124_method_7_code 33 = .ok (.getfield 9, 3) := by decide +kernel
theorem d6_36 : decode prog_124_method_7_code 36 = .ok (.aload_n 0, 1) := by decide +kernel
theorem d6_37 : decode prog_124_method_7_code 37 = .ok (.getfield 25, 3) := by decide +kernel
theorem d6_40 : decode prog_124_method_7_code 40 = .ok (.laload, 1) := by decide +kernel
theorem d6_41 : decode prog_124_method_7_code 41 = .ok (.lload_n 1, 1) := by decide +kernel
theorem d6_42 : decode prog_124_method_7_code 42 = .ok (.lcmp, 1) := by decide +kernel
theorem d6_43 : decode prog_124_method_7_code 43 = .ok (.ifCond .le 8, 3) := by decide +kernel
theorem d6_46 : decode prog_124_method_7_code 46 = .ok (.aload_n 0, 1) := by decide +kernel
theorem d6_47 : decode prog_124_method_7_code 47 = .ok (.getfield 25, 3) := by decide +kernel
theorem d6_50 : decode prog_124_method_7_code 50 = .ok (.ireturn, 1) := by decide +kernel
theorem d6_51 : decode prog_124_method_7_code 51 = .ok (.aload_n 0, 1) := by decide +kernel
theorem d6_52 : decode prog_124_method_7_code 52 = .ok (.getfield 9, 3) := by decide +kernel
theorem d6_55 : decode prog_124_method_7_code 55 = .ok (.aload_n 0, 1) := by decide +kernel
theorem d6_56 : decode prog_124_method_7_code 56 = .ok (.getfield 25, 3) := by decide +kernel
theorem d6_59 : decode prog_124_method_7_code 59 = .ok (.aload_n 0, 1) := by decide +kernel
theorem d6_60 : decode prog_124_method_7_code 60 = .ok (.getfield 28, 3) := by decide +kernel
theorem d6_63 : decode prog_124_method_7_code 63 = .ok (.lload_n 1, 1) := by decide +kernel
theorem d6_64 : decode prog_124_method_7_code 64 = .ok (.invokestatic 63, 3) := by decide +kernel
theorem d6_67 : decode prog_124_method_7_code 67 = .ok (.istore_n 3, 1) := by decide +kernel
theorem d6_68 : decode prog_124_method_7_code 68 = .ok (.iload_n 3, 1) := by decide +kernel
theorem d6_69 : decode prog_124_method_7_code 69 = .ok (.ifCond .lt 9, 3) := by decide +kernel
theorem d6_72 : decode prog_124_method_7_code 72 = .ok (.iload_n 3, 1) := by decide +kernel
theorem d6_73 : decode prog_124_method_7_code 73 = .ok (.iconst 1, 1) := by decide +kernel
theorem d6_74 : decode prog_124_method_7_code 74 = .ok (.iadd, 1) := by decide +kernel
theorem d6_75 : decode prog_124_method_7_code 75 = .ok (.goto 7, 3) := by decide +kernel
theorem d6_78 : decode prog_124_method_7_code 78 = .ok (.iload_n 3, 1) := by decide +kernel
theorem d6_79 : decode prog_124_method_7_code 79 = .ok (.ineg, 1) := by decide +kernel
theorem d6_80 : decode prog_124_method_7_code 80 = .ok (.iconst 1, 1) := by decide +kernel
theorem d6_81 : decode prog_124_method_7_code 81 = .ok (.isub, 1) := by decide +kernel
theorem d6_82 : decode prog_124_method_7_code 82 = .ok (.ireturn, 1) := by decide +kernel
theorem ef_rmFA01 (m : MethodId) (a0 : Addr) (q1 : Int64) : entryFrame m #[(.ref a0), (.long q1)] 4 = mkF m 0 #[.val (.ref a0), .val (.long q1), .second, .unset] [] := by first | (simp [entryFrame, mkF, argsToLocals, Value.category]; done) | rfl
set_option maxRecDepth 65536 in
set_option maxHeartbeats 40000000 in
theorem rmFA01 (l : Launch) (Z : State) (aw : Array Value) (hw : ∀ d ∈ tables_1, d.before aw Z = true) (ws : List Jvm.Cond) (a0 : Addr) (q1 : Int64) (tt : Addr) (t0 : Int64) (t1 : Int64) (t2 : Int64) (h0 : Heap) (n0 : Nat) (Z0 : n0 ≤ h0.size) (F_t : Fld Z h0 a0 "com/example/fairshed/fairshed/shedding/SicByTime" "timesUs" "[J" (.ref tt)) (F_f : Fld Z h0 a0 "com/example/fairshed/fairshed/shedding/SicByTime" "first" "I" (.int (0 : Int32))) (F_n : Fld Z h0 a0 "com/example/fairshed/fairshed/shedding/SicByTime" "end" "I" (.int (1 : Int32))) (V_t : AF Z h0 tt .long (8 : Int32) (own_j3 t0 t1 t2)) (hs : own_Srt (0 : Int32) (1 : Int32) t0 t1 t2) :
    MetFree l (⟨"com/example/fairshed/fairshed/shedding/SicByTime", "firstAfter", "(J)I"⟩ : MethodName) (head1 (Jvm.Cond.code (⟨"com/example/fairshed/fairshed/shedding/SicByTime", "firstAfter", "(J)I"⟩ : MethodName) prog_124_method_7_code 4 (some .int) :: ws) ({ frames := 2, cells := 0, slots := 0, locals := 37 } : Room)) (fun a U => a = #[(.ref a0), (.long q1)] ∧ Z.Warmed39 U.vm ∧ U.heap = h0) (fun _ _ _ _ _ => True) (fun _ U o U' => ∃ v L, o = .returned v ∧ QFAu Z a0 q1 t0 t1 t2 (0 : Int32) (1 : Int32) h0 n0 v U'.heap L ∧ FrameEnd U o U' L ({ frames := 2, cells := 0, slots := 0, locals := 37 } : Room).cells ({ frames := 2, cells := 0, slots := 0, locals := 37 } : Room).slots) := by
  refine MetFree.of_bodySF (plainFor_of_name pn_0) hisR ?_
  intro p e s m args below meth c s₁ Bd hml0 hP hK
  obtain ⟨rfl, hZ, hh⟩ := hP
  have hx := Bd.exec
  have hby := Bd.bytes
  have hml : c.maxLocals = 4 := hml0
  have hown : s.vm.findClass "com/example/fairshed/fairshed/shedding/SicByTime" = some m.cls := findClass_of_methodNamed Bd.named
  have hnm := (name_of_methodNamed Bd.named Bd.method).1
  have X0 : Stand p l e ({ frames := 2, cells := 0, slots := 0, locals := 37 } : Room) s m #[(.ref a0), (.long q1)] below meth c s₁ [] 0 0 := Stand.of_body Bd
  have e0 : s₁.heap = h0 := by rw [← hh, Bd.state]; rfl
  have N0 := Fr.nil n0
  have K0 : Keep h0 h0 [] := Keep.refl _ _
  refine own_by (A' := s₁.setTop (mkF m 0 #[.val (.ref a0), .val (.long q1), .second, .unset] [])) (fun t k => castTop (ef_rmFA01 m a0 q1) k) ?_
  refine own_by (A' := s₁.setTop (mkF m 1 #[.val (.ref a0), .val (.long q1), .second, .unset] [(.ref a0)])) (fun t kt => ?_) ?_
  · refine XS.aloadN X0.here hx rfl (hb hby d6_0) rfl rfl ?_
    exact kt
  obtain ⟨T1, X1, e1, st1⟩ := getF X0 hx hZ hown (host := "") (Or.inl (wd26 hw)) Via.refl e0 F_f (g := (mkF m 1 #[.val (.ref a0), .val (.long q1), .second, .unset] [(.ref a0)])) rfl rfl (hb hby d6_1)
  refine own_by (A' := T1.setTop (mkF m 5 #[.val (.ref a0), .val (.long q1), .second, .unset] [(.ref a0), (.int (0 : Int32))])) (fun t kt => ?_) ?_
  · refine st1 t ?_
    refine XS.aloadN X1.here hx rfl (hb hby d6_4) rfl rfl ?_
    exact kt
  obtain ⟨T2, X2, e2, st2⟩ := getF X1 hx hZ hown (host := "") (Or.inl (wd28 hw)) Via.refl e1 F_n (g := (mkF m 5 #[.val (.ref a0), .val (.long q1), .second, .unset] [(.ref a0), (.int (0 : Int32))])) rfl rfl (hb hby d6_5)
  refine own_by (A' := T2.setTop (mkF m 8 #[.val (.ref a0), .val (.long q1), .second, .unset] [(.int (1 : Int32)), (.int (0 : Int32))])) (fun t kt => st2 t kt) ?_
  have hc8_3 : ¬ ((0 : Int32) = (1 : Int32)) := by decide
  refine own_by (A' := T2.setTop (mkF m 12 #[.val (.ref a0), .val (.long q1), .second, .unset] [(.ref a0)])) (fun t kt => ?_) ?_
  · refine XS.icmpNo X2.here hx rfl (hb hby d6_8) rfl (feq hc8_3).1 ?_
    refine XS.aloadN X2.here hx rfl (hb hby d6_11) rfl rfl ?_
    exact kt
  obtain ⟨T4, X4, e4, st4⟩ := getF X2 hx hZ hown (host := "") (Or.inl (wd14 hw)) Via.refl e2 F_t (g := (mkF m 12 #[.val (.ref a0), .val (.long q1), .second, .unset] [(.ref a0)])) rfl rfl (hb hby d6_12)
  refine own_by (A' := T4.setTop (mkF m 16 #[.val (.ref a0), .val (.long q1), .second, .unset] [(.ref a0), (.ref tt)])) (fun t kt => ?_) ?_
  · refine st4 t ?_
    refine XS.aloadN X4.here hx rfl (hb hby d6_15) rfl rfl ?_
    exact kt
  obtain ⟨T5, X5, e5, st5⟩ := getF X4 hx hZ hown (host := "") (Or.inl (wd28 hw)) Via.refl e4 F_n (g := (mkF m 16 #[.val (.ref a0), .val (.long q1), .second, .unset] [(.ref a0), (.ref tt)])) rfl rfl (hb hby d6_16)
  refine own_by (A' := T5.setTop (mkF m 21 #[.val (.ref a0), .val (.long q1), .second, .unset] [(.int (0 : Int32)), (.ref tt)])) (fun t kt => ?_) ?_
  · refine st5 t ?_
    refine XS.iconst X5.here hx rfl (hb hby d6_19) ?_
    refine XS.isub X5.here hx rfl (hb hby d6_20) rfl ?_
    exact kt
  obtain ⟨cl6, Ar6, Sz6, Mn6, Ha6⟩ := id V_t
  have hin6 := inb_of (j := (0 : Int32)) Sz6 ⟨by decide, by decide⟩
  have hat6 : cl6.slots[((0 : Int32)).toNatClampNeg]? = some (.long t0) := (Ha6 _ (Nat.lt_of_not_le fun q => hin6 (Or.inr q))).trans (congrArg some rfl)
  refine own_by (A' := T5.setTop (mkF m 24 #[.val (.ref a0), .val (.long q1), .second, .unset] [(.int (lcmpW t0 q1))])) (fun t kt => ?_) ?_
  · refine X5.laload hx (j := (0 : Int32)) (v := (.long t0)) (by rw [e5]; exact Ar6.1) (State.isArrayOf_alike hZ.alike Ar6.2.1) Ar6.2.2 hin6 hat6 (g := (mkF m 21 #[.val (.ref a0), .val (.long q1), .second, .unset] [(.int (0 : Int32)), (.ref tt)])) rfl rfl (hb hby d6_21) _ ?_
    refine XS.lloadN X5.here hx rfl (hb hby d6_22) rfl ?_
    refine XS.lcmp X5.here hx rfl (hb hby d6_23) rfl ?_
    exact kt
  by_cases hc24_7 : q1 < t0
  · refine own_by (A' := T5.setTop (mkF m 33 #[.val (.ref a0), .val (.long q1), .second, .unset] [(.ref a0)])) (fun t kt => ?_) ?_
    · refine XS.ifYes X5.here hx rfl (pc0 := 24) (pc' := 32) rfl (hb hby d6_24) rfl ((if0 _ _).trans (tlt ((lw_gt _ _).mpr hc24_7)).2.2.1) (by decide) (by decide) ?_
      refine XS.aloadN X5.here hx rfl (hb hby d6_32) rfl rfl ?_
      exact kt
    obtain ⟨T8, X8, e8, st8⟩ := getF X5 hx hZ hown (host := "") (Or.inl (wd14 hw)) Via.refl e5 F_t (g := (mkF m 33 #[.val (.ref a0), .val (.long q1), .second, .unset] [(.ref a0)])) rfl rfl (hb hby d6_33)
    refine own_by (A' := T8.setTop (mkF m 37 #[.val (.ref a0), .val (.long q1), .second, .unset] [(.ref a0), (.ref tt)])) (fun t kt => ?_) ?_
    · refine st8 t ?_
      refine XS.aloadN X8.here hx rfl (hb hby d6_36) rfl rfl ?_
      exact kt
    obtain ⟨T9, X9, e9, st9⟩ := getF X8 hx hZ hown (host := "") (Or.inl (wd26 hw)) Via.refl e8 F_f (g := (mkF m 37 #[.val (.ref a0), .val (.long q1), .second, .unset] [(.ref a0), (.ref tt)])) rfl rfl (hb hby d6_37)
    refine own_by (A' := T9.setTop (mkF m 40 #[.val (.ref a0), .val (.long q1), .second, .unset] [(.int (0 : Int32)), (.ref tt)])) (fun t kt => st9 t kt) ?_
    obtain ⟨cl10, Ar10, Sz10, Mn10, Ha10⟩ := id V_t
    have hin10 := inb_of (j := (0 : Int32)) Sz10 ⟨by decide, by decide⟩
    have hat10 : cl10.slots[((0 : Int32)).toNatClampNeg]? = some (.long t0) := (Ha10 _ (Nat.lt_of_not_le fun q => hin10 (Or.inr q))).trans (congrArg some rfl)
    refine own_by (A' := T9.setTop (mkF m 43 #[.val (.ref a0), .val (.long q1), .second, .unset] [(.int (lcmpW t0 q1))])) (fun t kt => ?_) ?_
    · refine X9.laload hx (j := (0 : Int32)) (v := (.long t0)) (by rw [e9]; exact Ar10.1) (State.isArrayOf_alike hZ.alike Ar10.2.1) Ar10.2.2 hin10 hat10 (g := (mkF m 40 #[.val (.ref a0), .val (.long q1), .second, .unset] [(.int (0 : Int32)), (.ref tt)])) rfl rfl (hb hby d6_40) _ ?_
      refine XS.lloadN X9.here hx rfl (hb hby d6_41) rfl ?_
      refine XS.lcmp X9.here hx rfl (hb hby d6_42) rfl ?_
      exact kt
    by_cases hc43_11 : q1 < t0
    · refine own_by (A' := T9.setTop (mkF m 47 #[.val (.ref a0), .val (.long q1), .second, .unset] [(.ref a0)])) (fun t kt => ?_) ?_
      · refine XS.ifNo X9.here hx rfl (hb hby d6_43) rfl ((if0 _ _).trans (tlt ((lw_gt _ _).mpr hc43_11)).2.2.2) ?_
        refine XS.aloadN X9.here hx rfl (hb hby d6_46) rfl rfl ?_
        exact kt
      obtain ⟨T12, X12, e12, st12⟩ := getF X9 hx hZ hown (host := "") (Or.inl (wd26 hw)) Via.refl e9 F_f (g := (mkF m 47 #[.val (.ref a0), .val (.long q1), .second, .unset] [(.ref a0)])) rfl rfl (hb hby d6_47)
      refine own_by (A' := T12.setTop (mkF m 50 #[.val (.ref a0), .val (.long q1), .second, .unset] [(.int (0 : Int32))])) (fun t kt => st12 t kt) ?_
      obtain ⟨fs, hr, hrun, hended, hW, hsame⟩ := X12.leave (v := some (.int (0 : Int32))) (fun h => by rw [Bd.returns] at h; cases h)
      refine ⟨_, _, ?_, hrun, hended, _, _, rfl, ?_, ⟨_, rfl⟩, hW, hsame.mono (by decide) (by decide)⟩
      · exact retI X12 hx Bd.returns (hb hby d6_50) hr
      · show QFAu Z a0 q1 t0 t1 t2 (0 : Int32) (1 : Int32) h0 n0 _ T12.heap _
        rw [e12]
        exact ⟨_, (by rw [own_fa01, if_pos hc24_7, if_pos hc43_11]), own_faS01 hs, N0, rfl⟩
    · refine own_by (A' := T9.setTop (mkF m 52 #[.val (.ref a0), .val (.long q1), .second, .unset] [(.ref a0)])) (fun t kt => ?_) ?_
      · refine XS.ifYes X9.here hx rfl (pc0 := 43) (pc' := 51) rfl (hb hby d6_43) rfl ((if0 _ _).trans (flt (fun q => hc43_11 ((lw_gt _ _).mp q))).2.2.2) (by decide) (by decide) ?_
        refine XS.aloadN X9.here hx rfl (hb hby d6_51) rfl rfl ?_
        exact kt
      obtain ⟨T13, X13, e13, st13⟩ := getF X9 hx hZ hown (host := "") (Or.inl (wd14 hw)) Via.refl e9 F_t (g := (mkF m 52 #[.val (.ref a0), .val (.long q1), .second, .unset] [(.ref a0)])) rfl rfl (hb hby d6_52)
      refine own_by (A' := T13.setTop (mkF m 56 #[.val (.ref a0), .val (.long q1), .second, .unset] [(.ref a0), (.ref tt)])) (fun t kt => ?_) ?_
      · refine st13 t ?_
        refine XS.aloadN X13.here hx rfl (hb hby d6_55) rfl rfl ?_
        exact kt
      obtain ⟨T14, X14, e14, st14⟩ := getF X13 hx hZ hown (host := "") (Or.inl (wd26 hw)) Via.refl e13 F_f (g := (mkF m 56 #[.val (.ref a0), .val (.long q1), .second, .unset] [(.ref a0), (.ref tt)])) rfl rfl (hb hby d6_56)
      refine own_by (A' := T14.setTop (mkF m 60 #[.val (.ref a0), .val (.long q1), .second, .unset] [(.ref a0), (.int (0 : Int32)), (.ref tt)])) (fun t kt => ?_) ?_
      · refine st14 t ?_
        refine XS.aloadN X14.here hx rfl (hb hby d6_59) rfl rfl ?_
        exact kt
      obtain ⟨T15, X15, e15, st15⟩ := getF X14 hx hZ hown (host := "") (Or.inl (wd28 hw)) Via.refl e14 F_n (g := (mkF m 60 #[.val (.ref a0), .val (.long q1), .second, .unset] [(.ref a0), (.int (0 : Int32)), (.ref tt)])) rfl rfl (hb hby d6_60)
      refine own_by (A' := T15.setTop (mkF m 64 #[.val (.ref a0), .val (.long q1), .second, .unset] [(.long q1), (.int (1 : Int32)), (.int (0 : Int32)), (.ref tt)])) (fun t kt => ?_) ?_
      · refine st15 t ?_
        refine XS.lloadN X15.here hx rfl (hb hby d6_63) rfl ?_
        exact kt
      obtain ⟨_, _, ⟨T16, L16, k16, n16⟩, -, X16, ⟨Lc16, hQ16, l16, y16, z16⟩, st16⟩ := Jvm.LawKit.callS X15 hx (y := (⟨"java/util/Arrays", "binarySearch", "([JIIJ)I"⟩ : MethodName)) hown (mvT hZ (wd66 hw)) (mvT hZ (wd67 hw)) (mvT hZ (wd68 hw)) (mvT hZ (wd69 hw)) (by decide) (backOf (W := 0) (rmBS01 l Z aw hw [] tt q1 t0 t1 t2 h0 n0 (Nat.le_trans Z0 K0.1) V_t) hZ (wd69 hw) (wd68 hw) (by decide) (by decide)) (g := (mkF m 64 #[.val (.ref a0), .val (.long q1), .second, .unset] [(.long q1), (.int (1 : Int32)), (.int (0 : Int32)), (.ref tt)])) rfl (by rw [hml]; rfl) (argsL := [(.ref tt), (.int (0 : Int32)), (.int (1 : Int32)), (.long q1)]) (rest := []) (lenOf pd_4 rfl) rfl (by show 2 * 0 + _ ≤ _; exact Nat.le_of_eq rfl) (hb hby d6_64) (fun _ _ => ⟨rfl, e15, (by decide : 0 + 0 ≤ _), (by decide : 0 + 0 ≤ _)⟩)
      dsimp only [Pt.U, Pt.locs, Pt.cells, Pt.slots] at X16 l16 y16 z16 st16 hQ16
      subst l16 y16 z16
      obtain ⟨rfl, N16q, e16⟩ := hQ16
      have N16 := Fr.app N0 N16q
      refine own_by (A' := T16.setTop (mkF m 69 #[.val (.ref a0), .val (.long q1), .second, .val (.int (own_b001 t0 t1 t2 q1))] [(.int (own_b001 t0 t1 t2 q1))])) (fun t kt => ?_) ?_
      · refine st16 t ?_
        refine XS.istoreN X16.here hx rfl (hb hby d6_67) rfl (l' := #[.val (.ref a0), .val (.long q1), .second, .val (.int (own_b001 t0 t1 t2 q1))]) rfl ?_
        refine XS.iloadN X16.here hx rfl (hb hby d6_68) rfl ?_
        exact kt
      by_cases hc69_17 : (own_b001 t0 t1 t2 q1) < (0 : Int32)
      · refine own_by (A' := T16.setTop (mkF m 82 #[.val (.ref a0), .val (.long q1), .second, .val (.int (own_b001 t0 t1 t2 q1))] [(.int ((-(own_b001 t0 t1 t2 q1)) - (1 : Int32)))])) (fun t kt => ?_) ?_
        · refine XS.ifYes X16.here hx rfl (pc0 := 69) (pc' := 78) rfl (hb hby d6_69) rfl ((if0 _ _).trans (tlt hc69_17).1) (by decide) (by decide) ?_
          refine XS.iloadN X16.here hx rfl (hb hby d6_78) rfl ?_
          refine XS.ineg X16.here hx rfl (hb hby d6_79) rfl ?_
          refine XS.iconst X16.here hx rfl (hb hby d6_80) ?_
          refine XS.isub X16.here hx rfl (hb hby d6_81) rfl ?_
          exact kt
        obtain ⟨fs, hr, hrun, hended, hW, hsame⟩ := X16.leave (v := some (.int ((-(own_b001 t0 t1 t2 q1)) - (1 : Int32)))) (fun h => by rw [Bd.returns] at h; cases h)
        refine ⟨_, _, ?_, hrun, hended, _, _, rfl, ?_, ⟨_, rfl⟩, hW, hsame.mono (by decide) (by decide)⟩
        · exact retI X16 hx Bd.returns (hb hby d6_82) hr
        · show QFAu Z a0 q1 t0 t1 t2 (0 : Int32) (1 : Int32) h0 n0 _ T16.heap _
          rw [e16]
          exact ⟨_, (by rw [own_fa01, if_pos hc24_7, if_neg hc43_11, if_pos hc69_17]), own_faS01 hs, N16, rfl⟩
      · refine own_by (A' := T16.setTop (mkF m 82 #[.val (.ref a0), .val (.long q1), .second, .val (.int (own_b001 t0 t1 t2 q1))] [(.int ((own_b001 t0 t1 t2 q1) + (1 : Int32)))])) (fun t kt => ?_) ?_
        · refine XS.ifNo X16.here hx rfl (hb hby d6_69) rfl ((if0 _ _).trans (flt hc69_17).1) ?_
          refine XS.iloadN X16.here hx rfl (hb hby d6_72) rfl ?_
          refine XS.iconst X16.here hx rfl (hb hby d6_73) ?_
          refine XS.iadd X16.here hx rfl (hb hby d6_74) rfl ?_
          refine XS.goto X16.here hx rfl (pc0 := 75) (pc' := 82) rfl (hb hby d6_75) (by decide) (by decide) ?_
          exact kt
        obtain ⟨fs, hr, hrun, hended, hW, hsame⟩ := X16.leave (v := some (.int ((own_b001 t0 t1 t2 q1) + (1 : Int32)))) (fun h => by rw [Bd.returns] at h; cases h)
        refine ⟨_, _, ?_, hrun, hended, _, _, rfl, ?_, ⟨_, rfl⟩, hW, hsame.mono (by decide) (by decide)⟩
        · exact retI X16 hx Bd.returns (hb hby d6_82) hr
        · show QFAu Z a0 q1 t0 t1 t2 (0 : Int32) (1 : Int32) h0 n0 _ T16.heap _
          rw [e16]
          exact ⟨_, (by rw [own_fa01, if_pos hc24_7, if_neg hc43_11, if_neg hc69_17]), own_faS01 hs, N16, rfl⟩
  · refine own_by (A' := T5.setTop (mkF m 28 #[.val (.ref a0), .val (.long q1), .second, .unset] [(.ref a0)])) (fun t kt => ?_) ?_
    · refine XS.ifNo X5.here hx rfl (hb hby d6_24) rfl ((if0 _ _).trans (flt (fun q => hc24_7 ((lw_gt _ _).mp q))).2.2.1) ?_
      refine XS.aloadN X5.here hx rfl (hb hby d6_27) rfl rfl ?_
      exact kt
    obtain ⟨T18, X18, e18, st18⟩ := getF X5 hx hZ hown (host := "") (Or.inl (wd28 hw)) Via.refl e5 F_n (g := (mkF m 28 #[.val (.ref a0), .val (.long q1), .second, .unset] [(.ref a0)])) rfl rfl (hb hby d6_28)
    refine own_by (A' := T18.setTop (mkF m 31 #[.val (.ref a0), .val (.long q1), .second, .unset] [(.int (1 : Int32))])) (fun t kt => st18 t kt) ?_
    obtain ⟨fs, hr, hrun, hended, hW, hsame⟩ := X18.leave (v := some (.int (1 : Int32))) (fun h => by rw [Bd.returns] at h; cases h)
    refine ⟨_, _, ?_, hrun, hended, _, _, rfl, ?_, ⟨_, rfl⟩, hW, hsame.mono (by decide) (by decide)⟩
    · exact retI X18 hx Bd.returns (hb hby d6_31) hr
    · show QFAu Z a0 q1 t0 t1 t2 (0 : Int32) (1 : Int32) h0 n0 _ T18.heap _
      rw [e18]
      exact ⟨_, (by rw [own_fa01, if_neg hc24_7]), own_faS01 hs, N0, rfl⟩
def own_fa02 (t0 t1 t2 q1 : Int64) : Int32 := (if q1 < t1 then (if q1 < t0 then (0 : Int32) else (if (own_b002 t0 t1 t2 q1) < (0 : Int32) then ((-(own_b002 t0 t1 t2 q1)) - (1 : Int32)) else ((own_b002 t0 t1 t2 q1) + (1 : Int32)))) else (2 : Int32))
theorem own_faS02 {t0 t1 t2 x : Int64} (hs : own_Srt 0 2 t0 t1 t2) : own_FA 0 2 t0 t1 t2 x (own_fa02 t0 t1 t2 x) := by
  simp only [own_Srt, Int64.lt_iff_toInt_lt, Int32.reduceToInt] at hs
  by_cases c0 : x < t0 <;> by_cases c1 : x < t1 <;> by_cases d0 : t0 < x <;> by_cases d1 : t1 < x
  all_goals first
    | (exfalso; simp only [Int64.lt_iff_toInt_lt] at *; omega)
    | (simp [own_FA, own_fa02, own_b002, c0, c1, d0, d1]; done)
    | (simp [own_FA, own_fa02, own_b002, c0, c1, d0, d1]; simp only [Int64.lt_iff_toInt_lt] at *; omega)
theorem ef_rmFA02 (m : MethodId) (a0 : Addr) (q1 : Int64) : entryFrame m #[(.ref a0), (.long q1)] 4 = mkF m 0 #[.val (.ref a0), .val (.long q1), .second, .unset] [] := by first | (simp [entryFrame, mkF, argsToLocals, Value.category]; done) | rfl
set_option maxRecDepth 65536 in
set_option maxHeartbeats 40000000 in
theorem rmFA02 (l : Launch) (Z : State) (aw : Array Value) (hw : ∀ d ∈ tables_1, d.before aw Z = true) (ws : List Jvm.Cond) (a0 : Addr) (q1 : Int64) (tt : Addr) (t0 : Int64) (t1 : Int64) (t2 : Int64) (h0 : Heap) (n0 : Nat) (Z0 : n0 ≤ h0.size) (F_t : Fld Z h0 a0 "com/example/fairshed/fairshed/shedding/SicByTime" "timesUs" "[J" (.ref tt)) (F_f : Fld Z h0 a0 "com/example/fairshed/fairshed/shedding/SicByTime" "first" "I" (.int (0 : Int32))) (F_n : Fld Z h0 a0 "com/example/fairshed/fairshed/shedding/SicByTime" "end" "I" (.int (2 : Int32))) (V_t : AF Z h0 tt .long (8 : Int32) (own_j3 t0 t1 t2)) (hs : own_Srt (0 : Int32) (2 : Int32) t0 t1 t2) :
    MetFree l (⟨"com/example/fairshed/fairshed/shedding/SicByTime", "firstAfter", "(J)I"⟩ : MethodName) (head1 (Jvm.Cond.code (⟨"com/example/fairshed/fairshed/shedding/SicByTime", "firstAfter", "(J)I"⟩ : MethodName) prog_124_method_7_code 4 (some .int) :: ws) ({ frames := 2, cells := 0, slots := 0, locals := 37 } : Room)) (fun a U => a = #[(.ref a0), (.long q1)] ∧ Z.Warmed39 U.vm ∧ U.heap = h0) (fun _ _ _ _ _ => True) (fun _ U o U' => ∃ v L, o = .returned v ∧ QFAu Z a0 q1 t0 t1 t2 (0 : Int32) (2 : Int32) h0 n0 v U'.heap L ∧ FrameEnd U o U' L ({ frames := 2, cells := 0, slots := 0, locals := 37 } : Room).cells ({ frames := 2, cells := 0, slots := 0, locals := 37 } : Room).slots) := by
  refine MetFree.of_bodySF (plainFor_of_name pn_0) hisR ?_
  intro p e s m args below meth c s₁ Bd hml0 hP hK
  obtain ⟨rfl, hZ, hh⟩ := hP
  have hx := Bd.exec
  have hby := Bd.bytes
  have hml : c.maxLocals = 4 := hml0
  have hown : s.vm.findClass "com/example/fairshed/fairshed/shedding/SicByTime" = some m.cls := findClass_of_methodNamed Bd.named
  have hnm := (name_of_methodNamed Bd.named Bd.method).1
  have X0 : Stand p l e ({ frames := 2, cells := 0, slots := 0, locals := 37 } : Room) s m #[(.ref a0), (.long q1)] below meth c s₁ [] 0 0 := Stand.of_body Bd
  have e0 : s₁.heap = h0 := by rw [← hh, Bd.state]; rfl
  have N0 := Fr.nil n0
  have K0 : Keep h0 h0 [] := Keep.refl _ _
  refine own_by (A' := s₁.setTop (mkF m 0 #[.val (.ref a0), .val (.long q1), .second, .unset] [])) (fun t k => castTop (ef_rmFA02 m a0 q1) k) ?_
  refine own_by (A' := s₁.setTop (mkF m 1 #[.val (.ref a0), .val (.long q1), .second, .unset] [(.ref a0)])) (fun t kt => ?_) ?_
  · refine XS.aloadN X0.here hx rfl (hb hby d6_0) rfl rfl ?_
    exact kt
  obtain ⟨T1, X1, e1, st1⟩ := getF X0 hx hZ hown (host := "") (Or.inl (wd26 hw)) Via.refl e0 F_f (g := (mkF m 1 #[.val (.ref a0), .val (.long q1), .second, .unset] [(.ref a0)])) rfl rfl (hb hby d6_1)
  refine own_by (A' := T1.setTop (mkF m 5 #[.val (.ref a0), .val (.long q1), .second, .unset] [(.ref a0), (.int (0 : Int32))])) (fun t kt => ?_) ?_
  · refine st1 t ?_
    refine XS.aloadN X1.here hx rfl (hb hby d6_4) rfl rfl ?_
    exact kt
  obtain ⟨T2, X2, e2, st2⟩ := getF X1 hx hZ hown (host := "") (Or.inl (wd28 hw)) Via.refl e1 F_n (g := (mkF m 5 #[.val (.ref a0), .val (.long q1), .second, .unset] [(.ref a0), (.int (0 : Int32))])) rfl rfl (hb hby d6_5)
  refine own_by (A' := T2.setTop (mkF m 8 #[.val (.ref a0), .val (.long q1), .second, .unset] [(.int (2 : Int32)), (.int (0 : Int32))])) (fun t kt => st2 t kt) ?_
  have hc8_3 : ¬ ((0 : Int32) = (2 : Int32)) := by decide
  refine own_by (A' := T2.setTop (mkF m 12 #[.val (.ref a0), .val (.long q1), .second, .unset] [(.ref a0)])) (fun t kt => ?_) ?_
  · refine XS.icmpNo X2.here hx rfl (hb hby d6_8) rfl (feq hc8_3).1 ?_
    refine XS.aloadN X2.here hx rfl (hb hby d6_11) rfl rfl ?_
    exact kt
  obtain ⟨T4, X4, e4, st4⟩ := getF X2 hx hZ hown (host := "") (Or.inl (wd14 hw)) Via.refl e2 F_t (g := (mkF m 12 #[.val (.ref a0), .val (.long q1), .second, .unset] [(.ref a0)])) rfl rfl (hb hby d6_12)
  refine own_by (A' := T4.setTop (mkF m 16 #[.val (.ref a0), .val (.long q1), .second, .unset] [(.ref a0), (.ref tt)])) (fun t kt => ?_) ?_
  · refine st4 t ?_
    refine XS.aloadN X4.here hx rfl (hb hby d6_15) rfl rfl ?_
    exact kt
  obtain ⟨T5, X5, e5, st5⟩ := getF X4 hx hZ hown (host := "") (Or.inl (wd28 hw)) Via.refl e4 F_n (g := (mkF m 16 #[.val (.ref a0), .val (.long q1), .second, .unset] [(.ref a0), (.ref tt)])) rfl rfl (hb hby d6_16)
  refine own_by (A' := T5.setTop (mkF m 21 #[.val (.ref a0), .val (.long q1), .second, .unset] [(.int (1 : Int32)), (.ref tt)])) (fun t kt => ?_) ?_
  · refine st5 t ?_
    refine XS.iconst X5.here hx rfl (hb hby d6_19) ?_
    refine XS.isub X5.here hx rfl (hb hby d6_20) rfl ?_
    exact kt
  obtain ⟨cl6, Ar6, Sz6, Mn6, Ha6⟩ := id V_t
  have hin6 := inb_of (j := (1 : Int32)) Sz6 ⟨by decide, by decide⟩
  have hat6 : cl6.slots[((1 : Int32)).toNatClampNeg]? = some (.long t1) := (Ha6 _ (Nat.lt_of_not_le fun q => hin6 (Or.inr q))).trans (congrArg some rfl)
  refine own_by (A' := T5.setTop (mkF m 24 #[.val (.ref a0), .val (.long q1), .second, .unset] [(.int (lcmpW t1 q1))])) (fun t kt => ?_) ?_
  · refine X5.laload hx (j := (1 : Int32)) (v := (.long t1)) (by rw [e5]; exact Ar6.1) (State.isArrayOf_alike hZ.alike Ar6.2.1) Ar6.2.2 hin6 hat6 (g := (mkF m 21 #[.val (.ref a0), .val (.long q1), .second, .unset] [(.int (1 : Int32)), (.ref tt)])) rfl rfl (hb hby d6_21) _ ?_
    refine XS.lloadN X5.here hx rfl (hb hby d6_22) rfl ?_
    refine XS.lcmp X5.here hx rfl (hb hby d6_23) rfl ?_
    exact kt
  by_cases hc24_7 : q1 < t1
  · refine own_by (A' := T5.setTop (mkF m 33 #[.val (.ref a0), .val (.long q1), .second, .unset] [(.ref a0)])) (fun t kt => ?_) ?_
    · refine XS.ifYes X5.here hx rfl (pc0 := 24) (pc' := 32) rfl (hb hby d6_24) rfl ((if0 _ _).trans (tlt ((lw_gt _ _).mpr hc24_7)).2.2.1) (by decide) (by decide) ?_
      refine XS.aloadN X5.here hx rfl (hb hby d6_32) rfl rfl ?_
      exact kt
    obtain ⟨T8, X8, e8, st8⟩ := getF X5 hx hZ hown (host := "") (Or.inl (wd14 hw)) Via.refl e5 F_t (g := (mkF m 33 #[.val (.ref a0), .val (.long q1), .second, .unset] [(.ref a0)])) rfl rfl (hb hby d6_33)
    refine own_by (A' := T8.setTop (mkF m 37 #[.val (.ref a0), .val (.long q1), .second, .unset] [(.ref a0), (.ref tt)])) (fun t kt => ?_) ?_
    · refine st8 t ?_
      refine XS.aloadN X8.here hx rfl (hb hby d6_36) rfl rfl ?_
      exact kt
    obtain ⟨T9, X9, e9, st9⟩ := getF X8 hx hZ hown (host := "") (Or.inl (wd26 hw)) Via.refl e8 F_f (g := (mkF m 37 #[.val (.ref a0), .val (.long q1), .second, .unset] [(.ref a0), (.ref tt)])) rfl rfl (hb hby d6_37)
    refine own_by (A' := T9.setTop (mkF m 40 #[.val (.ref a0), .val (.long q1), .second, .unset] [(.int (0 : Int32)), (.ref tt)])) (fun t kt => st9 t kt) ?_
    obtain ⟨cl10, Ar10, Sz10, Mn10, Ha10⟩ := id V_t
    have hin10 := inb_of (j := (0 : Int32)) Sz10 ⟨by decide, by decide⟩
    have hat10 : cl10.slots[((0 : Int32)).toNatClampNeg]? = some (.long t0) := (Ha10 _ (Nat.lt_of_not_le fun q => hin10 (Or.inr q))).trans (congrArg some rfl)
    refine own_by (A' := T9.setTop (mkF m 43 #[.val (.ref a0), .val (.long q1), .second, .unset] [(.int (lcmpW t0 q1))])) (fun t kt => ?_) ?_
    · refine X9.laload hx (j := (0 : Int32)) (v := (.long t0)) (by rw [e9]; exact Ar10.1) (State.isArrayOf_alike hZ.alike Ar10.2.1) Ar10.2.2 hin10 hat10 (g := (mkF m 40 #[.val (.ref a0), .val (.long q1), .second, .unset] [(.int (0 : Int32)), (.ref tt)])) rfl rfl (hb hby d6_40) _ ?_
      refine XS.lloadN X9.here hx rfl (hb hby d6_41) rfl ?_
      refine XS.lcmp X9.here hx rfl (hb hby d6_42) rfl ?_
      exact kt
    by_cases hc43_11 : q1 < t0
    · refine own_by (A' := T9.setTop (mkF m 47 #[.val (.ref a0), .val (.long q1), .second, .unset] [(.ref a0)])) (fun t kt => ?_) ?_
      · refine XS.ifNo X9.here hx rfl (hb hby d6_43) rfl ((if0 _ _).trans (tlt ((lw_gt _ _).mpr hc43_11)).2.2.2) ?_
        refine XS.aloadN X9.here hx rfl (hb hby d6_46) rfl rfl ?_
        exact kt
      obtain ⟨T12, X12, e12, st12⟩ := getF X9 hx hZ hown (host := "") (Or.inl (wd26 hw)) Via.refl e9 F_f (g := (mkF m 47 #[.val (.ref a0), .val (.long q1), .second, .unset] [(.ref a0)])) rfl rfl (hb hby d6_47)
      refine own_by (A' := T12.setTop (mkF m 50 #[.val (.ref a0), .val (.long q1), .second, .unset] [(.int (0 : Int32))])) (fun t kt => st12 t kt) ?_
      obtain ⟨fs, hr, hrun, hended, hW, hsame⟩ := X12.leave (v := some (.int (0 : Int32))) (fun h => by rw [Bd.returns] at h; cases h)
      refine ⟨_, _, ?_, hrun, hended, _, _, rfl, ?_, ⟨_, rfl⟩, hW, hsame.mono (by decide) (by decide)⟩
      · exact retI X12 hx Bd.returns (hb hby d6_50) hr
      · show QFAu Z a0 q1 t0 t1 t2 (0 : Int32) (2 : Int32) h0 n0 _ T12.heap _
        rw [e12]
        exact ⟨_, (by rw [own_fa02, if_pos hc24_7, if_pos hc43_11]), own_faS02 hs, N0, rfl⟩
    · refine own_by (A' := T9.setTop (mkF m 52 #[.val (.ref a0), .val (.long q1), .second, .unset] [(.ref a0)])) (fun t kt => ?_) ?_
      · refine XS.ifYes X9.here hx rfl (pc0 := 43) (pc' := 51) rfl (hb hby d6_43) rfl ((if0 _ _).trans (flt (fun q => hc43_11 ((lw_gt _ _).mp q))).2.2.2) (by decide) (by decide) ?_
        refine XS.aloadN X9.here hx rfl (hb hby d6_51) rfl rfl ?_
        exact kt
      obtain ⟨T13, X13, e13, st13⟩ := getF X9 hx hZ hown (host := "") (Or.inl (wd14 hw)) Via.refl e9 F_t (g := (mkF m 52 #[.val (.ref a0), .val (.long q1), .second, .unset] [(.ref a0)])) rfl rfl (hb hby d6_52)
      refine own_by (A' := T13.setTop (mkF m 56 #[.val (.ref a0), .val (.long q1), .second, .unset] [(.ref a0), (.ref tt)])) (fun t kt => ?_) ?_
      · refine st13 t ?_
        refine XS.aloadN X13.here hx rfl (hb hby d6_55) rfl rfl ?_
        exact kt
      obtain ⟨T14, X14, e14, st14⟩ := getF X13 hx hZ hown (host := "") (Or.inl (wd26 hw)) Via.refl e13 F_f (g := (mkF m 56 #[.val (.ref a0), .val (.long q1), .second, .unset] [(.ref a0), (.ref tt)])) rfl rfl (hb hby d6_56)
      refine own_by (A' := T14.setTop (mkF m 60 #[.val (.ref a0), .val (.long q1), .second, .unset] [(.ref a0), (.int (0 : Int32)), (.ref tt)])) (fun t kt => ?_) ?_
      · refine st14 t ?_
        refine XS.aloadN X14.here hx rfl (hb hby d6_59) rfl rfl ?_
        exact kt
      obtain ⟨T15, X15, e15, st15⟩ := getF X14 hx hZ hown (host := "") (Or.inl (wd28 hw)) Via.refl e14 F_n (g := (mkF m 60 #[.val (.ref a0), .val (.long q1), .second, .unset] [(.ref a0), (.int (0 : Int32)), (.ref tt)])) rfl rfl (hb hby d6_60)
      refine own_by (A' := T15.setTop (mkF m 64 #[.val (.ref a0), .val (.long q1), .second, .unset] [(.long q1), (.int (2 : Int32)), (.int (0 : Int32)), (.ref tt)])) (fun t kt => ?_) ?_
      · refine st15 t ?_
        refine XS.lloadN X15.here hx rfl (hb hby d6_63) rfl ?_
        exact kt
      obtain ⟨_, _, ⟨T16, L16, k16, n16⟩, -, X16, ⟨Lc16, hQ16, l16, y16, z16⟩, st16⟩ := Jvm.LawKit.callS X15 hx (y := (⟨"java/util/Arrays", "binarySearch", "([JIIJ)I"⟩ : MethodName)) hown (mvT hZ (wd66 hw)) (mvT hZ (wd67 hw)) (mvT hZ (wd68 hw)) (mvT hZ (wd69 hw)) (by decide) (backOf (W := 0) (rmBS02 l Z aw hw [] tt q1 t0 t1 t2 h0 n0 (Nat.le_trans Z0 K0.1) V_t) hZ (wd69 hw) (wd68 hw) (by decide) (by decide)) (g := (mkF m 64 #[.val (.ref a0), .val (.long q1), .second, .unset] [(.long q1), (.int (2 : Int32)), (.int (0 : Int32)), (.ref tt)])) rfl (by rw [hml]; rfl) (argsL := [(.ref tt), (.int (0 : Int32)), (.int (2 : Int32)), (.long q1)]) (rest := []) (lenOf pd_4 rfl) rfl (by show 2 * 0 + _ ≤ _; exact Nat.le_of_eq rfl) (hb hby d6_64) (fun _ _ => ⟨rfl, e15, (by decide : 0 + 0 ≤ _), (by decide : 0 + 0 ≤ _)⟩)
      dsimp only [Pt.U, Pt.locs, Pt.cells, Pt.slots] at X16 l16 y16 z16 st16 hQ16
      subst l16 y16 z16
      obtain ⟨rfl, N16q, e16⟩ := hQ16
      have N16 := Fr.app N0 N16q
      refine own_by (A' := T16.setTop (mkF m 69 #[.val (.ref a0), .val (.long q1), .second, .val (.int (own_b002 t0 t1 t2 q1))] [(.int (own_b002 t0 t1 t2 q1))])) (fun t kt => ?_) ?_
      · refine st16 t ?_
        refine XS.istoreN X16.here hx rfl (hb hby d6_67) rfl (l' := #[.val (.ref a0), .val (.long q1), .second, .val (.int (own_b002 t0 t1 t2 q1))]) rfl ?_
        refine XS.iloadN X16.here hx rfl (hb hby d6_68) rfl ?_
        exact kt
      by_cases hc69_17 : (own_b002 t0 t1 t2 q1) < (0 : Int32)
      · refine own_by (A' := T16.setTop (mkF m 82 #[.val (.ref a0), .val (.long q1), .second, .val (.int (own_b002 t0 t1 t2 q1))] [(.int ((-(own_b002 t0 t1 t2 q1)) - (1 : Int32)))])) (fun t kt => ?_) ?_
        · refine XS.ifYes X16.here hx rfl (pc0 := 69) (pc' := 78) rfl (hb hby d6_69) rfl ((if0 _ _).trans (tlt hc69_17).1) (by decide) (by decide) ?_
          refine XS.iloadN X16.here hx rfl (hb hby d6_78) rfl ?_
          refine XS.ineg X16.here hx rfl (hb hby d6_79) rfl ?_
          refine XS.iconst X16.here hx rfl (hb hby d6_80) ?_
          refine XS.isub X16.here hx rfl (hb hby d6_81) rfl ?_
          exact kt
        obtain ⟨fs, hr, hrun, hended, hW, hsame⟩ := X16.leave (v := some (.int ((-(own_b002 t0 t1 t2 q1)) - (1 : Int32)))) (fun h => by rw [Bd.returns] at h; cases h)
        refine ⟨_, _, ?_, hrun, hended, _, _, rfl, ?_, ⟨_, rfl⟩, hW, hsame.mono (by decide) (by decide)⟩
        · exact retI X16 hx Bd.returns (hb hby d6_82) hr
        · show QFAu Z a0 q1 t0 t1 t2 (0 : Int32) (2 : Int32) h0 n0 _ T16.heap _
          rw [e16]
          exact ⟨_, (by rw [own_fa02, if_pos hc24_7, if_neg hc43_11, if_pos hc69_17]), own_faS02 hs, N16, rfl⟩
      · refine own_by (A' := T16.setTop (mkF m 82 #[.val (.ref a0), .val (.long q1), .second, .val (.int (own_b002 t0 t1 t2 q1))] [(.int ((own_b002 t0 t1 t2 q1) + (1 : Int32)))])) (fun t kt => ?_) ?_
        · refine XS.ifNo X16.here hx rfl (hb hby d6_69) rfl ((if0 _ _).trans (flt hc69_17).1) ?_
          refine XS.iloadN X16.here hx rfl (hb hby d6_72) rfl ?_
          refine XS.iconst X16.here hx rfl (hb hby d6_73) ?_
          refine XS.iadd X16.here hx rfl (hb hby d6_74) rfl ?_
          refine XS.goto X16.here hx rfl (pc0 := 75) (pc' := 82) rfl (hb hby d6_75) (by decide) (by decide) ?_
          exact kt
        obtain ⟨fs, hr, hrun, hended, hW, hsame⟩ := X16.leave (v := some (.int ((own_b002 t0 t1 t2 q1) + (1 : Int32)))) (fun h => by rw [Bd.returns] at h; cases h)
        refine ⟨_, _, ?_, hrun, hended, _, _, rfl, ?_, ⟨_, rfl⟩, hW, hsame.mono (by decide) (by decide)⟩
        · exact retI X16 hx Bd.returns (hb hby d6_82) hr
        · show QFAu Z a0 q1 t0 t1 t2 (0 : Int32) (2 : Int32) h0 n0 _ T16.heap _
          rw [e16]
          exact ⟨_, (by rw [own_fa02, if_pos hc24_7, if_neg hc43_11, if_neg hc69_17]), own_faS02 hs, N16, rfl⟩
  · refine own_by (A' := T5.setTop (mkF m 28 #[.val (.ref a0), .val (.long q1), .second, .unset] [(.ref a0)])) (fun t kt => ?_) ?_
    · refine XS.ifNo X5.here hx rfl (hb hby d6_24) rfl ((if0 _ _).trans (flt (fun q => hc24_7 ((lw_gt _ _).mp q))).2.2.1) ?_
      refine XS.aloadN X5.here hx rfl (hb hby d6_27) rfl rfl ?_
      exact kt
    obtain ⟨T18, X18, e18, st18⟩ := getF X5 hx hZ hown (host := "") (Or.inl (wd28 hw)) Via.refl e5 F_n (g := (mkF m 28 #[.val (.ref a0), .val (.long q1), .second, .unset] [(.ref a0)])) rfl rfl (hb hby d6_28)
    refine own_by (A' := T18.setTop (mkF m 31 #[.val (.ref a0), .val (.long q1), .second, .unset] [(.int (2 : Int32))])) (fun t kt => st18 t kt) ?_
    obtain ⟨fs, hr, hrun, hended, hW, hsame⟩ := X18.leave (v := some (.int (2 : Int32))) (fun h => by rw [Bd.returns] at h; cases h)
    refine ⟨_, _, ?_, hrun, hended, _, _, rfl, ?_, ⟨_, rfl⟩, hW, hsame.mono (by decide) (by decide)⟩
    · exact retI X18 hx Bd.returns (hb hby d6_31) hr
    · show QFAu Z a0 q1 t0 t1 t2 (0 : Int32) (2 : Int32) h0 n0 _ T18.heap _
      rw [e18]
      exact ⟨_, (by rw [own_fa02, if_neg hc24_7]), own_faS02 hs, N0, rfl⟩
def own_fa03 (t0 t1 t2 q1 : Int64) : Int32 := (if q1 < t2 then (if q1 < t0 then (0 : Int32) else (if (own_b003 t0 t1 t2 q1) < (0 : Int32) then ((-(own_b003 t0 t1 t2 q1)) - (1 : Int32)) else ((own_b003 t0 t1 t2 q1) + (1 : Int32)))) else (3 : Int32))
theorem own_faS03 {t0 t1 t2 x : Int64} (hs : own_Srt 0 3 t0 t1 t2) : own_FA 0 3 t0 t1 t2 x (own_fa03 t0 t1 t2 x) := by
  simp only [own_Srt, Int64.lt_iff_toInt_lt, Int32.reduceToInt] at hs
  by_cases c0 : x < t0 <;> by_cases c1 : x < t1 <;> by_cases c2 : x < t2 <;> by_cases d0 : t0 < x <;> by_cases d1 : t1 < x <;> by_cases d2 : t2 < x
  all_goals first
    | (exfalso; simp only [Int64.lt_iff_toInt_lt] at *; omega)
    | (simp [own_FA, own_fa03, own_b003, c0, c1, c2, d0, d1, d2]; done)
    | (simp [own_FA, own_fa03, own_b003, c0, c1, c2, d0, d1, d2]; simp only [Int64.lt_iff_toInt_lt] at *; omega)
theorem ef_rmFA03 (m : MethodId) (a0 : Addr) (q1 : Int64) : entryFrame m #[(.ref a0), (.long q1)] 4 = mkF m 0 #[.val (.ref a0), .val (.long q1), .second, .unset] [] := by first | (simp [entryFrame, mkF, argsToLocals, Value.category]; done) | rfl
set_option maxRecDepth 65536 in
set_option maxHeartbeats 40000000 in
theorem rmFA03 (l : Launch) (Z : State) (aw : Array Value) (hw : ∀ d ∈ tables_1, d.before aw Z = true) (ws : List Jvm.Cond) (a0 : Addr) (q1 : Int64) (tt : Addr) (t0 : Int64) (t1 : Int64) (t2 : Int64) (h0 : Heap) (n0 : Nat) (Z0 : n0 ≤ h0.size) (F_t : Fld Z h0 a0 "com/example/fairshed/fairshed/shedding/SicByTime" "timesUs" "[J" (.ref tt)) (F_f : Fld Z h0 a0 "com/example/fairshed/fairshed/shedding/SicByTime" "first" "I" (.int (0 : Int32))) (F_n : Fld Z h0 a0 "com/example/fairshed/fairshed/shedding/SicByTime" "end" "I" (.int (3 : Int32))) (V_t : AF Z h0 tt .long (8 : Int32) (own_j3 t0 t1 t2)) (hs : own_Srt (0 : Int32) (3 : Int32) t0 t1 t2) :
    MetFree l (⟨"com/example/fairshed/fairshed/shedding/SicByTime", "firstAfter", "(J)I"⟩ : MethodName) (head1 (Jvm.Cond.code (⟨"com/example/fairshed/fairshed/shedding/SicByTime", "firstAfter", "(J)I"⟩ : MethodName) prog_124_method_7_code 4 (some .int) :: ws) ({ frames := 2, cells := 0, slots := 0, locals := 37 } : Room)) (fun a U => a = #[(.ref a0), (.long q1)] ∧ Z.Warmed39 U.vm ∧ U.heap = h0) (fun _ _ _ _ _ => True) (fun _ U o U' => ∃ v L, o = .returned v ∧ QFAu Z a0 q1 t0 t1 t2 (0 : Int32) (3 : Int32) h0 n0 v U'.heap L ∧ FrameEnd U o U' L ({ frames := 2, cells := 0, slots := 0, locals := 37 } : Room).cells ({ frames := 2, cells := 0, slots := 0, locals := 37 } : Room).slots) := by
  refine MetFree.of_bodySF (plainFor_of_name pn_0) hisR ?_
  intro p e s m args below meth c s₁ Bd hml0 hP hK
  obtain ⟨rfl, hZ, hh⟩ := hP
  have hx := Bd.exec
  have hby := Bd.bytes
  have hml : c.maxLocals = 4 := hml0
  have hown : s.vm.findClass "com/example/fairshed/fairshed/shedding/SicByTime" = some m.cls := findClass_of_methodNamed Bd.named
  have hnm := (name_of_methodNamed Bd.named Bd.method).1
  have X0 : Stand p l e ({ frames := 2, cells := 0, slots := 0, locals := 37 } : Room) s m #[(.ref a0), (.long q1)] below meth c s₁ [] 0 0 := Stand.of_body Bd
  have e0 : s₁.heap = h0 := by rw [← hh, Bd.state]; rfl
  have N0 := Fr.nil n0
  have K0 : Keep h0 h0 [] := Keep.refl _ _
  refine own_by (A' := s₁.setTop (mkF m 0 #[.val (.ref a0), .val (.long q1), .second, .unset] [])) (fun t k => castTop (ef_rmFA03 m a0 q1) k) ?_
  refine own_by (A' := s₁.setTop (mkF m 1 #[.val (.ref a0), .val (.long q1), .second, .unset] [(.ref a0)])) (fun t kt => ?_) ?_
  · refine XS.aloadN X0.here hx rfl (hb hby d6_0) rfl rfl ?_
    exact kt
  obtain ⟨T1, X1, e1, st1⟩ := getF X0 hx hZ hown (host := "") (Or.inl (wd26 hw)) Via.refl e0 F_f (g := (mkF m 1 #[.val (.ref a0), .val (.long q1), .second, .unset] [(.ref a0)])) rfl rfl (hb hby d6_1)
  refine own_by (A' := T1.setTop (mkF m 5 #[.val (.ref a0), .val (.long q1), .second, .unset] [(.ref a0), (.int (0 : Int32))])) (fun t kt => ?_) ?_
  · refine st1 t ?_
    refine XS.aloadN X1.here hx rfl (hb hby d6_4) rfl rfl ?_
    exact kt
  obtain ⟨T2, X2, e2, st2⟩ := getF X1 hx hZ hown (host := "") (Or.inl (wd28 hw)) Via.refl e1 F_n (g := (mkF m 5 #[.val (.ref a0), .val (.long q1), .second, .unset] [(.ref a0), (.int (0 : Int32))])) rfl rfl (hb hby d6_5)
  refine own_by (A' := T2.setTop (mkF m 8 #[.val (.ref a0), .val (.long q1), .second, .unset] [(.int (3 : Int32)), (.int (0 : Int32))])) (fun t kt => st2 t kt) ?_
  have hc8_3 : ¬ ((0 : Int32) = (3 : Int32)) := by decide
  refine own_by (A' := T2.setTop (mkF m 12 #[.val (.ref a0), .val (.long q1), .second, .unset] [(.ref a0)])) (fun t kt => ?_) ?_
  · refine XS.icmpNo X2.here hx rfl (hb hby d6_8) rfl (feq hc8_3).1 ?_
    refine XS.aloadN X2.here hx rfl (hb hby d6_11) rfl rfl ?_
    exact kt
  obtain ⟨T4, X4, e4, st4⟩ := getF X2 hx hZ hown (host := "") (Or.inl (wd14 hw)) Via.refl e2 F_t (g := (mkF m 12 #[.val (.ref a0), .val (.long q1), .second, .unset] [(.ref a0)])) rfl rfl (hb hby d6_12)
  refine own_by (A' := T4.setTop (mkF m 16 #[.val (.ref a0), .val (.long q1), .second, .unset] [(.ref a0), (.ref tt)])) (fun t kt => ?_) ?_
  · refine st4 t ?_
    refine XS.aloadN X4.here hx rfl (hb hby d6_15) rfl rfl ?_
    exact kt
  obtain ⟨T5, X5, e5, st5⟩ := getF X4 hx hZ hown (host := "") (Or.inl (wd28 hw)) Via.refl e4 F_n (g := (mkF m 16 #[.val (.ref a0), .val (.long q1), .second, .unset] [(.ref a0), (.ref tt)])) rfl rfl (hb hby d6_16)
  refine own_by (A' := T5.setTop (mkF m 21 #[.val (.ref a0), .val (.long q1), .second, .unset] [(.int (2 : Int32)), (.ref tt)])) (fun t kt => ?_) ?_
  · refine st5 t ?_
    refine XS.iconst X5.here hx rfl (hb hby d6_19) ?_
    refine XS.isub X5.here hx rfl (hb hby d6_20) rfl ?_
    exact kt
  obtain ⟨cl6, Ar6, Sz6, Mn6, Ha6⟩ := id V_t
  have hin6 := inb_of (j := (2 : Int32)) Sz6 ⟨by decide, by decide⟩
  have hat6 : cl6.slots[((2 : Int32)).toNatClampNeg]? = some (.long t2) := (Ha6 _ (Nat.lt_of_not_le fun q => hin6 (Or.inr q))).trans (congrArg some rfl)
  refine own_by (A' := T5.setTop (mkF m 24 #[.val (.ref a0), .val (.long q1), .second, .unset] [(.int (lcmpW t2 q1))])) (fun t kt => ?_) ?_
  · refine X5.laload hx (j := (2 : Int32)) (v := (.long t2)) (by rw [e5]; exact Ar6.1) (State.isArrayOf_alike hZ.alike Ar6.2.1) Ar6.2.2 hin6 hat6 (g := (mkF m 21 #[.val (.ref a0), .val (.long q1), .second, .unset] [(.int (2 : Int32)), (.ref tt)])) rfl rfl (hb hby d6_21) _ ?_
    refine XS.lloadN X5.here hx rfl (hb hby d6_22) rfl ?_
    refine XS.lcmp X5.here hx rfl (hb hby d6_23) rfl ?_
    exact kt
  by_cases hc24_7 : q1 < t2
  · refine own_by (A' := T5.setTop (mkF m 33 #[.val (.ref a0), .val (.long q1), .second, .unset] [(.ref a0)])) (fun t kt => ?_) ?_
    · refine XS.ifYes X5.here hx rfl (pc0 := 24) (pc' := 32) rfl (hb hby d6_24) rfl ((if0 _ _).trans (tlt ((lw_gt _ _).mpr hc24_7)).2.2.1) (by decide) (by decide) ?_
      refine XS.aloadN X5.here hx rfl (hb hby d6_32) rfl rfl ?_
      exact kt
    obtain ⟨T8, X8, e8, st8⟩ := getF X5 hx hZ hown (host := "") (Or.inl (wd14 hw)) Via.refl e5 F_t (g := (mkF m 33 #[.val (.ref a0), .val (.long q1), .second, .unset] [(.ref a0)])) rfl rfl (hb hby d6_33)
    refine own_by (A' := T8.setTop (mkF m 37 #[.val (.ref a0), .val (.long q1), .second, .unset] [(.ref a0), (.ref tt)])) (fun t kt => ?_) ?_
    · refine st8 t ?_
      refine XS.aloadN X8.here hx rfl (hb hby d6_36) rfl rfl ?_
      exact kt
    obtain ⟨T9, X9, e9, st9⟩ := getF X8 hx hZ hown (host := "") (Or.inl (wd26 hw)) Via.refl e8 F_f (g := (mkF m 37 #[.val (.ref a0), .val (.long q1), .second, .unset] [(.ref a0), (.ref tt)])) rfl rfl (hb hby d6_37)
    refine own_by (A' := T9.setTop (mkF m 40 #[.val (.ref a0), .val (.long q1), .second, .unset] [(.int (0 : Int32)), (.ref tt)])) (fun t kt => st9 t kt) ?_
    obtain ⟨cl10, Ar10, Sz10, Mn10, Ha10⟩ := id V_t
    have hin10 := inb_of (j := (0 : Int32)) Sz10 ⟨by decide, by decide⟩
    have hat10 : cl10.slots[((0 : Int32)).toNatClampNeg]? = some (.long t0) := (Ha10 _ (Nat.lt_of_not_le fun q => hin10 (Or.inr q))).trans (congrArg some rfl)
    refine own_by (A' := T9.setTop (mkF m 43 #[.val (.ref a0), .val (.long q1), .second, .unset] [(.int (lcmpW t0 q1))])) (fun t kt => ?_) ?_
    · refine X9.laload hx (j := (0 : Int32)) (v := (.long t0)) (by rw [e9]; exact Ar10.1) (State.isArrayOf_alike hZ.alike Ar10.2.1) Ar10.2.2 hin10 hat10 (g := (mkF m 40 #[.val (.ref a0), .val (.long q1), .second, .unset] [(.int (0 : Int32)), (.ref tt)])) rfl rfl (hb hby d6_40) _ ?_
      refine XS.lloadN X9.here hx rfl (hb hby d6_41) rfl ?_
      refine XS.lcmp X9.here hx rfl (hb hby d6_42) rfl ?_
      exact kt
    by_cases hc43_11 : q1 < t0
    · refine own_by (A' := T9.setTop (mkF m 47 #[.val (.ref a0), .val (.long q1), .second, .unset] [(.ref a0)])) (fun t kt => ?_) ?_
      · refine XS.ifNo X9.here hx rfl (hb hby d6_43) rfl ((if0 _ _).trans (tlt ((lw_gt _ _).mpr hc43_11)).2.2.2) ?_
        refine XS.aloadN X9.here hx rfl (hb hby d6_46) rfl rfl ?_
        exact kt
      obtain ⟨T12, X12, e12, st12⟩ := getF X9 hx hZ hown (host := "") (Or.inl (wd26 hw)) Via.refl e9 F_f (g := (mkF m 47 #[.val (.ref a0), .val (.long q1), .second, .unset] [(.ref a0)])) rfl rfl (hb hby d6_47)
      refine own_by (A' := T12.setTop (mkF m 50 #[.val (.ref a0), .val (.long q1), .second, .unset] [(.int (0 : Int32))])) (fun t kt => st12 t kt) ?_
      obtain ⟨fs, hr, hrun, hended, hW, hsame⟩ := X12.leave (v := some (.int (0 : Int32))) (fun h => by rw [Bd.returns] at h; cases h)
      refine ⟨_, _, ?_, hrun, hended, _, _, rfl, ?_, ⟨_, rfl⟩, hW, hsame.mono (by decide) (by decide)⟩
      · exact retI X12 hx Bd.returns (hb hby d6_50) hr
      · show QFAu Z a0 q1 t0 t1 t2 (0 : Int32) (3 : Int32) h0 n0 _ T12.heap _
        rw [e12]
        exact ⟨_, (by rw [own_fa03, if_pos hc24_7, if_pos hc43_11]), own_faS03 hs, N0, rfl⟩
    · refine own_by (A' := T9.setTop (mkF m 52 #[.val (.ref a0), .val (.long q1), .second, .unset] [(.ref a0)])) (fun t kt => ?_) ?_
      · refine XS.ifYes X9.here hx rfl (pc0 := 43) (pc' := 51) rfl (hb hby d6_43) rfl ((if0 _ _).trans (flt (fun q => hc43_11 ((lw_gt _ _).mp q))).2.2.2) (by decide) (by decide) ?_
        refine XS.aloadN X9.here hx rfl (hb hby d6_51) rfl rfl ?_
        exact kt
      obtain ⟨T13, X13, e13, st13⟩ := getF X9 hx hZ hown (host := "") (Or.inl (wd14 hw)) Via.refl e9 F_t (g := (mkF m 52 #[.val (.ref a0), .val (.long q1), .second, .unset] [(.ref a0)])) rfl rfl (hb hby d6_52)
      refine own_by (A' := T13.setTop (mkF m 56 #[.val (.ref a0), .val (.long q1), .second, .unset] [(.ref a0), (.ref tt)])) (fun t kt => ?_) ?_
      · refine st13 t ?_
        refine XS.aloadN X13.here hx rfl (hb hby d6_55) rfl rfl ?_
        exact kt
      obtain ⟨T14, X14, e14, st14⟩ := getF X13 hx hZ hown (host := "") (Or.inl (wd26 hw)) Via.refl e13 F_f (g := (mkF m 56 #[.val (.ref a0), .val (.long q1), .second, .unset] [(.ref a0), (.ref tt)])) rfl rfl (hb hby d6_56)
      refine own_by (A' := T14.setTop (mkF m 60 #[.val (.ref a0), .val (.long q1), .second, .unset] [(.ref a0), (.int (0 : Int32)), (.ref tt)])) (fun t kt => ?_) ?_
      · refine st14 t ?_
        refine XS.aloadN X14.here hx rfl (hb hby d6_59) rfl rfl ?_
        exact kt
      obtain ⟨T15, X15, e15, st15⟩ := getF X14 hx hZ hown (host := "") (Or.inl (wd28 hw)) Via.refl e14 F_n (g := (mkF m 60 #[.val (.ref a0), .val (.long q1), .second, .unset] [(.ref a0), (.int (0 : Int32)), (.ref tt)])) rfl rfl (hb hby d6_60)
      refine own_by (A' := T15.setTop (mkF m 64 #[.val (.ref a0), .val (.long q1), .second, .unset] [(.long q1), (.int (3 : Int32)), (.int (0 : Int32)), (.ref tt)])) (fun t kt => ?_) ?_
      · refine st15 t ?_
        refine XS.lloadN X15.here hx rfl (hb hby d6_63) rfl ?_
        exact kt
      obtain ⟨_, _, ⟨T16, L16, k16, n16⟩, -, X16, ⟨Lc16, hQ16, l16, y16, z16⟩, st16⟩ := Jvm.LawKit.callS X15 hx (y := (⟨"java/util/Arrays", "binarySearch", "([JIIJ)I"⟩ : MethodName)) hown (mvT hZ (wd66 hw)) (mvT hZ (wd67 hw)) (mvT hZ (wd68 hw)) (mvT hZ (wd69 hw)) (by decide) (backOf (W := 0) (rmBS03 l Z aw hw [] tt q1 t0 t1 t2 h0 n0 (Nat.le_trans Z0 K0.1) V_t) hZ (wd69 hw) (wd68 hw) (by decide) (by decide)) (g := (mkF m 64 #[.val (.ref a0), .val (.long q1), .second, .unset] [(.long q1), (.int (3 : Int32)), (.int (0 : Int32)), (.ref tt)])) rfl (by rw [hml]; rfl) (argsL := [(.ref tt), (.int (0 : Int32)), (.int (3 : Int32)), (.long q1)]) (rest := []) (lenOf pd_4 rfl) rfl (by show 2 * 0 + _ ≤ _; exact Nat.le_of_eq rfl) (hb hby d6_64) (fun _ _ => ⟨rfl, e15, (by decide : 0 + 0 ≤ _), (by decide : 0 + 0 ≤ _)⟩)
      dsimp only [Pt.U, Pt.locs, Pt.cells, Pt.slots] at X16 l16 y16 z16 st16 hQ16
      subst l16 y16 z16
      obtain ⟨rfl, N16q, e16⟩ := hQ16
      have N16 := Fr.app N0 N16q
      refine own_by (A' := T16.setTop (mkF m 69 #[.val (.ref a0), .val (.long q1), .second, .val (.int (own_b003 t0 t1 t2 q1))] [(.int (own_b003 t0 t1 t2 q1))])) (fun t kt => ?_) ?_
      · refine st16 t ?_
        refine XS.istoreN X16.here hx rfl (hb hby d6_67) rfl (l' := #[.val (.ref a0), .val (.long q1), .second, .val (.int (own_b003 t0 t1 t2 q1))]) rfl ?_
        refine XS.iloadN X16.here hx rfl (hb hby d6_68) rfl ?_
        exact kt
      by_cases hc69_17 : (own_b003 t0 t1 t2 q1) < (0 : Int32)
      · refine own_by (A' := T16.setTop (mkF m 82 #[.val (.ref a0), .val (.long q1), .second, .val (.int (own_b003 t0 t1 t2 q1))] [(.int ((-(own_b003 t0 t1 t2 q1)) - (1 : Int32)))])) (fun t kt => ?_) ?_
        · refine XS.ifYes X16.here hx rfl (pc0 := 69) (pc' := 78) rfl (hb hby d6_69) rfl ((if0 _ _).trans (tlt hc69_17).1) (by decide) (by decide) ?_
          refine XS.iloadN X16.here hx rfl (hb hby d6_78) rfl ?_
          refine XS.ineg X16.here hx rfl (hb hby d6_79) rfl ?_
          refine XS.iconst X16.here hx rfl (hb hby d6_80) ?_
          refine XS.isub X16.here hx rfl (hb hby d6_81) rfl ?_
          exact kt
        obtain ⟨fs, hr, hrun, hended, hW, hsame⟩ := X16.leave (v := some (.int ((-(own_b003 t0 t1 t2 q1)) - (1 : Int32)))) (fun h => by rw [Bd.returns] at h; cases h)
        refine ⟨_, _, ?_, hrun, hended, _, _, rfl, ?_, ⟨_, rfl⟩, hW, hsame.mono (by decide) (by decide)⟩
        · exact retI X16 hx Bd.returns (hb hby d6_82) hr
        · show QFAu Z a0 q1 t0 t1 t2 (0 : Int32) (3 : Int32) h0 n0 _ T16.heap _
          rw [e16]
          exact ⟨_, (by rw [own_fa03, if_pos hc24_7, if_neg hc43_11, if_pos hc69_17]), own_faS03 hs, N16, rfl⟩
      · refine own_by (A' := T16.setTop (mkF m 82 #[.val (.ref a0), .val (.long q1), .second, .val (.int (own_b003 t0 t1 t2 q1))] [(.int ((own_b003 t0 t1 t2 q1) + (1 : Int32)))])) (fun t kt => ?_) ?_
        · refine XS.ifNo X16.here hx rfl (hb hby d6_69) rfl ((if0 _ _).trans (flt hc69_17).1) ?_
          refine XS.iloadN X16.here hx rfl (hb hby d6_72) rfl ?_
          refine XS.iconst X16.here hx rfl (hb hby d6_73) ?_
          refine XS.iadd X16.here hx rfl (hb hby d6_74) rfl ?_
          refine XS.goto X16.here hx rfl (pc0 := 75) (pc' := 82) rfl (hb hby d6_75) (by decide) (by decide) ?_
          exact kt
        obtain ⟨fs, hr, hrun, hended, hW, hsame⟩ := X16.leave (v := some (.int ((own_b003 t0 t1 t2 q1) + (1 : Int32)))) (fun h => by rw [Bd.returns] at h; cases h)
        refine ⟨_, _, ?_, hrun, hended, _, _, rfl, ?_, ⟨_, rfl⟩, hW, hsame.mono (by decide) (by decide)⟩
        · exact retI X16 hx Bd.returns (hb hby d6_82) hr
        · show QFAu Z a0 q1 t0 t1 t2 (0 : Int32) (3 : Int32) h0 n0 _ T16.heap _
          rw [e16]
          exact ⟨_, (by rw [own_fa03, if_pos hc24_7, if_neg hc43_11, if_neg hc69_17]), own_faS03 hs, N16, rfl⟩
  · refine own_by (A' := T5.setTop (mkF m 28 #[.val (.ref a0), .val (.long q1), .second, .unset] [(.ref a0)])) (fun t kt => ?_) ?_
    · refine XS.ifNo X5.here hx rfl (hb hby d6_24) rfl ((if0 _ _).trans (flt (fun q => hc24_7 ((lw_gt _ _).mp q))).2.2.1) ?_
      refine XS.aloadN X5.here hx rfl (hb hby d6_27) rfl rfl ?_
      exact kt
    obtain ⟨T18, X18, e18, st18⟩ := getF X5 hx hZ hown (host := "") (Or.inl (wd28 hw)) Via.refl e5 F_n (g := (mkF m 28 #[.val (.ref a0), .val (.long q1), .second, .unset] [(.ref a0)])) rfl rfl (hb hby d6_28)
    refine own_by (A' := T18.setTop (mkF m 31 #[.val (.ref a0), .val (.long q1), .second, .unset] [(.int (3 : Int32))])) (fun t kt => st18 t kt) ?_
    obtain ⟨fs, hr, hrun, hended, hW, hsame⟩ := X18.leave (v := some (.int (3 : Int32))) (fun h => by rw [Bd.returns] at h; cases h)
    refine ⟨_, _, ?_, hrun, hended, _, _, rfl, ?_, ⟨_, rfl⟩, hW, hsame.mono (by decide) (by decide)⟩
    · exact retI X18 hx Bd.returns (hb hby d6_31) hr
    · show QFAu Z a0 q1 t0 t1 t2 (0 : Int32) (3 : Int32) h0 n0 _ T18.heap _
      rw [e18]
      exact ⟨_, (by rw [own_fa03, if_neg hc24_7]), own_faS03 hs, N0, rfl⟩
def own_fa11 (t0 t1 t2 q1 : Int64) : Int32 := (1 : Int32)
theorem own_faS11 {t0 t1 t2 x : Int64} (hs : own_Srt 1 1 t0 t1 t2) : own_FA 1 1 t0 t1 t2 x (own_fa11 t0 t1 t2 x) := by
  simp only [own_Srt, Int64.lt_iff_toInt_lt, Int32.reduceToInt] at hs
  all_goals first
    | (exfalso; simp only [Int64.lt_iff_toInt_lt] at *; omega)
    | (simp [own_FA, own_fa11]; done)
    | (simp [own_FA, own_fa11]; simp only [Int64.lt_iff_toInt_lt] at *; omega)
theorem ef_rmFA11 (m : MethodId) (a0 : Addr) (q1 : Int64) : entryFrame m #[(.ref a0), (.long q1)] 4 = mkF m 0 #[.val (.ref a0), .val (.long q1), .second, .unset] [] := by first | (simp [entryFrame, mkF, argsToLocals, Value.category]; done) | rfl
set_option maxRecDepth 65536 in
set_option maxHeartbeats 40000000 in
theorem rmFA11 (l : Launch) (Z : State) (aw : Array Value) (hw : ∀ d ∈ tables_1, d.before aw Z = true) (ws : List Jvm.Cond) (a0 : Addr) (q1 : Int64) (tt : Addr) (t0 : Int64) (t1 : Int64) (t2 : Int64) (h0 : Heap) (n0 : Nat) (Z0 : n0 ≤ h0.size) (F_t : Fld Z h0 a0 "com/example/fairshed/fairshed/shedding/SicByTime" "timesUs" "[J" (.ref tt)) (F_f : Fld Z h0 a0 "com/example/fairshed/fairshed/shedding/SicByTime" "first" "I" (.int (1 : Int32))) (F_n : Fld Z h0 a0 "com/example/fairshed/fairshed/shedding/SicByTime" "end" "I" (.int (1 : Int32))) (V_t : AF Z h0 tt .long (8 : Int32) (own_j3 t0 t1 t2)) (hs : own_Srt (1 : Int32) (1 : Int32) t0 t1 t2) :
    MetFree l (⟨"com/example/fairshed/fairshed/shedding/SicByTime", "firstAfter", "(J)I"⟩ : MethodName) (head1 (Jvm.Cond.code (⟨"com/example/fairshed/fairshed/shedding/SicByTime", "firstAfter", "(J)I"⟩ : MethodName) prog_124_method_7_code 4 (some .int) :: ws) ({ frames := 2, cells := 0, slots := 0, locals := 37 } : Room)) (fun a U => a = #[(.ref a0), (.long q1)] ∧ Z.Warmed39 U.vm ∧ U.heap = h0) (fun _ _ _ _ _ => True) (fun _ U o U' => ∃ v L, o = .returned v ∧ QFAu Z a0 q1 t0 t1 t2 (1 : Int32) (1 : Int32) h0 n0 v U'.heap L ∧ FrameEnd U o U' L ({ frames := 2, cells := 0, slots := 0, locals := 37 } : Room).cells ({ frames := 2, cells := 0, slots := 0, locals := 37 } : Room).slots) := by
  refine MetFree.of_bodySF (plainFor_of_name pn_0) hisR ?_
  intro p e s m args below meth c s₁ Bd hml0 hP hK
  obtain ⟨rfl, hZ, hh⟩ := hP
  have hx := Bd.exec
  have hby := Bd.bytes
  have hml : c.maxLocals = 4 := hml0
  have hown : s.vm.findClass "com/example/fairshed/fairshed/shedding/SicByTime" = some m.cls := findClass_of_methodNamed Bd.named
  have hnm := (name_of_methodNamed Bd.named Bd.method).1
  have X0 : Stand p l e ({ frames := 2, cells := 0, slots := 0, locals := 37 } : Room) s m #[(.ref a0), (.long q1)] below meth c s₁ [] 0 0 := Stand.of_body Bd
  have e0 : s₁.heap = h0 := by rw [← hh, Bd.state]; rfl
  have N0 := Fr.nil n0
  have K0 : Keep h0 h0 [] := Keep.refl _ _
  refine own_by (A' := s₁.setTop (mkF m 0 #[.val (.ref a0), .val (.long q1), .second, .unset] [])) (fun t k => castTop (ef_rmFA11 m a0 q1) k) ?_
  refine own_by (A' := s₁.setTop (mkF m 1 #[.val (.ref a0), .val (.long q1), .second, .unset] [(.ref a0)])) (fun t kt => ?_) ?_
  · refine XS.aloadN X0.here hx rfl (hb hby d6_0) rfl rfl ?_
    exact kt
  obtain ⟨T1, X1, e1, st1⟩ := getF X0 hx hZ hown (host := "") (Or.inl (wd26 hw)) Via.refl e0 F_f (g := (mkF m 1 #[.val (.ref a0), .val (.long q1), .second, .unset] [(.ref a0)])) rfl rfl (hb hby d6_1)
  refine own_by (A' := T1.setTop (mkF m 5 #[.val (.ref a0), .val (.long q1), .second, .unset] [(.ref a0), (.int (1 : Int32))])) (fun t kt => ?_) ?_
  · refine st1 t ?_
    refine XS.aloadN X1.here hx rfl (hb hby d6_4) rfl rfl ?_
    exact kt
  obtain ⟨T2, X2, e2, st2⟩ := getF X1 hx hZ hown (host := "") (Or.inl (wd28 hw)) Via.refl e1 F_n (g := (mkF m 5 #[.val (.ref a0), .val (.long q1), .second, .unset] [(.ref a0), (.int (1 : Int32))])) rfl rfl (hb hby d6_5)
  refine own_by (A' := T2.setTop (mkF m 8 #[.val (.ref a0), .val (.long q1), .second, .unset] [(.int (1 : Int32)), (.int (1 : Int32))])) (fun t kt => st2 t kt) ?_
  have hc8_3 : (1 : Int32) = (1 : Int32) := by decide
  refine own_by (A' := T2.setTop (mkF m 28 #[.val (.ref a0), .val (.long q1), .second, .unset] [(.ref a0)])) (fun t kt => ?_) ?_
  · refine XS.icmpYes X2.here hx rfl (pc0 := 8) (pc' := 27) rfl (hb hby d6_8) rfl (teq hc8_3).1 (by decide) (by decide) ?_
    refine XS.aloadN X2.here hx rfl (hb hby d6_27) rfl rfl ?_
    exact kt
  obtain ⟨T4, X4, e4, st4⟩ := getF X2 hx hZ hown (host := "") (Or.inl (wd28 hw)) Via.refl e2 F_n (g := (mkF m 28 #[.val (.ref a0), .val (.long q1), .second, .unset] [(.ref a0)])) rfl rfl (hb hby d6_28)
  refine own_by (A' := T4.setTop (mkF m 31 #[.val (.ref a0), .val (.long q1), .second, .unset] [(.int (1 : Int32))])) (fun t kt => st4 t kt) ?_
  obtain ⟨fs, hr, hrun, hended, hW, hsame⟩ := X4.leave (v := some (.int (1 : Int32))) (fun h => by rw [Bd.returns] at h; cases h)
  refine ⟨_, _, ?_, hrun, hended, _, _, rfl, ?_, ⟨_, rfl⟩, hW, hsame.mono (by decide) (by decide)⟩
  · exact retI X4 hx Bd.returns (hb hby d6_31) hr
  · show QFAu Z a0 q1 t0 t1 t2 (1 : Int32) (1 : Int32) h0 n0 _ T4.heap _
    rw [e4]
    exact ⟨_, rfl, own_faS11 hs, N0, rfl⟩
def own_fa12 (t0 t1 t2 q1 : Int64) : Int32 := (if q1 < t1 then (if q1 < t1 then (1 : Int32) else (if (own_b012 t0 t1 t2 q1) < (0 : Int32) then ((-(own_b012 t0 t1 t2 q1)) - (1 : Int32)) else ((own_b012 t0 t1 t2 q1) + (1 : Int32)))) else (2 : Int32))
theorem own_faS12 {t0 t1 t2 x : Int64} (hs : own_Srt 1 2 t0 t1 t2) : own_FA 1 2 t0 t1 t2 x (own_fa12 t0 t1 t2 x) := by
  simp only [own_Srt, Int64.lt_iff_toInt_lt, Int32.reduceToInt] at hs
  by_cases c1 : x < t1 <;> by_cases d1 : t1 < x
  all_goals first
    | (exfalso; simp only [Int64.lt_iff_toInt_lt] at *; omega)
    | (simp [own_FA, own_fa12, own_b012, c1, d1]; done)
    | (simp [own_FA, own_fa12, own_b012, c1, d1]; simp only [Int64.lt_iff_toInt_lt] at *; omega)
theorem ef_rmFA12 (m : MethodId) (a0 : Addr) (q1 : Int64) : entryFrame m #[(.ref a0), (.long q1)] 4 = mkF m 0 #[.val (.ref a0), .val (.long q1), .second, .unset] [] := by first | (simp [entryFrame, mkF, argsToLocals, Value.category]; done) | rfl
set_option maxRecDepth 65536 in
set_option maxHeartbeats 40000000 in
theorem rmFA12 (l : Launch) (Z : State) (aw : Array Value) (hw : ∀ d ∈ tables_1, d.before aw Z = true) (ws : List Jvm.Cond) (a0 : Addr) (q1 : Int64) (tt : Addr) (t0 : Int64) (t1 : Int64) (t2 : Int64) (h0 : Heap) (n0 : Nat) (Z0 : n0 ≤ h0.size) (F_t : Fld Z h0 a0 "com/example/fairshed/fairshed/shedding/SicByTime" "timesUs" "[J" (.ref tt)) (F_f : Fld Z h0 a0 "com/example/fairshed/fairshed/shedding/SicByTime" "first" "I" (.int (1 : Int32))) (F_n : Fld Z h0 a0 "com/example/fairshed/fairshed/shedding/SicByTime" "end" "I" (.int (2 : Int32))) (V_t : AF Z h0 tt .long (8 : Int32) (own_j3 t0 t1 t2)) (hs : own_Srt (1 : Int32) (2 : Int32) t0 t1 t2) :
    MetFree l (⟨"com/example/fairshed/fairshed/shedding/SicByTime", "firstAfter", "(J)I"⟩ : MethodName) (head1 (Jvm.Cond.code (⟨"com/example/fairshed/fairshed/shedding/SicByTime", "firstAfter", "(J)I"⟩ : MethodName) prog_124_method_7_code 4 (some .int) :: ws) ({ frames := 2, cells := 0, slots := 0, locals := 37 } : Room)) (fun a U => a = #[(.ref a0), (.long q1)] ∧ Z.Warmed39 U.vm ∧ U.heap = h0) (fun _ _ _ _ _ => True) (fun _ U o U' => ∃ v L, o = .returned v ∧ QFAu Z a0 q1 t0 t1 t2 (1 : Int32) (2 : Int32) h0 n0 v U'.heap L ∧ FrameEnd U o U' L ({ frames := 2, cells := 0, slots := 0, locals := 37 } : Room).cells ({ frames := 2, cells := 0, slots := 0, locals := 37 } : Room).slots) := by
  refine MetFree.of_bodySF (plainFor_of_name pn_0) hisR ?_
  intro p e s m args below meth c s₁ Bd hml0 hP hK
  obtain ⟨rfl, hZ, hh⟩ := hP
  have hx := Bd.exec
  have hby := Bd.bytes
  have hml : c.maxLocals = 4 := hml0
  have hown : s.vm.findClass "com/example/fairshed/fairshed/shedding/SicByTime" = some m.cls := findClass_of_methodNamed Bd.named
  have hnm := (name_of_methodNamed Bd.named Bd.method).1
  have X0 : Stand p l e ({ frames := 2, cells := 0, slots := 0, locals := 37 } : Room) s m #[(.ref a0), (.long q1)] below meth c s₁ [] 0 0 := Stand.of_body Bd
  have e0 : s₁.heap = h0 := by rw [← hh, Bd.state]; rfl
  have N0 := Fr.nil n0
  have K0 : Keep h0 h0 [] := Keep.refl _ _
  refine own_by (A' := s₁.setTop (mkF m 0 #[.val (.ref a0), .val (.long q1), .second, .unset] [])) (fun t k => castTop (ef_rmFA12 m a0 q1) k) ?_
  refine own_by (A' := s₁.setTop (mkF m 1 #[.val (.ref a0), .val (.long q1), .second, .unset] [(.ref a0)])) (fun t kt => ?_) ?_
  · refine XS.aloadN X0.here hx rfl (hb hby d6_0) rfl rfl ?_
    exact kt
  obtain ⟨T1, X1, e1, st1⟩ := getF X0 hx hZ hown (host := "") (Or.inl (wd26 hw)) Via.refl e0 F_f (g := (mkF m 1 #[.val (.ref a0), .val (.long q1), .second, .unset] [(.ref a0)])) rfl rfl (hb hby d6_1)
  refine own_by (A' := T1.setTop (mkF m 5 #[.val (.ref a0), .val (.long q1), .second, .unset] [(.ref a0), (.int (1 : Int32))])) (fun t kt => ?_) ?_
  · refine st1 t ?_
    refine XS.aloadN X1.here hx rfl (hb hby d6_4) rfl rfl ?_
    exact kt
  obtain ⟨T2, X2, e2, st2⟩ := getF X1 hx hZ hown (host := "") (Or.inl (wd28 hw)) Via.refl e1 F_n (g := (mkF m 5 #[.val (.ref a0), .val (.long q1), .second, .unset] [(.ref a0), (.int (1 : Int32))])) rfl rfl (hb hby d6_5)
  refine own_by (A' := T2.setTop (mkF m 8 #[.val (.ref a0), .val (.long q1), .second, .unset] [(.int (2 : Int32)), (.int (1 : Int32))])) (fun t kt => st2 t kt) ?_
  have hc8_3 : ¬ ((1 : Int32) = (2 : Int32)) := by decide
  refine own_by (A' := T2.setTop (mkF m 12 #[.val (.ref a0), .val (.long q1), .second, .unset] [(.ref a0)])) (fun t kt => ?_) ?_
  · refine XS.icmpNo X2.here hx rfl (hb hby d6_8) rfl (feq hc8_3).1 ?_
    refine XS.aloadN X2.here hx rfl (hb hby d6_11) rfl rfl ?_
    exact kt
  obtain ⟨T4, X4, e4, st4⟩ := getF X2 hx hZ hown (host := "") (Or.inl (wd14 hw)) Via.refl e2 F_t (g := (mkF m 12 #[.val (.ref a0), .val (.long q1), .second, .unset] [(.ref a0)])) rfl rfl (hb hby d6_12)
  refine own_by (A' := T4.setTop (mkF m 16 #[.val (.ref a0), .val (.long q1), .second, .unset] [(.ref a0), (.ref tt)])) (fun t kt => ?_) ?_
  · refine st4 t ?_
    refine XS.aloadN X4.here hx rfl (hb hby d6_15) rfl rfl ?_
    exact kt
  obtain ⟨T5, X5, e5, st5⟩ := getF X4 hx hZ hown (host := "") (Or.inl (wd28 hw)) Via.refl e4 F_n (g := (mkF m 16 #[.val (.ref a0), .val (.long q1), .second, .unset] [(.ref a0), (.ref tt)])) rfl rfl (hb hby d6_16)
  refine own_by (A' := T5.setTop (mkF m 21 #[.val (.ref a0), .val (.long q1), .second, .unset] [(.int (1 : Int32)), (.ref tt)])) (fun t kt => ?_) ?_
  · refine st5 t ?_
    refine XS.iconst X5.here hx rfl (hb hby d6_19) ?_
    refine XS.isub X5.here hx rfl (hb hby d6_20) rfl ?_
    exact kt
  obtain ⟨cl6, Ar6, Sz6, Mn6, Ha6⟩ := id V_t
  have hin6 := inb_of (j := (1 : Int32)) Sz6 ⟨by decide, by decide⟩
  have hat6 : cl6.slots[((1 : Int32)).toNatClampNeg]? = some (.long t1) := (Ha6 _ (Nat.lt_of_not_le fun q => hin6 (Or.inr q))).trans (congrArg some rfl)
  refine own_by (A' := T5.setTop (mkF m 24 #[.val (.ref a0), .val (.long q1), .second, .unset] [(.int (lcmpW t1 q1))])) (fun t kt => ?_) ?_
  · refine X5.laload hx (j := (1 : Int32)) (v := (.long t1)) (by rw [e5]; exact Ar6.1) (State.isArrayOf_alike hZ.alike Ar6.2.1) Ar6.2.2 hin6 hat6 (g := (mkF m 21 #[.val (.ref a0), .val (.long q1), .second, .unset] [(.int (1 : Int32)), (.ref tt)])) rfl rfl (hb hby d6_21) _ ?_
    refine XS.lloadN X5.here hx rfl (hb hby d6_22) rfl ?_
    refine XS.lcmp X5.here hx rfl (hb hby d6_23) rfl ?_
    exact kt
  by_cases hc24_7 : q1 < t1
  · refine own_by (A' := T5.setTop (mkF m 33 #[.val (.ref a0), .val (.long q1), .second, .unset] [(.ref a0)])) (fun t kt => ?_) ?_
    · refine XS.ifYes X5.here hx rfl (pc0 := 24) (pc' := 32) rfl (hb hby d6_24) rfl ((if0 _ _).trans (tlt ((lw_gt _ _).mpr hc24_7)).2.2.1) (by decide) (by decide) ?_
      refine XS.aloadN X5.here hx rfl (hb hby d6_32) rfl rfl ?_
      exact kt
    obtain ⟨T8, X8, e8, st8⟩ := getF X5 hx hZ hown (host := "") (Or.inl (wd14 hw)) Via.refl e5 F_t (g := (mkF m 33 #[.val (.ref a0), .val (.long q1), .second, .unset] [(.ref a0)])) rfl rfl (hb hby d6_33)
    refine own_by (A' := T8.setTop (mkF m 37 #[.val (.ref a0), .val (.long q1), .second, .unset] [(.ref a0), (.ref tt)])) (fun t kt => ?_) ?_
    · refine st8 t ?_
      refine XS.aloadN X8.here hx rfl (hb hby d6_36) rfl rfl ?_
      exact kt
    obtain ⟨T9, X9, e9, st9⟩ := getF X8 hx hZ hown (host := "") (Or.inl (wd26 hw)) Via.refl e8 F_f (g := (mkF m 37 #[.val (.ref a0), .val (.long q1), .second, .unset] [(.ref a0), (.ref tt)])) rfl rfl (hb hby d6_37)
    refine own_by (A' := T9.setTop (mkF m 40 #[.val (.ref a0), .val (.long q1), .second, .unset] [(.int (1 : Int32)), (.ref tt)])) (fun t kt => st9 t kt) ?_
    obtain ⟨cl10, Ar10, Sz10, Mn10, Ha10⟩ := id V_t
    have hin10 := inb_of (j := (1 : Int32)) Sz10 ⟨by decide, by decide⟩
    have hat10 : cl10.slots[((1 : Int32)).toNatClampNeg]? = some (.long t1) := (Ha10 _ (Nat.lt_of_not_le fun q => hin10 (Or.inr q))).trans (congrArg some rfl)
    refine own_by (A' := T9.setTop (mkF m 43 #[.val (.ref a0), .val (.long q1), .second, .unset] [(.int (lcmpW t1 q1))])) (fun t kt => ?_) ?_
    · refine X9.laload hx (j := (1 : Int32)) (v := (.long t1)) (by rw [e9]; exact Ar10.1) (State.isArrayOf_alike hZ.alike Ar10.2.1) Ar10.2.2 hin10 hat10 (g := (mkF m 40 #[.val (.ref a0), .val (.long q1), .second, .unset] [(.int (1 : Int32)), (.ref tt)])) rfl rfl (hb hby d6_40) _ ?_
      refine XS.lloadN X9.here hx rfl (hb hby d6_41) rfl ?_
      refine XS.lcmp X9.here hx rfl (hb hby d6_42) rfl ?_
      exact kt
    by_cases hc43_11 : q1 < t1
    · refine own_by (A' := T9.setTop (mkF m 47 #[.val (.ref a0), .val (.long q1), .second, .unset] [(.ref a0)])) (fun t kt => ?_) ?_
      · refine XS.ifNo X9.here hx rfl (hb hby d6_43) rfl ((if0 _ _).trans (tlt ((lw_gt _ _).mpr hc43_11)).2.2.2) ?_
        refine XS.aloadN X9.here hx rfl (hb hby d6_46) rfl rfl ?_
        exact kt
      obtain ⟨T12, X12, e12, st12⟩ := getF X9 hx hZ hown (host := "") (Or.inl (wd26 hw)) Via.refl e9 F_f (g := (mkF m 47 #[.val (.ref a0), .val (.long q1), .second, .unset] [(.ref a0)])) rfl rfl (hb hby d6_47)
      refine own_by (A' := T12.setTop (mkF m 50 #[.val (.ref a0), .val (.long q1), .second, .unset] [(.int (1 : Int32))])) (fun t kt => st12 t kt) ?_
      obtain ⟨fs, hr, hrun, hended, hW, hsame⟩ := X12.leave (v := some (.int (1 : Int32))) (fun h => by rw [Bd.returns] at h; cases h)
      refine ⟨_, _, ?_, hrun, hended, _, _, rfl, ?_, ⟨_, rfl⟩, hW, hsame.mono (by decide) (by decide)⟩
      · exact retI X12 hx Bd.returns (hb hby d6_50) hr
      · show QFAu Z a0 q1 t0 t1 t2 (1 : Int32) (2 : Int32) h0 n0 _ T12.heap _
        rw [e12]
        exact ⟨_, (by rw [own_fa12, if_pos hc24_7, if_pos hc43_11]), own_faS12 hs, N0, rfl⟩
    · refine own_by (A' := T9.setTop (mkF m 52 #[.val (.ref a0), .val (.long q1), .second, .unset] [(.ref a0)])) (fun t kt => ?_) ?_
      · refine XS.ifYes X9.here hx rfl (pc0 := 43) (pc' := 51) rfl (hb hby d6_43) rfl ((if0 _ _).trans (flt (fun q => hc43_11 ((lw_gt _ _).mp q))).2.2.2) (by decide) (by decide) ?_
        refine XS.aloadN X9.here hx rfl (hb hby d6_51) rfl rfl ?_
        exact kt
      obtain ⟨T13, X13, e13, st13⟩ := getF X9 hx hZ hown (host := "") (Or.inl (wd14 hw)) Via.refl e9 F_t (g := (mkF m 52 #[.val (.ref a0), .val (.long q1), .second, .unset] [(.ref a0)])) rfl rfl (hb hby d6_52)
      refine own_by (A' := T13.setTop (mkF m 56 #[.val (.ref a0), .val (.long q1), .second, .unset] [(.ref a0), (.ref tt)])) (fun t kt => ?_) ?_
      · refine st13 t ?_
        refine XS.aloadN X13.here hx rfl (hb hby d6_55) rfl rfl ?_
        exact kt
      obtain ⟨T14, X14, e14, st14⟩ := getF X13 hx hZ hown (host := "") (Or.inl (wd26 hw)) Via.refl e13 F_f (g := (mkF m 56 #[.val (.ref a0), .val (.long q1), .second, .unset] [(.ref a0), (.ref tt)])) rfl rfl (hb hby d6_56)
      refine own_by (A' := T14.setTop (mkF m 60 #[.val (.ref a0), .val (.long q1), .second, .unset] [(.ref a0), (.int (1 : Int32)), (.ref tt)])) (fun t kt => ?_) ?_
      · refine st14 t ?_
        refine XS.aloadN X14.here hx rfl (hb hby d6_59) rfl rfl ?_
        exact kt
      obtain ⟨T15, X15, e15, st15⟩ := getF X14 hx hZ hown (host := "") (Or.inl (wd28 hw)) Via.refl e14 F_n (g := (mkF m 60 #[.val (.ref a0), .val (.long q1), .second, .unset] [(.ref a0), (.int (1 : Int32)), (.ref tt)])) rfl rfl (hb hby d6_60)
      refine own_by (A' := T15.setTop (mkF m 64 #[.val (.ref a0), .val (.long q1), .second, .unset] [(.long q1), (.int (2 : Int32)), (.int (1 : Int32)), (.ref tt)])) (fun t kt => ?_) ?_
      · refine st15 t ?_
        refine XS.lloadN X15.here hx rfl (hb hby d6_63) rfl ?_
        exact kt
      obtain ⟨_, _, ⟨T16, L16, k16, n16⟩, -, X16, ⟨Lc16, hQ16, l16, y16, z16⟩, st16⟩ := Jvm.LawKit.callS X15 hx (y := (⟨"java/util/Arrays", "binarySearch", "([JIIJ)I"⟩ : MethodName)) hown (mvT hZ (wd66 hw)) (mvT hZ (wd67 hw)) (mvT hZ (wd68 hw)) (mvT hZ (wd69 hw)) (by decide) (backOf (W := 0) (rmBS12 l Z aw hw [] tt q1 t0 t1 t2 h0 n0 (Nat.le_trans Z0 K0.1) V_t) hZ (wd69 hw) (wd68 hw) (by decide) (by decide)) (g := (mkF m 64 #[.val (.ref a0), .val (.long q1), .second, .unset] [(.long q1), (.int (2 : Int32)), (.int (1 : Int32)), (.ref tt)])) rfl (by rw [hml]; rfl) (argsL := [(.ref tt), (.int (1 : Int32)), (.int (2 : Int32)), (.long q1)]) (rest := []) (lenOf pd_4 rfl) rfl (by show 2 * 0 + _ ≤ _; exact Nat.le_of_eq rfl) (hb hby d6_64) (fun _ _ => ⟨rfl, e15, (by decide : 0 + 0 ≤ _), (by decide : 0 + 0 ≤ _)⟩)
      dsimp only [Pt.U, Pt.locs, Pt.cells, Pt.slots] at X16 l16 y16 z16 st16 hQ16
      subst l16 y16 z16
      obtain ⟨rfl, N16q, e16⟩ := hQ16
      have N16 := Fr.app N0 N16q
      refine own_by (A' := T16.setTop (mkF m 69 #[.val (.ref a0), .val (.long q1), .second, .val (.int (own_b012 t0 t1 t2 q1))] [(.int (own_b012 t0 t1 t2 q1))])) (fun t kt => ?_) ?_
      · refine st16 t ?_
        refine XS.istoreN X16.here hx rfl (hb hby d6_67) rfl (l' := #[.val (.ref a0), .val (.long q1), .second, .val (.int (own_b012 t0 t1 t2 q1))]) rfl ?_
        refine XS.iloadN X16.here hx rfl (hb hby d6_68) rfl ?_
        exact kt
      by_cases hc69_17 : (own_b012 t0 t1 t2 q1) < (0 : Int32)
      · refine own_by (A' := T16.setTop (mkF m 82 #[.val (.ref a0), .val (.long q1), .second, .val (.int (own_b012 t0 t1 t2 q1))] [(.int ((-(own_b012 t0 t1 t2 q1)) - (1 : Int32)))])) (fun t kt => ?_) ?_
        · refine XS.ifYes X16.here hx rfl (pc0 := 69) (pc' := 78) rfl (hb hby d6_69) rfl ((if0 _ _).trans (tlt hc69_17).1) (by decide) (by decide) ?_
          refine XS.iloadN X16.here hx rfl (hb hby d6_78) rfl ?_
          refine XS.ineg X16.here hx rfl (hb hby d6_79) rfl ?_
          refine XS.iconst X16.here hx rfl (hb hby d6_80) ?_
          refine XS.isub X16.here hx rfl (hb hby d6_81) rfl ?_
          exact kt
        obtain ⟨fs, hr, hrun, hended, hW, hsame⟩ := X16.leave (v := some (.int ((-(own_b012 t0 t1 t2 q1)) - (1 : Int32)))) (fun h => by rw [Bd.returns] at h; cases h)
        refine ⟨_, _, ?_, hrun, hended, _, _, rfl, ?_, ⟨_, rfl⟩, hW, hsame.mono (by decide) (by decide)⟩
        · exact retI X16 hx Bd.returns (hb hby d6_82) hr
        · show QFAu Z a0 q1 t0 t1 t2 (1 : Int32) (2 : Int32) h0 n0 _ T16.heap _
          rw [e16]
          exact ⟨_, (by rw [own_fa12, if_pos hc24_7, if_neg hc43_11, if_pos hc69_17]), own_faS12 hs, N16, rfl⟩
      · refine own_by (A' := T16.setTop (mkF m 82 #[.val (.ref a0), .val (.long q1), .second, .val (.int (own_b012 t0 t1 t2 q1))] [(.int ((own_b012 t0 t1 t2 q1) + (1 : Int32)))])) (fun t kt => ?_) ?_
        · refine XS.ifNo X16.here hx rfl (hb hby d6_69) rfl ((if0 _ _).trans (flt hc69_17).1) ?_
          refine XS.iloadN X16.here hx rfl (hb hby d6_72) rfl ?_
          refine XS.iconst X16.here hx rfl (hb hby d6_73) ?_
          refine XS.iadd X16.here hx rfl (hb hby d6_74) rfl ?_
          refine XS.goto X16.here hx rfl (pc0 := 75) (pc' := 82) rfl (hb hby d6_75) (by decide) (by decide) ?_
          exact kt
        obtain ⟨fs, hr, hrun, hended, hW, hsame⟩ := X16.leave (v := some (.int ((own_b012 t0 t1 t2 q1) + (1 : Int32)))) (fun h => by rw [Bd.returns] at h; cases h)
        refine ⟨_, _, ?_, hrun, hended, _, _, rfl, ?_, ⟨_, rfl⟩, hW, hsame.mono (by decide) (by decide)⟩
        · exact retI X16 hx Bd.returns (hb hby d6_82) hr
        · show QFAu Z a0 q1 t0 t1 t2 (1 : Int32) (2 : Int32) h0 n0 _ T16.heap _
          rw [e16]
          exact ⟨_, (by rw [own_fa12, if_pos hc24_7, if_neg hc43_11, if_neg hc69_17]), own_faS12 hs, N16, rfl⟩
  · refine own_by (A' := T5.setTop (mkF m 28 #[.val (.ref a0), .val (.long q1), .second, .unset] [(.ref a0)])) (fun t kt => ?_) ?_
    · refine XS.ifNo X5.here hx rfl (hb hby d6_24) rfl ((if0 _ _).trans (flt (fun q => hc24_7 ((lw_gt _ _).mp q))).2.2.1) ?_
      refine XS.aloadN X5.here hx rfl (hb hby d6_27) rfl rfl ?_
      exact kt
    obtain ⟨T18, X18, e18, st18⟩ := getF X5 hx hZ hown (host := "") (Or.inl (wd28 hw)) Via.refl e5 F_n (g := (mkF m 28 #[.val (.ref a0), .val (.long q1), .second, .unset] [(.ref a0)])) rfl rfl (hb hby d6_28)
    refine own_by (A' := T18.setTop (mkF m 31 #[.val (.ref a0), .val (.long q1), .second, .unset] [(.int (2 : Int32))])) (fun t kt => st18 t kt) ?_
    obtain ⟨fs, hr, hrun, hended, hW, hsame⟩ := X18.leave (v := some (.int (2 : Int32))) (fun h => by rw [Bd.returns] at h; cases h)
    refine ⟨_, _, ?_, hrun, hended, _, _, rfl, ?_, ⟨_, rfl⟩, hW, hsame.mono (by decide) (by decide)⟩
    · exact retI X18 hx Bd.returns (hb hby d6_31) hr
    · show QFAu Z a0 q1 t0 t1 t2 (1 : Int32) (2 : Int32) h0 n0 _ T18.heap _
      rw [e18]
      exact ⟨_, (by rw [own_fa12, if_neg hc24_7]), own_faS12 hs, N0, rfl⟩
def own_fa13 (t0 t1 t2 q1 : Int64) : Int32 := (if q1 < t2 then (if q1 < t1 then (1 : Int32) else (if (own_b013 t0 t1 t2 q1) < (0 : Int32) then ((-(own_b013 t0 t1 t2 q1)) - (1 : Int32)) else ((own_b013 t0 t1 t2 q1) + (1 : Int32)))) else (3 : Int32))
theorem own_faS13 {t0 t1 t2 x : Int64} (hs : own_Srt 1 3 t0 t1 t2) : own_FA 1 3 t0 t1 t2 x (own_fa13 t0 t1 t2 x) := by
  simp only [own_Srt, Int64.lt_iff_toInt_lt, Int32.reduceToInt] at hs
  by_cases c1 : x < t1 <;> by_cases c2 : x < t2 <;> by_cases d1 : t1 < x <;> by_cases d2 : t2 < x
  all_goals first
    | (exfalso; simp only [Int64.lt_iff_toInt_lt] at *; omega)
    | (simp [own_FA, own_fa13, own_b013, c1, c2, d1, d2]; done)
    | (simp [own_FA, own_fa13, own_b013, c1, c2, d1, d2]; simp only [Int64.lt_iff_toInt_lt] at *; omega)
theorem ef_rmFA13 (m : MethodId) (a0 : Addr) (q1 : Int64) : entryFrame m #[(.ref a0), (.long q1)] 4 = mkF m 0 #[.val (.ref a0), .val (.long q1), .second, .unset] [] := by first | (simp [entryFrame, mkF, argsToLocals, Value.category]; done) | rfl
set_option maxRecDepth 65536 in
set_option maxHeartbeats 40000000 in
theorem rmFA13 (l : Launch) (Z : State) (aw : Array Value) (hw : ∀ d ∈ tables_1, d.before aw Z = true) (ws : List Jvm.Cond) (a0 : Addr) (q1 : Int64) (tt : Addr) (t0 : Int64) (t1 : Int64) (t2 : Int64) (h0 : Heap) (n0 : Nat) (Z0 : n0 ≤ h0.size) (F_t : Fld Z h0 a0 "com/example/fairshed/fairshed/shedding/SicByTime" "timesUs" "[J" (.ref tt)) (F_f : Fld Z h0 a0 "com/example/fairshed/fairshed/shedding/SicByTime" "first" "I" (.int (1 : Int32))) (F_n : Fld Z h0 a0 "com/example/fairshed/fairshed/shedding/SicByTime" "end" "I" (.int (3 : Int32))) (V_t : AF Z h0 tt .long (8 : Int32) (own_j3 t0 t1 t2)) (hs : own_Srt (1 : Int32) (3 : Int32) t0 t1 t2) :
    MetFree l (⟨"com/example/fairshed/fairshed/shedding/SicByTime", "firstAfter", "(J)I"⟩ : MethodName) (head1 (Jvm.Cond.code (⟨"com/example/fairshed/fairshed/shedding/SicByTime", "firstAfter", "(J)I"⟩ : MethodName) prog_124_method_7_code 4 (some .int) :: ws) ({ frames := 2, cells := 0, slots := 0, locals := 37 } : Room)) (fun a U => a = #[(.ref a0), (.long q1)] ∧ Z.Warmed39 U.vm ∧ U.heap = h0) (fun _ _ _ _ _ => True) (fun _ U o U' => ∃ v L, o = .returned v ∧ QFAu Z a0 q1 t0 t1 t2 (1 : Int32) (3 : Int32) h0 n0 v U'.heap L ∧ FrameEnd U o U' L ({ frames := 2, cells := 0, slots := 0, locals := 37 } : Room).cells ({ frames := 2, cells := 0, slots := 0, locals := 37 } : Room).slots) := by
  refine MetFree.of_bodySF (plainFor_of_name pn_0) hisR ?_
  intro p e s m args below meth c s₁ Bd hml0 hP hK
  obtain ⟨rfl, hZ, hh⟩ := hP
  have hx := Bd.exec
  have hby := Bd.bytes
  have hml : c.maxLocals = 4 := hml0
  have hown : s.vm.findClass "com/example/fairshed/fairshed/shedding/SicByTime" = some m.cls := findClass_of_methodNamed Bd.named
  have hnm := (name_of_methodNamed Bd.named Bd.method).1
  have X0 : Stand p l e ({ frames := 2, cells := 0, slots := 0, locals := 37 } : Room) s m #[(.ref a0), (.long q1)] below meth c s₁ [] 0 0 := Stand.of_body Bd
  have e0 : s₁.heap = h0 := by rw [← hh, Bd.state]; rfl
  have N0 := Fr.nil n0
  have K0 : Keep h0 h0 [] := Keep.refl _ _
  refine own_by (A' := s₁.setTop (mkF m 0 #[.val (.ref a0), .val (.long q1), .second, .unset] [])) (fun t k => castTop (ef_rmFA13 m a0 q1) k) ?_
  refine own_by (A' := s₁.setTop (mkF m 1 #[.val (.ref a0), .val (.long q1), .second, .unset] [(.ref a0)])) (fun t kt => ?_) ?_
  · refine XS.aloadN X0.here hx rfl (hb hby d6_0) rfl rfl ?_
    exact kt
  obtain ⟨T1, X1, e1, st1⟩ := getF X0 hx hZ hown (host := "") (Or.inl (wd26 hw)) Via.refl e0 F_f (g := (mkF m 1 #[.val (.ref a0), .val (.long q1), .second, .unset] [(.ref a0)])) rfl rfl (hb hby d6_1)
  refine own_by (A' := T1.setTop (mkF m 5 #[.val (.ref a0), .val (.long q1), .second, .unset] [(.ref a0), (.int (1 : Int32))])) (fun t kt => ?_) ?_
  · refine st1 t ?_
    refine XS.aloadN X1.here hx rfl (hb hby d6_4) rfl rfl ?_
    exact kt
  obtain ⟨T2, X2, e2, st2⟩ := getF X1 hx hZ hown (host := "") (Or.inl (wd28 hw)) Via.refl e1 F_n (g := (mkF m 5 #[.val (.ref a0), .val (.long q1), .second, .unset] [(.ref a0), (.int (1 : Int32))])) rfl rfl (hb hby d6_5)
  refine own_by (A' := T2.setTop (mkF m 8 #[.val (.ref a0), .val (.long q1), .second, .unset] [(.int (3 : Int32)), (.int (1 : Int32))])) (fun t kt => st2 t kt) ?_
  have hc8_3 : ¬ ((1 : Int32) = (3 : Int32)) := by decide
  refine own_by (A' := T2.setTop (mkF m 12 #[.val (.ref a0), .val (.long q1), .second, .unset] [(.ref a0)])) (fun t kt => ?_) ?_
  · refine XS.icmpNo X2.here hx rfl (hb hby d6_8) rfl (feq hc8_3).1 ?_
    refine XS.aloadN X2.here hx rfl (hb hby d6_11) rfl rfl ?_
    exact kt
  obtain ⟨T4, X4, e4, st4⟩ := getF X2 hx hZ hown (host := "") (Or.inl (wd14 hw)) Via.refl e2 F_t (g := (mkF m 12 #[.val (.ref a0), .val (.long q1), .second, .unset] [(.ref a0)])) rfl rfl (hb hby d6_12)
  refine own_by (A' := T4.setTop (mkF m 16 #[.val (.ref a0), .val (.long q1), .second, .unset] [(.ref a0), (.ref tt)])) (fun t kt => ?_) ?_
  · refine st4 t ?_
    refine XS.aloadN X4.here hx rfl (hb hby d6_15) rfl rfl ?_
    exact kt
  obtain ⟨T5, X5, e5, st5⟩ := getF X4 hx hZ hown (host := "") (Or.inl (wd28 hw)) Via.refl e4 F_n (g := (mkF m 16 #[.val (.ref a0), .val (.long q1), .second, .unset] [(.ref a0), (.ref tt)])) rfl rfl (hb hby d6_16)
  refine own_by (A' := T5.setTop (mkF m 21 #[.val (.ref a0), .val (.long q1), .second, .unset] [(.int (2 : Int32)), (.ref tt)])) (fun t kt => ?_) ?_
  · refine st5 t ?_
    refine XS.iconst X5.here hx rfl (hb hby d6_19) ?_
    refine XS.isub X5.here hx rfl (hb hby d6_20) rfl ?_
    exact kt
  obtain ⟨cl6, Ar6, Sz6, Mn6, Ha6⟩ := id V_t
  have hin6 := inb_of (j := (2 : Int32)) Sz6 ⟨by decide, by decide⟩
  have hat6 : cl6.slots[((2 : Int32)).toNatClampNeg]? = some (.long t2) := (Ha6 _ (Nat.lt_of_not_le fun q => hin6 (Or.inr q))).trans (congrArg some rfl)
  refine own_by (A' := T5.setTop (mkF m 24 #[.val (.ref a0), .val (.long q1), .second, .unset] [(.int (lcmpW t2 q1))])) (fun t kt => ?_) ?_
  · refine X5.laload hx (j := (2 : Int32)) (v := (.long t2)) (by rw [e5]; exact Ar6.1) (State.isArrayOf_alike hZ.alike Ar6.2.1) Ar6.2.2 hin6 hat6 (g := (mkF m 21 #[.val (.ref a0), .val (.long q1), .second, .unset] [(.int (2 : Int32)), (.ref tt)])) rfl rfl (hb hby d6_21) _ ?_
    refine XS.lloadN X5.here hx rfl (hb hby d6_22) rfl ?_
    refine XS.lcmp X5.here hx rfl (hb hby d6_23) rfl ?_
    exact kt
  by_cases hc24_7 : q1 < t2
  · refine own_by (A' := T5.setTop (mkF m 33 #[.val (.ref a0), .val (.long q1), .second, .unset] [(.ref a0)])) (fun t kt => ?_) ?_
    · refine XS.ifYes X5.here hx rfl (pc0 := 24) (pc' := 32) rfl (hb hby d6_24) rfl ((if0 _ _).trans (tlt ((lw_gt _ _).mpr hc24_7)).2.2.1) (by decide) (by decide) ?_
      refine XS.aloadN X5.here hx rfl (hb hby d6_32) rfl rfl ?_
      exact kt
    obtain ⟨T8, X8, e8, st8⟩ := getF X5 hx hZ hown (host := "") (Or.inl (wd14 hw)) Via.refl e5 F_t (g := (mkF m 33 #[.val (.ref a0), .val (.long q1), .second, .unset] [(.ref a0)])) rfl rfl (hb hby d6_33)
    refine own_by (A' := T8.setTop (mkF m 37 #[.val (.ref a0), .val (.long q1), .second, .unset] [(.ref a0), (.ref tt)])) (fun t kt => ?_) ?_
    · refine st8 t ?_
      refine XS.aloadN X8.here hx rfl (hb hby d6_36) rfl rfl ?_
      exact kt
    obtain ⟨T9, X9, e9, st9⟩ := getF X8 hx hZ hown (host := "") (Or.inl (wd26 hw)) Via.refl e8 F_f (g := (mkF m 37 #[.val (.ref a0), .val (.long q1), .second, .unset] [(.ref a0), (.ref tt)])) rfl rfl (hb hby d6_37)
    refine own_by (A' := T9.setTop (mkF m 40 #[.val (.ref a0), .val (.long q1), .second, .unset] [(.int (1 : Int32)), (.ref tt)])) (fun t kt => st9 t kt) ?_
    obtain ⟨cl10, Ar10, Sz10, Mn10, Ha10⟩ := id V_t
    have hin10 := inb_of (j := (1 : Int32)) Sz10 ⟨by decide, by decide⟩
    have hat10 : cl10.slots[((1 : Int32)).toNatClampNeg]? = some (.long t1) := (Ha10 _ (Nat.lt_of_not_le fun q => hin10 (Or.inr q))).trans (congrArg some rfl)
    refine own_by (A' := T9.setTop (mkF m 43 #[.val (.ref a0), .val (.long q1), .second, .unset] [(.int (lcmpW t1 q1))])) (fun t kt => ?_) ?_
    · refine X9.laload hx (j := (1 : Int32)) (v := (.long t1)) (by rw [e9]; exact Ar10.1) (State.isArrayOf_alike hZ.alike Ar10.2.1) Ar10.2.2 hin10 hat10 (g := (mkF m 40 #[.val (.ref a0), .val (.long q1), .second, .unset] [(.int (1 : Int32)), (.ref tt)])) rfl rfl (hb hby d6_40) _ ?_
      refine XS.lloadN X9.here hx rfl (hb hby d6_41) rfl ?_
      refine XS.lcmp X9.here hx rfl (hb hby d6_42) rfl ?_
      exact kt
    by_cases hc43_11 : q1 < t1
    · refine own_by (A' := T9.setTop (mkF m 47 #[.val (.ref a0), .val (.long q1), .second, .unset] [(.ref a0)])) (fun t kt => ?_) ?_
      · refine XS.ifNo X9.here hx rfl (hb hby d6_43) rfl ((if0 _ _).trans (tlt ((lw_gt _ _).mpr hc43_11)).2.2.2) ?_
        refine XS.aloadN X9.here hx rfl (hb hby d6_46) rfl rfl ?_
        exact kt
      obtain ⟨T12, X12, e12, st12⟩ := getF X9 hx hZ hown (host := "") (Or.inl (wd26 hw)) Via.refl e9 F_f (g := (mkF m 47 #[.val (.ref a0), .val (.long q1), .second, .unset] [(.ref a0)])) rfl rfl (hb hby d6_47)
      refine own_by (A' := T12.setTop (mkF m 50 #[.val (.ref a0), .val (.long q1), .second, .unset] [(.int (1 : Int32))])) (fun t kt => st12 t kt) ?_
      obtain ⟨fs, hr, hrun, hended, hW, hsame⟩ := X12.leave (v := some (.int (1 : Int32))) (fun h => by rw [Bd.returns] at h; cases h)
      refine ⟨_, _, ?_, hrun, hended, _, _, rfl, ?_, ⟨_, rfl⟩, hW, hsame.mono (by decide) (by decide)⟩
      · exact retI X12 hx Bd.returns (hb hby d6_50) hr
      · show QFAu Z a0 q1 t0 t1 t2 (1 : Int32) (3 : Int32) h0 n0 _ T12.heap _
        rw [e12]
        exact ⟨_, (by rw [own_fa13, if_pos hc24_7, if_pos hc43_11]), own_faS13 hs, N0, rfl⟩
    · refine own_by (A' := T9.setTop (mkF m 52 #[.val (.ref a0), .val (.long q1), .second, .unset] [(.ref a0)])) (fun t kt => ?_) ?_
      · refine XS.ifYes X9.here hx rfl (pc0 := 43) (pc' := 51) rfl (hb hby d6_43) rfl ((if0 _ _).trans (flt (fun q => hc43_11 ((lw_gt _ _).mp q))).2.2.2) (by decide) (by decide) ?_
        refine XS.aloadN X9.here hx rfl (hb hby d6_51) rfl rfl ?_
        exact kt
      obtain ⟨T13, X13, e13, st13⟩ := getF X9 hx hZ hown (host := "") (Or.inl (wd14 hw)) Via.refl e9 F_t (g := (mkF m 52 #[.val (.ref a0), .val (.long q1), .second, .unset] [(.ref a0)])) rfl rfl (hb hby d6_52)
      refine own_by (A' := T13.setTop (mkF m 56 #[.val (.ref a0), .val (.long q1), .second, .unset] [(.ref a0), (.ref tt)])) (fun t kt => ?_) ?_
      · refine st13 t ?_
        refine XS.aloadN X13.here hx rfl (hb hby d6_55) rfl rfl ?_
        exact kt
      obtain ⟨T14, X14, e14, st14⟩ := getF X13 hx hZ hown (host := "") (Or.inl (wd26 hw)) Via.refl e13 F_f (g := (mkF m 56 #[.val (.ref a0), .val (.long q1), .second, .unset] [(.ref a0), (.ref tt)])) rfl rfl (hb hby d6_56)
      refine own_by (A' := T14.setTop (mkF m 60 #[.val (.ref a0), .val (.long q1), .second, .unset] [(.ref a0), (.int (1 : Int32)), (.ref tt)])) (fun t kt => ?_) ?_
      · refine st14 t ?_
        refine XS.aloadN X14.here hx rfl (hb hby d6_59) rfl rfl ?_
        exact kt
      obtain ⟨T15, X15, e15, st15⟩ := getF X14 hx hZ hown (host := "") (Or.inl (wd28 hw)) Via.refl e14 F_n (g := (mkF m 60 #[.val (.ref a0), .val (.long q1), .second, .unset] [(.ref a0), (.int (1 : Int32)), (.ref tt)])) rfl rfl (hb hby d6_60)
      refine own_by (A' := T15.setTop (mkF m 64 #[.val (.ref a0), .val (.long q1), .second, .unset] [(.long q1), (.int (3 : Int32)), (.int (1 : Int32)), (.ref tt)])) (fun t kt => ?_) ?_
      · refine st15 t ?_
        refine XS.lloadN X15.here hx rfl (hb hby d6_63) rfl ?_
        exact kt
      obtain ⟨_, _, ⟨T16, L16, k16, n16⟩, -, X16, ⟨Lc16, hQ16, l16, y16, z16⟩, st16⟩ := Jvm.LawKit.callS X15 hx (y := (⟨"java/util/Arrays", "binarySearch", "([JIIJ)I"⟩ : MethodName)) hown (mvT hZ (wd66 hw)) (mvT hZ (wd67 hw)) (mvT hZ (wd68 hw)) (mvT hZ (wd69 hw)) (by decide) (backOf (W := 0) (rmBS13 l Z aw hw [] tt q1 t0 t1 t2 h0 n0 (Nat.le_trans Z0 K0.1) V_t) hZ (wd69 hw) (wd68 hw) (by decide) (by decide)) (g := (mkF m 64 #[.val (.ref a0), .val (.long q1), .second, .unset] [(.long q1), (.int (3 : Int32)), (.int (1 : Int32)), (.ref tt)])) rfl (by rw [hml]; rfl) (argsL := [(.ref tt), (.int (1 : Int32)), (.int (3 : Int32)), (.long q1)]) (rest := []) (lenOf pd_4 rfl) rfl (by show 2 * 0 + _ ≤ _; exact Nat.le_of_eq rfl) (hb hby d6_64) (fun _ _ => ⟨rfl, e15, (by decide : 0 + 0 ≤ _), (by decide : 0 + 0 ≤ _)⟩)
      dsimp only [Pt.U, Pt.locs, Pt.cells, Pt.slots] at X16 l16 y16 z16 st16 hQ16
      subst l16 y16 z16
      obtain ⟨rfl, N16q, e16⟩ := hQ16
      have N16 := Fr.app N0 N16q
      refine own_by (A' := T16.setTop (mkF m 69 #[.val (.ref a0), .val (.long q1), .second, .val (.int (own_b013 t0 t1 t2 q1))] [(.int (own_b013 t0 t1 t2 q1))])) (fun t kt => ?_) ?_
      · refine st16 t ?_
        refine XS.istoreN X16.here hx rfl (hb hby d6_67) rfl (l' := #[.val (.ref a0), .val (.long q1), .second, .val (.int (own_b013 t0 t1 t2 q1))]) rfl ?_
        refine XS.iloadN X16.here hx rfl (hb hby d6_68) rfl ?_
        exact kt
      by_cases hc69_17 : (own_b013 t0 t1 t2 q1) < (0 : Int32)
      · refine own_by (A' := T16.setTop (mkF m 82 #[.val (.ref a0), .val (.long q1), .second, .val (.int (own_b013 t0 t1 t2 q1))] [(.int ((-(own_b013 t0 t1 t2 q1)) - (1 : Int32)))])) (fun t kt => ?_) ?_
        · refine XS.ifYes X16.here hx rfl (pc0 := 69) (pc' := 78) rfl (hb hby d6_69) rfl ((if0 _ _).trans (tlt hc69_17).1) (by decide) (by decide) ?_
          refine XS.iloadN X16.here hx rfl (hb hby d6_78) rfl ?_
          refine XS.ineg X16.here hx rfl (hb hby d6_79) rfl ?_
          refine XS.iconst X16.here hx rfl (hb hby d6_80) ?_
          refine XS.isub X16.here hx rfl (hb hby d6_81) rfl ?_
          exact kt
        obtain ⟨fs, hr, hrun, hended, hW, hsame⟩ := X16.leave (v := some (.int ((-(own_b013 t0 t1 t2 q1)) - (1 : Int32)))) (fun h => by rw [Bd.returns] at h; cases h)
        refine ⟨_, _, ?_, hrun, hended, _, _, rfl, ?_, ⟨_, rfl⟩, hW, hsame.mono (by decide) (by decide)⟩
        · exact retI X16 hx Bd.returns (hb hby d6_82) hr
        · show QFAu Z a0 q1 t0 t1 t2 (1 : Int32) (3 : Int32) h0 n0 _ T16.heap _
          rw [e16]
          exact ⟨_, (by rw [own_fa13, if_pos hc24_7, if_neg hc43_11, if_pos hc69_17]), own_faS13 hs, N16, rfl⟩
      · refine own_by (A' := T16.setTop (mkF m 82 #[.val (.ref a0), .val (.long q1), .second, .val (.int (own_b013 t0 t1 t2 q1))] [(.int ((own_b013 t0 t1 t2 q1) + (1 : Int32)))])) (fun t kt => ?_) ?_
        · refine XS.ifNo X16.here hx rfl (hb hby d6_69) rfl ((if0 _ _).trans (flt hc69_17).1) ?_
          refine XS.iloadN X16.here hx rfl (hb hby d6_72) rfl ?_
          refine XS.iconst X16.here hx rfl (hb hby d6_73) ?_
          refine XS.iadd X16.here hx rfl (hb hby d6_74) rfl ?_
          refine XS.goto X16.here hx rfl (pc0 := 75) (pc' := 82) rfl (hb hby d6_75) (by decide) (by decide) ?_
          exact kt
        obtain ⟨fs, hr, hrun, hended, hW, hsame⟩ := X16.leave (v := some (.int ((own_b013 t0 t1 t2 q1) + (1 : Int32)))) (fun h => by rw [Bd.returns] at h; cases h)
        refine ⟨_, _, ?_, hrun, hended, _, _, rfl, ?_, ⟨_, rfl⟩, hW, hsame.mono (by decide) (by decide)⟩
        · exact retI X16 hx Bd.returns (hb hby d6_82) hr
        · show QFAu Z a0 q1 t0 t1 t2 (1 : Int32) (3 : Int32) h0 n0 _ T16.heap _
          rw [e16]
          exact ⟨_, (by rw [own_fa13, if_pos hc24_7, if_neg hc43_11, if_neg hc69_17]), own_faS13 hs, N16, rfl⟩
  · refine own_by (A' := T5.setTop (mkF m 28 #[.val (.ref a0), .val (.long q1), .second, .unset] [(.ref a0)])) (fun t kt => ?_) ?_
    · refine XS.ifNo X5.here hx rfl (hb hby d6_24) rfl ((if0 _ _).trans (flt (fun q => hc24_7 ((lw_gt _ _).mp q))).2.2.1) ?_
      refine XS.aloadN X5.here hx rfl (hb hby d6_27) rfl rfl ?_
      exact kt
    obtain ⟨T18, X18, e18, st18⟩ := getF X5 hx hZ hown (host := "") (Or.inl (wd28 hw)) Via.refl e5 F_n (g := (mkF m 28 #[.val (.ref a0), .val (.long q1), .second, .unset] [(.ref a0)])) rfl rfl (hb hby d6_28)
    refine own_by (A' := T18.setTop (mkF m 31 #[.val (.ref a0), .val (.long q1), .second, .unset] [(.int (3 : Int32))])) (fun t kt => st18 t kt) ?_
    obtain ⟨fs, hr, hrun, hended, hW, hsame⟩ := X18.leave (v := some (.int (3 : Int32))) (fun h => by rw [Bd.returns] at h; cases h)
    refine ⟨_, _, ?_, hrun, hended, _, _, rfl, ?_, ⟨_, rfl⟩, hW, hsame.mono (by decide) (by decide)⟩
    · exact retI X18 hx Bd.returns (hb hby d6_31) hr
    · show QFAu Z a0 q1 t0 t1 t2 (1 : Int32) (3 : Int32) h0 n0 _ T18.heap _
      rw [e18]
      exact ⟨_, (by rw [own_fa13, if_neg hc24_7]), own_faS13 hs, N0, rfl⟩
def own_fa22 (t0 t1 t2 q1 : Int64) : Int32 := (2 : Int32)
theorem own_faS22 {t0 t1 t2 x : Int64} (hs : own_Srt 2 2 t0 t1 t2) : own_FA 2 2 t0 t1 t2 x (own_fa22 t0 t1 t2 x) := by
  simp only [own_Srt, Int64.lt_iff_toInt_lt, Int32.reduceToInt] at hs
  all_goals first
    | (exfalso; simp only [Int64.lt_iff_toInt_lt] at *; omega)
    | (simp [own_FA, own_fa22]; done)
    | (simp [own_FA, own_fa22]; simp only [Int64.lt_iff_toInt_lt] at *; omega)
theorem ef_rmFA22 (m : MethodId) (a0 : Addr) (q1 : Int64) : entryFrame m #[(.ref a0), (.long q1)] 4 = mkF m 0 #[.val (.ref a0), .val (.long q1), .second, .unset] [] := by first | (simp [entryFrame, mkF, argsToLocals, Value.category]; done) | rfl
set_option maxRecDepth 65536 in
set_option maxHeartbeats 40000000 in
theorem rmFA22 (l : Launch) (Z : State) (aw : Array Value) (hw : ∀ d ∈ tables_1, d.before aw Z = true) (ws : List Jvm.Cond) (a0 : Addr) (q1 : Int64) (tt : Addr) (t0 : Int64) (t1 : Int64) (t2 : Int64) (h0 : Heap) (n0 : Nat) (Z0 : n0 ≤ h0.size) (F_t : Fld Z h0 a0 "com/example/fairshed/fairshed/shedding/SicByTime" "timesUs" "[J" (.ref tt)) (F_f : Fld Z h0 a0 "com/example/fairshed/fairshed/shedding/SicByTime" "first" "I" (.int (2 : Int32))) (F_n : Fld Z h0 a0 "com/example/fairshed/fairshed/shedding/SicByTime" "end" "I" (.int (2 : Int32))) (V_t : AF Z h0 tt .long (8 : Int32) (own_j3 t0 t1 t2)) (hs : own_Srt (2 : Int32) (2 : Int32) t0 t1 t2) :
    MetFree l (⟨"com/example/fairshed/fairshed/shedding/SicByTime", "firstAfter", "(J)I"⟩ : MethodName) (head1 (Jvm.Cond.code (⟨"com/example/fairshed/fairshed/shedding/SicByTime", "firstAfter", "(J)I"⟩ : MethodName) prog_124_method_7_code 4 (some .int) :: ws) ({ frames := 2, cells := 0, slots := 0, locals := 37 } : Room)) (fun a U => a = #[(.ref a0), (.long q1)] ∧ Z.Warmed39 U.vm ∧ U.heap = h0) (fun _ _ _ _ _ => True) (fun _ U o U' => ∃ v L, o = .returned v ∧ QFAu Z a0 q1 t0 t1 t2 (2 : Int32) (2 : Int32) h0 n0 v U'.heap L ∧ FrameEnd U o U' L ({ frames := 2, cells := 0, slots := 0, locals := 37 } : Room).cells ({ frames := 2, cells := 0, slots := 0, locals := 37 } : Room).slots) := by
  refine MetFree.of_bodySF (plainFor_of_name pn_0) hisR ?_
  intro p e s m args below meth c s₁ Bd hml0 hP hK
  obtain ⟨rfl, hZ, hh⟩ := hP
  have hx := Bd.exec
  have hby := Bd.bytes
  have hml : c.maxLocals = 4 := hml0
  have hown : s.vm.findClass "com/example/fairshed/fairshed/shedding/SicByTime" = some m.cls := findClass_of_methodNamed Bd.named
  have hnm := (name_of_methodNamed Bd.named Bd.method).1
  have X0 : Stand p l e ({ frames := 2, cells := 0, slots := 0, locals := 37 } : Room) s m #[(.ref a0), (.long q1)] below meth c s₁ [] 0 0 := Stand.of_body Bd
  have e0 : s₁.heap = h0 := by rw [← hh, Bd.state]; rfl
  have N0 := Fr.nil n0
  have K0 : Keep h0 h0 [] := Keep.refl _ _
  refine own_by (A' := s₁.setTop (mkF m 0 #[.val (.ref a0), .val (.long q1), .second, .unset] [])) (fun t k => castTop (ef_rmFA22 m a0 q1) k) ?_
  refine own_by (A' := s₁.setTop (mkF m 1 #[.val (.ref a0), .val (.long q1), .second, .unset] [(.ref a0)])) (fun t kt => ?_) ?_
  · refine XS.aloadN X0.here hx rfl (hb hby d6_0) rfl rfl ?_
    exact kt
  obtain ⟨T1, X1, e1, st1⟩ := getF X0 hx hZ hown (host := "") (Or.inl (wd26 hw)) Via.refl e0 F_f (g := (mkF m 1 #[.val (.ref a0), .val (.long q1), .second, .unset] [(.ref a0)])) rfl rfl (hb hby d6_1)
  refine own_by (A' := T1.setTop (mkF m 5 #[.val (.ref a0), .val (.long q1), .second, .unset] [(.ref a0), (.int (2 : Int32))])) (fun t kt => ?_) ?_
  · refine st1 t ?_
    refine XS.aloadN X1.here hx rfl (hb hby d6_4) rfl rfl ?_
    exact kt
  obtain ⟨T2, X2, e2, st2⟩ := getF X1 hx hZ hown (host := "") (Or.inl (wd28 hw)) Via.refl e1 F_n (g := (mkF m 5 #[.val (.ref a0), .val (.long q1), .second, .unset] [(.ref a0), (.int (2 : Int32))])) rfl rfl (hb hby d6_5)
  refine own_by (A' := T2.setTop (mkF m 8 #[.val (.ref a0), .val (.long q1), .second, .unset] [(.int (2 : Int32)), (.int (2 : Int32))])) (fun t kt => st2 t kt) ?_
  have hc8_3 : (2 : Int32) = (2 : Int32) := by decide
  refine own_by (A' := T2.setTop (mkF m 28 #[.val (.ref a0), .val (.long q1), .second, .unset] [(.ref a0)])) (fun t kt => ?_) ?_
  · refine XS.icmpYes X2.here hx rfl (pc0 := 8) (pc' := 27) rfl (hb hby d6_8) rfl (teq hc8_3).1 (by decide) (by decide) ?_
    refine XS.aloadN X2.here hx rfl (hb hby d6_27) rfl rfl ?_
    exact kt
  obtain ⟨T4, X4, e4, st4⟩ := getF X2 hx hZ hown (host := "") (Or.inl (wd28 hw)) Via.refl e2 F_n (g := (mkF m 28 #[.val (.ref a0), .val (.long q1), .second, .unset] [(.ref a0)])) rfl rfl (hb hby d6_28)
  refine own_by (A' := T4.setTop (mkF m 31 #[.val (.ref a0), .val (.long q1), .second, .unset] [(.int (2 : Int32))])) (fun t kt => st4 t kt) ?_
  obtain ⟨fs, hr, hrun, hended, hW, hsame⟩ := X4.leave (v := some (.int (2 : Int32))) (fun h => by rw [Bd.returns] at h; cases h)
  refine ⟨_, _, ?_, hrun, hended, _, _, rfl, ?_, ⟨_, rfl⟩, hW, hsame.mono (by decide) (by decide)⟩
  · exact retI X4 hx Bd.returns (hb hby d6_31) hr
  · show QFAu Z a0 q1 t0 t1 t2 (2 : Int32) (2 : Int32) h0 n0 _ T4.heap _
    rw [e4]
    exact ⟨_, rfl, own_faS22 hs, N0, rfl⟩
def own_fa23 (t0 t1 t2 q1 : Int64) : Int32 := (if q1 < t2 then (if q1 < t2 then (2 : Int32) else (if (own_b023 t0 t1 t2 q1) < (0 : Int32) then ((-(own_b023 t0 t1 t2 q1)) - (1 : Int32)) else ((own_b023 t0 t1 t2 q1) + (1 : Int32)))) else (3 : Int32))
theorem own_faS23 {t0 t1 t2 x : Int64} (hs : own_Srt 2 3 t0 t1 t2) : own_FA 2 3 t0 t1 t2 x (own_fa23 t0 t1 t2 x) := by
  simp only [own_Srt, Int64.lt_iff_toInt_lt, Int32.reduceToInt] at hs
  by_cases c2 : x < t2 <;> by_cases d2 : t2 < x
  all_goals first
    | (exfalso; simp only [Int64.lt_iff_toInt_lt] at *; omega)
    | (simp [own_FA, own_fa23, own_b023, c2, d2]; done)
    | (simp [own_FA, own_fa23, own_b023, c2, d2]; simp only [Int64.lt_iff_toInt_lt] at *; omega)
theorem ef_rmFA23 (m : MethodId) (a0 : Addr) (q1 : Int64) : entryFrame m #[(.ref a0), (.long q1)] 4 = mkF m 0 #[.val (.ref a0), .val (.long q1), .second, .unset] [] := by first | (simp [entryFrame, mkF, argsToLocals, Value.category]; done) | rfl
set_option maxRecDepth 65536 in
set_option maxHeartbeats 40000000 in
theorem rmFA23 (l : Launch) (Z : State) (aw : Array Value) (hw : ∀ d ∈ tables_1, d.before aw Z = true) (ws : List Jvm.Cond) (a0 : Addr) (q1 : Int64) (tt : Addr) (t0 : Int64) (t1 : Int64) (t2 : Int64) (h0 : Heap) (n0 : Nat) (Z0 : n0 ≤ h0.size) (F_t : Fld Z h0 a0 "com/example/fairshed/fairshed/shedding/SicByTime" "timesUs" "[J" (.ref tt)) (F_f : Fld Z h0 a0 "com/example/fairshed/fairshed/shedding/SicByTime" "first" "I" (.int (2 : Int32))) (F_n : Fld Z h0 a0 "com/example/fairshed/fairshed/shedding/SicByTime" "end" "I" (.int (3 : Int32))) (V_t : AF Z h0 tt .long (8 : Int32) (own_j3 t0 t1 t2)) (hs : own_Srt (2 : Int32) (3 : Int32) t0 t1 t2) :
    MetFree l (⟨"com/example/fairshed/fairshed/shedding/SicByTime", "firstAfter", "(J)I"⟩ : MethodName) (head1 (Jvm.Cond.code (⟨"com/example/fairshed/fairshed/shedding/SicByTime", "firstAfter", "(J)I"⟩ : MethodName) prog_124_method_7_code 4 (some .int) :: ws) ({ frames := 2, cells := 0, slots := 0, locals := 37 } : Room)) (fun a U => a = #[(.ref a0), (.long q1)] ∧ Z.Warmed39 U.vm ∧ U.heap = h0) (fun _ _ _ _ _ => True) (fun _ U o U' => ∃ v L, o = .returned v ∧ QFAu Z a0 q1 t0 t1 t2 (2 : Int32) (3 : Int32) h0 n0 v U'.heap L ∧ FrameEnd U o U' L ({ frames := 2, cells := 0, slots := 0, locals := 37 } : Room).cells ({ frames := 2, cells := 0, slots := 0, locals := 37 } : Room).slots) := by
  refine MetFree.of_bodySF (plainFor_of_name pn_0) hisR ?_
  intro p e s m args below meth c s₁ Bd hml0 hP hK
  obtain ⟨rfl, hZ, hh⟩ := hP
  have hx := Bd.exec
  have hby := Bd.bytes
  have hml : c.maxLocals = 4 := hml0
  have hown : s.vm.findClass "com/example/fairshed/fairshed/shedding/SicByTime" = some m.cls := findClass_of_methodNamed Bd.named
  have hnm := (name_of_methodNamed Bd.named Bd.method).1
  have X0 : Stand p l e ({ frames := 2, cells := 0, slots := 0, locals := 37 } : Room) s m #[(.ref a0), (.long q1)] below meth c s₁ [] 0 0 := Stand.of_body Bd
  have e0 : s₁.heap = h0 := by rw [← hh, Bd.state]; rfl
  have N0 := Fr.nil n0
  have K0 : Keep h0 h0 [] := Keep.refl _ _
  refine own_by (A' := s₁.setTop (mkF m 0 #[.val (.ref a0), .val (.long q1), .second, .unset] [])) (fun t k => castTop (ef_rmFA23 m a0 q1) k) ?_
  refine own_by (A' := s₁.setTop (mkF m 1 #[.val (.ref a0), .val (.long q1), .second, .unset] [(.ref a0)])) (fun t kt => ?_) ?_
  · refine XS.aloadN X0.here hx rfl (hb hby d6_0) rfl rfl ?_
    exact kt
  obtain ⟨T1, X1, e1, st1⟩ := getF X0 hx hZ hown (host := "") (Or.inl (wd26 hw)) Via.refl e0 F_f (g := (mkF m 1 #[.val (.ref a0), .val (.long q1), .second, .unset] [(.ref a0)])) rfl rfl (hb hby d6_1)
  refine own_by (A' := T1.setTop (mkF m 5 #[.val (.ref a0), .val (.long q1), .second, .unset] [(.ref a0), (.int (2 : Int32))])) (fun t kt => ?_) ?_
  · refine st1 t ?_
    refine XS.aloadN X1.here hx rfl (hb hby d6_4) rfl rfl ?_
    exact kt
  obtain ⟨T2, X2, e2, st2⟩ := getF X1 hx hZ hown (host := "") (Or.inl (wd28 hw)) Via.refl e1 F_n (g := (mkF m 5 #[.val (.ref a0), .val (.long q1), .second, .unset] [(.ref a0), (.int (2 : Int32))])) rfl rfl (hb hby d6_5)
  refine own_by (A' := T2.setTop (mkF m 8 #[.val (.ref a0), .val (.long q1), .second, .unset] [(.int (3 : Int32)), (.int (2 : Int32))])) (fun t kt => st2 t kt) ?_
  have hc8_3 : ¬ ((2 : Int32) = (3 : Int32)) := by decide
  refine own_by (A' := T2.setTop (mkF m 12 #[.val (.ref a0), .val (.long q1), .second, .unset] [(.ref a0)])) (fun t kt => ?_) ?_
  · refine XS.icmpNo X2.here hx rfl (hb hby d6_8) rfl (feq hc8_3).1 ?_
    refine XS.aloadN X2.here hx rfl (hb hby d6_11) rfl rfl ?_
    exact kt
  obtain ⟨T4, X4, e4, st4⟩ := getF X2 hx hZ hown (host := "") (Or.inl (wd14 hw)) Via.refl e2 F_t (g := (mkF m 12 #[.val (.ref a0), .val (.long q1), .second, .unset] [(.ref a0)])) rfl rfl (hb hby d6_12)
  refine own_by (A' := T4.setTop (mkF m 16 #[.val (.ref a0), .val (.long q1), .second, .unset] [(.ref a0), (.ref tt)])) (fun t kt => ?_) ?_
  · refine st4 t ?_
    refine XS.aloadN X4.here hx rfl (hb hby d6_15) rfl rfl ?_
    exact kt
  obtain ⟨T5, X5, e5, st5⟩ := getF X4 hx hZ hown (host := "") (Or.inl (wd28 hw)) Via.refl e4 F_n (g := (mkF m 16 #[.val (.ref a0), .val (.long q1), .second, .unset] [(.ref a0), (.ref tt)])) rfl rfl (hb hby d6_16)
  refine own_by (A' := T5.setTop (mkF m 21 #[.val (.ref a0), .val (.long q1), .second, .unset] [(.int (2 : Int32)), (.ref tt)])) (fun t kt => ?_) ?_
  · refine st5 t ?_
    refine XS.iconst X5.here hx rfl (hb hby d6_19) ?_
    refine XS.isub X5.here hx rfl (hb hby d6_20) rfl ?_
    exact kt
  obtain ⟨cl6, Ar6, Sz6, Mn6, Ha6⟩ := id V_t
  have hin6 := inb_of (j := (2 : Int32)) Sz6 ⟨by decide, by decide⟩
  have hat6 : cl6.slots[((2 : Int32)).toNatClampNeg]? = some (.long t2) := (Ha6 _ (Nat.lt_of_not_le fun q => hin6 (Or.inr q))).trans (congrArg some rfl)
  refine own_by (A' := T5.setTop (mkF m 24 #[.val (.ref a0), .val (.long q1), .second, .unset] [(.int (lcmpW t2 q1))])) (fun t kt => ?_) ?_
  · refine X5.laload hx (j := (2 : Int32)) (v := (.long t2)) (by rw [e5]; exact Ar6.1) (State.isArrayOf_alike hZ.alike Ar6.2.1) Ar6.2.2 hin6 hat6 (g := (mkF m 21 #[.val (.ref a0), .val (.long q1), .second, .unset] [(.int (2 : Int32)), (.ref tt)])) rfl rfl (hb hby d6_21) _ ?_
    refine XS.lloadN X5.here hx rfl (hb hby d6_22) rfl ?_
    refine XS.lcmp X5.here hx rfl (hb hby d6_23) rfl ?_
    exact kt
  by_cases hc24_7 : q1 < t2
  · refine own_by (A' := T5.setTop (mkF m 33 #[.val (.ref a0), .val (.long q1), .second, .unset] [(.ref a0)])) (fun t kt => ?_) ?_
    · refine XS.ifYes X5.here hx rfl (pc0 := 24) (pc' := 32) rfl (hb hby d6_24) rfl ((if0 _ _).trans (tlt ((lw_gt _ _).mpr hc24_7)).2.2.1) (by decide) (by decide) ?_
      refine XS.aloadN X5.here hx rfl (hb hby d6_32) rfl rfl ?_
      exact kt
    obtain ⟨T8, X8, e8, st8⟩ := getF X5 hx hZ hown (host := "") (Or.inl (wd14 hw)) Via.refl e5 F_t (g := (mkF m 33 #[.val (.ref a0), .val (.long q1), .second, .unset] [(.ref a0)])) rfl rfl (hb hby d6_33)
    refine own_by (A' := T8.setTop (mkF m 37 #[.val (.ref a0), .val (.long q1), .second, .unset] [(.ref a0), (.ref tt)])) (fun t kt => ?_) ?_
    · refine st8 t ?_
      refine XS.aloadN X8.here hx rfl (hb hby d6_36) rfl rfl ?_
      exact kt
    obtain ⟨T9, X9, e9, st9⟩ := getF X8 hx hZ hown (host := "") (Or.inl (wd26 hw)) Via.refl e8 F_f (g := (mkF m 37 #[.val (.ref a0), .val (.long q1), .second, .unset] [(.ref a0), (.ref tt)])) rfl rfl (hb hby d6_37)
    refine own_by (A' := T9.setTop (mkF m 40 #[.val (.ref a0), .val (.long q1), .second, .unset] [(.int (2 : Int32)), (.ref tt)])) (fun t kt => st9 t kt) ?_
    obtain ⟨cl10, Ar10, Sz10, Mn10, Ha10⟩ := id V_t
    have hin10 := inb_of (j := (2 : Int32)) Sz10 ⟨by decide, by decide⟩
    have hat10 : cl10.slots[((2 : Int32)).toNatClampNeg]? = some (.long t2) := (Ha10 _ (Nat.lt_of_not_le fun q => hin10 (Or.inr q))).trans (congrArg some rfl)
    refine own_by (A' := T9.setTop (mkF m 43 #[.val (.ref a0), .val (.long q1), .second, .unset] [(.int (lcmpW t2 q1))])) (fun t kt => ?_) ?_
    · refine X9.laload hx (j := (2 : Int32)) (v := (.long t2)) (by rw [e9]; exact Ar10.1) (State.isArrayOf_alike hZ.alike Ar10.2.1) Ar10.2.2 hin10 hat10 (g := (mkF m 40 #[.val (.ref a0), .val (.long q1), .second, .unset] [(.int (2 : Int32)), (.ref tt)])) rfl rfl (hb hby d6_40) _ ?_
      refine XS.lloadN X9.here hx rfl (hb hby d6_41) rfl ?_
      refine XS.lcmp X9.here hx rfl (hb hby d6_42) rfl ?_
      exact kt
    by_cases hc43_11 : q1 < t2
    · refine own_by (A' := T9.setTop (mkF m 47 #[.val (.ref a0), .val (.long q1), .second, .unset] [(.ref a0)])) (fun t kt => ?_) ?_
      · refine XS.ifNo X9.here hx rfl (hb hby d6_43) rfl ((if0 _ _).trans (tlt ((lw_gt _ _).mpr hc43_11)).2.2.2) ?_
        refine XS.aloadN X9.here hx rfl (hb hby d6_46) rfl rfl ?_
        exact kt
      obtain ⟨T12, X12, e12, st12⟩ := getF X9 hx hZ hown (host := "") (Or.inl (wd26 hw)) Via.refl e9 F_f (g := (mkF m 47 #[.val (.ref a0), .val (.long q1), .second, .unset] [(.ref a0)])) rfl rfl (hb hby d6_47)
      refine own_by (A' := T12.setTop (mkF m 50 #[.val (.ref a0), .val (.long q1), .second, .unset] [(.int (2 : Int32))])) (fun t kt => st12 t kt) ?_
      obtain ⟨fs, hr, hrun, hended, hW, hsame⟩ := X12.leave (v := some (.int (2 : Int32))) (fun h => by rw [Bd.returns] at h; cases h)
      refine ⟨_, _, ?_, hrun, hended, _, _, rfl, ?_, ⟨_, rfl⟩, hW, hsame.mono (by decide) (by decide)⟩
      · exact retI X12 hx Bd.returns (hb hby d6_50) hr
      · show QFAu Z a0 q1 t0 t1 t2 (2 : Int32) (3 : Int32) h0 n0 _ T12.heap _
        rw [e12]
        exact ⟨_, (by rw [own_fa23, if_pos hc24_7, if_pos hc43_11]), own_faS23 hs, N0, rfl⟩
    · refine own_by (A' := T9.setTop (mkF m 52 #[.val (.ref a0), .val (.long q1), .second, .unset] [(.ref a0)])) (fun t kt => ?_) ?_
      · refine XS.ifYes X9.here hx rfl (pc0 := 43) (pc' := 51) rfl (hb hby d6_43) rfl ((if0 _ _).trans (flt (fun q => hc43_11 ((lw_gt _ _).mp q))).2.2.2) (by decide) (by decide) ?_
        refine XS.aloadN X9.here hx rfl (hb hby d6_51) rfl rfl ?_
        exact kt
      obtain ⟨T13, X13, e13, st13⟩ := getF X9 hx hZ hown (host := "") (Or.inl (wd14 hw)) Via.refl e9 F_t (g := (mkF m 52 #[.val (.ref a0), .val (.long q1), .second, .unset] [(.ref a0)])) rfl rfl (hb hby d6_52)
      refine own_by (A' := T13.setTop (mkF m 56 #[.val (.ref a0), .val (.long q1), .second, .unset] [(.ref a0), (.ref tt)])) (fun t kt => ?_) ?_
      · refine st13 t ?_
        refine XS.aloadN X13.here hx rfl (hb hby d6_55) rfl rfl ?_
        exact kt
      obtain ⟨T14, X14, e14, st14⟩ := getF X13 hx hZ hown (host := "") (Or.inl (wd26 hw)) Via.refl e13 F_f (g := (mkF m 56 #[.val (.ref a0), .val (.long q1), .second, .unset] [(.ref a0), (.ref tt)])) rfl rfl (hb hby d6_56)
      refine own_by (A' := T14.setTop (mkF m 60 #[.val (.ref a0), .val (.long q1), .second, .unset] [(.ref a0), (.int (2 : Int32)), (.ref tt)])) (fun t kt => ?_) ?_
      · refine st14 t ?_
        refine XS.aloadN X14.here hx rfl (hb hby d6_59) rfl rfl ?_
        exact kt
      obtain ⟨T15, X15, e15, st15⟩ := getF X14 hx hZ hown (host := "") (Or.inl (wd28 hw)) Via.refl e14 F_n (g := (mkF m 60 #[.val (.ref a0), .val (.long q1), .second, .unset] [(.ref a0), (.int (2 : Int32)), (.ref tt)])) rfl rfl (hb hby d6_60)
      refine own_by (A' := T15.setTop (mkF m 64 #[.val (.ref a0), .val (.long q1), .second, .unset] [(.long q1), (.int (3 : Int32)), (.int (2 : Int32)), (.ref tt)])) (fun t kt => ?_) ?_
      · refine st15 t ?_
        refine XS.lloadN X15.here hx rfl (hb hby d6_63) rfl ?_
        exact kt
      obtain ⟨_, _, ⟨T16, L16, k16, n16⟩, -, X16, ⟨Lc16, hQ16, l16, y16, z16⟩, st16⟩ := Jvm.LawKit.callS X15 hx (y := (⟨"java/util/Arrays", "binarySearch", "([JIIJ)I"⟩ : MethodName)) hown (mvT hZ (wd66 hw)) (mvT hZ (wd67 hw)) (mvT hZ (wd68 hw)) (mvT hZ (wd69 hw)) (by decide) (backOf (W := 0) (rmBS23 l Z aw hw [] tt q1 t0 t1 t2 h0 n0 (Nat.le_trans Z0 K0.1) V_t) hZ (wd69 hw) (wd68 hw) (by decide) (by decide)) (g := (mkF m 64 #[.val (.ref a0), .val (.long q1), .second, .unset] [(.long q1), (.int (3 : Int32)), (.int (2 : Int32)), (.ref tt)])) rfl (by rw [hml]; rfl) (argsL := [(.ref tt), (.int (2 : Int32)), (.int (3 : Int32)), (.long q1)]) (rest := []) (lenOf pd_4 rfl) rfl (by show 2 * 0 + _ ≤ _; exact Nat.le_of_eq rfl) (hb hby d6_64) (fun _ _ => ⟨rfl, e15, (by decide : 0 + 0 ≤ _), (by decide : 0 + 0 ≤ _)⟩)
      dsimp only [Pt.U, Pt.locs, Pt.cells, Pt.slots] at X16 l16 y16 z16 st16 hQ16
      subst l16 y16 z16
      obtain ⟨rfl, N16q, e16⟩ := hQ16
      have N16 := Fr.app N0 N16q
      refine own_by (A' := T16.setTop (mkF m 69 #[.val (.ref a0), .val (.long q1), .second, .val (.int (own_b023 t0 t1 t2 q1))] [(.int (own_b023 t0 t1 t2 q1))])) (fun t kt => ?_) ?_
      · refine st16 t ?_
        refine XS.istoreN X16.here hx rfl (hb hby d6_67) rfl (l' := #[.val (.ref a0), .val (.long q1), .second, .val (.int (own_b023 t0 t1 t2 q1))]) rfl ?_
        refine XS.iloadN X16.here hx rfl (hb hby d6_68) rfl ?_
        exact kt
      by_cases hc69_17 : (own_b023 t0 t1 t2 q1) < (0 : Int32)
      · refine own_by (A' := T16.setTop (mkF m 82 #[.val (.ref a0), .val (.long q1), .second, .val (.int (own_b023 t0 t1 t2 q1))] [(.int ((-(own_b023 t0 t1 t2 q1)) - (1 : Int32)))])) (fun t kt => ?_) ?_
        · refine XS.ifYes X16.here hx rfl (pc0 := 69) (pc' := 78) rfl (hb hby d6_69) rfl ((if0 _ _).trans (tlt hc69_17).1) (by decide) (by decide) ?_
          refine XS.iloadN X16.here hx rfl (hb hby d6_78) rfl ?_
          refine XS.ineg X16.here hx rfl (hb hby d6_79) rfl ?_
          refine XS.iconst X16.here hx rfl (hb hby d6_80) ?_
          refine XS.isub X16.here hx rfl (hb hby d6_81) rfl ?_
          exact kt
        obtain ⟨fs, hr, hrun, hended, hW, hsame⟩ := X16.leave (v := some (.int ((-(own_b023 t0 t1 t2 q1)) - (1 : Int32)))) (fun h => by rw [Bd.returns] at h; cases h)
        refine ⟨_, _, ?_, hrun, hended, _, _, rfl, ?_, ⟨_, rfl⟩, hW, hsame.mono (by decide) (by decide)⟩
        · exact retI X16 hx Bd.returns (hb hby d6_82) hr
        · show QFAu Z a0 q1 t0 t1 t2 (2 : Int32) (3 : Int32) h0 n0 _ T16.heap _
          rw [e16]
          exact ⟨_, (by rw [own_fa23, if_pos hc24_7, if_neg hc43_11, if_pos hc69_17]), own_faS23 hs, N16, rfl⟩
      · refine own_by (A' := T16.setTop (mkF m 82 #[.val (.ref a0), .val (.long q1), .second, .val (.int (own_b023 t0 t1 t2 q1))] [(.int ((own_b023 t0 t1 t2 q1) + (1 : Int32)))])) (fun t kt => ?_) ?_
        · refine XS.ifNo X16.here hx rfl (hb hby d6_69) rfl ((if0 _ _).trans (flt hc69_17).1) ?_
          refine XS.iloadN X16.here hx rfl (hb hby d6_72) rfl ?_
          refine XS.iconst X16.here hx rfl (hb hby d6_73) ?_
          refine XS.iadd X16.here hx rfl (hb hby d6_74) rfl ?_
          refine XS.goto X16.here hx rfl (pc0 := 75) (pc' := 82) rfl (hb hby d6_75) (by decide) (by decide) ?_
          exact kt
        obtain ⟨fs, hr, hrun, hended, hW, hsame⟩ := X16.leave (v := some (.int ((own_b023 t0 t1 t2 q1) + (1 : Int32)))) (fun h => by rw [Bd.returns] at h; cases h)
        refine ⟨_, _, ?_, hrun, hended, _, _, rfl, ?_, ⟨_, rfl⟩, hW, hsame.mono (by decide) (by decide)⟩
        · exact retI X16 hx Bd.returns (hb hby d6_82) hr
        · show QFAu Z a0 q1 t0 t1 t2 (2 : Int32) (3 : Int32) h0 n0 _ T16.heap _
          rw [e16]
          exact ⟨_, (by rw [own_fa23, if_pos hc24_7, if_neg hc43_11, if_neg hc69_17]), own_faS23 hs, N16, rfl⟩
  · refine own_by (A' := T5.setTop (mkF m 28 #[.val (.ref a0), .val (.long q1), .second, .unset] [(.ref a0)])) (fun t kt => ?_) ?_
    · refine XS.ifNo X5.here hx rfl (hb hby d6_24) rfl ((if0 _ _).trans (flt (fun q => hc24_7 ((lw_gt _ _).mp q))).2.2.1) ?_
      refine XS.aloadN X5.here hx rfl (hb hby d6_27) rfl rfl ?_
      exact kt
    obtain ⟨T18, X18, e18, st18⟩ := getF X5 hx hZ hown (host := "") (Or.inl (wd28 hw)) Via.refl e5 F_n (g := (mkF m 28 #[.val (.ref a0), .val (.long q1), .second, .unset] [(.ref a0)])) rfl rfl (hb hby d6_28)
    refine own_by (A' := T18.setTop (mkF m 31 #[.val (.ref a0), .val (.long q1), .second, .unset] [(.int (3 : Int32))])) (fun t kt => st18 t kt) ?_
    obtain ⟨fs, hr, hrun, hended, hW, hsame⟩ := X18.leave (v := some (.int (3 : Int32))) (fun h => by rw [Bd.returns] at h; cases h)
    refine ⟨_, _, ?_, hrun, hended, _, _, rfl, ?_, ⟨_, rfl⟩, hW, hsame.mono (by decide) (by decide)⟩
    · exact retI X18 hx Bd.returns (hb hby d6_31) hr
    · show QFAu Z a0 q1 t0 t1 t2 (2 : Int32) (3 : Int32) h0 n0 _ T18.heap _
      rw [e18]
      exact ⟨_, (by rw [own_fa23, if_neg hc24_7]), own_faS23 hs, N0, rfl⟩
def own_fa33 (t0 t1 t2 q1 : Int64) : Int32 := (3 : Int32)
theorem own_faS33 {t0 t1 t2 x : Int64} (hs : own_Srt 3 3 t0 t1 t2) : own_FA 3 3 t0 t1 t2 x (own_fa33 t0 t1 t2 x) := by
  simp only [own_Srt, Int64.lt_iff_toInt_lt, Int32.reduceToInt] at hs
  all_goals first
    | (exfalso; simp only [Int64.lt_iff_toInt_lt] at *; omega)
    | (simp [own_FA, own_fa33]; done)
    | (simp [own_FA, own_fa33]; simp only [Int64.lt_iff_toInt_lt] at *; omega)
theorem ef_rmFA33 (m : MethodId) (a0 : Addr) (q1 : Int64) : entryFrame m #[(.ref a0), (.long q1)] 4 = mkF m 0 #[.val (.ref a0), .val (.long q1), .second, .unset] [] := by first | (simp [entryFrame, mkF, argsToLocals, Value.category]; done) | rfl
set_option maxRecDepth 65536 in
set_option maxHeartbeats 40000000 in
theorem rmFA33 (l : Launch) (Z : State) (aw : Array Value) (hw : ∀ d ∈ tables_1, d.before aw Z = true) (ws : List Jvm.Cond) (a0 : Addr) (q1 : Int64) (tt : Addr) (t0 : Int64) (t1 : Int64) (t2 : Int64) (h0 : Heap) (n0 : Nat) (Z0 : n0 ≤ h0.size) (F_t : Fld Z h0 a0 "com/example/fairshed/fairshed/shedding/SicByTime" "timesUs" "[J" (.ref tt)) (F_f : Fld Z h0 a0 "com/example/fairshed/fairshed/shedding/SicByTime" "first" "I" (.int (3 : Int32))) (F_n : Fld Z h0 a0 "com/example/fairshed/fairshed/shedding/SicByTime" "end" "I" (.int (3 : Int32))) (V_t : AF Z h0 tt .long (8 : Int32) (own_j3 t0 t1 t2)) (hs : own_Srt (3 : Int32) (3 : Int32) t0 t1 t2) :
    MetFree l (⟨"com/example/fairshed/fairshed/shedding/SicByTime", "firstAfter", "(J)I"⟩ : MethodName) (head1 (Jvm.Cond.code (⟨"com/example/fairshed/fairshed/shedding/SicByTime", "firstAfter", "(J)I"⟩ : MethodName) prog_124_method_7_code 4 (some .int) :: ws) ({ frames := 2, cells := 0, slots := 0, locals := 37 } : Room)) (fun a U => a = #[(.ref a0), (.long q1)] ∧ Z.Warmed39 U.vm ∧ U.heap = h0) (fun _ _ _ _ _ => True) (fun _ U o U' => ∃ v L, o = .returned v ∧ QFAu Z a0 q1 t0 t1 t2 (3 : Int32) (3 : Int32) h0 n0 v U'.heap L ∧ FrameEnd U o U' L ({ frames := 2, cells := 0, slots := 0, locals := 37 } : Room).cells ({ frames := 2, cells := 0, slots := 0, locals := 37 } : Room).slots) := by
  refine MetFree.of_bodySF (plainFor_of_name pn_0) hisR ?_
  intro p e s m args below meth c s₁ Bd hml0 hP hK
  obtain ⟨rfl, hZ, hh⟩ := hP
  have hx := Bd.exec
  have hby := Bd.bytes
  have hml : c.maxLocals = 4 := hml0
  have hown : s.vm.findClass "com/example/fairshed/fairshed/shedding/SicByTime" = some m.cls := findClass_of_methodNamed Bd.named
  have hnm := (name_of_methodNamed Bd.named Bd.method).1
  have X0 : Stand p l e ({ frames := 2, cells := 0, slots := 0, locals := 37 } : Room) s m #[(.ref a0), (.long q1)] below meth c s₁ [] 0 0 := Stand.of_body Bd
  have e0 : s₁.heap = h0 := by rw [← hh, Bd.state]; rfl
  have N0 := Fr.nil n0
  have K0 : Keep h0 h0 [] := Keep.refl _ _
  refine own_by (A' := s₁.setTop (mkF m 0 #[.val (.ref a0), .val (.long q1), .second, .unset] [])) (fun t k => castTop (ef_rmFA33 m a0 q1) k) ?_
  refine own_by (A' := s₁.setTop (mkF m 1 #[.val (.ref a0), .val (.long q1), .second, .unset] [(.ref a0)])) (fun t kt => ?_) ?_
  · refine XS.aloadN X0.here hx rfl (hb hby d6_0) rfl rfl ?_
    exact kt
  obtain ⟨T1, X1, e1, st1⟩ := getF X0 hx hZ hown (host := "") (Or.inl (wd26 hw)) Via.refl e0 F_f (g := (mkF m 1 #[.val (.ref a0), .val (.long q1), .second, .unset] [(.ref a0)])) rfl rfl (hb hby d6_1)
  refine own_by (A' := T1.setTop (mkF m 5 #[.val (.ref a0), .val (.long q1), .second, .unset] [(.ref a0), (.int (3 : Int32))])) (fun t kt => ?_) ?_
  · refine st1 t ?_
    refine XS.aloadN X1.here hx rfl (hb hby d6_4) rfl rfl ?_
    exact kt
  obtain ⟨T2, X2, e2, st2⟩ := getF X1 hx hZ hown (host := "") (Or.inl (wd28 hw)) Via.refl e1 F_n (g := (mkF m 5 #[.val (.ref a0), .val (.long q1), .second, .unset] [(.ref a0), (.int (3 : Int32))])) rfl rfl (hb hby d6_5)
  refine own_by (A' := T2.setTop (mkF m 8 #[.val (.ref a0), .val (.long q1), .second, .unset] [(.int (3 : Int32)), (.int (3 : Int32))])) (fun t kt => st2 t kt) ?_
  have hc8_3 : (3 : Int32) = (3 : Int32) := by decide
  refine own_by (A' := T2.setTop (mkF m 28 #[.val (.ref a0), .val (.long q1), .second, .unset] [(.ref a0)])) (fun t kt => ?_) ?_
  · refine XS.icmpYes X2.here hx rfl (pc0 := 8) (pc' := 27) rfl (hb hby d6_8) rfl (teq hc8_3).1 (by decide) (by decide) ?_
    refine XS.aloadN X2.here hx rfl (hb hby d6_27) rfl rfl ?_
    exact kt
  obtain ⟨T4, X4, e4, st4⟩ := getF X2 hx hZ hown (host := "") (Or.inl (wd28 hw)) Via.refl e2 F_n (g := (mkF m 28 #[.val (.ref a0), .val (.long q1), .second, .unset] [(.ref a0)])) rfl rfl (hb hby d6_28)
  refine own_by (A' := T4.setTop (mkF m 31 #[.val (.ref a0), .val (.long q1), .second, .unset] [(.int (3 : Int32))])) (fun t kt => st4 t kt) ?_
  obtain ⟨fs, hr, hrun, hended, hW, hsame⟩ := X4.leave (v := some (.int (3 : Int32))) (fun h => by rw [Bd.returns] at h; cases h)
  refine ⟨_, _, ?_, hrun, hended, _, _, rfl, ?_, ⟨_, rfl⟩, hW, hsame.mono (by decide) (by decide)⟩
  · exact retI X4 hx Bd.returns (hb hby d6_31) hr
  · show QFAu Z a0 q1 t0 t1 t2 (3 : Int32) (3 : Int32) h0 n0 _ T4.heap _
    rw [e4]
    exact ⟨_, rfl, own_faS33 hs, N0, rfl⟩
theorem own_fn {f n : Int32} (h : 0 ≤ f.toInt ∧ f.toInt ≤ n.toInt ∧ n.toInt ≤ 3) : (f = 0 ∧ n = 0) ∨ (f = 0 ∧ n = 1) ∨ (f = 0 ∧ n = 2) ∨ (f = 0 ∧ n = 3) ∨ (f = 1 ∧ n = 1) ∨ (f = 1 ∧ n = 2) ∨ (f = 1 ∧ n = 3) ∨ (f = 2 ∧ n = 2) ∨ (f = 2 ∧ n = 3) ∨ (f = 3 ∧ n = 3) := by
  simp only [← Int32.toInt_inj, Int32.reduceToInt]; omega
theorem rmFAu (l : Launch) (Z : State) (aw : Array Value) (hw : ∀ d ∈ tables_1, d.before aw Z = true) (ws : List Jvm.Cond) (a0 : Addr) (q1 : Int64) (tt : Addr) (t0 : Int64) (t1 : Int64) (t2 : Int64) (f : Int32) (n : Int32) (h0 : Heap) (n0 : Nat) (Z0 : n0 ≤ h0.size) (F_t : Fld Z h0 a0 "com/example/fairshed/fairshed/shedding/SicByTime" "timesUs" "[J" (.ref tt)) (F_f : Fld Z h0 a0 "com/example/fairshed/fairshed/shedding/SicByTime" "first" "I" (.int f)) (F_n : Fld Z h0 a0 "com/example/fairshed/fairshed/shedding/SicByTime" "end" "I" (.int n)) (V_t : AF Z h0 tt .long (8 : Int32) (own_j3 t0 t1 t2)) (hfn : 0 ≤ f.toInt ∧ f.toInt ≤ n.toInt ∧ n.toInt ≤ 3) (hs : own_Srt f n t0 t1 t2) :
    MetFree l (⟨"com/example/fairshed/fairshed/shedding/SicByTime", "firstAfter", "(J)I"⟩ : MethodName) (head1 (Jvm.Cond.code (⟨"com/example/fairshed/fairshed/shedding/SicByTime", "firstAfter", "(J)I"⟩ : MethodName) prog_124_method_7_code 4 (some .int) :: ws) ({ frames := 2, cells := 0, slots := 0, locals := 37 } : Room)) (fun a U => a = #[.ref a0, .long q1] ∧ Z.Warmed39 U.vm ∧ U.heap = h0) (fun _ _ _ _ _ => True) (fun _ U o U' => ∃ v L, o = .returned v ∧ QFAu Z a0 q1 t0 t1 t2 f n h0 n0 v U'.heap L ∧ FrameEnd U o U' L ({ frames := 2, cells := 0, slots := 0, locals := 37 } : Room).cells ({ frames := 2, cells := 0, slots := 0, locals := 37 } : Room).slots) := by
  rcases own_fn hfn with ⟨rfl, rfl⟩ | ⟨rfl, rfl⟩ | ⟨rfl, rfl⟩ | ⟨rfl, rfl⟩ | ⟨rfl, rfl⟩ | ⟨rfl, rfl⟩ | ⟨rfl, rfl⟩ | ⟨rfl, rfl⟩ | ⟨rfl, rfl⟩ | ⟨rfl, rfl⟩
  · exact rmFA00 l Z aw hw ws a0 q1 tt t0 t1 t2 h0 n0 Z0 F_t F_f F_n V_t hs
  · exact rmFA01 l Z aw hw ws a0 q1 tt t0 t1 t2 h0 n0 Z0 F_t F_f F_n V_t hs
  · exact rmFA02 l Z aw hw ws a0 q1 tt t0 t1 t2 h0 n0 Z0 F_t F_f F_n V_t hs
  · exact rmFA03 l Z aw hw ws a0 q1 tt t0 t1 t2 h0 n0 Z0 F_t F_f F_n V_t hs
  · exact rmFA11 l Z aw hw ws a0 q1 tt t0 t1 t2 h0 n0 Z0 F_t F_f F_n V_t hs
  · exact rmFA12 l Z aw hw ws a0 q1 tt t0 t1 t2 h0 n0 Z0 F_t F_f F_n V_t hs
  · exact rmFA13 l Z aw hw ws a0 q1 tt t0 t1 t2 h0 n0 Z0 F_t F_f F_n V_t hs
  · exact rmFA22 l Z aw hw ws a0 q1 tt t0 t1 t2 h0 n0 Z0 F_t F_f F_n V_t hs
  · exact rmFA23 l Z aw hw ws a0 q1 tt t0 t1 t2 h0 n0 Z0 F_t F_f F_n V_t hs
  · exact rmFA33 l Z aw hw ws a0 q1 tt t0 t1 t2 h0 n0 Z0 F_t F_f F_n V_t hs
theorem own_Sge {A w0 w1 w2 : Int64} {i j : Int32} (h : ¬ i < j) : A = A + own_S w0 w1 w2 i j := by
  rw [Int32.lt_iff_toInt_lt] at h
  rw [own_S, if_neg (by omega), if_neg (by omega), if_neg (by omega)]; simp
theorem d7_0 : decode prog_124_method_6_code 0 = .ok (.iload_n 3, 1) := by decide +kernel
theorem d7_1 : decode prog_124_method_6_code 1 = .ok (.istore 5, 2) := by decide +kernel
theorem d7_3 : decode prog_124_method_6_code 3 = .ok (.iload 5, 2) := by decide +kernel
theorem d7_5 : decode prog_124_method_6_code 5 = .ok (.iload 4, 2) := by decide +kernel
theorem d7_7 : decode prog_124_method_6_code 7 = .ok (.if_icmp .ge 19, 3) := by decide +kernel
theorem d7_26 : decode prog_124_method_6_code 26 = .ok (.dload_n 1, 1) := by decide +kernel
theorem d7_27 : decode prog_124_method_6_code 27 = .ok (.dreturn, 1) := by decide +kernel
theorem ef_rmSge (m : MethodId) (a0 : Addr) (i : Int32) (j : Int32) : entryFrame m #[(.ref a0), (.double (FP.l2d A)), (.int i), (.int j)] 6 = mkF m 0 #[.val (.ref a0), .val (.double (FP.l2d A)), .second, .val (.int i), .val (.int j), .unset] [] := by first | (simp [entryFrame, mkF, argsToLocals, Value.category]; done) | rfl
set_option maxRecDepth 65536 in
set_option maxHeartbeats 40000000 in
theorem rmSge (l : Launch) (Z : State) (aw : Array Value) (hw : ∀ d ∈ tables_1, d.before aw Z = true) (ws : List Jvm.Cond) (a0 : Addr) (i : Int32) (j : Int32) (A : Int64) (ss : Addr) (w0 : Int64) (w1 : Int64) (w2 : Int64) (h0 : Heap) (n0 : Nat) (Z0 : n0 ≤ h0.size) (F_s : Fld Z h0 a0 "com/example/fairshed/fairshed/shedding/SicByTime" "sics" "[D" (.ref ss)) (V_s : AF Z h0 ss .double (8 : Int32) (own_d3 w0 w1 w2)) (hA : 0 ≤ A.toInt ∧ A.toInt ≤ 7) (hW : 0 ≤ w0.toInt ∧ 0 ≤ w1.toInt ∧ 0 ≤ w2.toInt ∧ w0.toInt + w1.toInt + w2.toInt ≤ 7) (hij : ¬ i < j) :
    MetFree l (⟨"com/example/fairshed/fairshed/shedding/SicByTime", "sum", "(DII)D"⟩ : MethodName) (head1 (Jvm.Cond.code (⟨"com/example/fairshed/fairshed/shedding/SicByTime", "sum", "(DII)D"⟩ : MethodName) prog_124_method_6_code 6 (some .double) :: ws) ({ frames := 0, cells := 0, slots := 0, locals := 0 } : Room)) (fun a U => a = #[(.ref a0), (.double (FP.l2d A)), (.int i), (.int j)] ∧ Z.Warmed39 U.vm ∧ U.heap = h0) (fun _ _ _ _ _ => True) (fun _ U o U' => ∃ v L, o = .returned v ∧ QSu Z a0 A w0 w1 w2 i j h0 n0 v U'.heap L ∧ FrameEnd U o U' L ({ frames := 0, cells := 0, slots := 0, locals := 0 } : Room).cells ({ frames := 0, cells := 0, slots := 0, locals := 0 } : Room).slots) := by
  refine MetFree.of_bodySF (plainFor_of_name pn_0) hisR ?_
  intro p e s m args below meth c s₁ Bd hml0 hP hK
  obtain ⟨rfl, hZ, hh⟩ := hP
  have hx := Bd.exec
  have hby := Bd.bytes
  have hml : c.maxLocals = 6 := hml0
  have hown : s.vm.findClass "com/example/fairshed/fairshed/shedding/SicByTime" = some m.cls := findClass_of_methodNamed Bd.named
  have hnm := (name_of_methodNamed Bd.named Bd.method).1
  have X0 : Stand p l e ({ frames := 0, cells := 0, slots := 0, locals := 0 } : Room) s m #[(.ref a0), (.double (FP.l2d A)), (.int i), (.int j)] below meth c s₁ [] 0 0 := Stand.of_body Bd
  have e0 : s₁.heap = h0 := by rw [← hh, Bd.state]; rfl
  have N0 := Fr.nil n0
  have K0 : Keep h0 h0 [] := Keep.refl _ _
  refine own_by (A' := s₁.setTop (mkF m 0 #[.val (.ref a0), .val (.double (FP.l2d A)), .second, .val (.int i), .val (.int j), .unset] [])) (fun t k => castTop (ef_rmSge m a0 i j) k) ?_
  refine own_by (A' := s₁.setTop (mkF m 7 #[.val (.ref a0), .val (.double (FP.l2d A)), .second, .val (.int i), .val (.int j), .val (.int i)] [(.int j), (.int i)])) (fun t kt => ?_) ?_
  · refine XS.iloadN X0.here hx rfl (hb hby d7_0) rfl ?_
    refine XS.istore X0.here hx rfl (hb hby d7_1) rfl (l' := #[.val (.ref a0), .val (.double (FP.l2d A)), .second, .val (.int i), .val (.int j), .val (.int i)]) rfl ?_
    refine XS.iload X0.here hx rfl (hb hby d7_3) rfl ?_
    refine XS.iload X0.here hx rfl (hb hby d7_5) rfl ?_
    exact kt
  have hc7_1 : ¬ (i < j) := hij
  refine own_by (A' := s₁.setTop (mkF m 27 #[.val (.ref a0), .val (.double (FP.l2d A)), .second, .val (.int i), .val (.int j), .val (.int i)] [(.double (FP.l2d A))])) (fun t kt => ?_) ?_
  · refine XS.icmpYes X0.here hx rfl (pc0 := 7) (pc' := 26) rfl (hb hby d7_7) rfl (flt hc7_1).2.1 (by decide) (by decide) ?_
    refine XS.dloadN X0.here hx rfl (hb hby d7_26) rfl ?_
    exact kt
  obtain ⟨fs, hr, hrun, hended, hW, hsame⟩ := X0.leave (v := some (.double (FP.l2d A))) (fun h => by rw [Bd.returns] at h; cases h)
  refine ⟨_, _, ?_, hrun, hended, _, _, rfl, ?_, ⟨_, rfl⟩, hW, hsame.mono (by decide) (by decide)⟩
  · exact own_retD X0 hx Bd.returns (hb hby d7_27) hr
  · show QSu Z a0 A w0 w1 w2 i j h0 n0 _ s₁.heap _
    rw [e0]
    exact ⟨congrArg (fun z => some (Value.double (FP.l2d z))) (own_Sge hij), N0, rfl⟩
theorem d7_10 : decode prog_124_method_6_code 10 = .ok (.dload_n 1, 1) := by decide +kernel
theorem d7_11 : decode prog_124_method_6_code 11 = .ok (.aload_n 0, 1) := by decide +kernel
theorem d7_12 : decode prog_124_method_6_code 12 = .ok (.getfield 13, 3) := by decide +kernel
theorem d7_15 : decode prog_124_method_6_code 15 = .ok (.iload 5, 2) := by decide +kernel
theorem d7_17 : decode prog_124_method_6_code 17 = .ok (.daload, 1) := by decide +kernel
theorem d7_18 : decode prog_124_method_6_code 18 = .ok (.dadd, 1) := by decide +kernel
theorem d7_19 : decode prog_124_method_6_code 19 = .ok (.dstore_n 1, 1) := by decide +kernel
theorem d7_20 : decode prog_124_method_6_code 20 = .ok (.iinc 5 1, 3) := by decide +kernel
theorem d7_23 : decode prog_124_method_6_code 23 = .ok (.goto (-20), 3) := by decide +kernel
theorem ef_rmS01 (m : MethodId) (a0 : Addr) : entryFrame m #[(.ref a0), (.double (FP.l2d A)), (.int (0 : Int32)), (.int (1 : Int32))] 6 = mkF m 0 #[.val (.ref a0), .val (.double (FP.l2d A)), .second, .val (.int (0 : Int32)), .val (.int (1 : Int32)), .unset] [] := by first | (simp [entryFrame, mkF, argsToLocals, Value.category]; done) | rfl
set_option maxRecDepth 65536 in
set_option maxHeartbeats 40000000 in
theorem rmS01 (l : Launch) (Z : State) (aw : Array Value) (hw : ∀ d ∈ tables_1, d.before aw Z = true) (ws : List Jvm.Cond) (a0 : Addr) (A : Int64) (ss : Addr) (w0 : Int64) (w1 : Int64) (w2 : Int64) (h0 : Heap) (n0 : Nat) (Z0 : n0 ≤ h0.size) (F_s : Fld Z h0 a0 "com/example/fairshed/fairshed/shedding/SicByTime" "sics" "[D" (.ref ss)) (V_s : AF Z h0 ss .double (8 : Int32) (own_d3 w0 w1 w2)) (hA : 0 ≤ A.toInt ∧ A.toInt ≤ 7) (hW : 0 ≤ w0.toInt ∧ 0 ≤ w1.toInt ∧ 0 ≤ w2.toInt ∧ w0.toInt + w1.toInt + w2.toInt ≤ 7) :
    MetFree l (⟨"com/example/fairshed/fairshed/shedding/SicByTime", "sum", "(DII)D"⟩ : MethodName) (head1 (Jvm.Cond.code (⟨"com/example/fairshed/fairshed/shedding/SicByTime", "sum", "(DII)D"⟩ : MethodName) prog_124_method_6_code 6 (some .double) :: ws) ({ frames := 0, cells := 0, slots := 0, locals := 0 } : Room)) (fun a U => a = #[(.ref a0), (.double (FP.l2d A)), (.int (0 : Int32)), (.int (1 : Int32))] ∧ Z.Warmed39 U.vm ∧ U.heap = h0) (fun _ _ _ _ _ => True) (fun _ U o U' => ∃ v L, o = .returned v ∧ QSu Z a0 A w0 w1 w2 (0 : Int32) (1 : Int32) h0 n0 v U'.heap L ∧ FrameEnd U o U' L ({ frames := 0, cells := 0, slots := 0, locals := 0 } : Room).cells ({ frames := 0, cells := 0, slots := 0, locals := 0 } : Room).slots) := by
  refine MetFree.of_bodySF (plainFor_of_name pn_0) hisR ?_
  intro p e s m args below meth c s₁ Bd hml0 hP hK
  obtain ⟨rfl, hZ, hh⟩ := hP
  have hx := Bd.exec
  have hby := Bd.bytes
  have hml : c.maxLocals = 6 := hml0
  have hown : s.vm.findClass "com/example/fairshed/fairshed/shedding/SicByTime" = some m.cls := findClass_of_methodNamed Bd.named
  have hnm := (name_of_methodNamed Bd.named Bd.method).1
  have X0 : Stand p l e ({ frames := 0, cells := 0, slots := 0, locals := 0 } : Room) s m #[(.ref a0), (.double (FP.l2d A)), (.int (0 : Int32)), (.int (1 : Int32))] below meth c s₁ [] 0 0 := Stand.of_body Bd
  have e0 : s₁.heap = h0 := by rw [← hh, Bd.state]; rfl
  have N0 := Fr.nil n0
  have K0 : Keep h0 h0 [] := Keep.refl _ _
  refine own_by (A' := s₁.setTop (mkF m 0 #[.val (.ref a0), .val (.double (FP.l2d A)), .second, .val (.int (0 : Int32)), .val (.int (1 : Int32)), .unset] [])) (fun t k => castTop (ef_rmS01 m a0) k) ?_
  refine own_by (A' := s₁.setTop (mkF m 7 #[.val (.ref a0), .val (.double (FP.l2d A)), .second, .val (.int (0 : Int32)), .val (.int (1 : Int32)), .val (.int (0 : Int32))] [(.int (1 : Int32)), (.int (0 : Int32))])) (fun t kt => ?_) ?_
  · refine XS.iloadN X0.here hx rfl (hb hby d7_0) rfl ?_
    refine XS.istore X0.here hx rfl (hb hby d7_1) rfl (l' := #[.val (.ref a0), .val (.double (FP.l2d A)), .second, .val (.int (0 : Int32)), .val (.int (1 : Int32)), .val (.int (0 : Int32))]) rfl ?_
    refine XS.iload X0.here hx rfl (hb hby d7_3) rfl ?_
    refine XS.iload X0.here hx rfl (hb hby d7_5) rfl ?_
    exact kt
  have hc7_1 : (0 : Int32) < (1 : Int32) := by decide
  refine own_by (A' := s₁.setTop (mkF m 12 #[.val (.ref a0), .val (.double (FP.l2d A)), .second, .val (.int (0 : Int32)), .val (.int (1 : Int32)), .val (.int (0 : Int32))] [(.ref a0), (.double (FP.l2d A))])) (fun t kt => ?_) ?_
  · refine XS.icmpNo X0.here hx rfl (hb hby d7_7) rfl (tlt hc7_1).2.1 ?_
    refine XS.dloadN X0.here hx rfl (hb hby d7_10) rfl ?_
    refine XS.aloadN X0.here hx rfl (hb hby d7_11) rfl rfl ?_
    exact kt
  obtain ⟨T2, X2, e2, st2⟩ := getF X0 hx hZ hown (host := "") (Or.inl (wd17 hw)) Via.refl e0 F_s (g := (mkF m 12 #[.val (.ref a0), .val (.double (FP.l2d A)), .second, .val (.int (0 : Int32)), .val (.int (1 : Int32)), .val (.int (0 : Int32))] [(.ref a0), (.double (FP.l2d A))])) rfl rfl (hb hby d7_12)
  refine own_by (A' := T2.setTop (mkF m 17 #[.val (.ref a0), .val (.double (FP.l2d A)), .second, .val (.int (0 : Int32)), .val (.int (1 : Int32)), .val (.int (0 : Int32))] [(.int (0 : Int32)), (.ref ss), (.double (FP.l2d A))])) (fun t kt => ?_) ?_
  · refine st2 t ?_
    refine XS.iload X2.here hx rfl (hb hby d7_15) rfl ?_
    exact kt
  obtain ⟨cl3, Ar3, Sz3, Mn3, Ha3⟩ := id V_s
  have hin3 := inb_of (j := (0 : Int32)) Sz3 ⟨by decide, by decide⟩
  have hat3 : cl3.slots[((0 : Int32)).toNatClampNeg]? = some (.double (FP.l2d w0)) := (Ha3 _ (Nat.lt_of_not_le fun q => hin3 (Or.inr q))).trans (congrArg some rfl)
  refine own_by (A' := T2.setTop (mkF m 18 #[.val (.ref a0), .val (.double (FP.l2d A)), .second, .val (.int (0 : Int32)), .val (.int (1 : Int32)), .val (.int (0 : Int32))] [(.double (FP.l2d w0)), (.double (FP.l2d A))])) (fun t kt => ?_) ?_
  · refine X2.daload hx (j := (0 : Int32)) (v := (.double (FP.l2d w0))) (by rw [e2]; exact Ar3.1) (State.isArrayOf_alike hZ.alike Ar3.2.1) Ar3.2.2 hin3 hat3 (g := (mkF m 17 #[.val (.ref a0), .val (.double (FP.l2d A)), .second, .val (.int (0 : Int32)), .val (.int (1 : Int32)), .val (.int (0 : Int32))] [(.int (0 : Int32)), (.ref ss), (.double (FP.l2d A))])) rfl rfl (hb hby d7_17) _ ?_
    exact kt
  have ha4 := own_ac (a := A) (b := w0) (by omega) (by omega)
  have ha5 := own_ac (a := A) (b := w0) (by omega) (by omega)
  refine own_by (A' := T2.setTop (mkF m 7 #[.val (.ref a0), .val (.double (FP.l2d (A + w0))), .second, .val (.int (0 : Int32)), .val (.int (1 : Int32)), .val (.int (1 : Int32))] [(.int (1 : Int32)), (.int (1 : Int32))])) (fun t kt => ?_) ?_
  · refine XS.daddS X2.here hx rfl (hb hby d7_18) rfl (own_nn2 (a := A) (b := w0) (by unfold own_B; omega) (by unfold own_B; omega) (by unfold own_B; omega)) (v := FP.l2d (A + w0)) (dadd_w (own_53 (by unfold own_B; omega)) (own_53 (by unfold own_B; omega))) ?_
    refine XS.dstoreN X2.here hx rfl (hb hby d7_19) rfl (l' := #[.val (.ref a0), .val (.double (FP.l2d (A + w0))), .second, .val (.int (0 : Int32)), .val (.int (1 : Int32)), .val (.int (0 : Int32))]) rfl ?_
    refine XS.iinc X2.here hx rfl (hb hby d7_20) rfl (l' := #[.val (.ref a0), .val (.double (FP.l2d (A + w0))), .second, .val (.int (0 : Int32)), .val (.int (1 : Int32)), .val (.int (1 : Int32))]) rfl ?_
    refine XS.goto X2.here hx rfl (pc0 := 23) (pc' := 3) rfl (hb hby d7_23) (by decide) (by decide) ?_
    refine XS.iload X2.here hx rfl (hb hby d7_3) rfl ?_
    refine XS.iload X2.here hx rfl (hb hby d7_5) rfl ?_
    exact kt
  have hc7_6 : ¬ ((1 : Int32) < (1 : Int32)) := by decide
  refine own_by (A' := T2.setTop (mkF m 27 #[.val (.ref a0), .val (.double (FP.l2d (A + w0))), .second, .val (.int (0 : Int32)), .val (.int (1 : Int32)), .val (.int (1 : Int32))] [(.double (FP.l2d (A + w0)))])) (fun t kt => ?_) ?_
  · refine XS.icmpYes X2.here hx rfl (pc0 := 7) (pc' := 26) rfl (hb hby d7_7) rfl (flt hc7_6).2.1 (by decide) (by decide) ?_
    refine XS.dloadN X2.here hx rfl (hb hby d7_26) rfl ?_
    exact kt
  obtain ⟨fs, hr, hrun, hended, hW, hsame⟩ := X2.leave (v := some (.double (FP.l2d (A + w0)))) (fun h => by rw [Bd.returns] at h; cases h)
  refine ⟨_, _, ?_, hrun, hended, _, _, rfl, ?_, ⟨_, rfl⟩, hW, hsame.mono (by decide) (by decide)⟩
  · exact own_retD X2 hx Bd.returns (hb hby d7_27) hr
  · show QSu Z a0 A w0 w1 w2 (0 : Int32) (1 : Int32) h0 n0 _ T2.heap _
    rw [e2]
    exact ⟨congrArg (fun z => some (Value.double (FP.l2d z))) (by simp [own_S, Int64.add_assoc]), N0, rfl⟩
theorem ef_rmS02 (m : MethodId) (a0 : Addr) : entryFrame m #[(.ref a0), (.double (FP.l2d A)), (.int (0 : Int32)), (.int (2 : Int32))] 6 = mkF m 0 #[.val (.ref a0), .val (.double (FP.l2d A)), .second, .val (.int (0 : Int32)), .val (.int (2 : Int32)), .unset] [] := by first | (simp [entryFrame, mkF, argsToLocals, Value.category]; done) | rfl
set_option maxRecDepth 65536 in
set_option maxHeartbeats 40000000 in
theorem rmS02 (l : Launch) (Z : State) (aw : Array Value) (hw : ∀ d ∈ tables_1, d.before aw Z = true) (ws : List Jvm.Cond) (a0 : Addr) (A : Int64) (ss : Addr) (w0 : Int64) (w1 : Int64) (w2 : Int64) (h0 : Heap) (n0 : Nat) (Z0 : n0 ≤ h0.size) (F_s : Fld Z h0 a0 "com/example/fairshed/fairshed/shedding/SicByTime" "sics" "[D" (.ref ss)) (V_s : AF Z h0 ss .double (8 : Int32) (own_d3 w0 w1 w2)) (hA : 0 ≤ A.toInt ∧ A.toInt ≤ 7) (hW : 0 ≤ w0.toInt ∧ 0 ≤ w1.toInt ∧ 0 ≤ w2.toInt ∧ w0.toInt + w1.toInt + w2.toInt ≤ 7) :
    MetFree l (⟨"com/example/fairshed/fairshed/shedding/SicByTime", "sum", "(DII)D"⟩ : MethodName) (head1 (Jvm.Cond.code (⟨"com/example/fairshed/fairshed/shedding/SicByTime", "sum", "(DII)D"⟩ : MethodName) prog_124_method_6_code 6 (some .double) :: ws) ({ frames := 0, cells := 0, slots := 0, locals := 0 } : Room)) (fun a U => a = #[(.ref a0), (.double (FP.l2d A)), (.int (0 : Int32)), (.int (2 : Int32))] ∧ Z.Warmed39 U.vm ∧ U.heap = h0) (fun _ _ _ _ _ => True) (fun _ U o U' => ∃ v L, o = .returned v ∧ QSu Z a0 A w0 w1 w2 (0 : Int32) (2 : Int32) h0 n0 v U'.heap L ∧ FrameEnd U o U' L ({ frames := 0, cells := 0, slots := 0, locals := 0 } : Room).cells ({ frames := 0, cells := 0, slots := 0, locals := 0 } : Room).slots) := by
  refine MetFree.of_bodySF (plainFor_of_name pn_0) hisR ?_
  intro p e s m args below meth c s₁ Bd hml0 hP hK
  obtain ⟨rfl, hZ, hh⟩ := hP
  have hx := Bd.exec
  have hby := Bd.bytes
  have hml : c.maxLocals = 6 := hml0
  have hown : s.vm.findClass "com/example/fairshed/fairshed/shedding/SicByTime" = some m.cls := findClass_of_methodNamed Bd.named
  have hnm := (name_of_methodNamed Bd.named Bd.method).1
  have X0 : Stand p l e ({ frames := 0, cells := 0, slots := 0, locals := 0 } : Room) s m #[(.ref a0), (.double (FP.l2d A)), (.int (0 : Int32)), (.int (2 : Int32))] below meth c s₁ [] 0 0 := Stand.of_body Bd
  have e0 : s₁.heap = h0 := by rw [← hh, Bd.state]; rfl
  have N0 := Fr.nil n0
  have K0 : Keep h0 h0 [] := Keep.refl _ _
  refine own_by (A' := s₁.setTop (mkF m 0 #[.val (.ref a0), .val (.double (FP.l2d A)), .second, .val (.int (0 : Int32)), .val (.int (2 : Int32)), .unset] [])) (fun t k => castTop (ef_rmS02 m a0) k) ?_
  refine own_by (A' := s₁.setTop (mkF m 7 #[.val (.ref a0), .val (.double (FP.l2d A)), .second, .val (.int (0 : Int32)), .val (.int (2 : Int32)), .val (.int (0 : Int32))] [(.int (2 : Int32)), (.int (0 : Int32))])) (fun t kt => ?_) ?_
  · refine XS.iloadN X0.here hx rfl (hb hby d7_0) rfl ?_
    refine XS.istore X0.here hx rfl (hb hby d7_1) rfl (l' := #[.val (.ref a0), .val (.double (FP.l2d A)), .second, .val (.int (0 : Int32)), .val (.int (2 : Int32)), .val (.int (0 : Int32))]) rfl ?_
    refine XS.iload X0.here hx rfl (hb hby d7_3) rfl ?_
    refine XS.iload X0.here hx rfl (hb hby d7_5) rfl ?_
    exact kt
  have hc7_1 : (0 : Int32) < (2 : Int32) := by decide
  refine own_by (A' := s₁.setTop (mkF m 12 #[.val (.ref a0), .val (.double (FP.l2d A)), .second, .val (.int (0 : Int32)), .val (.int (2 : Int32)), .val (.int (0 : Int32))] [(.ref a0), (.double (FP.l2d A))])) (fun t kt => ?_) ?_
  · refine XS.icmpNo X0.here hx rfl (hb hby d7_7) rfl (tlt hc7_1).2.1 ?_
    refine XS.dloadN X0.here hx rfl (hb hby d7_10) rfl ?_
    refine XS.aloadN X0.here hx rfl (hb hby d7_11) rfl rfl ?_
    exact kt
  obtain ⟨T2, X2, e2, st2⟩ := getF X0 hx hZ hown (host := "") (Or.inl (wd17 hw)) Via.refl e0 F_s (g := (mkF m 12 #[.val (.ref a0), .val (.double (FP.l2d A)), .second, .val (.int (0 : Int32)), .val (.int (2 : Int32)), .val (.int (0 : Int32))] [(.ref a0), (.double (FP.l2d A))])) rfl rfl (hb hby d7_12)
  refine own_by (A' := T2.setTop (mkF m 17 #[.val (.ref a0), .val (.double (FP.l2d A)), .second, .val (.int (0 : Int32)), .val (.int (2 : Int32)), .val (.int (0 : Int32))] [(.int (0 : Int32)), (.ref ss), (.double (FP.l2d A))])) (fun t kt => ?_) ?_
  · refine st2 t ?_
    refine XS.iload X2.here hx rfl (hb hby d7_15) rfl ?_
    exact kt
  obtain ⟨cl3, Ar3, Sz3, Mn3, Ha3⟩ := id V_s
  have hin3 := inb_of (j := (0 : Int32)) Sz3 ⟨by decide, by decide⟩
  have hat3 : cl3.slots[((0 : Int32)).toNatClampNeg]? = some (.double (FP.l2d w0)) := (Ha3 _ (Nat.lt_of_not_le fun q => hin3 (Or.inr q))).trans (congrArg some rfl)
  refine own_by (A' := T2.setTop (mkF m 18 #[.val (.ref a0), .val (.double (FP.l2d A)), .second, .val (.int (0 : Int32)), .val (.int (2 : Int32)), .val (.int (0 : Int32))] [(.double (FP.l2d w0)), (.double (FP.l2d A))])) (fun t kt => ?_) ?_
  · refine X2.daload hx (j := (0 : Int32)) (v := (.double (FP.l2d w0))) (by rw [e2]; exact Ar3.1) (State.isArrayOf_alike hZ.alike Ar3.2.1) Ar3.2.2 hin3 hat3 (g := (mkF m 17 #[.val (.ref a0), .val (.double (FP.l2d A)), .second, .val (.int (0 : Int32)), .val (.int (2 : Int32)), .val (.int (0 : Int32))] [(.int (0 : Int32)), (.ref ss), (.double (FP.l2d A))])) rfl rfl (hb hby d7_17) _ ?_
    exact kt
  have ha4 := own_ac (a := A) (b := w0) (by omega) (by omega)
  have ha5 := own_ac (a := A) (b := w0) (by omega) (by omega)
  refine own_by (A' := T2.setTop (mkF m 7 #[.val (.ref a0), .val (.double (FP.l2d (A + w0))), .second, .val (.int (0 : Int32)), .val (.int (2 : Int32)), .val (.int (1 : Int32))] [(.int (2 : Int32)), (.int (1 : Int32))])) (fun t kt => ?_) ?_
  · refine XS.daddS X2.here hx rfl (hb hby d7_18) rfl (own_nn2 (a := A) (b := w0) (by unfold own_B; omega) (by unfold own_B; omega) (by unfold own_B; omega)) (v := FP.l2d (A + w0)) (dadd_w (own_53 (by unfold own_B; omega)) (own_53 (by unfold own_B; omega))) ?_
    refine XS.dstoreN X2.here hx rfl (hb hby d7_19) rfl (l' := #[.val (.ref a0), .val (.double (FP.l2d (A + w0))), .second, .val (.int (0 : Int32)), .val (.int (2 : Int32)), .val (.int (0 : Int32))]) rfl ?_
    refine XS.iinc X2.here hx rfl (hb hby d7_20) rfl (l' := #[.val (.ref a0), .val (.double (FP.l2d (A + w0))), .second, .val (.int (0 : Int32)), .val (.int (2 : Int32)), .val (.int (1 : Int32))]) rfl ?_
    refine XS.goto X2.here hx rfl (pc0 := 23) (pc' := 3) rfl (hb hby d7_23) (by decide) (by decide) ?_
    refine XS.iload X2.here hx rfl (hb hby d7_3) rfl ?_
    refine XS.iload X2.here hx rfl (hb hby d7_5) rfl ?_
    exact kt
  have hc7_6 : (1 : Int32) < (2 : Int32) := by decide
  refine own_by (A' := T2.setTop (mkF m 12 #[.val (.ref a0), .val (.double (FP.l2d (A + w0))), .second, .val (.int (0 : Int32)), .val (.int (2 : Int32)), .val (.int (1 : Int32))] [(.ref a0), (.double (FP.l2d (A + w0)))])) (fun t kt => ?_) ?_
  · refine XS.icmpNo X2.here hx rfl (hb hby d7_7) rfl (tlt hc7_6).2.1 ?_
    refine XS.dloadN X2.here hx rfl (hb hby d7_10) rfl ?_
    refine XS.aloadN X2.here hx rfl (hb hby d7_11) rfl rfl ?_
    exact kt
  obtain ⟨T7, X7, e7, st7⟩ := getF X2 hx hZ hown (host := "") (Or.inl (wd17 hw)) Via.refl e2 F_s (g := (mkF m 12 #[.val (.ref a0), .val (.double (FP.l2d (A + w0))), .second, .val (.int (0 : Int32)), .val (.int (2 : Int32)), .val (.int (1 : Int32))] [(.ref a0), (.double (FP.l2d (A + w0)))])) rfl rfl (hb hby d7_12)
  refine own_by (A' := T7.setTop (mkF m 17 #[.val (.ref a0), .val (.double (FP.l2d (A + w0))), .second, .val (.int (0 : Int32)), .val (.int (2 : Int32)), .val (.int (1 : Int32))] [(.int (1 : Int32)), (.ref ss), (.double (FP.l2d (A + w0)))])) (fun t kt => ?_) ?_
  · refine st7 t ?_
    refine XS.iload X7.here hx rfl (hb hby d7_15) rfl ?_
    exact kt
  obtain ⟨cl8, Ar8, Sz8, Mn8, Ha8⟩ := id V_s
  have hin8 := inb_of (j := (1 : Int32)) Sz8 ⟨by decide, by decide⟩
  have hat8 : cl8.slots[((1 : Int32)).toNatClampNeg]? = some (.double (FP.l2d w1)) := (Ha8 _ (Nat.lt_of_not_le fun q => hin8 (Or.inr q))).trans (congrArg some rfl)
  refine own_by (A' := T7.setTop (mkF m 18 #[.val (.ref a0), .val (.double (FP.l2d (A + w0))), .second, .val (.int (0 : Int32)), .val (.int (2 : Int32)), .val (.int (1 : Int32))] [(.double (FP.l2d w1)), (.double (FP.l2d (A + w0)))])) (fun t kt => ?_) ?_
  · refine X7.daload hx (j := (1 : Int32)) (v := (.double (FP.l2d w1))) (by rw [e7]; exact Ar8.1) (State.isArrayOf_alike hZ.alike Ar8.2.1) Ar8.2.2 hin8 hat8 (g := (mkF m 17 #[.val (.ref a0), .val (.double (FP.l2d (A + w0))), .second, .val (.int (0 : Int32)), .val (.int (2 : Int32)), .val (.int (1 : Int32))] [(.int (1 : Int32)), (.ref ss), (.double (FP.l2d (A + w0)))])) rfl rfl (hb hby d7_17) _ ?_
    exact kt
  have ha9 := own_ac (a := (A + w0)) (b := w1) (by omega) (by omega)
  have ha10 := own_ac (a := (A + w0)) (b := w1) (by omega) (by omega)
  refine own_by (A' := T7.setTop (mkF m 7 #[.val (.ref a0), .val (.double (FP.l2d ((A + w0) + w1))), .second, .val (.int (0 : Int32)), .val (.int (2 : Int32)), .val (.int (2 : Int32))] [(.int (2 : Int32)), (.int (2 : Int32))])) (fun t kt => ?_) ?_
  · refine XS.daddS X7.here hx rfl (hb hby d7_18) rfl (own_nn2 (a := (A + w0)) (b := w1) (by unfold own_B; omega) (by unfold own_B; omega) (by unfold own_B; omega)) (v := FP.l2d ((A + w0) + w1)) (dadd_w (own_53 (by unfold own_B; omega)) (own_53 (by unfold own_B; omega))) ?_
    refine XS.dstoreN X7.here hx rfl (hb hby d7_19) rfl (l' := #[.val (.ref a0), .val (.double (FP.l2d ((A + w0) + w1))), .second, .val (.int (0 : Int32)), .val (.int (2 : Int32)), .val (.int (1 : Int32))]) rfl ?_
    refine XS.iinc X7.here hx rfl (hb hby d7_20) rfl (l' := #[.val (.ref a0), .val (.double (FP.l2d ((A + w0) + w1))), .second, .val (.int (0 : Int32)), .val (.int (2 : Int32)), .val (.int (2 : Int32))]) rfl ?_
    refine XS.goto X7.here hx rfl (pc0 := 23) (pc' := 3) rfl (hb hby d7_23) (by decide) (by decide) ?_
    refine XS.iload X7.here hx rfl (hb hby d7_3) rfl ?_
    refine XS.iload X7.here hx rfl (hb hby d7_5) rfl ?_
    exact kt
  have hc7_11 : ¬ ((2 : Int32) < (2 : Int32)) := by decide
  refine own_by (A' := T7.setTop (mkF m 27 #[.val (.ref a0), .val (.double (FP.l2d ((A + w0) + w1))), .second, .val (.int (0 : Int32)), .val (.int (2 : Int32)), .val (.int (2 : Int32))] [(.double (FP.l2d ((A + w0) + w1)))])) (fun t kt => ?_) ?_
  · refine XS.icmpYes X7.here hx rfl (pc0 := 7) (pc' := 26) rfl (hb hby d7_7) rfl (flt hc7_11).2.1 (by decide) (by decide) ?_
    refine XS.dloadN X7.here hx rfl (hb hby d7_26) rfl ?_
    exact kt
  obtain ⟨fs, hr, hrun, hended, hW, hsame⟩ := X7.leave (v := some (.double (FP.l2d ((A + w0) + w1)))) (fun h => by rw [Bd.returns] at h; cases h)
  refine ⟨_, _, ?_, hrun, hended, _, _, rfl, ?_, ⟨_, rfl⟩, hW, hsame.mono (by decide) (by decide)⟩
  · exact own_retD X7 hx Bd.returns (hb hby d7_27) hr
  · show QSu Z a0 A w0 w1 w2 (0 : Int32) (2 : Int32) h0 n0 _ T7.heap _
    rw [e7]
    exact ⟨congrArg (fun z => some (Value.double (FP.l2d z))) (by simp [own_S, Int64.add_assoc]), N0, rfl⟩
theorem ef_rmS03 (m : MethodId) (a0 : Addr) : entryFrame m #[(.ref a0), (.double (FP.l2d A)), (.int (0 : Int32)), (.int (3 : Int32))] 6 = mkF m 0 #[.val (.ref a0), .val (.double (FP.l2d A)), .second, .val (.int (0 : Int32)), .val (.int (3 : Int32)), .unset] [] := by first | (simp [entryFrame, mkF, argsToLocals, Value.category]; done) | rfl
set_option maxRecDepth 65536 in
set_option maxHeartbeats 40000000 in
theorem rmS03 (l : Launch) (Z : State) (aw : Array Value) (hw : ∀ d ∈ tables_1, d.before aw Z = true) (ws : List Jvm.Cond) (a0 : Addr) (A : Int64) (ss : Addr) (w0 : Int64) (w1 : Int64) (w2 : Int64) (h0 : Heap) (n0 : Nat) (Z0 : n0 ≤ h0.size) (F_s : Fld Z h0 a0 "com/example/fairshed/fairshed/shedding/SicByTime" "sics" "[D" (.ref ss)) (V_s : AF Z h0 ss .double (8 : Int32) (own_d3 w0 w1 w2)) (hA : 0 ≤ A.toInt ∧ A.toInt ≤ 7) (hW : 0 ≤ w0.toInt ∧ 0 ≤ w1.toInt ∧ 0 ≤ w2.toInt ∧ w0.toInt + w1.toInt + w2.toInt ≤ 7) :
    MetFree l (⟨"com/example/fairshed/fairshed/shedding/SicByTime", "sum", "(DII)D"⟩ : MethodName) (head1 (Jvm.Cond.code (⟨"com/example/fairshed/fairshed/shedding/SicByTime", "sum", "(DII)D"⟩ : MethodName) prog_124_method_6_code 6 (some .double) :: ws) ({ frames := 0, cells := 0, slots := 0, locals := 0 } : Room)) (fun a U => a = #[(.ref a0), (.double (FP.l2d A)), (.int (0 : Int32)), (.int (3 : Int32))] ∧ Z.Warmed39 U.vm ∧ U.heap = h0) (fun _ _ _ _ _ => True) (fun _ U o U' => ∃ v L, o = .returned v ∧ QSu Z a0 A w0 w1 w2 (0 : Int32) (3 : Int32) h0 n0 v U'.heap L ∧ FrameEnd U o U' L ({ frames := 0, cells := 0, slots := 0, locals := 0 } : Room).cells ({ frames := 0, cells := 0, slots := 0, locals := 0 } : Room).slots) := by
  refine MetFree.of_bodySF (plainFor_of_name pn_0) hisR ?_
  intro p e s m args below meth c s₁ Bd hml0 hP hK
  obtain ⟨rfl, hZ, hh⟩ := hP
  have hx := Bd.exec
  have hby := Bd.bytes
  have hml : c.maxLocals = 6 := hml0
  have hown : s.vm.findClass "com/example/fairshed/fairshed/shedding/SicByTime" = some m.cls := findClass_of_methodNamed Bd.named
  have hnm := (name_of_methodNamed Bd.named Bd.method).1
  have X0 : Stand p l e ({ frames := 0, cells := 0, slots := 0, locals := 0 } : Room) s m #[(.ref a0), (.double (FP.l2d A)), (.int (0 : Int32)), (.int (3 : Int32))] below meth c s₁ [] 0 0 := Stand.of_body Bd
  have e0 : s₁.heap = h0 := by rw [← hh, Bd.state]; rfl
  have N0 := Fr.nil n0
  have K0 : Keep h0 h0 [] := Keep.refl _ _
  refine own_by (A' := s₁.setTop (mkF m 0 #[.val (.ref a0), .val (.double (FP.l2d A)), .second, .val (.int (0 : Int32)), .val (.int (3 : Int32)), .unset] [])) (fun t k => castTop (ef_rmS03 m a0) k) ?_
  refine own_by (A' := s₁.setTop (mkF m 7 #[.val (.ref a0), .val (.double (FP.l2d A)), .second, .val (.int (0 : Int32)), .val (.int (3 : Int32)), .val (.int (0 : Int32))] [(.int (3 : Int32)), (.int (0 : Int32))])) (fun t kt => ?_) ?_
  · refine XS.iloadN X0.here hx rfl (hb hby d7_0) rfl ?_
    refine XS.istore X0.here hx rfl (hb hby d7_1) rfl (l' := #[.val (.ref a0), .val (.double (FP.l2d A)), .second, .val (.int (0 : Int32)), .val (.int (3 : Int32)), .val (.int (0 : Int32))]) rfl ?_
    refine XS.iload X0.here hx rfl (hb hby d7_3) rfl ?_
    refine XS.iload X0.here hx rfl (hb hby d7_5) rfl ?_
    exact kt
  have hc7_1 : (0 : Int32) < (3 : Int32) := by decide
  refine own_by (A' := s₁.setTop (mkF m 12 #[.val (.ref a0), .val (.double (FP.l2d A)), .second, .val (.int (0 : Int32)), .val (.int (3 : Int32)), .val (.int (0 : Int32))] [(.ref a0), (.double (FP.l2d A))])) (fun t kt => ?_) ?_
  · refine XS.icmpNo X0.here hx rfl (hb hby d7_7) rfl (tlt hc7_1).2.1 ?_
    refine XS.dloadN X0.here hx rfl (hb hby d7_10) rfl ?_
    refine XS.aloadN X0.here hx rfl (hb hby d7_11) rfl rfl ?_
    exact kt
  obtain ⟨T2, X2, e2, st2⟩ := getF X0 hx hZ hown (host := "") (Or.inl (wd17 hw)) Via.refl e0 F_s (g := (mkF m 12 #[.val (.ref a0), .val (.double (FP.l2d A)), .second, .val (.int (0 : Int32)), .val (.int (3 : Int32)), .val (.int (0 : Int32))] [(.ref a0), (.double (FP.l2d A))])) rfl rfl (hb hby d7_12)
  refine own_by (A' := T2.setTop (mkF m 17 #[.val (.ref a0), .val (.double (FP.l2d A)), .second, .val (.int (0 : Int32)), .val (.int (3 : Int32)), .val (.int (0 : Int32))] [(.int (0 : Int32)), (.ref ss), (.double (FP.l2d A))])) (fun t kt => ?_) ?_
  · refine st2 t ?_
    refine XS.iload X2.here hx rfl (hb hby d7_15) rfl ?_
    exact kt
  obtain ⟨cl3, Ar3, Sz3, Mn3, Ha3⟩ := id V_s
  have hin3 := inb_of (j := (0 : Int32)) Sz3 ⟨by decide, by decide⟩
  have hat3 : cl3.slots[((0 : Int32)).toNatClampNeg]? = some (.double (FP.l2d w0)) := (Ha3 _ (Nat.lt_of_not_le fun q => hin3 (Or.inr q))).trans (congrArg some rfl)
  refine own_by (A' := T2.setTop (mkF m 18 #[.val (.ref a0), .val (.double (FP.l2d A)), .second, .val (.int (0 : Int32)), .val (.int (3 : Int32)), .val (.int (0 : Int32))] [(.double (FP.l2d w0)), (.double (FP.l2d A))])) (fun t kt => ?_) ?_
  · refine X2.daload hx (j := (0 : Int32)) (v := (.double (FP.l2d w0))) (by rw [e2]; exact Ar3.1) (State.isArrayOf_alike hZ.alike Ar3.2.1) Ar3.2.2 hin3 hat3 (g := (mkF m 17 #[.val (.ref a0), .val (.double (FP.l2d A)), .second, .val (.int (0 : Int32)), .val (.int (3 : Int32)), .val (.int (0 : Int32))] [(.int (0 : Int32)), (.ref ss), (.double (FP.l2d A))])) rfl rfl (hb hby d7_17) _ ?_
    exact kt
  have ha4 := own_ac (a := A) (b := w0) (by omega) (by omega)
  have ha5 := own_ac (a := A) (b := w0) (by omega) (by omega)
  refine own_by (A' := T2.setTop (mkF m 7 #[.val (.ref a0), .val (.double (FP.l2d (A + w0))), .second, .val (.int (0 : Int32)), .val (.int (3 : Int32)), .val (.int (1 : Int32))] [(.int (3 : Int32)), (.int (1 : Int32))])) (fun t kt => ?_) ?_
  · refine XS.daddS X2.here hx rfl (hb hby d7_18) rfl (own_nn2 (a := A) (b := w0) (by unfold own_B; omega) (by unfold own_B; omega) (by unfold own_B; omega)) (v := FP.l2d (A + w0)) (dadd_w (own_53 (by unfold own_B; omega)) (own_53 (by unfold own_B; omega))) ?_
    refine XS.dstoreN X2.here hx rfl (hb hby d7_19) rfl (l' := #[.val (.ref a0), .val (.double (FP.l2d (A + w0))), .second, .val (.int (0 : Int32)), .val (.int (3 : Int32)), .val (.int (0 : Int32))]) rfl ?_
    refine XS.iinc X2.here hx rfl (hb hby d7_20) rfl (l' := #[.val (.ref a0), .val (.double (FP.l2d (A + w0))), .second, .val (.int (0 : Int32)), .val (.int (3 : Int32)), .val (.int (1 : Int32))]) rfl ?_
    refine XS.goto X2.here hx rfl (pc0 := 23) (pc' := 3) rfl (hb hby d7_23) (by decide) (by decide) ?_
    refine XS.iload X2.here hx rfl (hb hby d7_3) rfl ?_
    refine XS.iload X2.here hx rfl (hb hby d7_5) rfl ?_
    exact kt
  have hc7_6 : (1 : Int32) < (3 : Int32) := by decide
  refine own_by (A' := T2.setTop (mkF m 12 #[.val (.ref a0), .val (.double (FP.l2d (A + w0))), .second, .val (.int (0 : Int32)), .val (.int (3 : Int32)), .val (.int (1 : Int32))] [(.ref a0), (.double (FP.l2d (A + w0)))])) (fun t kt => ?_) ?_
  · refine XS.icmpNo X2.here hx rfl (hb hby d7_7) rfl (tlt hc7_6).2.1 ?_
    refine XS.dloadN X2.here hx rfl (hb hby d7_10) rfl ?_
    refine XS.aloadN X2.here hx rfl (hb hby d7_11) rfl rfl ?_
    exact kt
  obtain ⟨T7, X7, e7, st7⟩ := getF X2 hx hZ hown (host := "") (Or.inl (wd17 hw)) Via.refl e2 F_s (g := (mkF m 12 #[.val (.ref a0), .val (.double (FP.l2d (A + w0))), .second, .val (.int (0 : Int32)), .val (.int (3 : Int32)), .val (.int (1 : Int32))] [(.ref a0), (.double (FP.l2d (A + w0)))])) rfl rfl (hb hby d7_12)
  refine own_by (A' := T7.setTop (mkF m 17 #[.val (.ref a0), .val (.double (FP.l2d (A + w0))), .second, .val (.int (0 : Int32)), .val (.int (3 : Int32)), .val (.int (1 : Int32))] [(.int (1 : Int32)), (.ref ss), (.double (FP.l2d (A + w0)))])) (fun t kt => ?_) ?_
  · refine st7 t ?_
    refine XS.iload X7.here hx rfl (hb hby d7_15) rfl ?_
    exact kt
  obtain ⟨cl8, Ar8, Sz8, Mn8, Ha8⟩ := id V_s
  have hin8 := inb_of (j := (1 : Int32)) Sz8 ⟨by decide, by decide⟩
  have hat8 : cl8.slots[((1 : Int32)).toNatClampNeg]? = some (.double (FP.l2d w1)) := (Ha8 _ (Nat.lt_of_not_le fun q => hin8 (Or.inr q))).trans (congrArg some rfl)
  refine own_by (A' := T7.setTop (mkF m 18 #[.val (.ref a0), .val (.double (FP.l2d (A + w0))), .second, .val (.int (0 : Int32)), .val (.int (3 : Int32)), .val (.int (1 : Int32))] [(.double (FP.l2d w1)), (.double (FP.l2d (A + w0)))])) (fun t kt => ?_) ?_
  · refine X7.daload hx (j := (1 : Int32)) (v := (.double (FP.l2d w1))) (by rw [e7]; exact Ar8.1) (State.isArrayOf_alike hZ.alike Ar8.2.1) Ar8.2.2 hin8 hat8 (g := (mkF m 17 #[.val (.ref a0), .val (.double (FP.l2d (A + w0))), .second, .val (.int (0 : Int32)), .val (.int (3 : Int32)), .val (.int (1 : Int32))] [(.int (1 : Int32)), (.ref ss), (.double (FP.l2d (A + w0)))])) rfl rfl (hb hby d7_17) _ ?_
    exact kt
  have ha9 := own_ac (a := (A + w0)) (b := w1) (by omega) (by omega)
  have ha10 := own_ac (a := (A + w0)) (b := w1) (by omega) (by omega)
  refine own_by (A' := T7.setTop (mkF m 7 #[.val (.ref a0), .val (.double (FP.l2d ((A + w0) + w1))), .second, .val (.int (0 : Int32)), .val (.int (3 : Int32)), .val (.int (2 : Int32))] [(.int (3 : Int32)), (.int (2 : Int32))])) (fun t kt => ?_) ?_
  · refine XS.daddS X7.here hx rfl (hb hby d7_18) rfl (own_nn2 (a := (A + w0)) (b := w1) (by unfold own_B; omega) (by unfold own_B; omega) (by unfold own_B; omega)) (v := FP.l2d ((A + w0) + w1)) (dadd_w (own_53 (by unfold own_B; omega)) (own_53 (by unfold own_B; omega))) ?_
    refine XS.dstoreN X7.here hx rfl (hb hby d7_19) rfl (l' := #[.val (.ref a0), .val (.double (FP.l2d ((A + w0) + w1))), .second, .val (.int (0 : Int32)), .val (.int (3 : Int32)), .val (.int (1 : Int32))]) rfl ?_
    refine XS.iinc X7.here hx rfl (hb hby d7_20) rfl (l' := #[.val (.ref a0), .val (.double (FP.l2d ((A + w0) + w1))), .second, .val (.int (0 : Int32)), .val (.int (3 : Int32)), .val (.int (2 : Int32))]) rfl ?_
    refine XS.goto X7.here hx rfl (pc0 := 23) (pc' := 3) rfl (hb hby d7_23) (by decide) (by decide) ?_
    refine XS.iload X7.here hx rfl (hb hby d7_3) rfl ?_
    refine XS.iload X7.here hx rfl (hb hby d7_5) rfl ?_
    exact kt
  have hc7_11 : (2 : Int32) < (3 : Int32) := by decide
  refine own_by (A' := T7.setTop (mkF m 12 #[.val (.ref a0), .val (.double (FP.l2d ((A + w0) + w1))), .second, .val (.int (0 : Int32)), .val (.int (3 : Int32)), .val (.int (2 : Int32))] [(.ref a0), (.double (FP.l2d ((A + w0) + w1)))])) (fun t kt => ?_) ?_
  · refine XS.icmpNo X7.here hx rfl (hb hby d7_7) rfl (tlt hc7_11).2.1 ?_
    refine XS.dloadN X7.here hx rfl (hb hby d7_10) rfl ?_
    refine XS.aloadN X7.here hx rfl (hb hby d7_11) rfl rfl ?_
    exact kt
  obtain ⟨T12, X12, e12, st12⟩ := getF X7 hx hZ hown (host := "") (Or.inl (wd17 hw)) Via.refl e7 F_s (g := (mkF m 12 #[.val (.ref a0), .val (.double (FP.l2d ((A + w0) + w1))), .second, .val (.int (0 : Int32)), .val (.int (3 : Int32)), .val (.int (2 : Int32))] [(.ref a0), (.double (FP.l2d ((A + w0) + w1)))])) rfl rfl (hb hby d7_12)
  refine own_by (A' := T12.setTop (mkF m 17 #[.val (.ref a0), .val (.double (FP.l2d ((A + w0) + w1))), .second, .val (.int (0 : Int32)), .val (.int (3 : Int32)), .val (.int (2 : Int32))] [(.int (2 : Int32)), (.ref ss), (.double (FP.l2d ((A + w0) + w1)))])) (fun t kt => ?_) ?_
  · refine st12 t ?_
    refine XS.iload X12.here hx rfl (hb hby d7_15) rfl ?_
    exact kt
  obtain ⟨cl13, Ar13, Sz13, Mn13, Ha13⟩ := id V_s
  have hin13 := inb_of (j := (2 : Int32)) Sz13 ⟨by decide, by decide⟩
  have hat13 : cl13.slots[((2 : Int32)).toNatClampNeg]? = some (.double (FP.l2d w2)) := (Ha13 _ (Nat.lt_of_not_le fun q => hin13 (Or.inr q))).trans (congrArg some rfl)
  refine own_by (A' := T12.setTop (mkF m 18 #[.val (.ref a0), .val (.double (FP.l2d ((A + w0) + w1))), .second, .val (.int (0 : Int32)), .val (.int (3 : Int32)), .val (.int (2 : Int32))] [(.double (FP.l2d w2)), (.double (FP.l2d ((A + w0) + w1)))])) (fun t kt => ?_) ?_
  · refine X12.daload hx (j := (2 : Int32)) (v := (.double (FP.l2d w2))) (by rw [e12]; exact Ar13.1) (State.isArrayOf_alike hZ.alike Ar13.2.1) Ar13.2.2 hin13 hat13 (g := (mkF m 17 #[.val (.ref a0), .val (.double (FP.l2d ((A + w0) + w1))), .second, .val (.int (0 : Int32)), .val (.int (3 : Int32)), .val (.int (2 : Int32))] [(.int (2 : Int32)), (.ref ss), (.double (FP.l2d ((A + w0) + w1)))])) rfl rfl (hb hby d7_17) _ ?_
    exact kt
  have ha14 := own_ac (a := ((A + w0) + w1)) (b := w2) (by omega) (by omega)
  have ha15 := own_ac (a := ((A + w0) + w1)) (b := w2) (by omega) (by omega)
  refine own_by (A' := T12.setTop (mkF m 7 #[.val (.ref a0), .val (.double (FP.l2d (((A + w0) + w1) + w2))), .second, .val (.int (0 : Int32)), .val (.int (3 : Int32)), .val (.int (3 : Int32))] [(.int (3 : Int32)), (.int (3 : Int32))])) (fun t kt => ?_) ?_
  · refine XS.daddS X12.here hx rfl (hb hby d7_18) rfl (own_nn2 (a := ((A + w0) + w1)) (b := w2) (by unfold own_B; omega) (by unfold own_B; omega) (by unfold own_B; omega)) (v := FP.l2d (((A + w0) + w1) + w2)) (dadd_w (own_53 (by unfold own_B; omega)) (own_53 (by unfold own_B; omega))) ?_
    refine XS.dstoreN X12.here hx rfl (hb hby d7_19) rfl (l' := #[.val (.ref a0), .val (.double (FP.l2d (((A + w0) + w1) + w2))), .second, .val (.int (0 : Int32)), .val (.int (3 : Int32)), .val (.int (2 : Int32))]) rfl ?_
    refine XS.iinc X12.here hx rfl (hb hby d7_20) rfl (l' := #[.val (.ref a0), .val (.double (FP.l2d (((A + w0) + w1) + w2))), .second, .val (.int (0 : Int32)), .val (.int (3 : Int32)), .val (.int (3 : Int32))]) rfl ?_
    refine XS.goto X12.here hx rfl (pc0 := 23) (pc' := 3) rfl (hb hby d7_23) (by decide) (by decide) ?_
    refine XS.iload X12.here hx rfl (hb hby d7_3) rfl ?_
    refine XS.iload X12.here hx rfl (hb hby d7_5) rfl ?_
    exact kt
  have hc7_16 : ¬ ((3 : Int32) < (3 : Int32)) := by decide
  refine own_by (A' := T12.setTop (mkF m 27 #[.val (.ref a0), .val (.double (FP.l2d (((A + w0) + w1) + w2))), .second, .val (.int (0 : Int32)), .val (.int (3 : Int32)), .val (.int (3 : Int32))] [(.double (FP.l2d (((A + w0) + w1) + w2)))])) (fun t kt => ?_) ?_
  · refine XS.icmpYes X12.here hx rfl (pc0 := 7) (pc' := 26) rfl (hb hby d7_7) rfl (flt hc7_16).2.1 (by decide) (by decide) ?_
    refine XS.dloadN X12.here hx rfl (hb hby d7_26) rfl ?_
    exact kt
  obtain ⟨fs, hr, hrun, hended, hW, hsame⟩ := X12.leave (v := some (.double (FP.l2d (((A + w0) + w1) + w2)))) (fun h => by rw [Bd.returns] at h; cases h)
  refine ⟨_, _, ?_, hrun, hended, _, _, rfl, ?_, ⟨_, rfl⟩, hW, hsame.mono (by decide) (by decide)⟩
  · exact own_retD X12 hx Bd.returns (hb hby d7_27) hr
  · show QSu Z a0 A w0 w1 w2 (0 : Int32) (3 : Int32) h0 n0 _ T12.heap _
    rw [e12]
    exact ⟨congrArg (fun z => some (Value.double (FP.l2d z))) (by simp [own_S, Int64.add_assoc]), N0, rfl⟩
theorem ef_rmS12 (m : MethodId) (a0 : Addr) : entryFrame m #[(.ref a0), (.double (FP.l2d A)), (.int (1 : Int32)), (.int (2 : Int32))] 6 = mkF m 0 #[.val (.ref a0), .val (.double (FP.l2d A)), .second, .val (.int (1 : Int32)), .val (.int (2 : Int32)), .unset] [] := by first | (simp [entryFrame, mkF, argsToLocals, Value.category]; done) | rfl
set_option maxRecDepth 65536 in
set_option maxHeartbeats 40000000 in
theorem rmS12 (l : Launch) (Z : State) (aw : Array Value) (hw : ∀ d ∈ tables_1, d.before aw Z = true) (ws : List Jvm.Cond) (a0 : Addr) (A : Int64) (ss : Addr) (w0 : Int64) (w1 : Int64) (w2 : Int64) (h0 : Heap) (n0 : Nat) (Z0 : n0 ≤ h0.size) (F_s : Fld Z h0 a0 "com/example/fairshed/fairshed/shedding/SicByTime" "sics" "[D" (.ref ss)) (V_s : AF Z h0 ss .double (8 : Int32) (own_d3 w0 w1 w2)) (hA : 0 ≤ A.toInt ∧ A.toInt ≤ 7) (hW : 0 ≤ w0.toInt ∧ 0 ≤ w1.toInt ∧ 0 ≤ w2.toInt ∧ w0.toInt + w1.toInt + w2.toInt ≤ 7) :
    MetFree l (⟨"com/example/fairshed/fairshed/shedding/SicByTime", "sum", "(DII)D"⟩ : MethodName) (head1 (Jvm.Cond.code (⟨"com/example/fairshed/fairshed/shedding/SicByTime", "sum", "(DII)D"⟩ : MethodName) prog_124_method_6_code 6 (some .double) :: ws) ({ frames := 0, cells := 0, slots := 0, locals := 0 } : Room)) (fun a U => a = #[(.ref a0), (.double (FP.l2d A)), (.int (1 : Int32)), (.int (2 : Int32))] ∧ Z.Warmed39 U.vm ∧ U.heap = h0) (fun _ _ _ _ _ => True) (fun _ U o U' => ∃ v L, o = .returned v ∧ QSu Z a0 A w0 w1 w2 (1 : Int32) (2 : Int32) h0 n0 v U'.heap L ∧ FrameEnd U o U' L ({ frames := 0, cells := 0, slots := 0, locals := 0 } : Room).cells ({ frames := 0, cells := 0, slots := 0, locals := 0 } : Room).slots) := by
  refine MetFree.of_bodySF (plainFor_of_name pn_0) hisR ?_
  intro p e s m args below meth c s₁ Bd hml0 hP hK
  obtain ⟨rfl, hZ, hh⟩ := hP
  have hx := Bd.exec
  have hby := Bd.bytes
  have hml : c.maxLocals = 6 := hml0
  have hown : s.vm.findClass "com/example/fairshed/fairshed/shedding/SicByTime" = some m.cls := findClass_of_methodNamed Bd.named
  have hnm := (name_of_methodNamed Bd.named Bd.method).1
  have X0 : Stand p l e ({ frames := 0, cells := 0, slots := 0, locals := 0 } : Room) s m #[(.ref a0), (.double (FP.l2d A)), (.int (1 : Int32)), (.int (2 : Int32))] below meth c s₁ [] 0 0 := Stand.of_body Bd
  have e0 : s₁.heap = h0 := by rw [← hh, Bd.state]; rfl
  have N0 := Fr.nil n0
  have K0 : Keep h0 h0 [] := Keep.refl _ _
  refine own_by (A' := s₁.setTop (mkF m 0 #[.val (.ref a0), .val (.double (FP.l2d A)), .second, .val (.int (1 : Int32)), .val (.int (2 : Int32)), .unset] [])) (fun t k => castTop (ef_rmS12 m a0) k) ?_
  refine own_by (A' := s₁.setTop (mkF m 7 #[.val (.ref a0), .val (.double (FP.l2d A)), .second, .val (.int (1 : Int32)), .val (.int (2 : Int32)), .val (.int (1 : Int32))] [(.int (2 : Int32)), (.int (1 : Int32))])) (fun t kt => ?_) ?_
  · refine XS.iloadN X0.here hx rfl (hb hby d7_0) rfl ?_
    refine XS.istore X0.here hx rfl (hb hby d7_1) rfl (l' := #[.val (.ref a0), .val (.double (FP.l2d A)), .second, .val (.int (1 : Int32)), .val (.int (2 : Int32)), .val (.int (1 : Int32))]) rfl ?_
    refine XS.iload X0.here hx rfl (hb hby d7_3) rfl ?_
    refine XS.iload X0.here hx rfl (hb hby d7_5) rfl ?_
    exact kt
  have hc7_1 : (1 : Int32) < (2 : Int32) := by decide
  refine own_by (A' := s₁.setTop (mkF m 12 #[.val (.ref a0), .val (.double (FP.l2d A)), .second, .val (.int (1 : Int32)), .val (.int (2 : Int32)), .val (.int (1 : Int32))] [(.ref a0), (.double (FP.l2d A))])) (fun t kt => ?_) ?_
  · refine XS.icmpNo X0.here hx rfl (hb hby d7_7) rfl (tlt hc7_1).2.1 ?_
    refine XS.dloadN X0.here hx rfl (hb hby d7_10) rfl ?_
    refine XS.aloadN X0.here hx rfl (hb hby d7_11) rfl rfl ?_
    exact kt
  obtain ⟨T2, X2, e2, st2⟩ := getF X0 hx hZ hown (host := "") (Or.inl (wd17 hw)) Via.refl e0 F_s (g := (mkF m 12 #[.val (.ref a0), .val (.double (FP.l2d A)), .second, .val (.int (1 : Int32)), .val (.int (2 : Int32)), .val (.int (1 : Int32))] [(.ref a0), (.double (FP.l2d A))])) rfl rfl (hb hby d7_12)
  refine own_by (A' := T2.setTop (mkF m 17 #[.val (.ref a0), .val (.double (FP.l2d A)), .second, .val (.int (1 : Int32)), .val (.int (2 : Int32)), .val (.int (1 : Int32))] [(.int (1 : Int32)), (.ref ss), (.double (FP.l2d A))])) (fun t kt => ?_) ?_
  · refine st2 t ?_
    refine XS.iload X2.here hx rfl (hb hby d7_15) rfl ?_
    exact kt
  obtain ⟨cl3, Ar3, Sz3, Mn3, Ha3⟩ := id V_s
  have hin3 := inb_of (j := (1 : Int32)) Sz3 ⟨by decide, by decide⟩
  have hat3 : cl3.slots[((1 : Int32)).toNatClampNeg]? = some (.double (FP.l2d w1)) := (Ha3 _ (Nat.lt_of_not_le fun q => hin3 (Or.inr q))).trans (congrArg some rfl)
  refine own_by (A' := T2.setTop (mkF m 18 #[.val (.ref a0), .val (.double (FP.l2d A)), .second, .val (.int (1 : Int32)), .val (.int (2 : Int32)), .val (.int (1 : Int32))] [(.double (FP.l2d w1)), (.double (FP.l2d A))])) (fun t kt => ?_) ?_
  · refine X2.daload hx (j := (1 : Int32)) (v := (.double (FP.l2d w1))) (by rw [e2]; exact Ar3.1) (State.isArrayOf_alike hZ.alike Ar3.2.1) Ar3.2.2 hin3 hat3 (g := (mkF m 17 #[.val (.ref a0), .val (.double (FP.l2d A)), .second, .val (.int (1 : Int32)), .val (.int (2 : Int32)), .val (.int (1 : Int32))] [(.int (1 : Int32)), (.ref ss), (.double (FP.l2d A))])) rfl rfl (hb hby d7_17) _ ?_
    exact kt
  have ha4 := own_ac (a := A) (b := w1) (by omega) (by omega)
  have ha5 := own_ac (a := A) (b := w1) (by omega) (by omega)
  refine own_by (A' := T2.setTop (mkF m 7 #[.val (.ref a0), .val (.double (FP.l2d (A + w1))), .second, .val (.int (1 : Int32)), .val (.int (2 : Int32)), .val (.int (2 : Int32))] [(.int (2 : Int32)), (.int (2 : Int32))])) (fun t kt => ?_) ?_
  · refine XS.daddS X2.here hx rfl (hb hby d7_18) rfl (own_nn2 (a := A) (b := w1) (by unfold own_B; omega) (by unfold own_B; omega) (by unfold own_B; omega)) (v := FP.l2d (A + w1)) (dadd_w (own_53 (by unfold own_B; omega)) (own_53 (by unfold own_B; omega))) ?_
    refine XS.dstoreN X2.here hx rfl (hb hby d7_19) rfl (l' := #[.val (.ref a0), .val (.double (FP.l2d (A + w1))), .second, .val (.int (1 : Int32)), .val (.int (2 : Int32)), .val (.int (1 : Int32))]) rfl ?_
    refine XS.iinc X2.here hx rfl (hb hby d7_20) rfl (l' := #[.val (.ref a0), .val (.double (FP.l2d (A + w1))), .second, .val (.int (1 : Int32)), .val (.int (2 : Int32)), .val (.int (2 : Int32))]) rfl ?_
    refine XS.goto X2.here hx rfl (pc0 := 23) (pc' := 3) rfl (hb hby d7_23) (by decide) (by decide) ?_
    refine XS.iload X2.here hx rfl (hb hby d7_3) rfl ?_
    refine XS.iload X2.here hx rfl (hb hby d7_5) rfl ?_
    exact kt
  have hc7_6 : ¬ ((2 : Int32) < (2 : Int32)) := by decide
  refine own_by (A' := T2.setTop (mkF m 27 #[.val (.ref a0), .val (.double (FP.l2d (A + w1))), .second, .val (.int (1 : Int32)), .val (.int (2 : Int32)), .val (.int (2 : Int32))] [(.double (FP.l2d (A + w1)))])) (fun t kt => ?_) ?_
  · refine XS.icmpYes X2.here hx rfl (pc0 := 7) (pc' := 26) rfl (hb hby d7_7) rfl (flt hc7_6).2.1 (by decide) (by decide) ?_
    refine XS.dloadN X2.here hx rfl (hb hby d7_26) rfl ?_
    exact kt
  obtain ⟨fs, hr, hrun, hended, hW, hsame⟩ := X2.leave (v := some (.double (FP.l2d (A + w1)))) (fun h => by rw [Bd.returns] at h; cases h)
  refine ⟨_, _, ?_, hrun, hended, _, _, rfl, ?_, ⟨_, rfl⟩, hW, hsame.mono (by decide) (by decide)⟩
  · exact own_retD X2 hx Bd.returns (hb hby d7_27) hr
  · show QSu Z a0 A w0 w1 w2 (1 : Int32) (2 : Int32) h0 n0 _ T2.heap _
    rw [e2]
    exact ⟨congrArg (fun z => some (Value.double (FP.l2d z))) (by simp [own_S, Int64.add_assoc]), N0, rfl⟩
theorem ef_rmS13 (m : MethodId) (a0 : Addr) : entryFrame m #[(.ref a0), (.double (FP.l2d A)), (.int (1 : Int32)), (.int (3 : Int32))] 6 = mkF m 0 #[.val (.ref a0), .val (.double (FP.l2d A)), .second, .val (.int (1 : Int32)), .val (.int (3 : Int32)), .unset] [] := by first | (simp [entryFrame, mkF, argsToLocals, Value.category]; done) | rfl
set_option maxRecDepth 65536 in
set_option maxHeartbeats 40000000 in
theorem rmS13 (l : Launch) (Z : State) (aw : Array Value) (hw : ∀ d ∈ tables_1, d.before aw Z = true) (ws : List Jvm.Cond) (a0 : Addr) (A : Int64) (ss : Addr) (w0 : Int64) (w1 : Int64) (w2 : Int64) (h0 : Heap) (n0 : Nat) (Z0 : n0 ≤ h0.size) (F_s : Fld Z h0 a0 "com/example/fairshed/fairshed/shedding/SicByTime" "sics" "[D" (.ref ss)) (V_s : AF Z h0 ss .double (8 : Int32) (own_d3 w0 w1 w2)) (hA : 0 ≤ A.toInt ∧ A.toInt ≤ 7) (hW : 0 ≤ w0.toInt ∧ 0 ≤ w1.toInt ∧ 0 ≤ w2.toInt ∧ w0.toInt + w1.toInt + w2.toInt ≤ 7) :
    MetFree l (⟨"com/example/fairshed/fairshed/shedding/SicByTime", "sum", "(DII)D"⟩ : MethodName) (head1 (Jvm.Cond.code (⟨"com/example/fairshed/fairshed/shedding/SicByTime", "sum", "(DII)D"⟩ : MethodName) prog_124_method_6_code 6 (some .double) :: ws) ({ frames := 0, cells := 0, slots := 0, locals := 0 } : Room)) (fun a U => a = #[(.ref a0), (.double (FP.l2d A)), (.int (1 : Int32)), (.int (3 : Int32))] ∧ Z.Warmed39 U.vm ∧ U.heap = h0) (fun _ _ _ _ _ => True) (fun _ U o U' => ∃ v L, o = .returned v ∧ QSu Z a0 A w0 w1 w2 (1 : Int32) (3 : Int32) h0 n0 v U'.heap L ∧ FrameEnd U o U' L ({ frames := 0, cells := 0, slots := 0, locals := 0 } : Room).cells ({ frames := 0, cells := 0, slots := 0, locals := 0 } : Room).slots) := by
  refine MetFree.of_bodySF (plainFor_of_name pn_0) hisR ?_
  intro p e s m args below meth c s₁ Bd hml0 hP hK
  obtain ⟨rfl, hZ, hh⟩ := hP
  have hx := Bd.exec
  have hby := Bd.bytes
  have hml : c.maxLocals = 6 := hml0
  have hown : s.vm.findClass "com/example/fairshed/fairshed/shedding/SicByTime" = some m.cls := findClass_of_methodNamed Bd.named
  have hnm := (name_of_methodNamed Bd.named Bd.method).1
  have X0 : Stand p l e ({ frames := 0, cells := 0, slots := 0, locals := 0 } : Room) s m #[(.ref a0), (.double (FP.l2d A)), (.int (1 : Int32)), (.int (3 : Int32))] below meth c s₁ [] 0 0 := Stand.of_body Bd
  have e0 : s₁.heap = h0 := by rw [← hh, Bd.state]; rfl
  have N0 := Fr.nil n0
  have K0 : Keep h0 h0 [] := Keep.refl _ _
  refine own_by (A' := s₁.setTop (mkF m 0 #[.val (.ref a0), .val (.double (FP.l2d A)), .second, .val (.int (1 : Int32)), .val (.int (3 : Int32)), .unset] [])) (fun t k => castTop (ef_rmS13 m a0) k) ?_
  refine own_by (A' := s₁.setTop (mkF m 7 #[.val (.ref a0), .val (.double (FP.l2d A)), .second, .val (.int (1 : Int32)), .val (.int (3 : Int32)), .val (.int (1 : Int32))] [(.int (3 : Int32)), (.int (1 : Int32))])) (fun t kt => ?_) ?_
  · refine XS.iloadN X0.here hx rfl (hb hby d7_0) rfl ?_
    refine XS.istore X0.here hx rfl (hb hby d7_1) rfl (l' := #[.val (.ref a0), .val (.double (FP.l2d A)), .second, .val (.int (1 : Int32)), .val (.int (3 : Int32)), .val (.int (1 : Int32))]) rfl ?_
    refine XS.iload X0.here hx rfl (hb hby d7_3) rfl ?_
    refine XS.iload X0.here hx rfl (hb hby d7_5) rfl ?_
    exact kt
  have hc7_1 : (1 : Int32) < (3 : Int32) := by decide
  refine own_by (A' := s₁.setTop (mkF m 12 #[.val (.ref a0), .val (.double (FP.l2d A)), .second, .val (.int (1 : Int32)), .val (.int (3 : Int32)), .val (.int (1 : Int32))] [(.ref a0), (.double (FP.l2d A))])) (fun t kt => ?_) ?_
  · refine XS.icmpNo X0.here hx rfl (hb hby d7_7) rfl (tlt hc7_1).2.1 ?_
    refine XS.dloadN X0.here hx rfl (hb hby d7_10) rfl ?_
    refine XS.aloadN X0.here hx rfl (hb hby d7_11) rfl rfl ?_
    exact kt
  obtain ⟨T2, X2, e2, st2⟩ := getF X0 hx hZ hown (host := "") (Or.inl (wd17 hw)) Via.refl e0 F_s (g := (mkF m 12 #[.val (.ref a0), .val (.double (FP.l2d A)), .second, .val (.int (1 : Int32)), .val (.int (3 : Int32)), .val (.int (1 : Int32))] [(.ref a0), (.double (FP.l2d A))])) rfl rfl (hb hby d7_12)
  refine own_by (A' := T2.setTop (mkF m 17 #[.val (.ref a0), .val (.double (FP.l2d A)), .second, .val (.int (1 : Int32)), .val (.int (3 : Int32)), .val (.int (1 : Int32))] [(.int (1 : Int32)), (.ref ss), (.double (FP.l2d A))])) (fun t kt => ?_) ?_
  · refine st2 t ?_
    refine XS.iload X2.here hx rfl (hb hby d7_15) rfl ?_
    exact kt
  obtain ⟨cl3, Ar3, Sz3, Mn3, Ha3⟩ := id V_s
  have hin3 := inb_of (j := (1 : Int32)) Sz3 ⟨by decide, by decide⟩
  have hat3 : cl3.slots[((1 : Int32)).toNatClampNeg]? = some (.double (FP.l2d w1)) := (Ha3 _ (Nat.lt_of_not_le fun q => hin3 (Or.inr q))).trans (congrArg some rfl)
  refine own_by (A' := T2.setTop (mkF m 18 #[.val (.ref a0), .val (.double (FP.l2d A)), .second, .val (.int (1 : Int32)), .val (.int (3 : Int32)), .val (.int (1 : Int32))] [(.double (FP.l2d w1)), (.double (FP.l2d A))])) (fun t kt => ?_) ?_
  · refine X2.daload hx (j := (1 : Int32)) (v := (.double (FP.l2d w1))) (by rw [e2]; exact Ar3.1) (State.isArrayOf_alike hZ.alike Ar3.2.1) Ar3.2.2 hin3 hat3 (g := (mkF m 17 #[.val (.ref a0), .val (.double (FP.l2d A)), .second, .val (.int (1 : Int32)), .val (.int (3 : Int32)), .val (.int (1 : Int32))] [(.int (1 : Int32)), (.ref ss), (.double (FP.l2d A))])) rfl rfl (hb hby d7_17) _ ?_
    exact kt
  have ha4 := own_ac (a := A) (b := w1) (by omega) (by omega)
  have ha5 := own_ac (a := A) (b := w1) (by omega) (by omega)
  refine own_by (A' := T2.setTop (mkF m 7 #[.val (.ref a0), .val (.double (FP.l2d (A + w1))), .second, .val (.int (1 : Int32)), .val (.int (3 : Int32)), .val (.int (2 : Int32))] [(.int (3 : Int32)), (.int (2 : Int32))])) (fun t kt => ?_) ?_
  · refine XS.daddS X2.here hx rfl (hb hby d7_18) rfl (own_nn2 (a := A) (b := w1) (by unfold own_B; omega) (by unfold own_B; omega) (by unfold own_B; omega)) (v := FP.l2d (A + w1)) (dadd_w (own_53 (by unfold own_B; omega)) (own_53 (by unfold own_B; omega))) ?_
    refine XS.dstoreN X2.here hx rfl (hb hby d7_19) rfl (l' := #[.val (.ref a0), .val (.double (FP.l2d (A + w1))), .second, .val (.int (1 : Int32)), .val (.int (3 : Int32)), .val (.int (1 : Int32))]) rfl ?_
    refine XS.iinc X2.here hx rfl (hb hby d7_20) rfl (l' := #[.val (.ref a0), .val (.double (FP.l2d (A + w1))), .second, .val (.int (1 : Int32)), .val (.int (3 : Int32)), .val (.int (2 : Int32))]) rfl ?_
    refine XS.goto X2.here hx rfl (pc0 := 23) (pc' := 3) rfl (hb hby d7_23) (by decide) (by decide) ?_
    refine XS.iload X2.here hx rfl (hb hby d7_3) rfl ?_
    refine XS.iload X2.here hx rfl (hb hby d7_5) rfl ?_
    exact kt
  have hc7_6 : (2 : Int32) < (3 : Int32) := by decide
  refine own_by (A' := T2.setTop (mkF m 12 #[.val (.ref a0), .val (.double (FP.l2d (A + w1))), .second, .val (.int (1 : Int32)), .val (.int (3 : Int32)), .val (.int (2 : Int32))] [(.ref a0), (.double (FP.l2d (A + w1)))])) (fun t kt => ?_) ?_
  · refine XS.icmpNo X2.here hx rfl (hb hby d7_7) rfl (tlt hc7_6).2.1 ?_
    refine XS.dloadN X2.here hx rfl (hb hby d7_10) rfl ?_
    refine XS.aloadN X2.here hx rfl (hb hby d7_11) rfl rfl ?_
    exact kt
  obtain ⟨T7, X7, e7, st7⟩ := getF X2 hx hZ hown (host := "") (Or.inl (wd17 hw)) Via.refl e2 F_s (g := (mkF m 12 #[.val (.ref a0), .val (.double (FP.l2d (A + w1))), .second, .val (.int (1 : Int32)), .val (.int (3 : Int32)), .val (.int (2 : Int32))] [(.ref a0), (.double (FP.l2d (A + w1)))])) rfl rfl (hb hby d7_12)
  refine own_by (A' := T7.setTop (mkF m 17 #[.val (.ref a0), .val (.double (FP.l2d (A + w1))), .second, .val (.int (1 : Int32)), .val (.int (3 : Int32)), .val (.int (2 : Int32))] [(.int (2 : Int32)), (.ref ss), (.double (FP.l2d (A + w1)))])) (fun t kt => ?_) ?_
  · refine st7 t ?_
    refine XS.iload X7.here hx rfl (hb hby d7_15) rfl ?_
    exact kt
  obtain ⟨cl8, Ar8, Sz8, Mn8, Ha8⟩ := id V_s
  have hin8 := inb_of (j := (2 : Int32)) Sz8 ⟨by decide, by decide⟩
  have hat8 : cl8.slots[((2 : Int32)).toNatClampNeg]? = some (.double (FP.l2d w2)) := (Ha8 _ (Nat.lt_of_not_le fun q => hin8 (Or.inr q))).trans (congrArg some rfl)
  refine own_by (A' := T7.setTop (mkF m 18 #[.val (.ref a0), .val (.double (FP.l2d (A + w1))), .second, .val (.int (1 : Int32)), .val (.int (3 : Int32)), .val (.int (2 : Int32))] [(.double (FP.l2d w2)), (.double (FP.l2d (A + w1)))])) (fun t kt => ?_) ?_
  · refine X7.daload hx (j := (2 : Int32)) (v := (.double (FP.l2d w2))) (by rw [e7]; exact Ar8.1) (State.isArrayOf_alike hZ.alike Ar8.2.1) Ar8.2.2 hin8 hat8 (g := (mkF m 17 #[.val (.ref a0), .val (.double (FP.l2d (A + w1))), .second, .val (.int (1 : Int32)), .val (.int (3 : Int32)), .val (.int (2 : Int32))] [(.int (2 : Int32)), (.ref ss), (.double (FP.l2d (A + w1)))])) rfl rfl (hb hby d7_17) _ ?_
    exact kt
  have ha9 := own_ac (a := (A + w1)) (b := w2) (by omega) (by omega)
  have ha10 := own_ac (a := (A + w1)) (b := w2) (by omega) (by omega)
  refine own_by (A' := T7.setTop (mkF m 7 #[.val (.ref a0), .val (.double (FP.l2d ((A + w1) + w2))), .second, .val (.int (1 : Int32)), .val (.int (3 : Int32)), .val (.int (3 : Int32))] [(.int (3 : Int32)), (.int (3 : Int32))])) (fun t kt => ?_) ?_
  · refine XS.daddS X7.here hx rfl (hb hby d7_18) rfl (own_nn2 (a := (A + w1)) (b := w2) (by unfold own_B; omega) (by unfold own_B; omega) (by unfold own_B; omega)) (v := FP.l2d ((A + w1) + w2)) (dadd_w (own_53 (by unfold own_B; omega)) (own_53 (by unfold own_B; omega))) ?_
    refine XS.dstoreN X7.here hx rfl (hb hby d7_19) rfl (l' := #[.val (.ref a0), .val (.double (FP.l2d ((A + w1) + w2))), .second, .val (.int (1 : Int32)), .val (.int (3 : Int32)), .val (.int (2 : Int32))]) rfl ?_
    refine XS.iinc X7.here hx rfl (hb hby d7_20) rfl (l' := #[.val (.ref a0), .val (.double (FP.l2d ((A + w1) + w2))), .second, .val (.int (1 : Int32)), .val (.int (3 : Int32)), .val (.int (3 : Int32))]) rfl ?_
    refine XS.goto X7.here hx rfl (pc0 := 23) (pc' := 3) rfl (hb hby d7_23) (by decide) (by decide) ?_
    refine XS.iload X7.here hx rfl (hb hby d7_3) rfl ?_
    refine XS.iload X7.here hx rfl (hb hby d7_5) rfl ?_
    exact kt
  have hc7_11 : ¬ ((3 : Int32) < (3 : Int32)) := by decide
  refine own_by (A' := T7.setTop (mkF m 27 #[.val (.ref a0), .val (.double (FP.l2d ((A + w1) + w2))), .second, .val (.int (1 : Int32)), .val (.int (3 : Int32)), .val (.int (3 : Int32))] [(.double (FP.l2d ((A + w1) + w2)))])) (fun t kt => ?_) ?_
  · refine XS.icmpYes X7.here hx rfl (pc0 := 7) (pc' := 26) rfl (hb hby d7_7) rfl (flt hc7_11).2.1 (by decide) (by decide) ?_
    refine XS.dloadN X7.here hx rfl (hb hby d7_26) rfl ?_
    exact kt
  obtain ⟨fs, hr, hrun, hended, hW, hsame⟩ := X7.leave (v := some (.double (FP.l2d ((A + w1) + w2)))) (fun h => by rw [Bd.returns] at h; cases h)
  refine ⟨_, _, ?_, hrun, hended, _, _, rfl, ?_, ⟨_, rfl⟩, hW, hsame.mono (by decide) (by decide)⟩
  · exact own_retD X7 hx Bd.returns (hb hby d7_27) hr
  · show QSu Z a0 A w0 w1 w2 (1 : Int32) (3 : Int32) h0 n0 _ T7.heap _
    rw [e7]
    exact ⟨congrArg (fun z => some (Value.double (FP.l2d z))) (by simp [own_S, Int64.add_assoc]), N0, rfl⟩
theorem ef_rmS23 (m : MethodId) (a0 : Addr) : entryFrame m #[(.ref a0), (.double (FP.l2d A)), (.int (2 : Int32)), (.int (3 : Int32))] 6 = mkF m 0 #[.val (.ref a0), .val (.double (FP.l2d A)), .second, .val (.int (2 : Int32)), .val (.int (3 : Int32)), .unset] [] := by first | (simp [entryFrame, mkF, argsToLocals, Value.category]; done) | rfl
set_option maxRecDepth 65536 in
set_option maxHeartbeats 40000000 in
theorem rmS23 (l : Launch) (Z : State) (aw : Array Value) (hw : ∀ d ∈ tables_1, d.before aw Z = true) (ws : List Jvm.Cond) (a0 : Addr) (A : Int64) (ss : Addr) (w0 : Int64) (w1 : Int64) (w2 : Int64) (h0 : Heap) (n0 : Nat) (Z0 : n0 ≤ h0.size) (F_s : Fld Z h0 a0 "com/example/fairshed/fairshed/shedding/SicByTime" "sics" "[D" (.ref ss)) (V_s : AF Z h0 ss .double (8 : Int32) (own_d3 w0 w1 w2)) (hA : 0 ≤ A.toInt ∧ A.toInt ≤ 7) (hW : 0 ≤ w0.toInt ∧ 0 ≤ w1.toInt ∧ 0 ≤ w2.toInt ∧ w0.toInt + w1.toInt + w2.toInt ≤ 7) :
    MetFree l (⟨"com/example/fairshed/fairshed/shedding/SicByTime", "sum", "(DII)D"⟩ : MethodName) (head1 (Jvm.Cond.code (⟨"com/example/fairshed/fairshed/shedding/SicByTime", "sum", "(DII)D"⟩ : MethodName) prog_124_method_6_code 6 (some .double) :: ws) ({ frames := 0, cells := 0, slots := 0, locals := 0 } : Room)) (fun a U => a = #[(.ref a0), (.double (FP.l2d A)), (.int (2 : Int32)), (.int (3 : Int32))] ∧ Z.Warmed39 U.vm ∧ U.heap = h0) (fun _ _ _ _ _ => True) (fun _ U o U' => ∃ v L, o = .returned v ∧ QSu Z a0 A w0 w1 w2 (2 : Int32) (3 : Int32) h0 n0 v U'.heap L ∧ FrameEnd U o U' L ({ frames := 0, cells := 0, slots := 0, locals := 0 } : Room).cells ({ frames := 0, cells := 0, slots := 0, locals := 0 } : Room).slots) := by
  refine MetFree.of_bodySF (plainFor_of_name pn_0) hisR ?_
  intro p e s m args below meth c s₁ Bd hml0 hP hK
  obtain ⟨rfl, hZ, hh⟩ := hP
  have hx := Bd.exec
  have hby := Bd.bytes
  have hml : c.maxLocals = 6 := hml0
  have hown : s.vm.findClass "com/example/fairshed/fairshed/shedding/SicByTime" = some m.cls := findClass_of_methodNamed Bd.named
  have hnm := (name_of_methodNamed Bd.named Bd.method).1
  have X0 : Stand p l e ({ frames := 0, cells := 0, slots := 0, locals := 0 } : Room) s m #[(.ref a0), (.double (FP.l2d A)), (.int (2 : Int32)), (.int (3 : Int32))] below meth c s₁ [] 0 0 := Stand.of_body Bd
  have e0 : s₁.heap = h0 := by rw [← hh, Bd.state]; rfl
  have N0 := Fr.nil n0
  have K0 : Keep h0 h0 [] := Keep.refl _ _
  refine own_by (A' := s₁.setTop (mkF m 0 #[.val (.ref a0), .val (.double (FP.l2d A)), .second, .val (.int (2 : Int32)), .val (.int (3 : Int32)), .unset] [])) (fun t k => castTop (ef_rmS23 m a0) k) ?_
  refine own_by (A' := s₁.setTop (mkF m 7 #[.val (.ref a0), .val (.double (FP.l2d A)), .second, .val (.int (2 : Int32)), .val (.int (3 : Int32)), .val (.int (2 : Int32))] [(.int (3 : Int32)), (.int (2 : Int32))])) (fun t kt => ?_) ?_
  · refine XS.iloadN X0.here hx rfl (hb hby d7_0) rfl ?_
    refine XS.istore X0.here hx rfl (hb hby d7_1) rfl (l' := #[.val (.ref a0), .val (.double (FP.l2d A)), .second, .val (.int (2 : Int32)), .val (.int (3 : Int32)), .val (.int (2 : Int32))]) rfl ?_
    refine XS.iload X0.here hx rfl (hb hby d7_3) rfl ?_
    refine XS.iload X0.here hx rfl (hb hby d7_5) rfl ?_
    exact kt
  have hc7_1 : (2 : Int32) < (3 : Int32) := by decide
  refine own_by (A' := s₁.setTop (mkF m 12 #[.val (.ref a0), .val (.double (FP.l2d A)), .second, .val (.int (2 : Int32)), .val (.int (3 : Int32)), .val (.int (2 : Int32))] [(.ref a0), (.double (FP.l2d A))])) (fun t kt => ?_) ?_
  · refine XS.icmpNo X0.here hx rfl (hb hby d7_7) rfl (tlt hc7_1).2.1 ?_
    refine XS.dloadN X0.here hx rfl (hb hby d7_10) rfl ?_
    refine XS.aloadN X0.here hx rfl (hb hby d7_11) rfl rfl ?_
    exact kt
  obtain ⟨T2, X2, e2, st2⟩ := getF X0 hx hZ hown (host := "") (Or.inl (wd17 hw)) Via.refl e0 F_s (g := (mkF m 12 #[.val (.ref a0), .val (.double (FP.l2d A)), .second, .val (.int (2 : Int32)), .val (.int (3 : Int32)), .val (.int (2 : Int32))] [(.ref a0), (.double (FP.l2d A))])) rfl rfl (hb hby d7_12)
  refine own_by (A' := T2.setTop (mkF m 17 #[.val (.ref a0), .val (.double (FP.l2d A)), .second, .val (.int (2 : Int32)), .val (.int (3 : Int32)), .val (.int (2 : Int32))] [(.int (2 : Int32)), (.ref ss), (.double (FP.l2d A))])) (fun t kt => ?_) ?_
  · refine st2 t ?_
    refine XS.iload X2.here hx rfl (hb hby d7_15) rfl ?_
    exact kt
  obtain ⟨cl3, Ar3, Sz3, Mn3, Ha3⟩ := id V_s
  have hin3 := inb_of (j := (2 : Int32)) Sz3 ⟨by decide, by decide⟩
  have hat3 : cl3.slots[((2 : Int32)).toNatClampNeg]? = some (.double (FP.l2d w2)) := (Ha3 _ (Nat.lt_of_not_le fun q => hin3 (Or.inr q))).trans (congrArg some rfl)
  refine own_by (A' := T2.setTop (mkF m 18 #[.val (.ref a0), .val (.double (FP.l2d A)), .second, .val (.int (2 : Int32)), .val (.int (3 : Int32)), .val (.int (2 : Int32))] [(.double (FP.l2d w2)), (.double (FP.l2d A))])) (fun t kt => ?_) ?_
  · refine X2.daload hx (j := (2 : Int32)) (v := (.double (FP.l2d w2))) (by rw [e2]; exact Ar3.1) (State.isArrayOf_alike hZ.alike Ar3.2.1) Ar3.2.2 hin3 hat3 (g := (mkF m 17 #[.val (.ref a0), .val (.double (FP.l2d A)), .second, .val (.int (2 : Int32)), .val (.int (3 : Int32)), .val (.int (2 : Int32))] [(.int (2 : Int32)), (.ref ss), (.double (FP.l2d A))])) rfl rfl (hb hby d7_17) _ ?_
    exact kt
  have ha4 := own_ac (a := A) (b := w2) (by omega) (by omega)
  have ha5 := own_ac (a := A) (b := w2) (by omega) (by omega)
  refine own_by (A' := T2.setTop (mkF m 7 #[.val (.ref a0), .val (.double (FP.l2d (A + w2))), .second, .val (.int (2 : Int32)), .val (.int (3 : Int32)), .val (.int (3 : Int32))] [(.int (3 : Int32)), (.int (3 : Int32))])) (fun t kt => ?_) ?_
  · refine XS.daddS X2.here hx rfl (hb hby d7_18) rfl (own_nn2 (a := A) (b := w2) (by unfold own_B; omega) (by unfold own_B; omega) (by unfold own_B; omega)) (v := FP.l2d (A + w2)) (dadd_w (own_53 (by unfold own_B; omega)) (own_53 (by unfold own_B; omega))) ?_
    refine XS.dstoreN X2.here hx rfl (hb hby d7_19) rfl (l' := #[.val (.ref a0), .val (.double (FP.l2d (A + w2))), .second, .val (.int (2 : Int32)), .val (.int (3 : Int32)), .val (.int (2 : Int32))]) rfl ?_
    refine XS.iinc X2.here hx rfl (hb hby d7_20) rfl (l' := #[.val (.ref a0), .val (.double (FP.l2d (A + w2))), .second, .val (.int (2 : Int32)), .val (.int (3 : Int32)), .val (.int (3 : Int32))]) rfl ?_
    refine XS.goto X2.here hx rfl (pc0 := 23) (pc' := 3) rfl (hb hby d7_23) (by decide) (by decide) ?_
    refine XS.iload X2.here hx rfl (hb hby d7_3) rfl ?_
    refine XS.iload X2.here hx rfl (hb hby d7_5) rfl ?_
    exact kt
  have hc7_6 : ¬ ((3 : Int32) < (3 : Int32)) := by decide
  refine own_by (A' := T2.setTop (mkF m 27 #[.val (.ref a0), .val (.double (FP.l2d (A + w2))), .second, .val (.int (2 : Int32)), .val (.int (3 : Int32)), .val (.int (3 : Int32))] [(.double (FP.l2d (A + w2)))])) (fun t kt => ?_) ?_
  · refine XS.icmpYes X2.here hx rfl (pc0 := 7) (pc' := 26) rfl (hb hby d7_7) rfl (flt hc7_6).2.1 (by decide) (by decide) ?_
    refine XS.dloadN X2.here hx rfl (hb hby d7_26) rfl ?_
    exact kt
  obtain ⟨fs, hr, hrun, hended, hW, hsame⟩ := X2.leave (v := some (.double (FP.l2d (A + w2)))) (fun h => by rw [Bd.returns] at h; cases h)
  refine ⟨_, _, ?_, hrun, hended, _, _, rfl, ?_, ⟨_, rfl⟩, hW, hsame.mono (by decide) (by decide)⟩
  · exact own_retD X2 hx Bd.returns (hb hby d7_27) hr
  · show QSu Z a0 A w0 w1 w2 (2 : Int32) (3 : Int32) h0 n0 _ T2.heap _
    rw [e2]
    exact ⟨congrArg (fun z => some (Value.double (FP.l2d z))) (by simp [own_S, Int64.add_assoc]), N0, rfl⟩
theorem rmSu (l : Launch) (Z : State) (aw : Array Value) (hw : ∀ d ∈ tables_1, d.before aw Z = true) (ws : List Jvm.Cond) (a0 : Addr) (A : Int64) (ss : Addr) (w0 : Int64) (w1 : Int64) (w2 : Int64) (i : Int32) (j : Int32) (h0 : Heap) (n0 : Nat) (Z0 : n0 ≤ h0.size) (F_s : Fld Z h0 a0 "com/example/fairshed/fairshed/shedding/SicByTime" "sics" "[D" (.ref ss)) (V_s : AF Z h0 ss .double (8 : Int32) (own_d3 w0 w1 w2)) (hA : 0 ≤ A.toInt ∧ A.toInt ≤ 7) (hW : 0 ≤ w0.toInt ∧ 0 ≤ w1.toInt ∧ 0 ≤ w2.toInt ∧ w0.toInt + w1.toInt + w2.toInt ≤ 7) (hi : 0 ≤ i.toInt ∧ i.toInt ≤ 3) (hj : 0 ≤ j.toInt ∧ j.toInt ≤ 3) :
    MetFree l (⟨"com/example/fairshed/fairshed/shedding/SicByTime", "sum", "(DII)D"⟩ : MethodName) (head1 (Jvm.Cond.code (⟨"com/example/fairshed/fairshed/shedding/SicByTime", "sum", "(DII)D"⟩ : MethodName) prog_124_method_6_code 6 (some .double) :: ws) ({ frames := 0, cells := 0, slots := 0, locals := 0 } : Room)) (fun a U => a = #[.ref a0, .double (FP.l2d A), .int i, .int j] ∧ Z.Warmed39 U.vm ∧ U.heap = h0) (fun _ _ _ _ _ => True) (fun _ U o U' => ∃ v L, o = .returned v ∧ QSu Z a0 A w0 w1 w2 i j h0 n0 v U'.heap L ∧ FrameEnd U o U' L ({ frames := 0, cells := 0, slots := 0, locals := 0 } : Room).cells ({ frames := 0, cells := 0, slots := 0, locals := 0 } : Room).slots) := by
  rcases own_i4 hi with rfl | rfl | rfl | rfl <;> rcases own_i4 hj with rfl | rfl | rfl | rfl
  · exact rmSge l Z aw hw ws a0 _ _ A ss w0 w1 w2 h0 n0 Z0 F_s V_s hA hW (by decide)
  · exact rmS01 l Z aw hw ws a0 A ss w0 w1 w2 h0 n0 Z0 F_s V_s hA hW
  · exact rmS02 l Z aw hw ws a0 A ss w0 w1 w2 h0 n0 Z0 F_s V_s hA hW
  · exact rmS03 l Z aw hw ws a0 A ss w0 w1 w2 h0 n0 Z0 F_s V_s hA hW
  · exact rmSge l Z aw hw ws a0 _ _ A ss w0 w1 w2 h0 n0 Z0 F_s V_s hA hW (by decide)
  · exact rmSge l Z aw hw ws a0 _ _ A ss w0 w1 w2 h0 n0 Z0 F_s V_s hA hW (by decide)
  · exact rmS12 l Z aw hw ws a0 A ss w0 w1 w2 h0 n0 Z0 F_s V_s hA hW
  · exact rmS13 l Z aw hw ws a0 A ss w0 w1 w2 h0 n0 Z0 F_s V_s hA hW
  · exact rmSge l Z aw hw ws a0 _ _ A ss w0 w1 w2 h0 n0 Z0 F_s V_s hA hW (by decide)
  · exact rmSge l Z aw hw ws a0 _ _ A ss w0 w1 w2 h0 n0 Z0 F_s V_s hA hW (by decide)
  · exact rmSge l Z aw hw ws a0 _ _ A ss w0 w1 w2 h0 n0 Z0 F_s V_s hA hW (by decide)
  · exact rmS23 l Z aw hw ws a0 A ss w0 w1 w2 h0 n0 Z0 F_s V_s hA hW
  · exact rmSge l Z aw hw ws a0 _ _ A ss w0 w1 w2 h0 n0 Z0 F_s V_s hA hW (by decide)
  · exact rmSge l Z aw hw ws a0 _ _ A ss w0 w1 w2 h0 n0 Z0 F_s V_s hA hW (by decide)
  · exact rmSge l Z aw hw ws a0 _ _ A ss w0 w1 w2 h0 n0 Z0 F_s V_s hA hW (by decide)
  · exact rmSge l Z aw hw ws a0 _ _ A ss w0 w1 w2 h0 n0 Z0 F_s V_s hA hW (by decide)
theorem d4_0 : decode prog_124_method_3_code 0 = .ok (.aload_n 0, 1) := by decide +kernel
theorem d4_1 : decode prog_124_method_3_code 1 = .ok (.getfield 25, 3) := by decide +kernel
theorem d4_4 : decode prog_124_method_3_code 4 = .ok (.aload_n 0, 1) := by decide +kernel
theorem d4_5 : decode prog_124_method_3_code 5 = .ok (.getfield 28, 3) := by decide +kernel
theorem d4_8 : decode prog_124_method_3_code 8 = .ok (.if_icmp .ge 30, 3) := by decide +kernel
theorem d4_38 : decode prog_124_method_3_code 38 = .ok (.aload_n 0, 1) := by decide +kernel
theorem d4_39 : decode prog_124_method_3_code 39 = .ok (.getfield 25, 3) := by decide +kernel
theorem d4_42 : decode prog_124_method_3_code 42 = .ok (.aload_n 0, 1) := by decide +kernel
theorem d4_43 : decode prog_124_method_3_code 43 = .ok (.getfield 34, 3) := by decide +kernel
theorem d4_46 : decode prog_124_method_3_code 46 = .ok (.if_icmp .le 8, 3) := by decide +kernel
theorem d4_49 : decode prog_124_method_3_code 49 = .ok (.aload_n 0, 1) := by decide +kernel
theorem d4_50 : decode prog_124_method_3_code 50 = .ok (.iconst (-1), 1) := by decide +kernel
theorem d4_51 : decode prog_124_method_3_code 51 = .ok (.putfield 17, 3) := by decide +kernel
theorem d4_54 : decode prog_124_method_3_code 54 = .ok (.return_, 1) := by decide +kernel
theorem ef_rmFo0 (m : MethodId) (a0 : Addr) (q1 : Int64) : entryFrame m #[(.ref a0), (.long q1)] 3 = mkF m 0 #[.val (.ref a0), .val (.long q1), .second] [] := by first | (simp [entryFrame, mkF, argsToLocals, Value.category]; done) | rfl
set_option maxRecDepth 65536 in
set_option maxHeartbeats 40000000 in
theorem rmFo0 (l : Launch) (Z : State) (aw : Array Value) (hw : ∀ d ∈ tables_1, d.before aw Z = true) (ws : List Jvm.Cond) (a0 : Addr) (q1 : Int64) (tt : Addr) (ss : Addr) (t0 : Int64) (t1 : Int64) (t2 : Int64) (w0 : Int64) (w1 : Int64) (w2 : Int64) (Us : Int64) (F : Int32) (G : Int32) (Sm : Int64) (h0 : Heap) (n0 : Nat) (Z0 : n0 ≤ h0.size) (S_ : own_St Z h0 a0 tt ss (0 : Int32) (0 : Int32) t0 t1 t2 w0 w1 w2 Us F G Sm) (g_a0 : n0 ≤ a0) :
    MetFree l (⟨"com/example/fairshed/fairshed/shedding/SicByTime", "forget", "(J)V"⟩ : MethodName) (head1 (Jvm.Cond.code (⟨"com/example/fairshed/fairshed/shedding/SicByTime", "forget", "(J)V"⟩ : MethodName) prog_124_method_3_code 3 none :: ws) ({ frames := 0, cells := 0, slots := 0, locals := 0 } : Room)) (fun a U => a = #[(.ref a0), (.long q1)] ∧ Z.Warmed39 U.vm ∧ U.heap = h0) (fun _ _ _ _ _ => True) (fun _ U o U' => ∃ v L, o = .returned v ∧ QFo Z a0 tt ss (0 : Int32) t0 t1 t2 w0 w1 w2 q1 Us F G Sm h0 n0 v U'.heap L ∧ FrameEnd U o U' L ({ frames := 0, cells := 0, slots := 0, locals := 0 } : Room).cells ({ frames := 0, cells := 0, slots := 0, locals := 0 } : Room).slots) := by
  refine MetFree.of_bodySF (plainFor_of_name pn_0) hisR ?_
  intro p e s m args below meth c s₁ Bd hml0 hP hK
  obtain ⟨rfl, hZ, hh⟩ := hP
  have hx := Bd.exec
  have hby := Bd.bytes
  have hml : c.maxLocals = 3 := hml0
  have hown : s.vm.findClass "com/example/fairshed/fairshed/shedding/SicByTime" = some m.cls := findClass_of_methodNamed Bd.named
  have hnm := (name_of_methodNamed Bd.named Bd.method).1
  have X0 : Stand p l e ({ frames := 0, cells := 0, slots := 0, locals := 0 } : Room) s m #[(.ref a0), (.long q1)] below meth c s₁ [] 0 0 := Stand.of_body Bd
  have e0 : s₁.heap = h0 := by rw [← hh, Bd.state]; rfl
  have N0 := Fr.nil n0
  have K0 : Keep h0 h0 [a0] := Keep.refl _ _
  refine own_by (A' := s₁.setTop (mkF m 0 #[.val (.ref a0), .val (.long q1), .second] [])) (fun t k => castTop (ef_rmFo0 m a0 q1) k) ?_
  obtain ⟨hne, E_a0, Ft, Fs, Ff, Fe, FU, FF, FG, FS, V_t, V_s⟩ := S_
  refine own_by (A' := s₁.setTop (mkF m 1 #[.val (.ref a0), .val (.long q1), .second] [(.ref a0)])) (fun t kt => ?_) ?_
  · refine XS.aloadN X0.here hx rfl (hb hby d4_0) rfl rfl ?_
    exact kt
  obtain ⟨T1, X1, e1, st1⟩ := getF X0 hx hZ hown (host := "") (Or.inl (wd26 hw)) Via.refl e0 Ff (g := (mkF m 1 #[.val (.ref a0), .val (.long q1), .second] [(.ref a0)])) rfl rfl (hb hby d4_1)
  refine own_by (A' := T1.setTop (mkF m 5 #[.val (.ref a0), .val (.long q1), .second] [(.ref a0), (.int (0 : Int32))])) (fun t kt => ?_) ?_
  · refine st1 t ?_
    refine XS.aloadN X1.here hx rfl (hb hby d4_4) rfl rfl ?_
    exact kt
  obtain ⟨T2, X2, e2, st2⟩ := getF X1 hx hZ hown (host := "") (Or.inl (wd28 hw)) Via.refl e1 Fe (g := (mkF m 5 #[.val (.ref a0), .val (.long q1), .second] [(.ref a0), (.int (0 : Int32))])) rfl rfl (hb hby d4_5)
  refine own_by (A' := T2.setTop (mkF m 8 #[.val (.ref a0), .val (.long q1), .second] [(.int (0 : Int32)), (.int (0 : Int32))])) (fun t kt => st2 t kt) ?_
  have hc8_3 : ¬ ((0 : Int32) < (0 : Int32)) := by decide
  refine own_by (A' := T2.setTop (mkF m 39 #[.val (.ref a0), .val (.long q1), .second] [(.ref a0)])) (fun t kt => ?_) ?_
  · refine XS.icmpYes X2.here hx rfl (pc0 := 8) (pc' := 38) rfl (hb hby d4_8) rfl (flt hc8_3).2.1 (by decide) (by decide) ?_
    refine XS.aloadN X2.here hx rfl (hb hby d4_38) rfl rfl ?_
    exact kt
  obtain ⟨T4, X4, e4, st4⟩ := getF X2 hx hZ hown (host := "") (Or.inl (wd26 hw)) Via.refl e2 Ff (g := (mkF m 39 #[.val (.ref a0), .val (.long q1), .second] [(.ref a0)])) rfl rfl (hb hby d4_39)
  refine own_by (A' := T4.setTop (mkF m 43 #[.val (.ref a0), .val (.long q1), .second] [(.ref a0), (.int (0 : Int32))])) (fun t kt => ?_) ?_
  · refine st4 t ?_
    refine XS.aloadN X4.here hx rfl (hb hby d4_42) rfl rfl ?_
    exact kt
  obtain ⟨T5, X5, e5, st5⟩ := getF X4 hx hZ hown (host := "") (Or.inl (wd30 hw)) Via.refl e4 FF (g := (mkF m 43 #[.val (.ref a0), .val (.long q1), .second] [(.ref a0), (.int (0 : Int32))])) rfl rfl (hb hby d4_43)
  refine own_by (A' := T5.setTop (mkF m 46 #[.val (.ref a0), .val (.long q1), .second] [(.int F), (.int (0 : Int32))])) (fun t kt => st5 t kt) ?_
  by_cases hc46_6 : F < (0 : Int32)
  · refine own_by (A' := T5.setTop (mkF m 51 #[.val (.ref a0), .val (.long q1), .second] [(.int (-1 : Int32)), (.ref a0)])) (fun t kt => ?_) ?_
    · refine XS.icmpNo X5.here hx rfl (hb hby d4_46) rfl (tlt hc46_6).2.2.2 ?_
      refine XS.aloadN X5.here hx rfl (hb hby d4_49) rfl rfl ?_
      refine XS.iconst X5.here hx rfl (hb hby d4_50) ?_
      exact kt
    obtain ⟨T7, h7, X7, e7, W7, st7⟩ := putF X5 hx hZ hown (host := "") (Or.inl (wd19 hw)) Via.refl e5 FG E_a0 (Or.inl (wd20 hw)) (wd5 hw) (ty := .int) (by decide) rfl rfl (g := (mkF m 51 #[.val (.ref a0), .val (.long q1), .second] [(.int (-1 : Int32)), (.ref a0)])) rfl rfl (hb hby d4_51)
    have F7 := Fld.same W7 FG
    have N7 := Fr.snoc X7 N0 g_a0
    have K7 : Keep h0 h7 [a0] := K0.wr W7 (Or.inl (List.mem_of_getElem? (i := 0) rfl))
    refine own_by (A' := T7.setTop (mkF m 54 #[.val (.ref a0), .val (.long q1), .second] [])) (fun t kt => st7 t kt) ?_
    obtain ⟨fs, hr, hrun, hended, hW, hsame⟩ := X7.leave (v := none) (fun _ => rfl)
    refine ⟨_, _, ?_, hrun, hended, _, _, rfl, ?_, ⟨_, rfl⟩, hW, hsame.mono (by decide) (by decide)⟩
    · exact X7.returnOut hx Bd.returns (hb hby d4_54) hr
    · show QFo Z a0 tt ss (0 : Int32) t0 t1 t2 w0 w1 w2 q1 Us F G Sm h0 n0 _ T7.heap _
      rw [e7]
      exact ⟨rfl, N7, K7, _, _, ⟨hne, (E_a0.wr W7), (Ft.other W7 (Or.inr (sn15_20 hw))), (Fs.other W7 (Or.inr (sn18_20 hw))), (Ff.other W7 (Or.inr (sn27_20 hw))), (Fe.other W7 (Or.inr (sn29_20 hw))), (FU.other W7 (Or.inr (sn42_20 hw))), (FF.other W7 (Or.inr (sn31_20 hw))), F7, (FS.other W7 (Or.inr (sn48_20 hw))), (V_t.other W7 hne.1), (V_s.other W7 hne.2.1)⟩, (by simp [own_FO]), (by rw [if_pos hc46_6])⟩
  · refine own_by (A' := T5.setTop (mkF m 54 #[.val (.ref a0), .val (.long q1), .second] [])) (fun t kt => ?_) ?_
    · refine XS.icmpYes X5.here hx rfl (pc0 := 46) (pc' := 54) rfl (hb hby d4_46) rfl (flt hc46_6).2.2.2 (by decide) (by decide) ?_
      exact kt
    obtain ⟨fs, hr, hrun, hended, hW, hsame⟩ := X5.leave (v := none) (fun _ => rfl)
    refine ⟨_, _, ?_, hrun, hended, _, _, rfl, ?_, ⟨_, rfl⟩, hW, hsame.mono (by decide) (by decide)⟩
    · exact X5.returnOut hx Bd.returns (hb hby d4_54) hr
    · show QFo Z a0 tt ss (0 : Int32) t0 t1 t2 w0 w1 w2 q1 Us F G Sm h0 n0 _ T5.heap _
      rw [e5]
      exact ⟨rfl, N0, K0, _, _, ⟨hne, E_a0, Ft, Fs, Ff, Fe, FU, FF, FG, FS, V_t, V_s⟩, (by simp [own_FO]), (by rw [if_neg hc46_6])⟩
theorem d4_11 : decode prog_124_method_3_code 11 = .ok (.aload_n 0, 1) := by decide +kernel
theorem d4_12 : decode prog_124_method_3_code 12 = .ok (.getfield 9, 3) := by decide +kernel
theorem d4_15 : decode prog_124_method_3_code 15 = .ok (.aload_n 0, 1) := by decide +kernel
theorem d4_16 : decode prog_124_method_3_code 16 = .ok (.getfield 25, 3) := by decide +kernel
theorem d4_19 : decode prog_124_method_3_code 19 = .ok (.laload, 1) := by decide +kernel
theorem d4_20 : decode prog_124_method_3_code 20 = .ok (.lload_n 1, 1) := by decide +kernel
theorem d4_21 : decode prog_124_method_3_code 21 = .ok (.lcmp, 1) := by decide +kernel
theorem d4_22 : decode prog_124_method_3_code 22 = .ok (.ifCond .gt 16, 3) := by decide +kernel
theorem d4_25 : decode prog_124_method_3_code 25 = .ok (.aload_n 0, 1) := by decide +kernel
theorem d4_26 : decode prog_124_method_3_code 26 = .ok (.dup, 1) := by decide +kernel
theorem d4_27 : decode prog_124_method_3_code 27 = .ok (.getfield 25, 3) := by decide +kernel
theorem d4_30 : decode prog_124_method_3_code 30 = .ok (.iconst 1, 1) := by decide +kernel
theorem d4_31 : decode prog_124_method_3_code 31 = .ok (.iadd, 1) := by decide +kernel
theorem d4_32 : decode prog_124_method_3_code 32 = .ok (.putfield 25, 3) := by decide +kernel
theorem d4_35 : decode prog_124_method_3_code 35 = .ok (.goto (-35), 3) := by decide +kernel
theorem ef_rmFo1 (m : MethodId) (a0 : Addr) (q1 : Int64) : entryFrame m #[(.ref a0), (.long q1)] 3 = mkF m 0 #[.val (.ref a0), .val (.long q1), .second] [] := by first | (simp [entryFrame, mkF, argsToLocals, Value.category]; done) | rfl
set_option maxRecDepth 65536 in
set_option maxHeartbeats 40000000 in
theorem rmFo1 (l : Launch) (Z : State) (aw : Array Value) (hw : ∀ d ∈ tables_1, d.before aw Z = true) (ws : List Jvm.Cond) (a0 : Addr) (q1 : Int64) (tt : Addr) (ss : Addr) (t0 : Int64) (t1 : Int64) (t2 : Int64) (w0 : Int64) (w1 : Int64) (w2 : Int64) (Us : Int64) (F : Int32) (G : Int32) (Sm : Int64) (h0 : Heap) (n0 : Nat) (Z0 : n0 ≤ h0.size) (S_ : own_St Z h0 a0 tt ss (0 : Int32) (1 : Int32) t0 t1 t2 w0 w1 w2 Us F G Sm) (g_a0 : n0 ≤ a0) :
    MetFree l (⟨"com/example/fairshed/fairshed/shedding/SicByTime", "forget", "(J)V"⟩ : MethodName) (head1 (Jvm.Cond.code (⟨"com/example/fairshed/fairshed/shedding/SicByTime", "forget", "(J)V"⟩ : MethodName) prog_124_method_3_code 3 none :: ws) ({ frames := 0, cells := 0, slots := 0, locals := 0 } : Room)) (fun a U => a = #[(.ref a0), (.long q1)] ∧ Z.Warmed39 U.vm ∧ U.heap = h0) (fun _ _ _ _ _ => True) (fun _ U o U' => ∃ v L, o = .returned v ∧ QFo Z a0 tt ss (1 : Int32) t0 t1 t2 w0 w1 w2 q1 Us F G Sm h0 n0 v U'.heap L ∧ FrameEnd U o U' L ({ frames := 0, cells := 0, slots := 0, locals := 0 } : Room).cells ({ frames := 0, cells := 0, slots := 0, locals := 0 } : Room).slots) := by
  refine MetFree.of_bodySF (plainFor_of_name pn_0) hisR ?_
  intro p e s m args below meth c s₁ Bd hml0 hP hK
  obtain ⟨rfl, hZ, hh⟩ := hP
  have hx := Bd.exec
  have hby := Bd.bytes
  have hml : c.maxLocals = 3 := hml0
  have hown : s.vm.findClass "com/example/fairshed/fairshed/shedding/SicByTime" = some m.cls := findClass_of_methodNamed Bd.named
  have hnm := (name_of_methodNamed Bd.named Bd.method).1
  have X0 : Stand p l e ({ frames := 0, cells := 0, slots := 0, locals := 0 } : Room) s m #[(.ref a0), (.long q1)] below meth c s₁ [] 0 0 := Stand.of_body Bd
  have e0 : s₁.heap = h0 := by rw [← hh, Bd.state]; rfl
  have N0 := Fr.nil n0
  have K0 : Keep h0 h0 [a0] := Keep.refl _ _
  refine own_by (A' := s₁.setTop (mkF m 0 #[.val (.ref a0), .val (.long q1), .second] [])) (fun t k => castTop (ef_rmFo1 m a0 q1) k) ?_
  obtain ⟨hne, E_a0, Ft, Fs, Ff, Fe, FU, FF, FG, FS, V_t, V_s⟩ := S_
  refine own_by (A' := s₁.setTop (mkF m 1 #[.val (.ref a0), .val (.long q1), .second] [(.ref a0)])) (fun t kt => ?_) ?_
  · refine XS.aloadN X0.here hx rfl (hb hby d4_0) rfl rfl ?_
    exact kt
  obtain ⟨T1, X1, e1, st1⟩ := getF X0 hx hZ hown (host := "") (Or.inl (wd26 hw)) Via.refl e0 Ff (g := (mkF m 1 #[.val (.ref a0), .val (.long q1), .second] [(.ref a0)])) rfl rfl (hb hby d4_1)
  refine own_by (A' := T1.setTop (mkF m 5 #[.val (.ref a0), .val (.long q1), .second] [(.ref a0), (.int (0 : Int32))])) (fun t kt => ?_) ?_
  · refine st1 t ?_
    refine XS.aloadN X1.here hx rfl (hb hby d4_4) rfl rfl ?_
    exact kt
  obtain ⟨T2, X2, e2, st2⟩ := getF X1 hx hZ hown (host := "") (Or.inl (wd28 hw)) Via.refl e1 Fe (g := (mkF m 5 #[.val (.ref a0), .val (.long q1), .second] [(.ref a0), (.int (0 : Int32))])) rfl rfl (hb hby d4_5)
  refine own_by (A' := T2.setTop (mkF m 8 #[.val (.ref a0), .val (.long q1), .second] [(.int (1 : Int32)), (.int (0 : Int32))])) (fun t kt => st2 t kt) ?_
  have hc8_3 : (0 : Int32) < (1 : Int32) := by decide
  refine own_by (A' := T2.setTop (mkF m 12 #[.val (.ref a0), .val (.long q1), .second] [(.ref a0)])) (fun t kt => ?_) ?_
  · refine XS.icmpNo X2.here hx rfl (hb hby d4_8) rfl (tlt hc8_3).2.1 ?_
    refine XS.aloadN X2.here hx rfl (hb hby d4_11) rfl rfl ?_
    exact kt
  obtain ⟨T4, X4, e4, st4⟩ := getF X2 hx hZ hown (host := "") (Or.inl (wd14 hw)) Via.refl e2 Ft (g := (mkF m 12 #[.val (.ref a0), .val (.long q1), .second] [(.ref a0)])) rfl rfl (hb hby d4_12)
  refine own_by (A' := T4.setTop (mkF m 16 #[.val (.ref a0), .val (.long q1), .second] [(.ref a0), (.ref tt)])) (fun t kt => ?_) ?_
  · refine st4 t ?_
    refine XS.aloadN X4.here hx rfl (hb hby d4_15) rfl rfl ?_
    exact kt
  obtain ⟨T5, X5, e5, st5⟩ := getF X4 hx hZ hown (host := "") (Or.inl (wd26 hw)) Via.refl e4 Ff (g := (mkF m 16 #[.val (.ref a0), .val (.long q1), .second] [(.ref a0), (.ref tt)])) rfl rfl (hb hby d4_16)
  refine own_by (A' := T5.setTop (mkF m 19 #[.val (.ref a0), .val (.long q1), .second] [(.int (0 : Int32)), (.ref tt)])) (fun t kt => st5 t kt) ?_
  obtain ⟨cl6, Ar6, Sz6, Mn6, Ha6⟩ := id V_t
  have hin6 := inb_of (j := (0 : Int32)) Sz6 ⟨by decide, by decide⟩
  have hat6 : cl6.slots[((0 : Int32)).toNatClampNeg]? = some (.long t0) := (Ha6 _ (Nat.lt_of_not_le fun q => hin6 (Or.inr q))).trans (congrArg some rfl)
  refine own_by (A' := T5.setTop (mkF m 22 #[.val (.ref a0), .val (.long q1), .second] [(.int (lcmpW t0 q1))])) (fun t kt => ?_) ?_
  · refine X5.laload hx (j := (0 : Int32)) (v := (.long t0)) (by rw [e5]; exact Ar6.1) (State.isArrayOf_alike hZ.alike Ar6.2.1) Ar6.2.2 hin6 hat6 (g := (mkF m 19 #[.val (.ref a0), .val (.long q1), .second] [(.int (0 : Int32)), (.ref tt)])) rfl rfl (hb hby d4_19) _ ?_
    refine XS.lloadN X5.here hx rfl (hb hby d4_20) rfl ?_
    refine XS.lcmp X5.here hx rfl (hb hby d4_21) rfl ?_
    exact kt
  by_cases hc22_7 : q1 < t0
  · refine own_by (A' := T5.setTop (mkF m 39 #[.val (.ref a0), .val (.long q1), .second] [(.ref a0)])) (fun t kt => ?_) ?_
    · refine XS.ifYes X5.here hx rfl (pc0 := 22) (pc' := 38) rfl (hb hby d4_22) rfl ((if0 _ _).trans (tlt ((lw_gt _ _).mpr hc22_7)).2.2.1) (by decide) (by decide) ?_
      refine XS.aloadN X5.here hx rfl (hb hby d4_38) rfl rfl ?_
      exact kt
    obtain ⟨T8, X8, e8, st8⟩ := getF X5 hx hZ hown (host := "") (Or.inl (wd26 hw)) Via.refl e5 Ff (g := (mkF m 39 #[.val (.ref a0), .val (.long q1), .second] [(.ref a0)])) rfl rfl (hb hby d4_39)
    refine own_by (A' := T8.setTop (mkF m 43 #[.val (.ref a0), .val (.long q1), .second] [(.ref a0), (.int (0 : Int32))])) (fun t kt => ?_) ?_
    · refine st8 t ?_
      refine XS.aloadN X8.here hx rfl (hb hby d4_42) rfl rfl ?_
      exact kt
    obtain ⟨T9, X9, e9, st9⟩ := getF X8 hx hZ hown (host := "") (Or.inl (wd30 hw)) Via.refl e8 FF (g := (mkF m 43 #[.val (.ref a0), .val (.long q1), .second] [(.ref a0), (.int (0 : Int32))])) rfl rfl (hb hby d4_43)
    refine own_by (A' := T9.setTop (mkF m 46 #[.val (.ref a0), .val (.long q1), .second] [(.int F), (.int (0 : Int32))])) (fun t kt => st9 t kt) ?_
    by_cases hc46_10 : F < (0 : Int32)
    · refine own_by (A' := T9.setTop (mkF m 51 #[.val (.ref a0), .val (.long q1), .second] [(.int (-1 : Int32)), (.ref a0)])) (fun t kt => ?_) ?_
      · refine XS.icmpNo X9.here hx rfl (hb hby d4_46) rfl (tlt hc46_10).2.2.2 ?_
        refine XS.aloadN X9.here hx rfl (hb hby d4_49) rfl rfl ?_
        refine XS.iconst X9.here hx rfl (hb hby d4_50) ?_
        exact kt
      obtain ⟨T11, h11, X11, e11, W11, st11⟩ := putF X9 hx hZ hown (host := "") (Or.inl (wd19 hw)) Via.refl e9 FG E_a0 (Or.inl (wd20 hw)) (wd5 hw) (ty := .int) (by decide) rfl rfl (g := (mkF m 51 #[.val (.ref a0), .val (.long q1), .second] [(.int (-1 : Int32)), (.ref a0)])) rfl rfl (hb hby d4_51)
      have F11 := Fld.same W11 FG
      have N11 := Fr.snoc X11 N0 g_a0
      have K11 : Keep h0 h11 [a0] := K0.wr W11 (Or.inl (List.mem_of_getElem? (i := 0) rfl))
      refine own_by (A' := T11.setTop (mkF m 54 #[.val (.ref a0), .val (.long q1), .second] [])) (fun t kt => st11 t kt) ?_
      obtain ⟨fs, hr, hrun, hended, hW, hsame⟩ := X11.leave (v := none) (fun _ => rfl)
      refine ⟨_, _, ?_, hrun, hended, _, _, rfl, ?_, ⟨_, rfl⟩, hW, hsame.mono (by decide) (by decide)⟩
      · exact X11.returnOut hx Bd.returns (hb hby d4_54) hr
      · show QFo Z a0 tt ss (1 : Int32) t0 t1 t2 w0 w1 w2 q1 Us F G Sm h0 n0 _ T11.heap _
        rw [e11]
        exact ⟨rfl, N11, K11, _, _, ⟨hne, (E_a0.wr W11), (Ft.other W11 (Or.inr (sn15_20 hw))), (Fs.other W11 (Or.inr (sn18_20 hw))), (Ff.other W11 (Or.inr (sn27_20 hw))), (Fe.other W11 (Or.inr (sn29_20 hw))), (FU.other W11 (Or.inr (sn42_20 hw))), (FF.other W11 (Or.inr (sn31_20 hw))), F11, (FS.other W11 (Or.inr (sn48_20 hw))), (V_t.other W11 hne.1), (V_s.other W11 hne.2.1)⟩, (by simp [own_FO, hc22_7]), (by rw [if_pos hc46_10])⟩
    · refine own_by (A' := T9.setTop (mkF m 54 #[.val (.ref a0), .val (.long q1), .second] [])) (fun t kt => ?_) ?_
      · refine XS.icmpYes X9.here hx rfl (pc0 := 46) (pc' := 54) rfl (hb hby d4_46) rfl (flt hc46_10).2.2.2 (by decide) (by decide) ?_
        exact kt
      obtain ⟨fs, hr, hrun, hended, hW, hsame⟩ := X9.leave (v := none) (fun _ => rfl)
      refine ⟨_, _, ?_, hrun, hended, _, _, rfl, ?_, ⟨_, rfl⟩, hW, hsame.mono (by decide) (by decide)⟩
      · exact X9.returnOut hx Bd.returns (hb hby d4_54) hr
      · show QFo Z a0 tt ss (1 : Int32) t0 t1 t2 w0 w1 w2 q1 Us F G Sm h0 n0 _ T9.heap _
        rw [e9]
        exact ⟨rfl, N0, K0, _, _, ⟨hne, E_a0, Ft, Fs, Ff, Fe, FU, FF, FG, FS, V_t, V_s⟩, (by simp [own_FO, hc22_7]), (by rw [if_neg hc46_10])⟩
  · refine own_by (A' := T5.setTop (mkF m 27 #[.val (.ref a0), .val (.long q1), .second] [(.ref a0), (.ref a0)])) (fun t kt => ?_) ?_
    · refine XS.ifNo X5.here hx rfl (hb hby d4_22) rfl ((if0 _ _).trans (flt (fun q => hc22_7 ((lw_gt _ _).mp q))).2.2.1) ?_
      refine XS.aloadN X5.here hx rfl (hb hby d4_25) rfl rfl ?_
      refine XS.dup X5.here hx rfl (hb hby d4_26) rfl rfl ?_
      exact kt
    obtain ⟨T12, X12, e12, st12⟩ := getF X5 hx hZ hown (host := "") (Or.inl (wd26 hw)) Via.refl e5 Ff (g := (mkF m 27 #[.val (.ref a0), .val (.long q1), .second] [(.ref a0), (.ref a0)])) rfl rfl (hb hby d4_27)
    refine own_by (A' := T12.setTop (mkF m 32 #[.val (.ref a0), .val (.long q1), .second] [(.int (1 : Int32)), (.ref a0)])) (fun t kt => ?_) ?_
    · refine st12 t ?_
      refine XS.iconst X12.here hx rfl (hb hby d4_30) ?_
      refine XS.iadd X12.here hx rfl (hb hby d4_31) rfl ?_
      exact kt
    obtain ⟨T13, h13, X13, e13, W13, st13⟩ := putF X12 hx hZ hown (host := "") (Or.inl (wd26 hw)) Via.refl e12 Ff E_a0 (Or.inl (wd27 hw)) (wd5 hw) (ty := .int) (by decide) rfl rfl (g := (mkF m 32 #[.val (.ref a0), .val (.long q1), .second] [(.int (1 : Int32)), (.ref a0)])) rfl rfl (hb hby d4_32)
    have F13 := Fld.same W13 Ff
    have N13 := Fr.snoc X13 N0 g_a0
    have K13 : Keep h0 h13 [a0] := K0.wr W13 (Or.inl (List.mem_of_getElem? (i := 0) rfl))
    refine own_by (A' := T13.setTop (mkF m 1 #[.val (.ref a0), .val (.long q1), .second] [(.ref a0)])) (fun t kt => ?_) ?_
    · refine st13 t ?_
      refine XS.goto X13.here hx rfl (pc0 := 35) (pc' := 0) rfl (hb hby d4_35) (by decide) (by decide) ?_
      refine XS.aloadN X13.here hx rfl (hb hby d4_0) rfl rfl ?_
      exact kt
    obtain ⟨T14, X14, e14, st14⟩ := getF X13 hx hZ hown (host := "") (Or.inl (wd26 hw)) Via.refl e13 F13 (g := (mkF m 1 #[.val (.ref a0), .val (.long q1), .second] [(.ref a0)])) rfl rfl (hb hby d4_1)
    refine own_by (A' := T14.setTop (mkF m 5 #[.val (.ref a0), .val (.long q1), .second] [(.ref a0), (.int (1 : Int32))])) (fun t kt => ?_) ?_
    · refine st14 t ?_
      refine XS.aloadN X14.here hx rfl (hb hby d4_4) rfl rfl ?_
      exact kt
    obtain ⟨T15, X15, e15, st15⟩ := getF X14 hx hZ hown (host := "") (Or.inl (wd28 hw)) Via.refl e14 (Fe.other W13 (Or.inr (sn29_27 hw))) (g := (mkF m 5 #[.val (.ref a0), .val (.long q1), .second] [(.ref a0), (.int (1 : Int32))])) rfl rfl (hb hby d4_5)
    refine own_by (A' := T15.setTop (mkF m 8 #[.val (.ref a0), .val (.long q1), .second] [(.int (1 : Int32)), (.int (1 : Int32))])) (fun t kt => st15 t kt) ?_
    have hc8_16 : ¬ ((1 : Int32) < (1 : Int32)) := by decide
    refine own_by (A' := T15.setTop (mkF m 39 #[.val (.ref a0), .val (.long q1), .second] [(.ref a0)])) (fun t kt => ?_) ?_
    · refine XS.icmpYes X15.here hx rfl (pc0 := 8) (pc' := 38) rfl (hb hby d4_8) rfl (flt hc8_16).2.1 (by decide) (by decide) ?_
      refine XS.aloadN X15.here hx rfl (hb hby d4_38) rfl rfl ?_
      exact kt
    obtain ⟨T17, X17, e17, st17⟩ := getF X15 hx hZ hown (host := "") (Or.inl (wd26 hw)) Via.refl e15 F13 (g := (mkF m 39 #[.val (.ref a0), .val (.long q1), .second] [(.ref a0)])) rfl rfl (hb hby d4_39)
    refine own_by (A' := T17.setTop (mkF m 43 #[.val (.ref a0), .val (.long q1), .second] [(.ref a0), (.int (1 : Int32))])) (fun t kt => ?_) ?_
    · refine st17 t ?_
      refine XS.aloadN X17.here hx rfl (hb hby d4_42) rfl rfl ?_
      exact kt
    obtain ⟨T18, X18, e18, st18⟩ := getF X17 hx hZ hown (host := "") (Or.inl (wd30 hw)) Via.refl e17 (FF.other W13 (Or.inr (sn31_27 hw))) (g := (mkF m 43 #[.val (.ref a0), .val (.long q1), .second] [(.ref a0), (.int (1 : Int32))])) rfl rfl (hb hby d4_43)
    refine own_by (A' := T18.setTop (mkF m 46 #[.val (.ref a0), .val (.long q1), .second] [(.int F), (.int (1 : Int32))])) (fun t kt => st18 t kt) ?_
    by_cases hc46_19 : F < (1 : Int32)
    · refine own_by (A' := T18.setTop (mkF m 51 #[.val (.ref a0), .val (.long q1), .second] [(.int (-1 : Int32)), (.ref a0)])) (fun t kt => ?_) ?_
      · refine XS.icmpNo X18.here hx rfl (hb hby d4_46) rfl (tlt hc46_19).2.2.2 ?_
        refine XS.aloadN X18.here hx rfl (hb hby d4_49) rfl rfl ?_
        refine XS.iconst X18.here hx rfl (hb hby d4_50) ?_
        exact kt
      obtain ⟨T20, h20, X20, e20, W20, st20⟩ := putF X18 hx hZ hown (host := "") (Or.inl (wd19 hw)) Via.refl e18 (FG.other W13 (Or.inr (sn20_27 hw))) (E_a0.wr W13) (Or.inl (wd20 hw)) (wd5 hw) (ty := .int) (by decide) rfl rfl (g := (mkF m 51 #[.val (.ref a0), .val (.long q1), .second] [(.int (-1 : Int32)), (.ref a0)])) rfl rfl (hb hby d4_51)
      have F20 := Fld.same W20 (FG.other W13 (Or.inr (sn20_27 hw)))
      have N20 := Fr.snoc X20 N13 g_a0
      have K20 : Keep h0 h20 [a0] := K13.wr W20 (Or.inl (List.mem_of_getElem? (i := 0) rfl))
      refine own_by (A' := T20.setTop (mkF m 54 #[.val (.ref a0), .val (.long q1), .second] [])) (fun t kt => st20 t kt) ?_
      obtain ⟨fs, hr, hrun, hended, hW, hsame⟩ := X20.leave (v := none) (fun _ => rfl)
      refine ⟨_, _, ?_, hrun, hended, _, _, rfl, ?_, ⟨_, rfl⟩, hW, hsame.mono (by decide) (by decide)⟩
      · exact X20.returnOut hx Bd.returns (hb hby d4_54) hr
      · show QFo Z a0 tt ss (1 : Int32) t0 t1 t2 w0 w1 w2 q1 Us F G Sm h0 n0 _ T20.heap _
        rw [e20]
        exact ⟨rfl, N20, K20, _, _, ⟨hne, ((E_a0.wr W13).wr W20), ((Ft.other W13 (Or.inr (sn15_27 hw))).other W20 (Or.inr (sn15_20 hw))), ((Fs.other W13 (Or.inr (sn18_27 hw))).other W20 (Or.inr (sn18_20 hw))), (F13.other W20 (Or.inr (sn27_20 hw))), ((Fe.other W13 (Or.inr (sn29_27 hw))).other W20 (Or.inr (sn29_20 hw))), ((FU.other W13 (Or.inr (sn42_27 hw))).other W20 (Or.inr (sn42_20 hw))), ((FF.other W13 (Or.inr (sn31_27 hw))).other W20 (Or.inr (sn31_20 hw))), F20, ((FS.other W13 (Or.inr (sn48_27 hw))).other W20 (Or.inr (sn48_20 hw))), ((V_t.other W13 hne.1).other W20 hne.1), ((V_s.other W13 hne.2.1).other W20 hne.2.1)⟩, (by simp [own_FO, hc22_7]), (by rw [if_pos hc46_19])⟩
    · refine own_by (A' := T18.setTop (mkF m 54 #[.val (.ref a0), .val (.long q1), .second] [])) (fun t kt => ?_) ?_
      · refine XS.icmpYes X18.here hx rfl (pc0 := 46) (pc' := 54) rfl (hb hby d4_46) rfl (flt hc46_19).2.2.2 (by decide) (by decide) ?_
        exact kt
      obtain ⟨fs, hr, hrun, hended, hW, hsame⟩ := X18.leave (v := none) (fun _ => rfl)
      refine ⟨_, _, ?_, hrun, hended, _, _, rfl, ?_, ⟨_, rfl⟩, hW, hsame.mono (by decide) (by decide)⟩
      · exact X18.returnOut hx Bd.returns (hb hby d4_54) hr
      · show QFo Z a0 tt ss (1 : Int32) t0 t1 t2 w0 w1 w2 q1 Us F G Sm h0 n0 _ T18.heap _
        rw [e18]
        exact ⟨rfl, N13, K13, _, _, ⟨hne, (E_a0.wr W13), (Ft.other W13 (Or.inr (sn15_27 hw))), (Fs.other W13 (Or.inr (sn18_27 hw))), F13, (Fe.other W13 (Or.inr (sn29_27 hw))), (FU.other W13 (Or.inr (sn42_27 hw))), (FF.other W13 (Or.inr (sn31_27 hw))), (FG.other W13 (Or.inr (sn20_27 hw))), (FS.other W13 (Or.inr (sn48_27 hw))), (V_t.other W13 hne.1), (V_s.other W13 hne.2.1)⟩, (by simp [own_FO, hc22_7]), (by rw [if_neg hc46_19])⟩
theorem ef_rmFo2 (m : MethodId) (a0 : Addr) (q1 : Int64) : entryFrame m #[(.ref a0), (.long q1)] 3 = mkF m 0 #[.val (.ref a0), .val (.long q1), .second] [] := by first | (simp [entryFrame, mkF, argsToLocals, Value.category]; done) | rfl
set_option maxRecDepth 65536 in
set_option maxHeartbeats 40000000 in
theorem rmFo2 (l : Launch) (Z : State) (aw : Array Value) (hw : ∀ d ∈ tables_1, d.before aw Z = true) (ws : List Jvm.Cond) (a0 : Addr) (q1 : Int64) (tt : Addr) (ss : Addr) (t0 : Int64) (t1 : Int64) (t2 : Int64) (w0 : Int64) (w1 : Int64) (w2 : Int64) (Us : Int64) (F : Int32) (G : Int32) (Sm : Int64) (h0 : Heap) (n0 : Nat) (Z0 : n0 ≤ h0.size) (S_ : own_St Z h0 a0 tt ss (0 : Int32) (2 : Int32) t0 t1 t2 w0 w1 w2 Us F G Sm) (g_a0 : n0 ≤ a0) :
    MetFree l (⟨"com/example/fairshed/fairshed/shedding/SicByTime", "forget", "(J)V"⟩ : MethodName) (head1 (Jvm.Cond.code (⟨"com/example/fairshed/fairshed/shedding/SicByTime", "forget", "(J)V"⟩ : MethodName) prog_124_method_3_code 3 none :: ws) ({ frames := 0, cells := 0, slots := 0, locals := 0 } : Room)) (fun a U => a = #[(.ref a0), (.long q1)] ∧ Z.Warmed39 U.vm ∧ U.heap = h0) (fun _ _ _ _ _ => True) (fun _ U o U' => ∃ v L, o = .returned v ∧ QFo Z a0 tt ss (2 : Int32) t0 t1 t2 w0 w1 w2 q1 Us F G Sm h0 n0 v U'.heap L ∧ FrameEnd U o U' L ({ frames := 0, cells := 0, slots := 0, locals := 0 } : Room).cells ({ frames := 0, cells := 0, slots := 0, locals := 0 } : Room).slots) := by
  refine MetFree.of_bodySF (plainFor_of_name pn_0) hisR ?_
  intro p e s m args below meth c s₁ Bd hml0 hP hK
  obtain ⟨rfl, hZ, hh⟩ := hP
  have hx := Bd.exec
  have hby := Bd.bytes
  have hml : c.maxLocals = 3 := hml0
  have hown : s.vm.findClass "com/example/fairshed/fairshed/shedding/SicByTime" = some m.cls := findClass_of_methodNamed Bd.named
  have hnm := (name_of_methodNamed Bd.named Bd.method).1
  have X0 : Stand p l e ({ frames := 0, cells := 0, slots := 0, locals := 0 } : Room) s m #[(.ref a0), (.long q1)] below meth c s₁ [] 0 0 := Stand.of_body Bd
  have e0 : s₁.heap = h0 := by rw [← hh, Bd.state]; rfl
  have N0 := Fr.nil n0
  have K0 : Keep h0 h0 [a0] := Keep.refl _ _
  refine own_by (A' := s₁.setTop (mkF m 0 #[.val (.ref a0), .val (.long q1), .second] [])) (fun t k => castTop (ef_rmFo2 m a0 q1) k) ?_
  obtain ⟨hne, E_a0, Ft, Fs, Ff, Fe, FU, FF, FG, FS, V_t, V_s⟩ := S_
  refine own_by (A' := s₁.setTop (mkF m 1 #[.val (.ref a0), .val (.long q1), .second] [(.ref a0)])) (fun t kt => ?_) ?_
  · refine XS.aloadN X0.here hx rfl (hb hby d4_0) rfl rfl ?_
    exact kt
  obtain ⟨T1, X1, e1, st1⟩ := getF X0 hx hZ hown (host := "") (Or.inl (wd26 hw)) Via.refl e0 Ff (g := (mkF m 1 #[.val (.ref a0), .val (.long q1), .second] [(.ref a0)])) rfl rfl (hb hby d4_1)
  refine own_by (A' := T1.setTop (mkF m 5 #[.val (.ref a0), .val (.long q1), .second] [(.ref a0), (.int (0 : Int32))])) (fun t kt => ?_) ?_
  · refine st1 t ?_
    refine XS.aloadN X1.here hx rfl (hb hby d4_4) rfl rfl ?_
    exact kt
  obtain ⟨T2, X2, e2, st2⟩ := getF X1 hx hZ hown (host := "") (Or.inl (wd28 hw)) Via.refl e1 Fe (g := (mkF m 5 #[.val (.ref a0), .val (.long q1), .second] [(.ref a0), (.int (0 : Int32))])) rfl rfl (hb hby d4_5)
  refine own_by (A' := T2.setTop (mkF m 8 #[.val (.ref a0), .val (.long q1), .second] [(.int (2 : Int32)), (.int (0 : Int32))])) (fun t kt => st2 t kt) ?_
  have hc8_3 : (0 : Int32) < (2 : Int32) := by decide
  refine own_by (A' := T2.setTop (mkF m 12 #[.val (.ref a0), .val (.long q1), .second] [(.ref a0)])) (fun t kt => ?_) ?_
  · refine XS.icmpNo X2.here hx rfl (hb hby d4_8) rfl (tlt hc8_3).2.1 ?_
    refine XS.aloadN X2.here hx rfl (hb hby d4_11) rfl rfl ?_
    exact kt
  obtain ⟨T4, X4, e4, st4⟩ := getF X2 hx hZ hown (host := "") (Or.inl (wd14 hw)) Via.refl e2 Ft (g := (mkF m 12 #[.val (.ref a0), .val (.long q1), .second] [(.ref a0)])) rfl rfl (hb hby d4_12)
  refine own_by (A' := T4.setTop (mkF m 16 #[.val (.ref a0), .val (.long q1), .second] [(.ref a0), (.ref tt)])) (fun t kt => ?_) ?_
  · refine st4 t ?_
    refine XS.aloadN X4.here hx rfl (hb hby d4_15) rfl rfl ?_
    exact kt
  obtain ⟨T5, X5, e5, st5⟩ := getF X4 hx hZ hown (host := "") (Or.inl (wd26 hw)) Via.refl e4 Ff (g := (mkF m 16 #[.val (.ref a0), .val (.long q1), .second] [(.ref a0), (.ref tt)])) rfl rfl (hb hby d4_16)
  refine own_by (A' := T5.setTop (mkF m 19 #[.val (.ref a0), .val (.long q1), .second] [(.int (0 : Int32)), (.ref tt)])) (fun t kt => st5 t kt) ?_
  obtain ⟨cl6, Ar6, Sz6, Mn6, Ha6⟩ := id V_t
  have hin6 := inb_of (j := (0 : Int32)) Sz6 ⟨by decide, by decide⟩
  have hat6 : cl6.slots[((0 : Int32)).toNatClampNeg]? = some (.long t0) := (Ha6 _ (Nat.lt_of_not_le fun q => hin6 (Or.inr q))).trans (congrArg some rfl)
  refine own_by (A' := T5.setTop (mkF m 22 #[.val (.ref a0), .val (.long q1), .second] [(.int (lcmpW t0 q1))])) (fun t kt => ?_) ?_
  · refine X5.laload hx (j := (0 : Int32)) (v := (.long t0)) (by rw [e5]; exact Ar6.1) (State.isArrayOf_alike hZ.alike Ar6.2.1) Ar6.2.2 hin6 hat6 (g := (mkF m 19 #[.val (.ref a0), .val (.long q1), .second] [(.int (0 : Int32)), (.ref tt)])) rfl rfl (hb hby d4_19) _ ?_
    refine XS.lloadN X5.here hx rfl (hb hby d4_20) rfl ?_
    refine XS.lcmp X5.here hx rfl (hb hby d4_21) rfl ?_
    exact kt
  by_cases hc22_7 : q1 < t0
  · refine own_by (A' := T5.setTop (mkF m 39 #[.val (.ref a0), .val (.long q1), .second] [(.ref a0)])) (fun t kt => ?_) ?_
    · refine XS.ifYes X5.here hx rfl (pc0 := 22) (pc' := 38) rfl (hb hby d4_22) rfl ((if0 _ _).trans (tlt ((lw_gt _ _).mpr hc22_7)).2.2.1) (by decide) (by decide) ?_
      refine XS.aloadN X5.here hx rfl (hb hby d4_38) rfl rfl ?_
      exact kt
    obtain ⟨T8, X8, e8, st8⟩ := getF X5 hx hZ hown (host := "") (Or.inl (wd26 hw)) Via.refl e5 Ff (g := (mkF m 39 #[.val (.ref a0), .val (.long q1), .second] [(.ref a0)])) rfl rfl (hb hby d4_39)
    refine own_by (A' := T8.setTop (mkF m 43 #[.val (.ref a0), .val (.long q1), .second] [(.ref a0), (.int (0 : Int32))])) (fun t kt => ?_) ?_
    · refine st8 t ?_
      refine XS.aloadN X8.here hx rfl (hb hby d4_42) rfl rfl ?_
      exact kt
    obtain ⟨T9, X9, e9, st9⟩ := getF X8 hx hZ hown (host := "") (Or.inl (wd30 hw)) Via.refl e8 FF (g := (mkF m 43 #[.val (.ref a0), .val (.long q1), .second] [(.ref a0), (.int (0 : Int32))])) rfl rfl (hb hby d4_43)
    refine own_by (A' := T9.setTop (mkF m 46 #[.val (.ref a0), .val (.long q1), .second] [(.int F), (.int (0 : Int32))])) (fun t kt => st9 t kt) ?_
    by_cases hc46_10 : F < (0 : Int32)
    · refine own_by (A' := T9.setTop (mkF m 51 #[.val (.ref a0), .val (.long q1), .second] [(.int (-1 : Int32)), (.ref a0)])) (fun t kt => ?_) ?_
      · refine XS.icmpNo X9.here hx rfl (hb hby d4_46) rfl (tlt hc46_10).2.2.2 ?_
        refine XS.aloadN X9.here hx rfl (hb hby d4_49) rfl rfl ?_
        refine XS.iconst X9.here hx rfl (hb hby d4_50) ?_
        exact kt
      obtain ⟨T11, h11, X11, e11, W11, st11⟩ := putF X9 hx hZ hown (host := "") (Or.inl (wd19 hw)) Via.refl e9 FG E_a0 (Or.inl (wd20 hw)) (wd5 hw) (ty := .int) (by decide) rfl rfl (g := (mkF m 51 #[.val (.ref a0), .val (.long q1), .second] [(.int (-1 : Int32)), (.ref a0)])) rfl rfl (hb hby d4_51)
      have F11 := Fld.same W11 FG
      have N11 := Fr.snoc X11 N0 g_a0
      have K11 : Keep h0 h11 [a0] := K0.wr W11 (Or.inl (List.mem_of_getElem? (i := 0) rfl))
      refine own_by (A' := T11.setTop (mkF m 54 #[.val (.ref a0), .val (.long q1), .second] [])) (fun t kt => st11 t kt) ?_
      obtain ⟨fs, hr, hrun, hended, hW, hsame⟩ := X11.leave (v := none) (fun _ => rfl)
      refine ⟨_, _, ?_, hrun, hended, _, _, rfl, ?_, ⟨_, rfl⟩, hW, hsame.mono (by decide) (by decide)⟩
      · exact X11.returnOut hx Bd.returns (hb hby d4_54) hr
      · show QFo Z a0 tt ss (2 : Int32) t0 t1 t2 w0 w1 w2 q1 Us F G Sm h0 n0 _ T11.heap _
        rw [e11]
        exact ⟨rfl, N11, K11, _, _, ⟨hne, (E_a0.wr W11), (Ft.other W11 (Or.inr (sn15_20 hw))), (Fs.other W11 (Or.inr (sn18_20 hw))), (Ff.other W11 (Or.inr (sn27_20 hw))), (Fe.other W11 (Or.inr (sn29_20 hw))), (FU.other W11 (Or.inr (sn42_20 hw))), (FF.other W11 (Or.inr (sn31_20 hw))), F11, (FS.other W11 (Or.inr (sn48_20 hw))), (V_t.other W11 hne.1), (V_s.other W11 hne.2.1)⟩, (by simp [own_FO, hc22_7]), (by rw [if_pos hc46_10])⟩
    · refine own_by (A' := T9.setTop (mkF m 54 #[.val (.ref a0), .val (.long q1), .second] [])) (fun t kt => ?_) ?_
      · refine XS.icmpYes X9.here hx rfl (pc0 := 46) (pc' := 54) rfl (hb hby d4_46) rfl (flt hc46_10).2.2.2 (by decide) (by decide) ?_
        exact kt
      obtain ⟨fs, hr, hrun, hended, hW, hsame⟩ := X9.leave (v := none) (fun _ => rfl)
      refine ⟨_, _, ?_, hrun, hended, _, _, rfl, ?_, ⟨_, rfl⟩, hW, hsame.mono (by decide) (by decide)⟩
      · exact X9.returnOut hx Bd.returns (hb hby d4_54) hr
      · show QFo Z a0 tt ss (2 : Int32) t0 t1 t2 w0 w1 w2 q1 Us F G Sm h0 n0 _ T9.heap _
        rw [e9]
        exact ⟨rfl, N0, K0, _, _, ⟨hne, E_a0, Ft, Fs, Ff, Fe, FU, FF, FG, FS, V_t, V_s⟩, (by simp [own_FO, hc22_7]), (by rw [if_neg hc46_10])⟩
  · refine own_by (A' := T5.setTop (mkF m 27 #[.val (.ref a0), .val (.long q1), .second] [(.ref a0), (.ref a0)])) (fun t kt => ?_) ?_
    · refine XS.ifNo X5.here hx rfl (hb hby d4_22) rfl ((if0 _ _).trans (flt (fun q => hc22_7 ((lw_gt _ _).mp q))).2.2.1) ?_
      refine XS.aloadN X5.here hx rfl (hb hby d4_25) rfl rfl ?_
      refine XS.dup X5.here hx rfl (hb hby d4_26) rfl rfl ?_
      exact kt
    obtain ⟨T12, X12, e12, st12⟩ := getF X5 hx hZ hown (host := "") (Or.inl (wd26 hw)) Via.refl e5 Ff (g := (mkF m 27 #[.val (.ref a0), .val (.long q1), .second] [(.ref a0), (.ref a0)])) rfl rfl (hb hby d4_27)
    refine own_by (A' := T12.setTop (mkF m 32 #[.val (.ref a0), .val (.long q1), .second] [(.int (1 : Int32)), (.ref a0)])) (fun t kt => ?_) ?_
    · refine st12 t ?_
      refine XS.iconst X12.here hx rfl (hb hby d4_30) ?_
      refine XS.iadd X12.here hx rfl (hb hby d4_31) rfl ?_
      exact kt
    obtain ⟨T13, h13, X13, e13, W13, st13⟩ := putF X12 hx hZ hown (host := "") (Or.inl (wd26 hw)) Via.refl e12 Ff E_a0 (Or.inl (wd27 hw)) (wd5 hw) (ty := .int) (by decide) rfl rfl (g := (mkF m 32 #[.val (.ref a0), .val (.long q1), .second] [(.int (1 : Int32)), (.ref a0)])) rfl rfl (hb hby d4_32)
    have F13 := Fld.same W13 Ff
    have N13 := Fr.snoc X13 N0 g_a0
    have K13 : Keep h0 h13 [a0] := K0.wr W13 (Or.inl (List.mem_of_getElem? (i := 0) rfl))
    refine own_by (A' := T13.setTop (mkF m 1 #[.val (.ref a0), .val (.long q1), .second] [(.ref a0)])) (fun t kt => ?_) ?_
    · refine st13 t ?_
      refine XS.goto X13.here hx rfl (pc0 := 35) (pc' := 0) rfl (hb hby d4_35) (by decide) (by decide) ?_
      refine XS.aloadN X13.here hx rfl (hb hby d4_0) rfl rfl ?_
      exact kt
    obtain ⟨T14, X14, e14, st14⟩ := getF X13 hx hZ hown (host := "") (Or.inl (wd26 hw)) Via.refl e13 F13 (g := (mkF m 1 #[.val (.ref a0), .val (.long q1), .second] [(.ref a0)])) rfl rfl (hb hby d4_1)
    refine own_by (A' := T14.setTop (mkF m 5 #[.val (.ref a0), .val (.long q1), .second] [(.ref a0), (.int (1 : Int32))])) (fun t kt => ?_) ?_
    · refine st14 t ?_
      refine XS.aloadN X14.here hx rfl (hb hby d4_4) rfl rfl ?_
      exact kt
    obtain ⟨T15, X15, e15, st15⟩ := getF X14 hx hZ hown (host := "") (Or.inl (wd28 hw)) Via.refl e14 (Fe.other W13 (Or.inr (sn29_27 hw))) (g := (mkF m 5 #[.val (.ref a0), .val (.long q1), .second] [(.ref a0), (.int (1 : Int32))])) rfl rfl (hb hby d4_5)
    refine own_by (A' := T15.setTop (mkF m 8 #[.val (.ref a0), .val (.long q1), .second] [(.int (2 : Int32)), (.int (1 : Int32))])) (fun t kt => st15 t kt) ?_
    have hc8_16 : (1 : Int32) < (2 : Int32) := by decide
    refine own_by (A' := T15.setTop (mkF m 12 #[.val (.ref a0), .val (.long q1), .second] [(.ref a0)])) (fun t kt => ?_) ?_
    · refine XS.icmpNo X15.here hx rfl (hb hby d4_8) rfl (tlt hc8_16).2.1 ?_
      refine XS.aloadN X15.here hx rfl (hb hby d4_11) rfl rfl ?_
      exact kt
    obtain ⟨T17, X17, e17, st17⟩ := getF X15 hx hZ hown (host := "") (Or.inl (wd14 hw)) Via.refl e15 (Ft.other W13 (Or.inr (sn15_27 hw))) (g := (mkF m 12 #[.val (.ref a0), .val (.long q1), .second] [(.ref a0)])) rfl rfl (hb hby d4_12)
    refine own_by (A' := T17.setTop (mkF m 16 #[.val (.ref a0), .val (.long q1), .second] [(.ref a0), (.ref tt)])) (fun t kt => ?_) ?_
    · refine st17 t ?_
      refine XS.aloadN X17.here hx rfl (hb hby d4_15) rfl rfl ?_
      exact kt
    obtain ⟨T18, X18, e18, st18⟩ := getF X17 hx hZ hown (host := "") (Or.inl (wd26 hw)) Via.refl e17 F13 (g := (mkF m 16 #[.val (.ref a0), .val (.long q1), .second] [(.ref a0), (.ref tt)])) rfl rfl (hb hby d4_16)
    refine own_by (A' := T18.setTop (mkF m 19 #[.val (.ref a0), .val (.long q1), .second] [(.int (1 : Int32)), (.ref tt)])) (fun t kt => st18 t kt) ?_
    obtain ⟨cl19, Ar19, Sz19, Mn19, Ha19⟩ := id (V_t.other W13 hne.1)
    have hin19 := inb_of (j := (1 : Int32)) Sz19 ⟨by decide, by decide⟩
    have hat19 : cl19.slots[((1 : Int32)).toNatClampNeg]? = some (.long t1) := (Ha19 _ (Nat.lt_of_not_le fun q => hin19 (Or.inr q))).trans (congrArg some rfl)
    refine own_by (A' := T18.setTop (mkF m 22 #[.val (.ref a0), .val (.long q1), .second] [(.int (lcmpW t1 q1))])) (fun t kt => ?_) ?_
    · refine X18.laload hx (j := (1 : Int32)) (v := (.long t1)) (by rw [e18]; exact Ar19.1) (State.isArrayOf_alike hZ.alike Ar19.2.1) Ar19.2.2 hin19 hat19 (g := (mkF m 19 #[.val (.ref a0), .val (.long q1), .second] [(.int (1 : Int32)), (.ref tt)])) rfl rfl (hb hby d4_19) _ ?_
      refine XS.lloadN X18.here hx rfl (hb hby d4_20) rfl ?_
      refine XS.lcmp X18.here hx rfl (hb hby d4_21) rfl ?_
      exact kt
    by_cases hc22_20 : q1 < t1
    · refine own_by (A' := T18.setTop (mkF m 39 #[.val (.ref a0), .val (.long q1), .second] [(.ref a0)])) (fun t kt => ?_) ?_
      · refine XS.ifYes X18.here hx rfl (pc0 := 22) (pc' := 38) rfl (hb hby d4_22) rfl ((if0 _ _).trans (tlt ((lw_gt _ _).mpr hc22_20)).2.2.1) (by decide) (by decide) ?_
        refine XS.aloadN X18.here hx rfl (hb hby d4_38) rfl rfl ?_
        exact kt
      obtain ⟨T21, X21, e21, st21⟩ := getF X18 hx hZ hown (host := "") (Or.inl (wd26 hw)) Via.refl e18 F13 (g := (mkF m 39 #[.val (.ref a0), .val (.long q1), .second] [(.ref a0)])) rfl rfl (hb hby d4_39)
      refine own_by (A' := T21.setTop (mkF m 43 #[.val (.ref a0), .val (.long q1), .second] [(.ref a0), (.int (1 : Int32))])) (fun t kt => ?_) ?_
      · refine st21 t ?_
        refine XS.aloadN X21.here hx rfl (hb hby d4_42) rfl rfl ?_
        exact kt
      obtain ⟨T22, X22, e22, st22⟩ := getF X21 hx hZ hown (host := "") (Or.inl (wd30 hw)) Via.refl e21 (FF.other W13 (Or.inr (sn31_27 hw))) (g := (mkF m 43 #[.val (.ref a0), .val (.long q1), .second] [(.ref a0), (.int (1 : Int32))])) rfl rfl (hb hby d4_43)
      refine own_by (A' := T22.setTop (mkF m 46 #[.val (.ref a0), .val (.long q1), .second] [(.int F), (.int (1 : Int32))])) (fun t kt => st22 t kt) ?_
      by_cases hc46_23 : F < (1 : Int32)
      · refine own_by (A' := T22.setTop (mkF m 51 #[.val (.ref a0), .val (.long q1), .second] [(.int (-1 : Int32)), (.ref a0)])) (fun t kt => ?_) ?_
        · refine XS.icmpNo X22.here hx rfl (hb hby d4_46) rfl (tlt hc46_23).2.2.2 ?_
          refine XS.aloadN X22.here hx rfl (hb hby d4_49) rfl rfl ?_
          refine XS.iconst X22.here hx rfl (hb hby d4_50) ?_
          exact kt
        obtain ⟨T24, h24, X24, e24, W24, st24⟩ := putF X22 hx hZ hown (host := "") (Or.inl (wd19 hw)) Via.refl e22 (FG.other W13 (Or.inr (sn20_27 hw))) (E_a0.wr W13) (Or.inl (wd20 hw)) (wd5 hw) (ty := .int) (by decide) rfl rfl (g := (mkF m 51 #[.val (.ref a0), .val (.long q1), .second] [(.int (-1 : Int32)), (.ref a0)])) rfl rfl (hb hby d4_51)
        have F24 := Fld.same W24 (FG.other W13 (Or.inr (sn20_27 hw)))
        have N24 := Fr.snoc X24 N13 g_a0
        have K24 : Keep h0 h24 [a0] := K13.wr W24 (Or.inl (List.mem_of_getElem? (i := 0) rfl))
        refine own_by (A' := T24.setTop (mkF m 54 #[.val (.ref a0), .val (.long q1), .second] [])) (fun t kt => st24 t kt) ?_
        obtain ⟨fs, hr, hrun, hended, hW, hsame⟩ := X24.leave (v := none) (fun _ => rfl)
        refine ⟨_, _, ?_, hrun, hended, _, _, rfl, ?_, ⟨_, rfl⟩, hW, hsame.mono (by decide) (by decide)⟩
        · exact X24.returnOut hx Bd.returns (hb hby d4_54) hr
        · show QFo Z a0 tt ss (2 : Int32) t0 t1 t2 w0 w1 w2 q1 Us F G Sm h0 n0 _ T24.heap _
          rw [e24]
          exact ⟨rfl, N24, K24, _, _, ⟨hne, ((E_a0.wr W13).wr W24), ((Ft.other W13 (Or.inr (sn15_27 hw))).other W24 (Or.inr (sn15_20 hw))), ((Fs.other W13 (Or.inr (sn18_27 hw))).other W24 (Or.inr (sn18_20 hw))), (F13.other W24 (Or.inr (sn27_20 hw))), ((Fe.other W13 (Or.inr (sn29_27 hw))).other W24 (Or.inr (sn29_20 hw))), ((FU.other W13 (Or.inr (sn42_27 hw))).other W24 (Or.inr (sn42_20 hw))), ((FF.other W13 (Or.inr (sn31_27 hw))).other W24 (Or.inr (sn31_20 hw))), F24, ((FS.other W13 (Or.inr (sn48_27 hw))).other W24 (Or.inr (sn48_20 hw))), ((V_t.other W13 hne.1).other W24 hne.1), ((V_s.other W13 hne.2.1).other W24 hne.2.1)⟩, (by simp [own_FO, hc22_7, hc22_20]), (by rw [if_pos hc46_23])⟩
      · refine own_by (A' := T22.setTop (mkF m 54 #[.val (.ref a0), .val (.long q1), .second] [])) (fun t kt => ?_) ?_
        · refine XS.icmpYes X22.here hx rfl (pc0 := 46) (pc' := 54) rfl (hb hby d4_46) rfl (flt hc46_23).2.2.2 (by decide) (by decide) ?_
          exact kt
        obtain ⟨fs, hr, hrun, hended, hW, hsame⟩ := X22.leave (v := none) (fun _ => rfl)
        refine ⟨_, _, ?_, hrun, hended, _, _, rfl, ?_, ⟨_, rfl⟩, hW, hsame.mono (by decide) (by decide)⟩
        · exact X22.returnOut hx Bd.returns (hb hby d4_54) hr
        · show QFo Z a0 tt ss (2 : Int32) t0 t1 t2 w0 w1 w2 q1 Us F G Sm h0 n0 _ T22.heap _
          rw [e22]
          exact ⟨rfl, N13, K13, _, _, ⟨hne, (E_a0.wr W13), (Ft.other W13 (Or.inr (sn15_27 hw))), (Fs.other W13 (Or.inr (sn18_27 hw))), F13, (Fe.other W13 (Or.inr (sn29_27 hw))), (FU.other W13 (Or.inr (sn42_27 hw))), (FF.other W13 (Or.inr (sn31_27 hw))), (FG.other W13 (Or.inr (sn20_27 hw))), (FS.other W13 (Or.inr (sn48_27 hw))), (V_t.other W13 hne.1), (V_s.other W13 hne.2.1)⟩, (by simp [own_FO, hc22_7, hc22_20]), (by rw [if_neg hc46_23])⟩
    · refine own_by (A' := T18.setTop (mkF m 27 #[.val (.ref a0), .val (.long q1), .second] [(.ref a0), (.ref a0)])) (fun t kt => ?_) ?_
      · refine XS.ifNo X18.here hx rfl (hb hby d4_22) rfl ((if0 _ _).trans (flt (fun q => hc22_20 ((lw_gt _ _).mp q))).2.2.1) ?_
        refine XS.aloadN X18.here hx rfl (hb hby d4_25) rfl rfl ?_
        refine XS.dup X18.here hx rfl (hb hby d4_26) rfl rfl ?_
        exact kt
      obtain ⟨T25, X25, e25, st25⟩ := getF X18 hx hZ hown (host := "") (Or.inl (wd26 hw)) Via.refl e18 F13 (g := (mkF m 27 #[.val (.ref a0), .val (.long q1), .second] [(.ref a0), (.ref a0)])) rfl rfl (hb hby d4_27)
      refine own_by (A' := T25.setTop (mkF m 32 #[.val (.ref a0), .val (.long q1), .second] [(.int (2 : Int32)), (.ref a0)])) (fun t kt => ?_) ?_
      · refine st25 t ?_
        refine XS.iconst X25.here hx rfl (hb hby d4_30) ?_
        refine XS.iadd X25.here hx rfl (hb hby d4_31) rfl ?_
        exact kt
      obtain ⟨T26, h26, X26, e26, W26, st26⟩ := putF X25 hx hZ hown (host := "") (Or.inl (wd26 hw)) Via.refl e25 F13 (E_a0.wr W13) (Or.inl (wd27 hw)) (wd5 hw) (ty := .int) (by decide) rfl rfl (g := (mkF m 32 #[.val (.ref a0), .val (.long q1), .second] [(.int (2 : Int32)), (.ref a0)])) rfl rfl (hb hby d4_32)
      have F26 := Fld.same W26 F13
      have N26 := Fr.snoc X26 N13 g_a0
      have K26 : Keep h0 h26 [a0] := K13.wr W26 (Or.inl (List.mem_of_getElem? (i := 0) rfl))
      refine own_by (A' := T26.setTop (mkF m 1 #[.val (.ref a0), .val (.long q1), .second] [(.ref a0)])) (fun t kt => ?_) ?_
      · refine st26 t ?_
        refine XS.goto X26.here hx rfl (pc0 := 35) (pc' := 0) rfl (hb hby d4_35) (by decide) (by decide) ?_
        refine XS.aloadN X26.here hx rfl (hb hby d4_0) rfl rfl ?_
        exact kt
      obtain ⟨T27, X27, e27, st27⟩ := getF X26 hx hZ hown (host := "") (Or.inl (wd26 hw)) Via.refl e26 F26 (g := (mkF m 1 #[.val (.ref a0), .val (.long q1), .second] [(.ref a0)])) rfl rfl (hb hby d4_1)
      refine own_by (A' := T27.setTop (mkF m 5 #[.val (.ref a0), .val (.long q1), .second] [(.ref a0), (.int (2 : Int32))])) (fun t kt => ?_) ?_
      · refine st27 t ?_
        refine XS.aloadN X27.here hx rfl (hb hby d4_4) rfl rfl ?_
        exact kt
      obtain ⟨T28, X28, e28, st28⟩ := getF X27 hx hZ hown (host := "") (Or.inl (wd28 hw)) Via.refl e27 ((Fe.other W13 (Or.inr (sn29_27 hw))).other W26 (Or.inr (sn29_27 hw))) (g := (mkF m 5 #[.val (.ref a0), .val (.long q1), .second] [(.ref a0), (.int (2 : Int32))])) rfl rfl (hb hby d4_5)
      refine own_by (A' := T28.setTop (mkF m 8 #[.val (.ref a0), .val (.long q1), .second] [(.int (2 : Int32)), (.int (2 : Int32))])) (fun t kt => st28 t kt) ?_
      have hc8_29 : ¬ ((2 : Int32) < (2 : Int32)) := by decide
      refine own_by (A' := T28.setTop (mkF m 39 #[.val (.ref a0), .val (.long q1), .second] [(.ref a0)])) (fun t kt => ?_) ?_
      · refine XS.icmpYes X28.here hx rfl (pc0 := 8) (pc' := 38) rfl (hb hby d4_8) rfl (flt hc8_29).2.1 (by decide) (by decide) ?_
        refine XS.aloadN X28.here hx rfl (hb hby d4_38) rfl rfl ?_
        exact kt
      obtain ⟨T30, X30, e30, st30⟩ := getF X28 hx hZ hown (host := "") (Or.inl (wd26 hw)) Via.refl e28 F26 (g := (mkF m 39 #[.val (.ref a0), .val (.long q1), .second] [(.ref a0)])) rfl rfl (hb hby d4_39)
      refine own_by (A' := T30.setTop (mkF m 43 #[.val (.ref a0), .val (.long q1), .second] [(.ref a0), (.int (2 : Int32))])) (fun t kt => ?_) ?_
      · refine st30 t ?_
        refine XS.aloadN X30.here hx rfl (hb hby d4_42) rfl rfl ?_
        exact kt
      obtain ⟨T31, X31, e31, st31⟩ := getF X30 hx hZ hown (host := "") (Or.inl (wd30 hw)) Via.refl e30 ((FF.other W13 (Or.inr (sn31_27 hw))).other W26 (Or.inr (sn31_27 hw))) (g := (mkF m 43 #[.val (.ref a0), .val (.long q1), .second] [(.ref a0), (.int (2 : Int32))])) rfl rfl (hb hby d4_43)
      refine own_by (A' := T31.setTop (mkF m 46 #[.val (.ref a0), .val (.long q1), .second] [(.int F), (.int (2 : Int32))])) (fun t kt => st31 t kt) ?_
      by_cases hc46_32 : F < (2 : Int32)
      · refine own_by (A' := T31.setTop (mkF m 51 #[.val (.ref a0), .val (.long q1), .second] [(.int (-1 : Int32)), (.ref a0)])) (fun t kt => ?_) ?_
        · refine XS.icmpNo X31.here hx rfl (hb hby d4_46) rfl (tlt hc46_32).2.2.2 ?_
          refine XS.aloadN X31.here hx rfl (hb hby d4_49) rfl rfl ?_
          refine XS.iconst X31.here hx rfl (hb hby d4_50) ?_
          exact kt
        obtain ⟨T33, h33, X33, e33, W33, st33⟩ := putF X31 hx hZ hown (host := "") (Or.inl (wd19 hw)) Via.refl e31 ((FG.other W13 (Or.inr (sn20_27 hw))).other W26 (Or.inr (sn20_27 hw))) ((E_a0.wr W13).wr W26) (Or.inl (wd20 hw)) (wd5 hw) (ty := .int) (by decide) rfl rfl (g := (mkF m 51 #[.val (.ref a0), .val (.long q1), .second] [(.int (-1 : Int32)), (.ref a0)])) rfl rfl (hb hby d4_51)
        have F33 := Fld.same W33 ((FG.other W13 (Or.inr (sn20_27 hw))).other W26 (Or.inr (sn20_27 hw)))
        have N33 := Fr.snoc X33 N26 g_a0
        have K33 : Keep h0 h33 [a0] := K26.wr W33 (Or.inl (List.mem_of_getElem? (i := 0) rfl))
        refine own_by (A' := T33.setTop (mkF m 54 #[.val (.ref a0), .val (.long q1), .second] [])) (fun t kt => st33 t kt) ?_
        obtain ⟨fs, hr, hrun, hended, hW, hsame⟩ := X33.leave (v := none) (fun _ => rfl)
        refine ⟨_, _, ?_, hrun, hended, _, _, rfl, ?_, ⟨_, rfl⟩, hW, hsame.mono (by decide) (by decide)⟩
        · exact X33.returnOut hx Bd.returns (hb hby d4_54) hr
        · show QFo Z a0 tt ss (2 : Int32) t0 t1 t2 w0 w1 w2 q1 Us F G Sm h0 n0 _ T33.heap _
          rw [e33]
          exact ⟨rfl, N33, K33, _, _, ⟨hne, (((E_a0.wr W13).wr W26).wr W33), (((Ft.other W13 (Or.inr (sn15_27 hw))).other W26 (Or.inr (sn15_27 hw))).other W33 (Or.inr (sn15_20 hw))), (((Fs.other W13 (Or.inr (sn18_27 hw))).other W26 (Or.inr (sn18_27 hw))).other W33 (Or.inr (sn18_20 hw))), (F26.other W33 (Or.inr (sn27_20 hw))), (((Fe.other W13 (Or.inr (sn29_27 hw))).other W26 (Or.inr (sn29_27 hw))).other W33 (Or.inr (sn29_20 hw))), (((FU.other W13 (Or.inr (sn42_27 hw))).other W26 (Or.inr (sn42_27 hw))).other W33 (Or.inr (sn42_20 hw))), (((FF.other W13 (Or.inr (sn31_27 hw))).other W26 (Or.inr (sn31_27 hw))).other W33 (Or.inr (sn31_20 hw))), F33, (((FS.other W13 (Or.inr (sn48_27 hw))).other W26 (Or.inr (sn48_27 hw))).other W33 (Or.inr (sn48_20 hw))), (((V_t.other W13 hne.1).other W26 hne.1).other W33 hne.1), (((V_s.other W13 hne.2.1).other W26 hne.2.1).other W33 hne.2.1)⟩, (by simp [own_FO, hc22_7, hc22_20]), (by rw [if_pos hc46_32])⟩
      · refine own_by (A' := T31.setTop (mkF m 54 #[.val (.ref a0), .val (.long q1), .second] [])) (fun t kt => ?_) ?_
        · refine XS.icmpYes X31.here hx rfl (pc0 := 46) (pc' := 54) rfl (hb hby d4_46) rfl (flt hc46_32).2.2.2 (by decide) (by decide) ?_
          exact kt
        obtain ⟨fs, hr, hrun, hended, hW, hsame⟩ := X31.leave (v := none) (fun _ => rfl)
        refine ⟨_, _, ?_, hrun, hended, _, _, rfl, ?_, ⟨_, rfl⟩, hW, hsame.mono (by decide) (by decide)⟩
        · exact X31.returnOut hx Bd.returns (hb hby d4_54) hr
        · show QFo Z a0 tt ss (2 : Int32) t0 t1 t2 w0 w1 w2 q1 Us F G Sm h0 n0 _ T31.heap _
          rw [e31]
          exact ⟨rfl, N26, K26, _, _, ⟨hne, ((E_a0.wr W13).wr W26), ((Ft.other W13 (Or.inr (sn15_27 hw))).other W26 (Or.inr (sn15_27 hw))), ((Fs.other W13 (Or.inr (sn18_27 hw))).other W26 (Or.inr (sn18_27 hw))), F26, ((Fe.other W13 (Or.inr (sn29_27 hw))).other W26 (Or.inr (sn29_27 hw))), ((FU.other W13 (Or.inr (sn42_27 hw))).other W26 (Or.inr (sn42_27 hw))), ((FF.other W13 (Or.inr (sn31_27 hw))).other W26 (Or.inr (sn31_27 hw))), ((FG.other W13 (Or.inr (sn20_27 hw))).other W26 (Or.inr (sn20_27 hw))), ((FS.other W13 (Or.inr (sn48_27 hw))).other W26 (Or.inr (sn48_27 hw))), ((V_t.other W13 hne.1).other W26 hne.1), ((V_s.other W13 hne.2.1).other W26 hne.2.1)⟩, (by simp [own_FO, hc22_7, hc22_20]), (by rw [if_neg hc46_32])⟩
theorem ef_rmFo3 (m : MethodId) (a0 : Addr) (q1 : Int64) : entryFrame m #[(.ref a0), (.long q1)] 3 = mkF m 0 #[.val (.ref a0), .val (.long q1), .second] [] := by first | (simp [entryFrame, mkF, argsToLocals, Value.category]; done) | rfl
set_option maxRecDepth 65536 in
set_option maxHeartbeats 40000000 in
theorem rmFo3 (l : Launch) (Z : State) (aw : Array Value) (hw : ∀ d ∈ tables_1, d.before aw Z = true) (ws : List Jvm.Cond) (a0 : Addr) (q1 : Int64) (tt : Addr) (ss : Addr) (t0 : Int64) (t1 : Int64) (t2 : Int64) (w0 : Int64) (w1 : Int64) (w2 : Int64) (Us : Int64) (F : Int32) (G : Int32) (Sm : Int64) (h0 : Heap) (n0 : Nat) (Z0 : n0 ≤ h0.size) (S_ : own_St Z h0 a0 tt ss (0 : Int32) (3 : Int32) t0 t1 t2 w0 w1 w2 Us F G Sm) (g_a0 : n0 ≤ a0) :
    MetFree l (⟨"com/example/fairshed/fairshed/shedding/SicByTime", "forget", "(J)V"⟩ : MethodName) (head1 (Jvm.Cond.code (⟨"com/example/fairshed/fairshed/shedding/SicByTime", "forget", "(J)V"⟩ : MethodName) prog_124_method_3_code 3 none :: ws) ({ frames := 0, cells := 0, slots := 0, locals := 0 } : Room)) (fun a U => a = #[(.ref a0), (.long q1)] ∧ Z.Warmed39 U.vm ∧ U.heap = h0) (fun _ _ _ _ _ => True) (fun _ U o U' => ∃ v L, o = .returned v ∧ QFo Z a0 tt ss (3 : Int32) t0 t1 t2 w0 w1 w2 q1 Us F G Sm h0 n0 v U'.heap L ∧ FrameEnd U o U' L ({ frames := 0, cells := 0, slots := 0, locals := 0 } : Room).cells ({ frames := 0, cells := 0, slots := 0, locals := 0 } : Room).slots) := by
  refine MetFree.of_bodySF (plainFor_of_name pn_0) hisR ?_
  intro p e s m args below meth c s₁ Bd hml0 hP hK
  obtain ⟨rfl, hZ, hh⟩ := hP
  have hx := Bd.exec
  have hby := Bd.bytes
  have hml : c.maxLocals = 3 := hml0
  have hown : s.vm.findClass "com/example/fairshed/fairshed/shedding/SicByTime" = some m.cls := findClass_of_methodNamed Bd.named
  have hnm := (name_of_methodNamed Bd.named Bd.method).1
  have X0 : Stand p l e ({ frames := 0, cells := 0, slots := 0, locals := 0 } : Room) s m #[(.ref a0), (.long q1)] below meth c s₁ [] 0 0 := Stand.of_body Bd
  have e0 : s₁.heap = h0 := by rw [← hh, Bd.state]; rfl
  have N0 := Fr.nil n0
  have K0 : Keep h0 h0 [a0] := Keep.refl _ _
  refine own_by (A' := s₁.setTop (mkF m 0 #[.val (.ref a0), .val (.long q1), .second] [])) (fun t k => castTop (ef_rmFo3 m a0 q1) k) ?_
  obtain ⟨hne, E_a0, Ft, Fs, Ff, Fe, FU, FF, FG, FS, V_t, V_s⟩ := S_
  refine own_by (A' := s₁.setTop (mkF m 1 #[.val (.ref a0), .val (.long q1), .second] [(.ref a0)])) (fun t kt => ?_) ?_
  · refine XS.aloadN X0.here hx rfl (hb hby d4_0) rfl rfl ?_
    exact kt
  obtain ⟨T1, X1, e1, st1⟩ := getF X0 hx hZ hown (host := "") (Or.inl (wd26 hw)) Via.refl e0 Ff (g := (mkF m 1 #[.val (.ref a0), .val (.long q1), .second] [(.ref a0)])) rfl rfl (hb hby d4_1)
  refine own_by (A' := T1.setTop (mkF m 5 #[.val (.ref a0), .val (.long q1), .second] [(.ref a0), (.int (0 : Int32))])) (fun t kt => ?_) ?_
  · refine st1 t ?_
    refine XS.aloadN X1.here hx rfl (hb hby d4_4) rfl rfl ?_
    exact kt
  obtain ⟨T2, X2, e2, st2⟩ := getF X1 hx hZ hown (host := "") (Or.inl (wd28 hw)) Via.refl e1 Fe (g := (mkF m 5 #[.val (.ref a0), .val (.long q1), .second] [(.ref a0), (.int (0 : Int32))])) rfl rfl (hb hby d4_5)
  refine own_by (A' := T2.setTop (mkF m 8 #[.val (.ref a0), .val (.long q1), .second] [(.int (3 : Int32)), (.int (0 : Int32))])) (fun t kt => st2 t kt) ?_
  have hc8_3 : (0 : Int32) < (3 : Int32) := by decide
  refine own_by (A' := T2.setTop (mkF m 12 #[.val (.ref a0), .val (.long q1), .second] [(.ref a0)])) (fun t kt => ?_) ?_
  · refine XS.icmpNo X2.here hx rfl (hb hby d4_8) rfl (tlt hc8_3).2.1 ?_
    refine XS.aloadN X2.here hx rfl (hb hby d4_11) rfl rfl ?_
    exact kt
  obtain ⟨T4, X4, e4, st4⟩ := getF X2 hx hZ hown (host := "") (Or.inl (wd14 hw)) Via.refl e2 Ft (g := (mkF m 12 #[.val (.ref a0), .val (.long q1), .second] [(.ref a0)])) rfl rfl (hb hby d4_12)
  refine own_by (A' := T4.setTop (mkF m 16 #[.val (.ref a0), .val (.long q1), .second] [(.ref a0), (.ref tt)])) (fun t kt => ?_) ?_
  · refine st4 t ?_
    refine XS.aloadN X4.here hx rfl (hb hby d4_15) rfl rfl ?_
    exact kt
  obtain ⟨T5, X5, e5, st5⟩ := getF X4 hx hZ hown (host := "") (Or.inl (wd26 hw)) Via.refl e4 Ff (g := (mkF m 16 #[.val (.ref a0), .val (.long q1), .second] [(.ref a0), (.ref tt)])) rfl rfl (hb hby d4_16)
  refine own_by (A' := T5.setTop (mkF m 19 #[.val (.ref a0), .val (.long q1), .second] [(.int (0 : Int32)), (.ref tt)])) (fun t kt => st5 t kt) ?_
  obtain ⟨cl6, Ar6, Sz6, Mn6, Ha6⟩ := id V_t
  have hin6 := inb_of (j := (0 : Int32)) Sz6 ⟨by decide, by decide⟩
  have hat6 : cl6.slots[((0 : Int32)).toNatClampNeg]? = some (.long t0) := (Ha6 _ (Nat.lt_of_not_le fun q => hin6 (Or.inr q))).trans (congrArg some rfl)
  refine own_by (A' := T5.setTop (mkF m 22 #[.val (.ref a0), .val (.long q1), .second] [(.int (lcmpW t0 q1))])) (fun t kt => ?_) ?_
  · refine X5.laload hx (j := (0 : Int32)) (v := (.long t0)) (by rw [e5]; exact Ar6.1) (State.isArrayOf_alike hZ.alike Ar6.2.1) Ar6.2.2 hin6 hat6 (g := (mkF m 19 #[.val (.ref a0), .val (.long q1), .second] [(.int (0 : Int32)), (.ref tt)])) rfl rfl (hb hby d4_19) _ ?_
    refine XS.lloadN X5.here hx rfl (hb hby d4_20) rfl ?_
    refine XS.lcmp X5.here hx rfl (hb hby d4_21) rfl ?_
    exact kt
  by_cases hc22_7 : q1 < t0
  · refine own_by (A' := T5.setTop (mkF m 39 #[.val (.ref a0), .val (.long q1), .second] [(.ref a0)])) (fun t kt => ?_) ?_
    · refine XS.ifYes X5.here hx rfl (pc0 := 22) (pc' := 38) rfl (hb hby d4_22) rfl ((if0 _ _).trans (tlt ((lw_gt _ _).mpr hc22_7)).2.2.1) (by decide) (by decide) ?_
      refine XS.aloadN X5.here hx rfl (hb hby d4_38) rfl rfl ?_
      exact kt
    obtain ⟨T8, X8, e8, st8⟩ := getF X5 hx hZ hown (host := "") (Or.inl (wd26 hw)) Via.refl e5 Ff (g := (mkF m 39 #[.val (.ref a0), .val (.long q1), .second] [(.ref a0)])) rfl rfl (hb hby d4_39)
    refine own_by (A' := T8.setTop (mkF m 43 #[.val (.ref a0), .val (.long q1), .second] [(.ref a0), (.int (0 : Int32))])) (fun t kt => ?_) ?_
    · refine st8 t ?_
      refine XS.aloadN X8.here hx rfl (hb hby d4_42) rfl rfl ?_
      exact kt
    obtain ⟨T9, X9, e9, st9⟩ := getF X8 hx hZ hown (host := "") (Or.inl (wd30 hw)) Via.refl e8 FF (g := (mkF m 43 #[.val (.ref a0), .val (.long q1), .second] [(.ref a0), (.int (0 : Int32))])) rfl rfl (hb hby d4_43)
    refine own_by (A' := T9.setTop (mkF m 46 #[.val (.ref a0), .val (.long q1), .second] [(.int F), (.int (0 : Int32))])) (fun t kt => st9 t kt) ?_
    by_cases hc46_10 : F < (0 : Int32)
    · refine own_by (A' := T9.setTop (mkF m 51 #[.val (.ref a0), .val (.long q1), .second] [(.int (-1 : Int32)), (.ref a0)])) (fun t kt => ?_) ?_
      · refine XS.icmpNo X9.here hx rfl (hb hby d4_46) rfl (tlt hc46_10).2.2.2 ?_
        refine XS.aloadN X9.here hx rfl (hb hby d4_49) rfl rfl ?_
        refine XS.iconst X9.here hx rfl (hb hby d4_50) ?_
        exact kt
      obtain ⟨T11, h11, X11, e11, W11, st11⟩ := putF X9 hx hZ hown (host := "") (Or.inl (wd19 hw)) Via.refl e9 FG E_a0 (Or.inl (wd20 hw)) (wd5 hw) (ty := .int) (by decide) rfl rfl (g := (mkF m 51 #[.val (.ref a0), .val (.long q1), .second] [(.int (-1 : Int32)), (.ref a0)])) rfl rfl (hb hby d4_51)
      have F11 := Fld.same W11 FG
      have N11 := Fr.snoc X11 N0 g_a0
      have K11 : Keep h0 h11 [a0] := K0.wr W11 (Or.inl (List.mem_of_getElem? (i := 0) rfl))
      refine own_by (A' := T11.setTop (mkF m 54 #[.val (.ref a0), .val (.long q1), .second] [])) (fun t kt => st11 t kt) ?_
      obtain ⟨fs, hr, hrun, hended, hW, hsame⟩ := X11.leave (v := none) (fun _ => rfl)
      refine ⟨_, _, ?_, hrun, hended, _, _, rfl, ?_, ⟨_, rfl⟩, hW, hsame.mono (by decide) (by decide)⟩
      · exact X11.returnOut hx Bd.returns (hb hby d4_54) hr
      · show QFo Z a0 tt ss (3 : Int32) t0 t1 t2 w0 w1 w2 q1 Us F G Sm h0 n0 _ T11.heap _
        rw [e11]
        exact ⟨rfl, N11, K11, _, _, ⟨hne, (E_a0.wr W11), (Ft.other W11 (Or.inr (sn15_20 hw))), (Fs.other W11 (Or.inr (sn18_20 hw))), (Ff.other W11 (Or.inr (sn27_20 hw))), (Fe.other W11 (Or.inr (sn29_20 hw))), (FU.other W11 (Or.inr (sn42_20 hw))), (FF.other W11 (Or.inr (sn31_20 hw))), F11, (FS.other W11 (Or.inr (sn48_20 hw))), (V_t.other W11 hne.1), (V_s.other W11 hne.2.1)⟩, (by simp [own_FO, hc22_7]), (by rw [if_pos hc46_10])⟩
    · refine own_by (A' := T9.setTop (mkF m 54 #[.val (.ref a0), .val (.long q1), .second] [])) (fun t kt => ?_) ?_
      · refine XS.icmpYes X9.here hx rfl (pc0 := 46) (pc' := 54) rfl (hb hby d4_46) rfl (flt hc46_10).2.2.2 (by decide) (by decide) ?_
        exact kt
      obtain ⟨fs, hr, hrun, hended, hW, hsame⟩ := X9.leave (v := none) (fun _ => rfl)
      refine ⟨_, _, ?_, hrun, hended, _, _, rfl, ?_, ⟨_, rfl⟩, hW, hsame.mono (by decide) (by decide)⟩
      · exact X9.returnOut hx Bd.returns (hb hby d4_54) hr
      · show QFo Z a0 tt ss (3 : Int32) t0 t1 t2 w0 w1 w2 q1 Us F G Sm h0 n0 _ T9.heap _
        rw [e9]
        exact ⟨rfl, N0, K0, _, _, ⟨hne, E_a0, Ft, Fs, Ff, Fe, FU, FF, FG, FS, V_t, V_s⟩, (by simp [own_FO, hc22_7]), (by rw [if_neg hc46_10])⟩
  · refine own_by (A' := T5.setTop (mkF m 27 #[.val (.ref a0), .val (.long q1), .second] [(.ref a0), (.ref a0)])) (fun t kt => ?_) ?_
    · refine XS.ifNo X5.here hx rfl (hb hby d4_22) rfl ((if0 _ _).trans (flt (fun q => hc22_7 ((lw_gt _ _).mp q))).2.2.1) ?_
      refine XS.aloadN X5.here hx rfl (hb hby d4_25) rfl rfl ?_
      refine XS.dup X5.here hx rfl (hb hby d4_26) rfl rfl ?_
      exact kt
    obtain ⟨T12, X12, e12, st12⟩ := getF X5 hx hZ hown (host := "") (Or.inl (wd26 hw)) Via.refl e5 Ff (g := (mkF m 27 #[.val (.ref a0), .val (.long q1), .second] [(.ref a0), (.ref a0)])) rfl rfl (hb hby d4_27)
    refine own_by (A' := T12.setTop (mkF m 32 #[.val (.ref a0), .val (.long q1), .second] [(.int (1 : Int32)), (.ref a0)])) (fun t kt => ?_) ?_
    · refine st12 t ?_
      refine XS.iconst X12.here hx rfl (hb hby d4_30) ?_
      refine XS.iadd X12.here hx rfl (hb hby d4_31) rfl ?_
      exact kt
    obtain ⟨T13, h13, X13, e13, W13, st13⟩ := putF X12 hx hZ hown (host := "") (Or.inl (wd26 hw)) Via.refl e12 Ff E_a0 (Or.inl (wd27 hw)) (wd5 hw) (ty := .int) (by decide) rfl rfl (g := (mkF m 32 #[.val (.ref a0), .val (.long q1), .second] [(.int (1 : Int32)), (.ref a0)])) rfl rfl (hb hby d4_32)
    have F13 := Fld.same W13 Ff
    have N13 := Fr.snoc X13 N0 g_a0
    have K13 : Keep h0 h13 [a0] := K0.wr W13 (Or.inl (List.mem_of_getElem? (i := 0) rfl))
    refine own_by (A' := T13.setTop (mkF m 1 #[.val (.ref a0), .val (.long q1), .second] [(.ref a0)])) (fun t kt => ?_) ?_
    · refine st13 t ?_
      refine XS.goto X13.here hx rfl (pc0 := 35) (pc' := 0) rfl (hb hby d4_35) (by decide) (by decide) ?_
      refine XS.aloadN X13.here hx rfl (hb hby d4_0) rfl rfl ?_
      exact kt
    obtain ⟨T14, X14, e14, st14⟩ := getF X13 hx hZ hown (host := "") (Or.inl (wd26 hw)) Via.refl e13 F13 (g := (mkF m 1 #[.val (.ref a0), .val (.long q1), .second] [(.ref a0)])) rfl rfl (hb hby d4_1)
    refine own_by (A' := T14.setTop (mkF m 5 #[.val (.ref a0), .val (.long q1), .second] [(.ref a0), (.int (1 : Int32))])) (fun t kt => ?_) ?_
    · refine st14 t ?_
      refine XS.aloadN X14.here hx rfl (hb hby d4_4) rfl rfl ?_
      exact kt
    obtain ⟨T15, X15, e15, st15⟩ := getF X14 hx hZ hown (host := "") (Or.inl (wd28 hw)) Via.refl e14 (Fe.other W13 (Or.inr (sn29_27 hw))) (g := (mkF m 5 #[.val (.ref a0), .val (.long q1), .second] [(.ref a0), (.int (1 : Int32))])) rfl rfl (hb hby d4_5)
    refine own_by (A' := T15.setTop (mkF m 8 #[.val (.ref a0), .val (.long q1), .second] [(.int (3 : Int32)), (.int (1 : Int32))])) (fun t kt => st15 t kt) ?_
    have hc8_16 : (1 : Int32) < (3 : Int32) := by decide
    refine own_by (A' := T15.setTop (mkF m 12 #[.val (.ref a0), .val (.long q1), .second] [(.ref a0)])) (fun t kt => ?_) ?_
    · refine XS.icmpNo X15.here hx rfl (hb hby d4_8) rfl (tlt hc8_16).2.1 ?_
      refine XS.aloadN X15.here hx rfl (hb hby d4_11) rfl rfl ?_
      exact kt
    obtain ⟨T17, X17, e17, st17⟩ := getF X15 hx hZ hown (host := "") (Or.inl (wd14 hw)) Via.refl e15 (Ft.other W13 (Or.inr (sn15_27 hw))) (g := (mkF m 12 #[.val (.ref a0), .val (.long q1), .second] [(.ref a0)])) rfl rfl (hb hby d4_12)
    refine own_by (A' := T17.setTop (mkF m 16 #[.val (.ref a0), .val (.long q1), .second] [(.ref a0), (.ref tt)])) (fun t kt => ?_) ?_
    · refine st17 t ?_
      refine XS.aloadN X17.here hx rfl (hb hby d4_15) rfl rfl ?_
      exact kt
    obtain ⟨T18, X18, e18, st18⟩ := getF X17 hx hZ hown (host := "") (Or.inl (wd26 hw)) Via.refl e17 F13 (g := (mkF m 16 #[.val (.ref a0), .val (.long q1), .second] [(.ref a0), (.ref tt)])) rfl rfl (hb hby d4_16)
    refine own_by (A' := T18.setTop (mkF m 19 #[.val (.ref a0), .val (.long q1), .second] [(.int (1 : Int32)), (.ref tt)])) (fun t kt => st18 t kt) ?_
    obtain ⟨cl19, Ar19, Sz19, Mn19, Ha19⟩ := id (V_t.other W13 hne.1)
    have hin19 := inb_of (j := (1 : Int32)) Sz19 ⟨by decide, by decide⟩
    have hat19 : cl19.slots[((1 : Int32)).toNatClampNeg]? = some (.long t1) := (Ha19 _ (Nat.lt_of_not_le fun q => hin19 (Or.inr q))).trans (congrArg some rfl)
    refine own_by (A' := T18.setTop (mkF m 22 #[.val (.ref a0), .val (.long q1), .second] [(.int (lcmpW t1 q1))])) (fun t kt => ?_) ?_
    · refine X18.laload hx (j := (1 : Int32)) (v := (.long t1)) (by rw [e18]; exact Ar19.1) (State.isArrayOf_alike hZ.alike Ar19.2.1) Ar19.2.2 hin19 hat19 (g := (mkF m 19 #[.val (.ref a0), .val (.long q1), .second] [(.int (1 : Int32)), (.ref tt)])) rfl rfl (hb hby d4_19) _ ?_
      refine XS.lloadN X18.here hx rfl (hb hby d4_20) rfl ?_
      refine XS.lcmp X18.here hx rfl (hb hby d4_21) rfl ?_
      exact kt
    by_cases hc22_20 : q1 < t1
    · refine own_by (A' := T18.setTop (mkF m 39 #[.val (.ref a0), .val (.long q1), .second] [(.ref a0)])) (fun t kt => ?_) ?_
      · refine XS.ifYes X18.here hx rfl (pc0 := 22) (pc' := 38) rfl (hb hby d4_22) rfl ((if0 _ _).trans (tlt ((lw_gt _ _).mpr hc22_20)).2.2.1) (by decide) (by decide) ?_
        refine XS.aloadN X18.here hx rfl (hb hby d4_38) rfl rfl ?_
        exact kt
      obtain ⟨T21, X21, e21, st21⟩ := getF X18 hx hZ hown (host := "") (Or.inl (wd26 hw)) Via.refl e18 F13 (g := (mkF m 39 #[.val (.ref a0), .val (.long q1), .second] [(.ref a0)])) rfl rfl (hb hby d4_39)
      refine own_by (A' := T21.setTop (mkF m 43 #[.val (.ref a0), .val (.long q1), .second] [(.ref a0), (.int (1 : Int32))])) (fun t kt => ?_) ?_
      · refine st21 t ?_
        refine XS.aloadN X21.here hx rfl (hb hby d4_42) rfl rfl ?_
        exact kt
      obtain ⟨T22, X22, e22, st22⟩ := getF X21 hx hZ hown (host := "") (Or.inl (wd30 hw)) Via.refl e21 (FF.other W13 (Or.inr (sn31_27 hw))) (g := (mkF m 43 #[.val (.ref a0), .val (.long q1), .second] [(.ref a0), (.int (1 : Int32))])) rfl rfl (hb hby d4_43)
      refine own_by (A' := T22.setTop (mkF m 46 #[.val (.ref a0), .val (.long q1), .second] [(.int F), (.int (1 : Int32))])) (fun t kt => st22 t kt) ?_
      by_cases hc46_23 : F < (1 : Int32)
      · refine own_by (A' := T22.setTop (mkF m 51 #[.val (.ref a0), .val (.long q1), .second] [(.int (-1 : Int32)), (.ref a0)])) (fun t kt => ?_) ?_
        · refine XS.icmpNo X22.here hx rfl (hb hby d4_46) rfl (tlt hc46_23).2.2.2 ?_
          refine XS.aloadN X22.here hx rfl (hb hby d4_49) rfl rfl ?_
          refine XS.iconst X22.here hx rfl (hb hby d4_50) ?_
          exact kt
        obtain ⟨T24, h24, X24, e24, W24, st24⟩ := putF X22 hx hZ hown (host := "") (Or.inl (wd19 hw)) Via.refl e22 (FG.other W13 (Or.inr (sn20_27 hw))) (E_a0.wr W13) (Or.inl (wd20 hw)) (wd5 hw) (ty := .int) (by decide) rfl rfl (g := (mkF m 51 #[.val (.ref a0), .val (.long q1), .second] [(.int (-1 : Int32)), (.ref a0)])) rfl rfl (hb hby d4_51)
        have F24 := Fld.same W24 (FG.other W13 (Or.inr (sn20_27 hw)))
        have N24 := Fr.snoc X24 N13 g_a0
        have K24 : Keep h0 h24 [a0] := K13.wr W24 (Or.inl (List.mem_of_getElem? (i := 0) rfl))
        refine own_by (A' := T24.setTop (mkF m 54 #[.val (.ref a0), .val (.long q1), .second] [])) (fun t kt => st24 t kt) ?_
        obtain ⟨fs, hr, hrun, hended, hW, hsame⟩ := X24.leave (v := none) (fun _ => rfl)
        refine ⟨_, _, ?_, hrun, hended, _, _, rfl, ?_, ⟨_, rfl⟩, hW, hsame.mono (by decide) (by decide)⟩
        · exact X24.returnOut hx Bd.returns (hb hby d4_54) hr
        · show QFo Z a0 tt ss (3 : Int32) t0 t1 t2 w0 w1 w2 q1 Us F G Sm h0 n0 _ T24.heap _
          rw [e24]
          exact ⟨rfl, N24, K24, _, _, ⟨hne, ((E_a0.wr W13).wr W24), ((Ft.other W13 (Or.inr (sn15_27 hw))).other W24 (Or.inr (sn15_20 hw))), ((Fs.other W13 (Or.inr (sn18_27 hw))).other W24 (Or.inr (sn18_20 hw))), (F13.other W24 (Or.inr (sn27_20 hw))), ((Fe.other W13 (Or.inr (sn29_27 hw))).other W24 (Or.inr (sn29_20 hw))), ((FU.other W13 (Or.inr (sn42_27 hw))).other W24 (Or.inr (sn42_20 hw))), ((FF.other W13 (Or.inr (sn31_27 hw))).other W24 (Or.inr (sn31_20 hw))), F24, ((FS.other W13 (Or.inr (sn48_27 hw))).other W24 (Or.inr (sn48_20 hw))), ((V_t.other W13 hne.1).other W24 hne.1), ((V_s.other W13 hne.2.1).other W24 hne.2.1)⟩, (by simp [own_FO, hc22_7, hc22_20]), (by rw [if_pos hc46_23])⟩
      · refine own_by (A' := T22.setTop (mkF m 54 #[.val (.ref a0), .val (.long q1), .second] [])) (fun t kt => ?_) ?_
        · refine XS.icmpYes X22.here hx rfl (pc0 := 46) (pc' := 54) rfl (hb hby d4_46) rfl (flt hc46_23).2.2.2 (by decide) (by decide) ?_
          exact kt
        obtain ⟨fs, hr, hrun, hended, hW, hsame⟩ := X22.leave (v := none) (fun _ => rfl)
        refine ⟨_, _, ?_, hrun, hended, _, _, rfl, ?_, ⟨_, rfl⟩, hW, hsame.mono (by decide) (by decide)⟩
        · exact X22.returnOut hx Bd.returns (hb hby d4_54) hr
        · show QFo Z a0 tt ss (3 : Int32) t0 t1 t2 w0 w1 w2 q1 Us F G Sm h0 n0 _ T22.heap _
          rw [e22]
          exact ⟨rfl, N13, K13, _, _, ⟨hne, (E_a0.wr W13), (Ft.other W13 (Or.inr (sn15_27 hw))), (Fs.other W13 (Or.inr (sn18_27 hw))), F13, (Fe.other W13 (Or.inr (sn29_27 hw))), (FU.other W13 (Or.inr (sn42_27 hw))), (FF.other W13 (Or.inr (sn31_27 hw))), (FG.other W13 (Or.inr (sn20_27 hw))), (FS.other W13 (Or.inr (sn48_27 hw))), (V_t.other W13 hne.1), (V_s.other W13 hne.2.1)⟩, (by simp [own_FO, hc22_7, hc22_20]), (by rw [if_neg hc46_23])⟩
    · refine own_by (A' := T18.setTop (mkF m 27 #[.val (.ref a0), .val (.long q1), .second] [(.ref a0), (.ref a0)])) (fun t kt => ?_) ?_
      · refine XS.ifNo X18.here hx rfl (hb hby d4_22) rfl ((if0 _ _).trans (flt (fun q => hc22_20 ((lw_gt _ _).mp q))).2.2.1) ?_
        refine XS.aloadN X18.here hx rfl (hb hby d4_25) rfl rfl ?_
        refine XS.dup X18.here hx rfl (hb hby d4_26) rfl rfl ?_
        exact kt
      obtain ⟨T25, X25, e25, st25⟩ := getF X18 hx hZ hown (host := "") (Or.inl (wd26 hw)) Via.refl e18 F13 (g := (mkF m 27 #[.val (.ref a0), .val (.long q1), .second] [(.ref a0), (.ref a0)])) rfl rfl (hb hby d4_27)
      refine own_by (A' := T25.setTop (mkF m 32 #[.val (.ref a0), .val (.long q1), .second] [(.int (2 : Int32)), (.ref a0)])) (fun t kt => ?_) ?_
      · refine st25 t ?_
        refine XS.iconst X25.here hx rfl (hb hby d4_30) ?_
        refine XS.iadd X25.here hx rfl (hb hby d4_31) rfl ?_
        exact kt
      obtain ⟨T26, h26, X26, e26, W26, st26⟩ := putF X25 hx hZ hown (host := "") (Or.inl (wd26 hw)) Via.refl e25 F13 (E_a0.wr W13) (Or.inl (wd27 hw)) (wd5 hw) (ty := .int) (by decide) rfl rfl (g := (mkF m 32 #[.val (.ref a0), .val (.long q1), .second] [(.int (2 : Int32)), (.ref a0)])) rfl rfl (hb hby d4_32)
      have F26 := Fld.same W26 F13
      have N26 := Fr.snoc X26 N13 g_a0
      have K26 : Keep h0 h26 [a0] := K13.wr W26 (Or.inl (List.mem_of_getElem? (i := 0) rfl))
      refine own_by (A' := T26.setTop (mkF m 1 #[.val (.ref a0), .val (.long q1), .second] [(.ref a0)])) (fun t kt => ?_) ?_
      · refine st26 t ?_
        refine XS.goto X26.here hx rfl (pc0 := 35) (pc' := 0) rfl (hb hby d4_35) (by decide) (by decide) ?_
        refine XS.aloadN X26.here hx rfl (hb hby d4_0) rfl rfl ?_
        exact kt
      obtain ⟨T27, X27, e27, st27⟩ := getF X26 hx hZ hown (host := "") (Or.inl (wd26 hw)) Via.refl e26 F26 (g := (mkF m 1 #[.val (.ref a0), .val (.long q1), .second] [(.ref a0)])) rfl rfl (hb hby d4_1)
      refine own_by (A' := T27.setTop (mkF m 5 #[.val (.ref a0), .val (.long q1), .second] [(.ref a0), (.int (2 : Int32))])) (fun t kt => ?_) ?_
      · refine st27 t ?_
        refine XS.aloadN X27.here hx rfl (hb hby d4_4) rfl rfl ?_
        exact kt
      obtain ⟨T28, X28, e28, st28⟩ := getF X27 hx hZ hown (host := "") (Or.inl (wd28 hw)) Via.refl e27 ((Fe.other W13 (Or.inr (sn29_27 hw))).other W26 (Or.inr (sn29_27 hw))) (g := (mkF m 5 #[.val (.ref a0), .val (.long q1), .second] [(.ref a0), (.int (2 : Int32))])) rfl rfl (hb hby d4_5)
      refine own_by (A' := T28.setTop (mkF m 8 #[.val (.ref a0), .val (.long q1), .second] [(.int (3 : Int32)), (.int (2 : Int32))])) (fun t kt => st28 t kt) ?_
      have hc8_29 : (2 : Int32) < (3 : Int32) := by decide
      refine own_by (A' := T28.setTop (mkF m 12 #[.val (.ref a0), .val (.long q1), .second] [(.ref a0)])) (fun t kt => ?_) ?_
      · refine XS.icmpNo X28.here hx rfl (hb hby d4_8) rfl (tlt hc8_29).2.1 ?_
        refine XS.aloadN X28.here hx rfl (hb hby d4_11) rfl rfl ?_
        exact kt
      obtain ⟨T30, X30, e30, st30⟩ := getF X28 hx hZ hown (host := "") (Or.inl (wd14 hw)) Via.refl e28 ((Ft.other W13 (Or.inr (sn15_27 hw))).other W26 (Or.inr (sn15_27 hw))) (g := (mkF m 12 #[.val (.ref a0), .val (.long q1), .second] [(.ref a0)])) rfl rfl (hb hby d4_12)
      refine own_by (A' := T30.setTop (mkF m 16 #[.val (.ref a0), .val (.long q1), .second] [(.ref a0), (.ref tt)])) (fun t kt => ?_) ?_
      · refine st30 t ?_
        refine XS.aloadN X30.here hx rfl (hb hby d4_15) rfl rfl ?_
        exact kt
      obtain ⟨T31, X31, e31, st31⟩ := getF X30 hx hZ hown (host := "") (Or.inl (wd26 hw)) Via.refl e30 F26 (g := (mkF m 16 #[.val (.ref a0), .val (.long q1), .second] [(.ref a0), (.ref tt)])) rfl rfl (hb hby d4_16)
      refine own_by (A' := T31.setTop (mkF m 19 #[.val (.ref a0), .val (.long q1), .second] [(.int (2 : Int32)), (.ref tt)])) (fun t kt => st31 t kt) ?_
      obtain ⟨cl32, Ar32, Sz32, Mn32, Ha32⟩ := id ((V_t.other W13 hne.1).other W26 hne.1)
      have hin32 := inb_of (j := (2 : Int32)) Sz32 ⟨by decide, by decide⟩
      have hat32 : cl32.slots[((2 : Int32)).toNatClampNeg]? = some (.long t2) := (Ha32 _ (Nat.lt_of_not_le fun q => hin32 (Or.inr q))).trans (congrArg some rfl)
      refine own_by (A' := T31.setTop (mkF m 22 #[.val (.ref a0), .val (.long q1), .second] [(.int (lcmpW t2 q1))])) (fun t kt => ?_) ?_
      · refine X31.laload hx (j := (2 : Int32)) (v := (.long t2)) (by rw [e31]; exact Ar32.1) (State.isArrayOf_alike hZ.alike Ar32.2.1) Ar32.2.2 hin32 hat32 (g := (mkF m 19 #[.val (.ref a0), .val (.long q1), .second] [(.int (2 : Int32)), (.ref tt)])) rfl rfl (hb hby d4_19) _ ?_
        refine XS.lloadN X31.here hx rfl (hb hby d4_20) rfl ?_
        refine XS.lcmp X31.here hx rfl (hb hby d4_21) rfl ?_
        exact kt
      by_cases hc22_33 : q1 < t2
      · refine own_by (A' := T31.setTop (mkF m 39 #[.val (.ref a0), .val (.long q1), .second] [(.ref a0)])) (fun t kt => ?_) ?_
        · refine XS.ifYes X31.here hx rfl (pc0 := 22) (pc' := 38) rfl (hb hby d4_22) rfl ((if0 _ _).trans (tlt ((lw_gt _ _).mpr hc22_33)).2.2.1) (by decide) (by decide) ?_
          refine XS.aloadN X31.here hx rfl (hb hby d4_38) rfl rfl ?_
          exact kt
        obtain ⟨T34, X34, e34, st34⟩ := getF X31 hx hZ hown (host := "") (Or.inl (wd26 hw)) Via.refl e31 F26 (g := (mkF m 39 #[.val (.ref a0), .val (.long q1), .second] [(.ref a0)])) rfl rfl (hb hby d4_39)
        refine own_by (A' := T34.setTop (mkF m 43 #[.val (.ref a0), .val (.long q1), .second] [(.ref a0), (.int (2 : Int32))])) (fun t kt => ?_) ?_
        · refine st34 t ?_
          refine XS.aloadN X34.here hx rfl (hb hby d4_42) rfl rfl ?_
          exact kt
        obtain ⟨T35, X35, e35, st35⟩ := getF X34 hx hZ hown (host := "") (Or.inl (wd30 hw)) Via.refl e34 ((FF.other W13 (Or.inr (sn31_27 hw))).other W26 (Or.inr (sn31_27 hw))) (g := (mkF m 43 #[.val (.ref a0), .val (.long q1), .second] [(.ref a0), (.int (2 : Int32))])) rfl rfl (hb hby d4_43)
        refine own_by (A' := T35.setTop (mkF m 46 #[.val (.ref a0), .val (.long q1), .second] [(.int F), (.int (2 : Int32))])) (fun t kt => st35 t kt) ?_
        by_cases hc46_36 : F < (2 : Int32)
        · refine own_by (A' := T35.setTop (mkF m 51 #[.val (.ref a0), .val (.long q1), .second] [(.int (-1 : Int32)), (.ref a0)])) (fun t kt => ?_) ?_
          · refine XS.icmpNo X35.here hx rfl (hb hby d4_46) rfl (tlt hc46_36).2.2.2 ?_
            refine XS.aloadN X35.here hx rfl (hb hby d4_49) rfl rfl ?_
            refine XS.iconst X35.here hx rfl (hb hby d4_50) ?_
            exact kt
          obtain ⟨T37, h37, X37, e37, W37, st37⟩ := putF X35 hx hZ hown (host := "") (Or.inl (wd19 hw)) Via.refl e35 ((FG.other W13 (Or.inr (sn20_27 hw))).other W26 (Or.inr (sn20_27 hw))) ((E_a0.wr W13).wr W26) (Or.inl (wd20 hw)) (wd5 hw) (ty := .int) (by decide) rfl rfl (g := (mkF m 51 #[.val (.ref a0), .val (.long q1), .second] [(.int (-1 : Int32)), (.ref a0)])) rfl rfl (hb hby d4_51)
          have F37 := Fld.same W37 ((FG.other W13 (Or.inr (sn20_27 hw))).other W26 (Or.inr (sn20_27 hw)))
          have N37 := Fr.snoc X37 N26 g_a0
          have K37 : Keep h0 h37 [a0] := K26.wr W37 (Or.inl (List.mem_of_getElem? (i := 0) rfl))
          refine own_by (A' := T37.setTop (mkF m 54 #[.val (.ref a0), .val (.long q1), .second] [])) (fun t kt => st37 t kt) ?_
          obtain ⟨fs, hr, hrun, hended, hW, hsame⟩ := X37.leave (v := none) (fun _ => rfl)
          refine ⟨_, _, ?_, hrun, hended, _, _, rfl, ?_, ⟨_, rfl⟩, hW, hsame.mono (by decide) (by decide)⟩
          · exact X37.returnOut hx Bd.returns (hb hby d4_54) hr
          · show QFo Z a0 tt ss (3 : Int32) t0 t1 t2 w0 w1 w2 q1 Us F G Sm h0 n0 _ T37.heap _
            rw [e37]
            exact ⟨rfl, N37, K37, _, _, ⟨hne, (((E_a0.wr W13).wr W26).wr W37), (((Ft.other W13 (Or.inr (sn15_27 hw))).other W26 (Or.inr (sn15_27 hw))).other W37 (Or.inr (sn15_20 hw))), (((Fs.other W13 (Or.inr (sn18_27 hw))).other W26 (Or.inr (sn18_27 hw))).other W37 (Or.inr (sn18_20 hw))), (F26.other W37 (Or.inr (sn27_20 hw))), (((Fe.other W13 (Or.inr (sn29_27 hw))).other W26 (Or.inr (sn29_27 hw))).other W37 (Or.inr (sn29_20 hw))), (((FU.other W13 (Or.inr (sn42_27 hw))).other W26 (Or.inr (sn42_27 hw))).other W37 (Or.inr (sn42_20 hw))), (((FF.other W13 (Or.inr (sn31_27 hw))).other W26 (Or.inr (sn31_27 hw))).other W37 (Or.inr (sn31_20 hw))), F37, (((FS.other W13 (Or.inr (sn48_27 hw))).other W26 (Or.inr (sn48_27 hw))).other W37 (Or.inr (sn48_20 hw))), (((V_t.other W13 hne.1).other W26 hne.1).other W37 hne.1), (((V_s.other W13 hne.2.1).other W26 hne.2.1).other W37 hne.2.1)⟩, (by simp [own_FO, hc22_7, hc22_20, hc22_33]), (by rw [if_pos hc46_36])⟩
        · refine own_by (A' := T35.setTop (mkF m 54 #[.val (.ref a0), .val (.long q1), .second] [])) (fun t kt => ?_) ?_
          · refine XS.icmpYes X35.here hx rfl (pc0 := 46) (pc' := 54) rfl (hb hby d4_46) rfl (flt hc46_36).2.2.2 (by decide) (by decide) ?_
            exact kt
          obtain ⟨fs, hr, hrun, hended, hW, hsame⟩ := X35.leave (v := none) (fun _ => rfl)
          refine ⟨_, _, ?_, hrun, hended, _, _, rfl, ?_, ⟨_, rfl⟩, hW, hsame.mono (by decide) (by decide)⟩
          · exact X35.returnOut hx Bd.returns (hb hby d4_54) hr
          · show QFo Z a0 tt ss (3 : Int32) t0 t1 t2 w0 w1 w2 q1 Us F G Sm h0 n0 _ T35.heap _
            rw [e35]
            exact ⟨rfl, N26, K26, _, _, ⟨hne, ((E_a0.wr W13).wr W26), ((Ft.other W13 (Or.inr (sn15_27 hw))).other W26 (Or.inr (sn15_27 hw))), ((Fs.other W13 (Or.inr (sn18_27 hw))).other W26 (Or.inr (sn18_27 hw))), F26, ((Fe.other W13 (Or.inr (sn29_27 hw))).other W26 (Or.inr (sn29_27 hw))), ((FU.other W13 (Or.inr (sn42_27 hw))).other W26 (Or.inr (sn42_27 hw))), ((FF.other W13 (Or.inr (sn31_27 hw))).other W26 (Or.inr (sn31_27 hw))), ((FG.other W13 (Or.inr (sn20_27 hw))).other W26 (Or.inr (sn20_27 hw))), ((FS.other W13 (Or.inr (sn48_27 hw))).other W26 (Or.inr (sn48_27 hw))), ((V_t.other W13 hne.1).other W26 hne.1), ((V_s.other W13 hne.2.1).other W26 hne.2.1)⟩, (by simp [own_FO, hc22_7, hc22_20, hc22_33]), (by rw [if_neg hc46_36])⟩
      · refine own_by (A' := T31.setTop (mkF m 27 #[.val (.ref a0), .val (.long q1), .second] [(.ref a0), (.ref a0)])) (fun t kt => ?_) ?_
        · refine XS.ifNo X31.here hx rfl (hb hby d4_22) rfl ((if0 _ _).trans (flt (fun q => hc22_33 ((lw_gt _ _).mp q))).2.2.1) ?_
          refine XS.aloadN X31.here hx rfl (hb hby d4_25) rfl rfl ?_
          refine XS.dup X31.here hx rfl (hb hby d4_26) rfl rfl ?_
          exact kt
        obtain ⟨T38, X38, e38, st38⟩ := getF X31 hx hZ hown (host := "") (Or.inl (wd26 hw)) Via.refl e31 F26 (g := (mkF m 27 #[.val (.ref a0), .val (.long q1), .second] [(.ref a0), (.ref a0)])) rfl rfl (hb hby d4_27)
        refine own_by (A' := T38.setTop (mkF m 32 #[.val (.ref a0), .val (.long q1), .second] [(.int (3 : Int32)), (.ref a0)])) (fun t kt => ?_) ?_
        · refine st38 t ?_
          refine XS.iconst X38.here hx rfl (hb hby d4_30) ?_
          refine XS.iadd X38.here hx rfl (hb hby d4_31) rfl ?_
          exact kt
        obtain ⟨T39, h39, X39, e39, W39, st39⟩ := putF X38 hx hZ hown (host := "") (Or.inl (wd26 hw)) Via.refl e38 F26 ((E_a0.wr W13).wr W26) (Or.inl (wd27 hw)) (wd5 hw) (ty := .int) (by decide) rfl rfl (g := (mkF m 32 #[.val (.ref a0), .val (.long q1), .second] [(.int (3 : Int32)), (.ref a0)])) rfl rfl (hb hby d4_32)
        have F39 := Fld.same W39 F26
        have N39 := Fr.snoc X39 N26 g_a0
        have K39 : Keep h0 h39 [a0] := K26.wr W39 (Or.inl (List.mem_of_getElem? (i := 0) rfl))
        refine own_by (A' := T39.setTop (mkF m 1 #[.val (.ref a0), .val (.long q1), .second] [(.ref a0)])) (fun t kt => ?_) ?_
        · refine st39 t ?_
          refine XS.goto X39.here hx rfl (pc0 := 35) (pc' := 0) rfl (hb hby d4_35) (by decide) (by decide) ?_
          refine XS.aloadN X39.here hx rfl (hb hby d4_0) rfl rfl ?_
          exact kt
        obtain ⟨T40, X40, e40, st40⟩ := getF X39 hx hZ hown (host := "") (Or.inl (wd26 hw)) Via.refl e39 F39 (g := (mkF m 1 #[.val (.ref a0), .val (.long q1), .second] [(.ref a0)])) rfl rfl (hb hby d4_1)
        refine own_by (A' := T40.setTop (mkF m 5 #[.val (.ref a0), .val (.long q1), .second] [(.ref a0), (.int (3 : Int32))])) (fun t kt => ?_) ?_
        · refine st40 t ?_
          refine XS.aloadN X40.here hx rfl (hb hby d4_4) rfl rfl ?_
          exact kt
        obtain ⟨T41, X41, e41, st41⟩ := getF X40 hx hZ hown (host := "") (Or.inl (wd28 hw)) Via.refl e40 (((Fe.other W13 (Or.inr (sn29_27 hw))).other W26 (Or.inr (sn29_27 hw))).other W39 (Or.inr (sn29_27 hw))) (g := (mkF m 5 #[.val (.ref a0), .val (.long q1), .second] [(.ref a0), (.int (3 : Int32))])) rfl rfl (hb hby d4_5)
        refine own_by (A' := T41.setTop (mkF m 8 #[.val (.ref a0), .val (.long q1), .second] [(.int (3 : Int32)), (.int (3 : Int32))])) (fun t kt => st41 t kt) ?_
        have hc8_42 : ¬ ((3 : Int32) < (3 : Int32)) := by decide
        refine own_by (A' := T41.setTop (mkF m 39 #[.val (.ref a0), .val (.long q1), .second] [(.ref a0)])) (fun t kt => ?_) ?_
        · refine XS.icmpYes X41.here hx rfl (pc0 := 8) (pc' := 38) rfl (hb hby d4_8) rfl (flt hc8_42).2.1 (by decide) (by decide) ?_
          refine XS.aloadN X41.here hx rfl (hb hby d4_38) rfl rfl ?_
          exact kt
        obtain ⟨T43, X43, e43, st43⟩ := getF X41 hx hZ hown (host := "") (Or.inl (wd26 hw)) Via.refl e41 F39 (g := (mkF m 39 #[.val (.ref a0), .val (.long q1), .second] [(.ref a0)])) rfl rfl (hb hby d4_39)
        refine own_by (A' := T43.setTop (mkF m 43 #[.val (.ref a0), .val (.long q1), .second] [(.ref a0), (.int (3 : Int32))])) (fun t kt => ?_) ?_
        · refine st43 t ?_
          refine XS.aloadN X43.here hx rfl (hb hby d4_42) rfl rfl ?_
          exact kt
        obtain ⟨T44, X44, e44, st44⟩ := getF X43 hx hZ hown (host := "") (Or.inl (wd30 hw)) Via.refl e43 (((FF.other W13 (Or.inr (sn31_27 hw))).other W26 (Or.inr (sn31_27 hw))).other W39 (Or.inr (sn31_27 hw))) (g := (mkF m 43 #[.val (.ref a0), .val (.long q1), .second] [(.ref a0), (.int (3 : Int32))])) rfl rfl (hb hby d4_43)
        refine own_by (A' := T44.setTop (mkF m 46 #[.val (.ref a0), .val (.long q1), .second] [(.int F), (.int (3 : Int32))])) (fun t kt => st44 t kt) ?_
        by_cases hc46_45 : F < (3 : Int32)
        · refine own_by (A' := T44.setTop (mkF m 51 #[.val (.ref a0), .val (.long q1), .second] [(.int (-1 : Int32)), (.ref a0)])) (fun t kt => ?_) ?_
          · refine XS.icmpNo X44.here hx rfl (hb hby d4_46) rfl (tlt hc46_45).2.2.2 ?_
            refine XS.aloadN X44.here hx rfl (hb hby d4_49) rfl rfl ?_
            refine XS.iconst X44.here hx rfl (hb hby d4_50) ?_
            exact kt
          obtain ⟨T46, h46, X46, e46, W46, st46⟩ := putF X44 hx hZ hown (host := "") (Or.inl (wd19 hw)) Via.refl e44 (((FG.other W13 (Or.inr (sn20_27 hw))).other W26 (Or.inr (sn20_27 hw))).other W39 (Or.inr (sn20_27 hw))) (((E_a0.wr W13).wr W26).wr W39) (Or.inl (wd20 hw)) (wd5 hw) (ty := .int) (by decide) rfl rfl (g := (mkF m 51 #[.val (.ref a0), .val (.long q1), .second] [(.int (-1 : Int32)), (.ref a0)])) rfl rfl (hb hby d4_51)
          have F46 := Fld.same W46 (((FG.other W13 (Or.inr (sn20_27 hw))).other W26 (Or.inr (sn20_27 hw))).other W39 (Or.inr (sn20_27 hw)))
          have N46 := Fr.snoc X46 N39 g_a0
          have K46 : Keep h0 h46 [a0] := K39.wr W46 (Or.inl (List.mem_of_getElem? (i := 0) rfl))
          refine own_by (A' := T46.setTop (mkF m 54 #[.val (.ref a0), .val (.long q1), .second] [])) (fun t kt => st46 t kt) ?_
          obtain ⟨fs, hr, hrun, hended, hW, hsame⟩ := X46.leave (v := none) (fun _ => rfl)
          refine ⟨_, _, ?_, hrun, hended, _, _, rfl, ?_, ⟨_, rfl⟩, hW, hsame.mono (by decide) (by decide)⟩
          · exact X46.returnOut hx Bd.returns (hb hby d4_54) hr
          · show QFo Z a0 tt ss (3 : Int32) t0 t1 t2 w0 w1 w2 q1 Us F G Sm h0 n0 _ T46.heap _
            rw [e46]
            exact ⟨rfl, N46, K46, _, _, ⟨hne, ((((E_a0.wr W13).wr W26).wr W39).wr W46), ((((Ft.other W13 (Or.inr (sn15_27 hw))).other W26 (Or.inr (sn15_27 hw))).other W39 (Or.inr (sn15_27 hw))).other W46 (Or.inr (sn15_20 hw))), ((((Fs.other W13 (Or.inr (sn18_27 hw))).other W26 (Or.inr (sn18_27 hw))).other W39 (Or.inr (sn18_27 hw))).other W46 (Or.inr (sn18_20 hw))), (F39.other W46 (Or.inr (sn27_20 hw))), ((((Fe.other W13 (Or.inr (sn29_27 hw))).other W26 (Or.inr (sn29_27 hw))).other W39 (Or.inr (sn29_27 hw))).other W46 (Or.inr (sn29_20 hw))), ((((FU.other W13 (Or.inr (sn42_27 hw))).other W26 (Or.inr (sn42_27 hw))).other W39 (Or.inr (sn42_27 hw))).other W46 (Or.inr (sn42_20 hw))), ((((FF.other W13 (Or.inr (sn31_27 hw))).other W26 (Or.inr (sn31_27 hw))).other W39 (Or.inr (sn31_27 hw))).other W46 (Or.inr (sn31_20 hw))), F46, ((((FS.other W13 (Or.inr (sn48_27 hw))).other W26 (Or.inr (sn48_27 hw))).other W39 (Or.inr (sn48_27 hw))).other W46 (Or.inr (sn48_20 hw))), ((((V_t.other W13 hne.1).other W26 hne.1).other W39 hne.1).other W46 hne.1), ((((V_s.other W13 hne.2.1).other W26 hne.2.1).other W39 hne.2.1).other W46 hne.2.1)⟩, (by simp [own_FO, hc22_7, hc22_20, hc22_33]), (by rw [if_pos hc46_45])⟩
        · refine own_by (A' := T44.setTop (mkF m 54 #[.val (.ref a0), .val (.long q1), .second] [])) (fun t kt => ?_) ?_
          · refine XS.icmpYes X44.here hx rfl (pc0 := 46) (pc' := 54) rfl (hb hby d4_46) rfl (flt hc46_45).2.2.2 (by decide) (by decide) ?_
            exact kt
          obtain ⟨fs, hr, hrun, hended, hW, hsame⟩ := X44.leave (v := none) (fun _ => rfl)
          refine ⟨_, _, ?_, hrun, hended, _, _, rfl, ?_, ⟨_, rfl⟩, hW, hsame.mono (by decide) (by decide)⟩
          · exact X44.returnOut hx Bd.returns (hb hby d4_54) hr
          · show QFo Z a0 tt ss (3 : Int32) t0 t1 t2 w0 w1 w2 q1 Us F G Sm h0 n0 _ T44.heap _
            rw [e44]
            exact ⟨rfl, N39, K39, _, _, ⟨hne, (((E_a0.wr W13).wr W26).wr W39), (((Ft.other W13 (Or.inr (sn15_27 hw))).other W26 (Or.inr (sn15_27 hw))).other W39 (Or.inr (sn15_27 hw))), (((Fs.other W13 (Or.inr (sn18_27 hw))).other W26 (Or.inr (sn18_27 hw))).other W39 (Or.inr (sn18_27 hw))), F39, (((Fe.other W13 (Or.inr (sn29_27 hw))).other W26 (Or.inr (sn29_27 hw))).other W39 (Or.inr (sn29_27 hw))), (((FU.other W13 (Or.inr (sn42_27 hw))).other W26 (Or.inr (sn42_27 hw))).other W39 (Or.inr (sn42_27 hw))), (((FF.other W13 (Or.inr (sn31_27 hw))).other W26 (Or.inr (sn31_27 hw))).other W39 (Or.inr (sn31_27 hw))), (((FG.other W13 (Or.inr (sn20_27 hw))).other W26 (Or.inr (sn20_27 hw))).other W39 (Or.inr (sn20_27 hw))), (((FS.other W13 (Or.inr (sn48_27 hw))).other W26 (Or.inr (sn48_27 hw))).other W39 (Or.inr (sn48_27 hw))), (((V_t.other W13 hne.1).other W26 hne.1).other W39 hne.1), (((V_s.other W13 hne.2.1).other W26 hne.2.1).other W39 hne.2.1)⟩, (by simp [own_FO, hc22_7, hc22_20, hc22_33]), (by rw [if_neg hc46_45])⟩
theorem rmFou (l : Launch) (Z : State) (aw : Array Value) (hw : ∀ d ∈ tables_1, d.before aw Z = true) (ws : List Jvm.Cond) (a0 : Addr) (q1 : Int64) (tt : Addr) (ss : Addr) (t0 : Int64) (t1 : Int64) (t2 : Int64) (w0 : Int64) (w1 : Int64) (w2 : Int64) (Us : Int64) (F : Int32) (G : Int32) (Sm : Int64) (n : Int32) (h0 : Heap) (n0 : Nat) (Z0 : n0 ≤ h0.size) (S_ : own_St Z h0 a0 tt ss (0 : Int32) n t0 t1 t2 w0 w1 w2 Us F G Sm) (g_a0 : n0 ≤ a0) (hn : 0 ≤ n.toInt ∧ n.toInt ≤ 3) :
    MetFree l (⟨"com/example/fairshed/fairshed/shedding/SicByTime", "forget", "(J)V"⟩ : MethodName) (head1 (Jvm.Cond.code (⟨"com/example/fairshed/fairshed/shedding/SicByTime", "forget", "(J)V"⟩ : MethodName) prog_124_method_3_code 3 none :: ws) ({ frames := 0, cells := 0, slots := 0, locals := 0 } : Room)) (fun a U => a = #[.ref a0, .long q1] ∧ Z.Warmed39 U.vm ∧ U.heap = h0) (fun _ _ _ _ _ => True) (fun _ U o U' => ∃ v L, o = .returned v ∧ QFo Z a0 tt ss n t0 t1 t2 w0 w1 w2 q1 Us F G Sm h0 n0 v U'.heap L ∧ FrameEnd U o U' L ({ frames := 0, cells := 0, slots := 0, locals := 0 } : Room).cells ({ frames := 0, cells := 0, slots := 0, locals := 0 } : Room).slots) := by
  rcases own_i4 hn with rfl | rfl | rfl | rfl
  · exact rmFo0 l Z aw hw ws a0 q1 tt ss t0 t1 t2 w0 w1 w2 Us F G Sm h0 n0 Z0 S_ g_a0
  · exact rmFo1 l Z aw hw ws a0 q1 tt ss t0 t1 t2 w0 w1 w2 Us F G Sm h0 n0 Z0 S_ g_a0
  · exact rmFo2 l Z aw hw ws a0 q1 tt ss t0 t1 t2 w0 w1 w2 Us F G Sm h0 n0 Z0 S_ g_a0
  · exact rmFo3 l Z aw hw ws a0 q1 tt ss t0 t1 t2 w0 w1 w2 Us F G Sm h0 n0 Z0 S_ g_a0
def own_CI (f n : Int32) (t0 t1 t2 w0 w1 w2 Us : Int64) (F G : Int32) (Sm : Int64) : Prop := G.toInt < 0 ∨ (own_FA f n t0 t1 t2 Us F ∧ F.toInt ≤ G.toInt ∧ G.toInt ≤ n.toInt ∧ Sm = own_S w0 w1 w2 F G)
def QBe (Z : State) (a0 tt ss : Addr) (f n : Int32) (t0 t1 t2 w0 w1 w2 lo hi : Int64) (h0 : Heap) (n0 : Nat) (v : Option Value) (h : Heap) (L : List Loc) : Prop := ∃ F' k : Int32, v = some (.double (FP.l2d (own_S w0 w1 w2 F' k))) ∧ Fr n0 L ∧ Keep h0 h [a0] ∧ own_FA f n t0 t1 t2 lo F' ∧ own_FA f n t0 t1 t2 hi k ∧ own_St Z h a0 tt ss f n t0 t1 t2 w0 w1 w2 lo F' k (own_S w0 w1 w2 F' k)
theorem own_Sadd {w0 w1 w2 : Int64} {F G k : Int32} (hF : 0 ≤ F.toInt ∧ F.toInt ≤ 3) (hG : 0 ≤ G.toInt ∧ G.toInt ≤ 3) (hk : 0 ≤ k.toInt ∧ k.toInt ≤ 3) (h1 : F.toInt ≤ G.toInt) (h2 : G.toInt ≤ k.toInt) : own_S w0 w1 w2 F G + own_S w0 w1 w2 G k = own_S w0 w1 w2 F k := by
  rcases own_i4 hF with rfl | rfl | rfl | rfl <;> rcases own_i4 hG with rfl | rfl | rfl | rfl <;> rcases own_i4 hk with rfl | rfl | rfl | rfl <;> simp only [Int32.reduceToInt] at h1 h2 <;> first | (exfalso; omega) | simp [own_S, Int64.add_assoc]
theorem own_Sb {w0 w1 w2 : Int64} (i j : Int32) (hW : 0 ≤ w0.toInt ∧ 0 ≤ w1.toInt ∧ 0 ≤ w2.toInt ∧ w0.toInt + w1.toInt + w2.toInt ≤ 7) : 0 ≤ (own_S w0 w1 w2 i j).toInt ∧ (own_S w0 w1 w2 i j).toInt ≤ 7 ∧ (own_S w0 w1 w2 i j).toInt = (if i.toInt ≤ 0 ∧ 0 < j.toInt then w0.toInt else 0) + ((if i.toInt ≤ 1 ∧ 1 < j.toInt then w1.toInt else 0) + (if i.toInt ≤ 2 ∧ 2 < j.toInt then w2.toInt else 0)) := by
  have z0 : (0 : Int64).toInt = 0 := by decide
  unfold own_S
  have k : ∀ a b c : Int64, 0 ≤ a.toInt → 0 ≤ b.toInt → 0 ≤ c.toInt → a.toInt + b.toInt + c.toInt ≤ 7 → (a + (b + c)).toInt = a.toInt + (b.toInt + c.toInt) := fun a b c h1 h2 h3 h4 => by
    have e1 := own_ac (a := b) (b := c) (by omega) (by omega)
    have e2 := own_ac (a := a) (b := b + c) (by omega) (by omega)
    omega
  have e := k (if i.toInt ≤ 0 ∧ 0 < j.toInt then w0 else 0) (if i.toInt ≤ 1 ∧ 1 < j.toInt then w1 else 0) (if i.toInt ≤ 2 ∧ 2 < j.toInt then w2 else 0) (by split <;> omega) (by split <;> omega) (by split <;> omega) (by (repeat' split) <;> omega)
  rw [e]
  repeat' split
  all_goals omega
theorem pd_5 : parseMethodDescriptor "(J)I" = some ⟨[.long], some .int⟩ := by decide +kernel
theorem pd_6 : parseMethodDescriptor "(DII)D" = some ⟨[.double, .int, .int], some .double⟩ := by decide +kernel
theorem d5_0 : decode prog_124_method_4_code 0 = .ok (.aload_n 0, 1) := by decide +kernel
theorem d5_1 : decode prog_124_method_4_code 1 = .ok (.lload_n 3, 1) := by decide +kernel
theorem d5_2 : decode prog_124_method_4_code 2 = .ok (.invokevirtual 21, 3) := by decide +kernel
theorem d5_5 : decode prog_124_method_4_code 5 = .ok (.istore 5, 2) := by decide +kernel
theorem d5_7 : decode prog_124_method_4_code 7 = .ok (.lload_n 1, 1) := by decide +kernel
theorem d5_8 : decode prog_124_method_4_code 8 = .ok (.aload_n 0, 1) := by decide +kernel
theorem d5_9 : decode prog_124_method_4_code 9 = .ok (.getfield 43, 3) := by decide +kernel
theorem d5_12 : decode prog_124_method_4_code 12 = .ok (.lcmp, 1) := by decide +kernel
theorem d5_13 : decode prog_124_method_4_code 13 = .ok (.ifCond .ne 40, 3) := by decide +kernel
theorem d5_16 : decode prog_124_method_4_code 16 = .ok (.aload_n 0, 1) := by decide +kernel
theorem d5_17 : decode prog_124_method_4_code 17 = .ok (.getfield 17, 3) := by decide +kernel
theorem d5_20 : decode prog_124_method_4_code 20 = .ok (.ifCond .lt 33, 3) := by decide +kernel
theorem d5_23 : decode prog_124_method_4_code 23 = .ok (.aload_n 0, 1) := by decide +kernel
theorem d5_24 : decode prog_124_method_4_code 24 = .ok (.getfield 17, 3) := by decide +kernel
theorem d5_27 : decode prog_124_method_4_code 27 = .ok (.iload 5, 2) := by decide +kernel
theorem d5_29 : decode prog_124_method_4_code 29 = .ok (.if_icmp .gt 24, 3) := by decide +kernel
theorem d5_32 : decode prog_124_method_4_code 32 = .ok (.aload_n 0, 1) := by decide +kernel
theorem d5_33 : decode prog_124_method_4_code 33 = .ok (.aload_n 0, 1) := by decide +kernel
theorem d5_34 : decode prog_124_method_4_code 34 = .ok (.aload_n 0, 1) := by decide +kernel
theorem d5_35 : decode prog_124_method_4_code 35 = .ok (.getfield 47, 3) := by decide +kernel
theorem d5_38 : decode prog_124_method_4_code 38 = .ok (.aload_n 0, 1) := by decide +kernel
theorem d5_39 : decode prog_124_method_4_code 39 = .ok (.getfield 17, 3) := by decide +kernel
theorem d5_42 : decode prog_124_method_4_code 42 = .ok (.iload 5, 2) := by decide +kernel
theorem d5_44 : decode prog_124_method_4_code 44 = .ok (.invokevirtual 51, 3) := by decide +kernel
theorem d5_47 : decode prog_124_method_4_code 47 = .ok (.putfield 47, 3) := by decide +kernel
theorem d5_50 : decode prog_124_method_4_code 50 = .ok (.goto 32, 3) := by decide +kernel
theorem d5_53 : decode prog_124_method_4_code 53 = .ok (.aload_n 0, 1) := by decide +kernel
theorem d5_54 : decode prog_124_method_4_code 54 = .ok (.lload_n 1, 1) := by decide +kernel
theorem d5_55 : decode prog_124_method_4_code 55 = .ok (.putfield 43, 3) := by decide +kernel
theorem d5_58 : decode prog_124_method_4_code 58 = .ok (.aload_n 0, 1) := by decide +kernel
theorem d5_59 : decode prog_124_method_4_code 59 = .ok (.aload_n 0, 1) := by decide +kernel
theorem d5_60 : decode prog_124_method_4_code 60 = .ok (.lload_n 1, 1) := by decide +kernel
theorem d5_61 : decode prog_124_method_4_code 61 = .ok (.invokevirtual 21, 3) := by decide +kernel
theorem d5_64 : decode prog_124_method_4_code 64 = .ok (.putfield 34, 3) := by decide +kernel
theorem d5_67 : decode prog_124_method_4_code 67 = .ok (.aload_n 0, 1) := by decide +kernel
theorem d5_68 : decode prog_124_method_4_code 68 = .ok (.aload_n 0, 1) := by decide +kernel
theorem d5_69 : decode prog_124_method_4_code 69 = .ok (.dconst 0, 1) := by decide +kernel
theorem d5_70 : decode prog_124_method_4_code 70 = .ok (.aload_n 0, 1) := by decide +kernel
theorem d5_71 : decode prog_124_method_4_code 71 = .ok (.getfield 34, 3) := by decide +kernel
theorem d5_74 : decode prog_124_method_4_code 74 = .ok (.iload 5, 2) := by decide +kernel
theorem d5_76 : decode prog_124_method_4_code 76 = .ok (.invokevirtual 51, 3) := by decide +kernel
theorem d5_79 : decode prog_124_method_4_code 79 = .ok (.putfield 47, 3) := by decide +kernel
theorem d5_82 : decode prog_124_method_4_code 82 = .ok (.aload_n 0, 1) := by decide +kernel
theorem d5_83 : decode prog_124_method_4_code 83 = .ok (.iload 5, 2) := by decide +kernel
theorem d5_85 : decode prog_124_method_4_code 85 = .ok (.putfield 17, 3) := by decide +kernel
theorem d5_88 : decode prog_124_method_4_code 88 = .ok (.aload_n 0, 1) := by decide +kernel
theorem d5_89 : decode prog_124_method_4_code 89 = .ok (.getfield 47, 3) := by decide +kernel
theorem d5_92 : decode prog_124_method_4_code 92 = .ok (.dreturn, 1) := by decide +kernel
theorem ef_rmBe (m : MethodId) (a0 : Addr) (q1 : Int64) (q2 : Int64) : entryFrame m #[(.ref a0), (.long q1), (.long q2)] 6 = mkF m 0 #[.val (.ref a0), .val (.long q1), .second, .val (.long q2), .second, .unset] [] := by first | (simp [entryFrame, mkF, argsToLocals, Value.category]; done) | rfl
set_option maxRecDepth 65536 in
set_option maxHeartbeats 40000000 in
theorem rmBe (l : Launch) (Z : State) (aw : Array Value) (hw : ∀ d ∈ tables_1, d.before aw Z = true) (ws : List Jvm.Cond) (a0 : Addr) (q1 : Int64) (q2 : Int64) (f : Int32) (n : Int32) (tt : Addr) (ss : Addr) (t0 : Int64) (t1 : Int64) (t2 : Int64) (w0 : Int64) (w1 : Int64) (w2 : Int64) (Us : Int64) (F : Int32) (G : Int32) (Sm : Int64) (h0 : Heap) (n0 : Nat) (Z0 : n0 ≤ h0.size) (S_ : own_St Z h0 a0 tt ss f n t0 t1 t2 w0 w1 w2 Us F G Sm) (g_a0 : n0 ≤ a0) (hfn : 0 ≤ f.toInt ∧ f.toInt ≤ n.toInt ∧ n.toInt ≤ 3) (hs : own_Srt f n t0 t1 t2) (hW : 0 ≤ w0.toInt ∧ 0 ≤ w1.toInt ∧ 0 ≤ w2.toInt ∧ w0.toInt + w1.toInt + w2.toInt ≤ 7) (hCI : own_CI f n t0 t1 t2 w0 w1 w2 Us F G Sm) :
    MetFree l (⟨"com/example/fairshed/fairshed/shedding/SicByTime", "between", "(JJ)D"⟩ : MethodName) (head1 (Jvm.Cond.code (⟨"com/example/fairshed/fairshed/shedding/SicByTime", "between", "(JJ)D"⟩ : MethodName) prog_124_method_4_code 6 (some .double) :: ws) ({ frames := 3, cells := 0, slots := 0, locals := 53 } : Room)) (fun a U => a = #[(.ref a0), (.long q1), (.long q2)] ∧ Z.Warmed39 U.vm ∧ U.heap = h0) (fun _ _ _ _ _ => True) (fun _ U o U' => ∃ v L, o = .returned v ∧ QBe Z a0 tt ss f n t0 t1 t2 w0 w1 w2 q1 q2 h0 n0 v U'.heap L ∧ FrameEnd U o U' L ({ frames := 3, cells := 0, slots := 0, locals := 53 } : Room).cells ({ frames := 3, cells := 0, slots := 0, locals := 53 } : Room).slots) := by
  refine MetFree.of_bodySF (plainFor_of_name pn_0) hisR ?_
  intro p e s m args below meth c s₁ Bd hml0 hP hK
  obtain ⟨rfl, hZ, hh⟩ := hP
  have hx := Bd.exec
  have hby := Bd.bytes
  have hml : c.maxLocals = 6 := hml0
  have hown : s.vm.findClass "com/example/fairshed/fairshed/shedding/SicByTime" = some m.cls := findClass_of_methodNamed Bd.named
  have hnm := (name_of_methodNamed Bd.named Bd.method).1
  have X0 : Stand p l e ({ frames := 3, cells := 0, slots := 0, locals := 53 } : Room) s m #[(.ref a0), (.long q1), (.long q2)] below meth c s₁ [] 0 0 := Stand.of_body Bd
  have e0 : s₁.heap = h0 := by rw [← hh, Bd.state]; rfl
  have N0 := Fr.nil n0
  have K0 : Keep h0 h0 [a0] := Keep.refl _ _
  refine own_by (A' := s₁.setTop (mkF m 0 #[.val (.ref a0), .val (.long q1), .second, .val (.long q2), .second, .unset] [])) (fun t k => castTop (ef_rmBe m a0 q1 q2) k) ?_
  obtain ⟨hne, E_a0, Ft, Fs, Ff, Fe, FU, FF, FG, FS, V_t, V_s⟩ := S_
  refine own_by (A' := s₁.setTop (mkF m 2 #[.val (.ref a0), .val (.long q1), .second, .val (.long q2), .second, .unset] [(.long q2), (.ref a0)])) (fun t kt => ?_) ?_
  · refine XS.aloadN X0.here hx rfl (hb hby d5_0) rfl rfl ?_
    refine XS.lloadN X0.here hx rfl (hb hby d5_1) rfl ?_
    exact kt
  obtain ⟨cq1, qe1, qe1'⟩ := (E_a0).cell
  obtain ⟨ci1, ki1, hci1, hki1, -, hni1, -⟩ := Cond.instantiable_spec (mvT (args := #[]) hZ (wd5 hw))
  obtain ⟨_, _, ⟨T1, L1, k1, n1⟩, -, X1, ⟨Lc1, hQ1, l1, y1, z1⟩, st1⟩ := X0.privateBack hx (y := (⟨"com/example/fairshed/fairshed/shedding/SicByTime", "firstAfter", "(J)I"⟩ : MethodName)) hown (mvT hZ (wd37 hw)) (mvT hZ (wd38 hw)) (selects_self_of_private hci1 hki1 (Bool.or_eq_false_iff.mp hni1).1 (Cond.privateMethod_at (mvP hZ (wd39 hw) (args := #[]))) (mvT hZ (wd38 hw)) (by decide)) (Cond.privateMethod_at (mvP hZ (wd39 hw) (args := #[]))) (mvT hZ (wd40 hw)) (by decide) (backOf (W := 0) (rmFAu l Z aw hw [] a0 q2 tt t0 t1 t2 f n h0 n0 (Nat.le_trans Z0 K0.1) Ft Ff Fe V_t hfn hs) hZ (wd40 hw) (wd6 hw) (by decide) (by decide)) (g := (mkF m 2 #[.val (.ref a0), .val (.long q1), .second, .val (.long q2), .second, .unset] [(.long q2), (.ref a0)])) rfl (by rw [hml]; rfl) (Steps.refl _) (a := a0) (by rw [e0]; exact qe1) qe1' (argsL := [(.long q2)]) (rest := []) (lenOf pd_5 rfl) rfl (by show 2 * 0 + _ ≤ _; exact Nat.le_of_eq rfl) (hb hby d5_2) (fun _ _ => ⟨rfl, e0, (by decide : 0 + 0 ≤ _), (by decide : 0 + 0 ≤ _)⟩)
  dsimp only [Pt.U, Pt.locs, Pt.cells, Pt.slots] at X1 l1 y1 z1 st1 hQ1
  subst l1 y1 z1
  obtain ⟨kf1, rfl, hFA1, N1q, e1⟩ := hQ1
  have N1 := Fr.app N0 N1q
  refine own_by (A' := T1.setTop (mkF m 9 #[.val (.ref a0), .val (.long q1), .second, .val (.long q2), .second, .val (.int kf1)] [(.ref a0), (.long q1)])) (fun t kt => ?_) ?_
  · refine st1.trans ?_
    refine XS.istore X1.here hx rfl (hb hby d5_5) rfl (l' := #[.val (.ref a0), .val (.long q1), .second, .val (.long q2), .second, .val (.int kf1)]) rfl ?_
    refine XS.lloadN X1.here hx rfl (hb hby d5_7) rfl ?_
    refine XS.aloadN X1.here hx rfl (hb hby d5_8) rfl rfl ?_
    exact kt
  obtain ⟨T2, X2, e2, st2⟩ := getF X1 hx hZ hown (host := "") (Or.inl (wd41 hw)) Via.refl e1 FU (g := (mkF m 9 #[.val (.ref a0), .val (.long q1), .second, .val (.long q2), .second, .val (.int kf1)] [(.ref a0), (.long q1)])) rfl rfl (hb hby d5_9)
  refine own_by (A' := T2.setTop (mkF m 13 #[.val (.ref a0), .val (.long q1), .second, .val (.long q2), .second, .val (.int kf1)] [(.int (lcmpW q1 Us))])) (fun t kt => ?_) ?_
  · refine st2 t ?_
    refine XS.lcmp X2.here hx rfl (hb hby d5_12) rfl ?_
    exact kt
  by_cases hc13_3 : q1 = Us
  · refine own_by (A' := T2.setTop (mkF m 17 #[.val (.ref a0), .val (.long q1), .second, .val (.long q2), .second, .val (.int kf1)] [(.ref a0)])) (fun t kt => ?_) ?_
    · refine XS.ifNo X2.here hx rfl (hb hby d5_13) rfl ((if0 _ _).trans (teq ((lw_eq _ _).mpr hc13_3)).2) ?_
      refine XS.aloadN X2.here hx rfl (hb hby d5_16) rfl rfl ?_
      exact kt
    obtain ⟨T4, X4, e4, st4⟩ := getF X2 hx hZ hown (host := "") (Or.inl (wd19 hw)) Via.refl e2 FG (g := (mkF m 17 #[.val (.ref a0), .val (.long q1), .second, .val (.long q2), .second, .val (.int kf1)] [(.ref a0)])) rfl rfl (hb hby d5_17)
    refine own_by (A' := T4.setTop (mkF m 20 #[.val (.ref a0), .val (.long q1), .second, .val (.long q2), .second, .val (.int kf1)] [(.int G)])) (fun t kt => st4 t kt) ?_
    by_cases hc20_5 : G < (0 : Int32)
    · refine own_by (A' := T4.setTop (mkF m 55 #[.val (.ref a0), .val (.long q1), .second, .val (.long q2), .second, .val (.int kf1)] [(.long q1), (.ref a0)])) (fun t kt => ?_) ?_
      · refine XS.ifYes X4.here hx rfl (pc0 := 20) (pc' := 53) rfl (hb hby d5_20) rfl ((if0 _ _).trans (tlt hc20_5).1) (by decide) (by decide) ?_
        refine XS.aloadN X4.here hx rfl (hb hby d5_53) rfl rfl ?_
        refine XS.lloadN X4.here hx rfl (hb hby d5_54) rfl ?_
        exact kt
      obtain ⟨T6, h6, X6, e6, W6, st6⟩ := putF X4 hx hZ hown (host := "") (Or.inl (wd41 hw)) Via.refl e4 FU E_a0 (Or.inl (wd42 hw)) (wd5 hw) (ty := .long) (by decide) rfl rfl (g := (mkF m 55 #[.val (.ref a0), .val (.long q1), .second, .val (.long q2), .second, .val (.int kf1)] [(.long q1), (.ref a0)])) rfl rfl (hb hby d5_55)
      have F6 := Fld.same W6 FU
      have N6 := Fr.snoc X6 N1 g_a0
      have K6 : Keep h0 h6 [a0] := K0.wr W6 (Or.inl (List.mem_of_getElem? (i := 0) rfl))
      refine own_by (A' := T6.setTop (mkF m 61 #[.val (.ref a0), .val (.long q1), .second, .val (.long q2), .second, .val (.int kf1)] [(.long q1), (.ref a0), (.ref a0)])) (fun t kt => ?_) ?_
      · refine st6 t ?_
        refine XS.aloadN X6.here hx rfl (hb hby d5_58) rfl rfl ?_
        refine XS.aloadN X6.here hx rfl (hb hby d5_59) rfl rfl ?_
        refine XS.lloadN X6.here hx rfl (hb hby d5_60) rfl ?_
        exact kt
      obtain ⟨cq7, qe7, qe7'⟩ := ((E_a0.wr W6)).cell
      obtain ⟨ci7, ki7, hci7, hki7, -, hni7, -⟩ := Cond.instantiable_spec (mvT (args := #[]) hZ (wd5 hw))
      obtain ⟨_, _, ⟨T7, L7, k7, n7⟩, -, X7, ⟨Lc7, hQ7, l7, y7, z7⟩, st7⟩ := X6.privateBack hx (y := (⟨"com/example/fairshed/fairshed/shedding/SicByTime", "firstAfter", "(J)I"⟩ : MethodName)) hown (mvT hZ (wd37 hw)) (mvT hZ (wd38 hw)) (selects_self_of_private hci7 hki7 (Bool.or_eq_false_iff.mp hni7).1 (Cond.privateMethod_at (mvP hZ (wd39 hw) (args := #[]))) (mvT hZ (wd38 hw)) (by decide)) (Cond.privateMethod_at (mvP hZ (wd39 hw) (args := #[]))) (mvT hZ (wd40 hw)) (by decide) (backOf (W := 1) (rmFAu l Z aw hw [] a0 q1 tt t0 t1 t2 f n h6 n0 (Nat.le_trans Z0 K6.1) (Ft.other W6 (Or.inr (sn15_42 hw))) (Ff.other W6 (Or.inr (sn27_42 hw))) (Fe.other W6 (Or.inr (sn29_42 hw))) (V_t.other W6 hne.1) hfn hs) hZ (wd40 hw) (wd6 hw) (by decide) (by decide)) (g := (mkF m 61 #[.val (.ref a0), .val (.long q1), .second, .val (.long q2), .second, .val (.int kf1)] [(.long q1), (.ref a0), (.ref a0)])) rfl (by rw [hml]; rfl) (Steps.refl _) (a := a0) (by rw [e6]; exact qe7) qe7' (argsL := [(.long q1)]) (rest := [(.ref a0)]) (lenOf pd_5 rfl) rfl (by show 2 * 0 + _ ≤ _; exact Nat.le_of_eq rfl) (hb hby d5_61) (fun _ _ => ⟨rfl, e6, (by decide : 0 + 0 ≤ _), (by decide : 0 + 0 ≤ _)⟩)
      dsimp only [Pt.U, Pt.locs, Pt.cells, Pt.slots] at X7 l7 y7 z7 st7 hQ7
      subst l7 y7 z7
      obtain ⟨kf7, rfl, hFA7, N7q, e7⟩ := hQ7
      have N7 := Fr.app N6 N7q
      refine own_by (A' := T7.setTop (mkF m 64 #[.val (.ref a0), .val (.long q1), .second, .val (.long q2), .second, .val (.int kf1)] [(.int kf7), (.ref a0)])) (fun t kt => st7.trans kt) ?_
      obtain ⟨T8, h8, X8, e8, W8, st8⟩ := putF X7 hx hZ hown (host := "") (Or.inl (wd30 hw)) Via.refl e7 (FF.other W6 (Or.inr (sn31_42 hw))) (E_a0.wr W6) (Or.inl (wd31 hw)) (wd5 hw) (ty := .int) (by decide) rfl rfl (g := (mkF m 64 #[.val (.ref a0), .val (.long q1), .second, .val (.long q2), .second, .val (.int kf1)] [(.int kf7), (.ref a0)])) rfl rfl (hb hby d5_64)
      have F8 := Fld.same W8 (FF.other W6 (Or.inr (sn31_42 hw)))
      have N8 := Fr.snoc X8 N7 g_a0
      have K8 : Keep h0 h8 [a0] := K6.wr W8 (Or.inl (List.mem_of_getElem? (i := 0) rfl))
      refine own_by (A' := T8.setTop (mkF m 71 #[.val (.ref a0), .val (.long q1), .second, .val (.long q2), .second, .val (.int kf1)] [(.ref a0), (.double (FP.l2d (0 : Int64))), (.ref a0), (.ref a0)])) (fun t kt => ?_) ?_
      · refine st8 t ?_
        refine XS.aloadN X8.here hx rfl (hb hby d5_67) rfl rfl ?_
        refine XS.aloadN X8.here hx rfl (hb hby d5_68) rfl rfl ?_
        refine XS.dconst0 X8.here hx rfl (hb hby d5_69) (v := FP.l2d (0 : Int64)) (by decide +kernel) ?_
        refine XS.aloadN X8.here hx rfl (hb hby d5_70) rfl rfl ?_
        exact kt
      obtain ⟨T9, X9, e9, st9⟩ := getF X8 hx hZ hown (host := "") (Or.inl (wd30 hw)) Via.refl e8 F8 (g := (mkF m 71 #[.val (.ref a0), .val (.long q1), .second, .val (.long q2), .second, .val (.int kf1)] [(.ref a0), (.double (FP.l2d (0 : Int64))), (.ref a0), (.ref a0)])) rfl rfl (hb hby d5_71)
      refine own_by (A' := T9.setTop (mkF m 76 #[.val (.ref a0), .val (.long q1), .second, .val (.long q2), .second, .val (.int kf1)] [(.int kf1), (.int kf7), (.double (FP.l2d (0 : Int64))), (.ref a0), (.ref a0)])) (fun t kt => ?_) ?_
      · refine st9 t ?_
        refine XS.iload X9.here hx rfl (hb hby d5_74) rfl ?_
        exact kt
      obtain ⟨cq10, qe10, qe10'⟩ := (((E_a0.wr W6).wr W8)).cell
      obtain ⟨ci10, ki10, hci10, hki10, -, hni10, -⟩ := Cond.instantiable_spec (mvT (args := #[]) hZ (wd5 hw))
      obtain ⟨_, _, ⟨T10, L10, k10, n10⟩, -, X10, ⟨Lc10, hQ10, l10, y10, z10⟩, st10⟩ := X9.privateBack hx (y := (⟨"com/example/fairshed/fairshed/shedding/SicByTime", "sum", "(DII)D"⟩ : MethodName)) hown (mvT hZ (wd43 hw)) (mvT hZ (wd44 hw)) (selects_self_of_private hci10 hki10 (Bool.or_eq_false_iff.mp hni10).1 (Cond.privateMethod_at (mvP hZ (wd45 hw) (args := #[]))) (mvT hZ (wd44 hw)) (by decide)) (Cond.privateMethod_at (mvP hZ (wd45 hw) (args := #[]))) (mvT hZ (wd46 hw)) (by decide) (backOf (W := 1) (rmSu l Z aw hw [] a0 (0 : Int64) ss w0 w1 w2 kf7 kf1 h8 n0 (Nat.le_trans Z0 K8.1) ((Fs.other W6 (Or.inr (sn18_42 hw))).other W8 (Or.inr (sn18_31 hw))) ((V_s.other W6 hne.2.1).other W8 hne.2.1) (by decide) hW (by have q := hFA7.1; have q2 := hFA1.1; omega) (by have q := hFA1.1; omega)) hZ (wd46 hw) (wd6 hw) (by decide) (by decide)) (g := (mkF m 76 #[.val (.ref a0), .val (.long q1), .second, .val (.long q2), .second, .val (.int kf1)] [(.int kf1), (.int kf7), (.double (FP.l2d (0 : Int64))), (.ref a0), (.ref a0)])) rfl (by rw [hml]; rfl) (Steps.refl _) (a := a0) (by rw [e9]; exact qe10) qe10' (argsL := [(.double (FP.l2d (0 : Int64))), (.int kf7), (.int kf1)]) (rest := [(.ref a0)]) (lenOf pd_6 rfl) rfl (by show 2 * 0 + _ ≤ _; exact Nat.le_of_eq rfl) (hb hby d5_76) (fun _ _ => ⟨rfl, e9, (by decide : 0 + 0 ≤ _), (by decide : 0 + 0 ≤ _)⟩)
      dsimp only [Pt.U, Pt.locs, Pt.cells, Pt.slots] at X10 l10 y10 z10 st10 hQ10
      subst l10 y10 z10
      obtain ⟨hv10, N10q, e10⟩ := hQ10
      have hz10 : (0 : Int64) + own_S w0 w1 w2 kf7 kf1 = (own_S w0 w1 w2 kf7 kf1) := Int64.zero_add _
      rw [hz10] at hv10
      subst hv10
      have N10 := Fr.app N8 N10q
      refine own_by (A' := T10.setTop (mkF m 79 #[.val (.ref a0), .val (.long q1), .second, .val (.long q2), .second, .val (.int kf1)] [(.double (FP.l2d (own_S w0 w1 w2 kf7 kf1))), (.ref a0)])) (fun t kt => st10.trans kt) ?_
      obtain ⟨T11, h11, X11, e11, W11, st11⟩ := putF X10 hx hZ hown (host := "") (Or.inl (wd47 hw)) Via.refl e10 ((FS.other W6 (Or.inr (sn48_42 hw))).other W8 (Or.inr (sn48_31 hw))) ((E_a0.wr W6).wr W8) (Or.inl (wd48 hw)) (wd5 hw) (ty := .double) (by decide) rfl rfl (g := (mkF m 79 #[.val (.ref a0), .val (.long q1), .second, .val (.long q2), .second, .val (.int kf1)] [(.double (FP.l2d (own_S w0 w1 w2 kf7 kf1))), (.ref a0)])) rfl rfl (hb hby d5_79)
      have F11 := Fld.same W11 ((FS.other W6 (Or.inr (sn48_42 hw))).other W8 (Or.inr (sn48_31 hw)))
      have N11 := Fr.snoc X11 N10 g_a0
      have K11 : Keep h0 h11 [a0] := K8.wr W11 (Or.inl (List.mem_of_getElem? (i := 0) rfl))
      refine own_by (A' := T11.setTop (mkF m 85 #[.val (.ref a0), .val (.long q1), .second, .val (.long q2), .second, .val (.int kf1)] [(.int kf1), (.ref a0)])) (fun t kt => ?_) ?_
      · refine st11 t ?_
        refine XS.aloadN X11.here hx rfl (hb hby d5_82) rfl rfl ?_
        refine XS.iload X11.here hx rfl (hb hby d5_83) rfl ?_
        exact kt
      obtain ⟨T12, h12, X12, e12, W12, st12⟩ := putF X11 hx hZ hown (host := "") (Or.inl (wd19 hw)) Via.refl e11 (((FG.other W6 (Or.inr (sn20_42 hw))).other W8 (Or.inr (sn20_31 hw))).other W11 (Or.inr (sn20_48 hw))) (((E_a0.wr W6).wr W8).wr W11) (Or.inl (wd20 hw)) (wd5 hw) (ty := .int) (by decide) rfl rfl (g := (mkF m 85 #[.val (.ref a0), .val (.long q1), .second, .val (.long q2), .second, .val (.int kf1)] [(.int kf1), (.ref a0)])) rfl rfl (hb hby d5_85)
      have F12 := Fld.same W12 (((FG.other W6 (Or.inr (sn20_42 hw))).other W8 (Or.inr (sn20_31 hw))).other W11 (Or.inr (sn20_48 hw)))
      have N12 := Fr.snoc X12 N11 g_a0
      have K12 : Keep h0 h12 [a0] := K11.wr W12 (Or.inl (List.mem_of_getElem? (i := 0) rfl))
      refine own_by (A' := T12.setTop (mkF m 89 #[.val (.ref a0), .val (.long q1), .second, .val (.long q2), .second, .val (.int kf1)] [(.ref a0)])) (fun t kt => ?_) ?_
      · refine st12 t ?_
        refine XS.aloadN X12.here hx rfl (hb hby d5_88) rfl rfl ?_
        exact kt
      obtain ⟨T13, X13, e13, st13⟩ := getF X12 hx hZ hown (host := "") (Or.inl (wd47 hw)) Via.refl e12 (F11.other W12 (Or.inr (sn48_20 hw))) (g := (mkF m 89 #[.val (.ref a0), .val (.long q1), .second, .val (.long q2), .second, .val (.int kf1)] [(.ref a0)])) rfl rfl (hb hby d5_89)
      refine own_by (A' := T13.setTop (mkF m 92 #[.val (.ref a0), .val (.long q1), .second, .val (.long q2), .second, .val (.int kf1)] [(.double (FP.l2d (own_S w0 w1 w2 kf7 kf1)))])) (fun t kt => st13 t kt) ?_
      obtain ⟨fs, hr, hrun, hended, hW, hsame⟩ := X13.leave (v := some (.double (FP.l2d (own_S w0 w1 w2 kf7 kf1)))) (fun h => by rw [Bd.returns] at h; cases h)
      refine ⟨_, _, ?_, hrun, hended, _, _, rfl, ?_, ⟨_, rfl⟩, hW, hsame.mono (by decide) (by decide)⟩
      · exact own_retD X13 hx Bd.returns (hb hby d5_92) hr
      · show QBe Z a0 tt ss f n t0 t1 t2 w0 w1 w2 q1 q2 h0 n0 _ T13.heap _
        rw [e13]
        exact ⟨kf7, kf1, rfl, N12, K12, hFA7, hFA1, ⟨hne, ((((E_a0.wr W6).wr W8).wr W11).wr W12), ((((Ft.other W6 (Or.inr (sn15_42 hw))).other W8 (Or.inr (sn15_31 hw))).other W11 (Or.inr (sn15_48 hw))).other W12 (Or.inr (sn15_20 hw))), ((((Fs.other W6 (Or.inr (sn18_42 hw))).other W8 (Or.inr (sn18_31 hw))).other W11 (Or.inr (sn18_48 hw))).other W12 (Or.inr (sn18_20 hw))), ((((Ff.other W6 (Or.inr (sn27_42 hw))).other W8 (Or.inr (sn27_31 hw))).other W11 (Or.inr (sn27_48 hw))).other W12 (Or.inr (sn27_20 hw))), ((((Fe.other W6 (Or.inr (sn29_42 hw))).other W8 (Or.inr (sn29_31 hw))).other W11 (Or.inr (sn29_48 hw))).other W12 (Or.inr (sn29_20 hw))), (((F6.other W8 (Or.inr (sn42_31 hw))).other W11 (Or.inr (sn42_48 hw))).other W12 (Or.inr (sn42_20 hw))), ((F8.other W11 (Or.inr (sn31_48 hw))).other W12 (Or.inr (sn31_20 hw))), F12, (F11.other W12 (Or.inr (sn48_20 hw))), ((((V_t.other W6 hne.1).other W8 hne.1).other W11 hne.1).other W12 hne.1), ((((V_s.other W6 hne.2.1).other W8 hne.2.1).other W11 hne.2.1).other W12 hne.2.1)⟩⟩
    · refine own_by (A' := T4.setTop (mkF m 24 #[.val (.ref a0), .val (.long q1), .second, .val (.long q2), .second, .val (.int kf1)] [(.ref a0)])) (fun t kt => ?_) ?_
      · refine XS.ifNo X4.here hx rfl (hb hby d5_20) rfl ((if0 _ _).trans (flt hc20_5).1) ?_
        refine XS.aloadN X4.here hx rfl (hb hby d5_23) rfl rfl ?_
        exact kt
      obtain ⟨T14, X14, e14, st14⟩ := getF X4 hx hZ hown (host := "") (Or.inl (wd19 hw)) Via.refl e4 FG (g := (mkF m 24 #[.val (.ref a0), .val (.long q1), .second, .val (.long q2), .second, .val (.int kf1)] [(.ref a0)])) rfl rfl (hb hby d5_24)
      refine own_by (A' := T14.setTop (mkF m 29 #[.val (.ref a0), .val (.long q1), .second, .val (.long q2), .second, .val (.int kf1)] [(.int kf1), (.int G)])) (fun t kt => ?_) ?_
      · refine st14 t ?_
        refine XS.iload X14.here hx rfl (hb hby d5_27) rfl ?_
        exact kt
      by_cases hc29_15 : kf1 < G
      · refine own_by (A' := T14.setTop (mkF m 55 #[.val (.ref a0), .val (.long q1), .second, .val (.long q2), .second, .val (.int kf1)] [(.long q1), (.ref a0)])) (fun t kt => ?_) ?_
        · refine XS.icmpYes X14.here hx rfl (pc0 := 29) (pc' := 53) rfl (hb hby d5_29) rfl (tlt hc29_15).2.2.1 (by decide) (by decide) ?_
          refine XS.aloadN X14.here hx rfl (hb hby d5_53) rfl rfl ?_
          refine XS.lloadN X14.here hx rfl (hb hby d5_54) rfl ?_
          exact kt
        obtain ⟨T16, h16, X16, e16, W16, st16⟩ := putF X14 hx hZ hown (host := "") (Or.inl (wd41 hw)) Via.refl e14 FU E_a0 (Or.inl (wd42 hw)) (wd5 hw) (ty := .long) (by decide) rfl rfl (g := (mkF m 55 #[.val (.ref a0), .val (.long q1), .second, .val (.long q2), .second, .val (.int kf1)] [(.long q1), (.ref a0)])) rfl rfl (hb hby d5_55)
        have F16 := Fld.same W16 FU
        have N16 := Fr.snoc X16 N1 g_a0
        have K16 : Keep h0 h16 [a0] := K0.wr W16 (Or.inl (List.mem_of_getElem? (i := 0) rfl))
        refine own_by (A' := T16.setTop (mkF m 61 #[.val (.ref a0), .val (.long q1), .second, .val (.long q2), .second, .val (.int kf1)] [(.long q1), (.ref a0), (.ref a0)])) (fun t kt => ?_) ?_
        · refine st16 t ?_
          refine XS.aloadN X16.here hx rfl (hb hby d5_58) rfl rfl ?_
          refine XS.aloadN X16.here hx rfl (hb hby d5_59) rfl rfl ?_
          refine XS.lloadN X16.here hx rfl (hb hby d5_60) rfl ?_
          exact kt
        obtain ⟨cq17, qe17, qe17'⟩ := ((E_a0.wr W16)).cell
        obtain ⟨ci17, ki17, hci17, hki17, -, hni17, -⟩ := Cond.instantiable_spec (mvT (args := #[]) hZ (wd5 hw))
        obtain ⟨_, _, ⟨T17, L17, k17, n17⟩, -, X17, ⟨Lc17, hQ17, l17, y17, z17⟩, st17⟩ := X16.privateBack hx (y := (⟨"com/example/fairshed/fairshed/shedding/SicByTime", "firstAfter", "(J)I"⟩ : MethodName)) hown (mvT hZ (wd37 hw)) (mvT hZ (wd38 hw)) (selects_self_of_private hci17 hki17 (Bool.or_eq_false_iff.mp hni17).1 (Cond.privateMethod_at (mvP hZ (wd39 hw) (args := #[]))) (mvT hZ (wd38 hw)) (by decide)) (Cond.privateMethod_at (mvP hZ (wd39 hw) (args := #[]))) (mvT hZ (wd40 hw)) (by decide) (backOf (W := 1) (rmFAu l Z aw hw [] a0 q1 tt t0 t1 t2 f n h16 n0 (Nat.le_trans Z0 K16.1) (Ft.other W16 (Or.inr (sn15_42 hw))) (Ff.other W16 (Or.inr (sn27_42 hw))) (Fe.other W16 (Or.inr (sn29_42 hw))) (V_t.other W16 hne.1) hfn hs) hZ (wd40 hw) (wd6 hw) (by decide) (by decide)) (g := (mkF m 61 #[.val (.ref a0), .val (.long q1), .second, .val (.long q2), .second, .val (.int kf1)] [(.long q1), (.ref a0), (.ref a0)])) rfl (by rw [hml]; rfl) (Steps.refl _) (a := a0) (by rw [e16]; exact qe17) qe17' (argsL := [(.long q1)]) (rest := [(.ref a0)]) (lenOf pd_5 rfl) rfl (by show 2 * 0 + _ ≤ _; exact Nat.le_of_eq rfl) (hb hby d5_61) (fun _ _ => ⟨rfl, e16, (by decide : 0 + 0 ≤ _), (by decide : 0 + 0 ≤ _)⟩)
        dsimp only [Pt.U, Pt.locs, Pt.cells, Pt.slots] at X17 l17 y17 z17 st17 hQ17
        subst l17 y17 z17
        obtain ⟨kf17, rfl, hFA17, N17q, e17⟩ := hQ17
        have N17 := Fr.app N16 N17q
        refine own_by (A' := T17.setTop (mkF m 64 #[.val (.ref a0), .val (.long q1), .second, .val (.long q2), .second, .val (.int kf1)] [(.int kf17), (.ref a0)])) (fun t kt => st17.trans kt) ?_
        obtain ⟨T18, h18, X18, e18, W18, st18⟩ := putF X17 hx hZ hown (host := "") (Or.inl (wd30 hw)) Via.refl e17 (FF.other W16 (Or.inr (sn31_42 hw))) (E_a0.wr W16) (Or.inl (wd31 hw)) (wd5 hw) (ty := .int) (by decide) rfl rfl (g := (mkF m 64 #[.val (.ref a0), .val (.long q1), .second, .val (.long q2), .second, .val (.int kf1)] [(.int kf17), (.ref a0)])) rfl rfl (hb hby d5_64)
        have F18 := Fld.same W18 (FF.other W16 (Or.inr (sn31_42 hw)))
        have N18 := Fr.snoc X18 N17 g_a0
        have K18 : Keep h0 h18 [a0] := K16.wr W18 (Or.inl (List.mem_of_getElem? (i := 0) rfl))
        refine own_by (A' := T18.setTop (mkF m 71 #[.val (.ref a0), .val (.long q1), .second, .val (.long q2), .second, .val (.int kf1)] [(.ref a0), (.double (FP.l2d (0 : Int64))), (.ref a0), (.ref a0)])) (fun t kt => ?_) ?_
        · refine st18 t ?_
          refine XS.aloadN X18.here hx rfl (hb hby d5_67) rfl rfl ?_
          refine XS.aloadN X18.here hx rfl (hb hby d5_68) rfl rfl ?_
          refine XS.dconst0 X18.here hx rfl (hb hby d5_69) (v := FP.l2d (0 : Int64)) (by decide +kernel) ?_
          refine XS.aloadN X18.here hx rfl (hb hby d5_70) rfl rfl ?_
          exact kt
        obtain ⟨T19, X19, e19, st19⟩ := getF X18 hx hZ hown (host := "") (Or.inl (wd30 hw)) Via.refl e18 F18 (g := (mkF m 71 #[.val (.ref a0), .val (.long q1), .second, .val (.long q2), .second, .val (.int kf1)] [(.ref a0), (.double (FP.l2d (0 : Int64))), (.ref a0), (.ref a0)])) rfl rfl (hb hby d5_71)
        refine own_by (A' := T19.setTop (mkF m 76 #[.val (.ref a0), .val (.long q1), .second, .val (.long q2), .second, .val (.int kf1)] [(.int kf1), (.int kf17), (.double (FP.l2d (0 : Int64))), (.ref a0), (.ref a0)])) (fun t kt => ?_) ?_
        · refine st19 t ?_
          refine XS.iload X19.here hx rfl (hb hby d5_74) rfl ?_
          exact kt
        obtain ⟨cq20, qe20, qe20'⟩ := (((E_a0.wr W16).wr W18)).cell
        obtain ⟨ci20, ki20, hci20, hki20, -, hni20, -⟩ := Cond.instantiable_spec (mvT (args := #[]) hZ (wd5 hw))
        obtain ⟨_, _, ⟨T20, L20, k20, n20⟩, -, X20, ⟨Lc20, hQ20, l20, y20, z20⟩, st20⟩ := X19.privateBack hx (y := (⟨"com/example/fairshed/fairshed/shedding/SicByTime", "sum", "(DII)D"⟩ : MethodName)) hown (mvT hZ (wd43 hw)) (mvT hZ (wd44 hw)) (selects_self_of_private hci20 hki20 (Bool.or_eq_false_iff.mp hni20).1 (Cond.privateMethod_at (mvP hZ (wd45 hw) (args := #[]))) (mvT hZ (wd44 hw)) (by decide)) (Cond.privateMethod_at (mvP hZ (wd45 hw) (args := #[]))) (mvT hZ (wd46 hw)) (by decide) (backOf (W := 1) (rmSu l Z aw hw [] a0 (0 : Int64) ss w0 w1 w2 kf17 kf1 h18 n0 (Nat.le_trans Z0 K18.1) ((Fs.other W16 (Or.inr (sn18_42 hw))).other W18 (Or.inr (sn18_31 hw))) ((V_s.other W16 hne.2.1).other W18 hne.2.1) (by decide) hW (by have q := hFA17.1; have q2 := hFA1.1; omega) (by have q := hFA1.1; omega)) hZ (wd46 hw) (wd6 hw) (by decide) (by decide)) (g := (mkF m 76 #[.val (.ref a0), .val (.long q1), .second, .val (.long q2), .second, .val (.int kf1)] [(.int kf1), (.int kf17), (.double (FP.l2d (0 : Int64))), (.ref a0), (.ref a0)])) rfl (by rw [hml]; rfl) (Steps.refl _) (a := a0) (by rw [e19]; exact qe20) qe20' (argsL := [(.double (FP.l2d (0 : Int64))), (.int kf17), (.int kf1)]) (rest := [(.ref a0)]) (lenOf pd_6 rfl) rfl (by show 2 * 0 + _ ≤ _; exact Nat.le_of_eq rfl) (hb hby d5_76) (fun _ _ => ⟨rfl, e19, (by decide : 0 + 0 ≤ _), (by decide : 0 + 0 ≤ _)⟩)
        dsimp only [Pt.U, Pt.locs, Pt.cells, Pt.slots] at X20 l20 y20 z20 st20 hQ20
        subst l20 y20 z20
        obtain ⟨hv20, N20q, e20⟩ := hQ20
        have hz20 : (0 : Int64) + own_S w0 w1 w2 kf17 kf1 = (own_S w0 w1 w2 kf17 kf1) := Int64.zero_add _
        rw [hz20] at hv20
        subst hv20
        have N20 := Fr.app N18 N20q
        refine own_by (A' := T20.setTop (mkF m 79 #[.val (.ref a0), .val (.long q1), .second, .val (.long q2), .second, .val (.int kf1)] [(.double (FP.l2d (own_S w0 w1 w2 kf17 kf1))), (.ref a0)])) (fun t kt => st20.trans kt) ?_
        obtain ⟨T21, h21, X21, e21, W21, st21⟩ := putF X20 hx hZ hown (host := "") (Or.inl (wd47 hw)) Via.refl e20 ((FS.other W16 (Or.inr (sn48_42 hw))).other W18 (Or.inr (sn48_31 hw))) ((E_a0.wr W16).wr W18) (Or.inl (wd48 hw)) (wd5 hw) (ty := .double) (by decide) rfl rfl (g := (mkF m 79 #[.val (.ref a0), .val (.long q1), .second, .val (.long q2), .second, .val (.int kf1)] [(.double (FP.l2d (own_S w0 w1 w2 kf17 kf1))), (.ref a0)])) rfl rfl (hb hby d5_79)
        have F21 := Fld.same W21 ((FS.other W16 (Or.inr (sn48_42 hw))).other W18 (Or.inr (sn48_31 hw)))
        have N21 := Fr.snoc X21 N20 g_a0
        have K21 : Keep h0 h21 [a0] := K18.wr W21 (Or.inl (List.mem_of_getElem? (i := 0) rfl))
        refine own_by (A' := T21.setTop (mkF m 85 #[.val (.ref a0), .val (.long q1), .second, .val (.long q2), .second, .val (.int kf1)] [(.int kf1), (.ref a0)])) (fun t kt => ?_) ?_
        · refine st21 t ?_
          refine XS.aloadN X21.here hx rfl (hb hby d5_82) rfl rfl ?_
          refine XS.iload X21.here hx rfl (hb hby d5_83) rfl ?_
          exact kt
        obtain ⟨T22, h22, X22, e22, W22, st22⟩ := putF X21 hx hZ hown (host := "") (Or.inl (wd19 hw)) Via.refl e21 (((FG.other W16 (Or.inr (sn20_42 hw))).other W18 (Or.inr (sn20_31 hw))).other W21 (Or.inr (sn20_48 hw))) (((E_a0.wr W16).wr W18).wr W21) (Or.inl (wd20 hw)) (wd5 hw) (ty := .int) (by decide) rfl rfl (g := (mkF m 85 #[.val (.ref a0), .val (.long q1), .second, .val (.long q2), .second, .val (.int kf1)] [(.int kf1), (.ref a0)])) rfl rfl (hb hby d5_85)
        have F22 := Fld.same W22 (((FG.other W16 (Or.inr (sn20_42 hw))).other W18 (Or.inr (sn20_31 hw))).other W21 (Or.inr (sn20_48 hw)))
        have N22 := Fr.snoc X22 N21 g_a0
        have K22 : Keep h0 h22 [a0] := K21.wr W22 (Or.inl (List.mem_of_getElem? (i := 0) rfl))
        refine own_by (A' := T22.setTop (mkF m 89 #[.val (.ref a0), .val (.long q1), .second, .val (.long q2), .second, .val (.int kf1)] [(.ref a0)])) (fun t kt => ?_) ?_
        · refine st22 t ?_
          refine XS.aloadN X22.here hx rfl (hb hby d5_88) rfl rfl ?_
          exact kt
        obtain ⟨T23, X23, e23, st23⟩ := getF X22 hx hZ hown (host := "") (Or.inl (wd47 hw)) Via.refl e22 (F21.other W22 (Or.inr (sn48_20 hw))) (g := (mkF m 89 #[.val (.ref a0), .val (.long q1), .second, .val (.long q2), .second, .val (.int kf1)] [(.ref a0)])) rfl rfl (hb hby d5_89)
        refine own_by (A' := T23.setTop (mkF m 92 #[.val (.ref a0), .val (.long q1), .second, .val (.long q2), .second, .val (.int kf1)] [(.double (FP.l2d (own_S w0 w1 w2 kf17 kf1)))])) (fun t kt => st23 t kt) ?_
        obtain ⟨fs, hr, hrun, hended, hW, hsame⟩ := X23.leave (v := some (.double (FP.l2d (own_S w0 w1 w2 kf17 kf1)))) (fun h => by rw [Bd.returns] at h; cases h)
        refine ⟨_, _, ?_, hrun, hended, _, _, rfl, ?_, ⟨_, rfl⟩, hW, hsame.mono (by decide) (by decide)⟩
        · exact own_retD X23 hx Bd.returns (hb hby d5_92) hr
        · show QBe Z a0 tt ss f n t0 t1 t2 w0 w1 w2 q1 q2 h0 n0 _ T23.heap _
          rw [e23]
          exact ⟨kf17, kf1, rfl, N22, K22, hFA17, hFA1, ⟨hne, ((((E_a0.wr W16).wr W18).wr W21).wr W22), ((((Ft.other W16 (Or.inr (sn15_42 hw))).other W18 (Or.inr (sn15_31 hw))).other W21 (Or.inr (sn15_48 hw))).other W22 (Or.inr (sn15_20 hw))), ((((Fs.other W16 (Or.inr (sn18_42 hw))).other W18 (Or.inr (sn18_31 hw))).other W21 (Or.inr (sn18_48 hw))).other W22 (Or.inr (sn18_20 hw))), ((((Ff.other W16 (Or.inr (sn27_42 hw))).other W18 (Or.inr (sn27_31 hw))).other W21 (Or.inr (sn27_48 hw))).other W22 (Or.inr (sn27_20 hw))), ((((Fe.other W16 (Or.inr (sn29_42 hw))).other W18 (Or.inr (sn29_31 hw))).other W21 (Or.inr (sn29_48 hw))).other W22 (Or.inr (sn29_20 hw))), (((F16.other W18 (Or.inr (sn42_31 hw))).other W21 (Or.inr (sn42_48 hw))).other W22 (Or.inr (sn42_20 hw))), ((F18.other W21 (Or.inr (sn31_48 hw))).other W22 (Or.inr (sn31_20 hw))), F22, (F21.other W22 (Or.inr (sn48_20 hw))), ((((V_t.other W16 hne.1).other W18 hne.1).other W21 hne.1).other W22 hne.1), ((((V_s.other W16 hne.2.1).other W18 hne.2.1).other W21 hne.2.1).other W22 hne.2.1)⟩⟩
      · refine own_by (A' := T14.setTop (mkF m 32 #[.val (.ref a0), .val (.long q1), .second, .val (.long q2), .second, .val (.int kf1)] [])) (fun t kt => ?_) ?_
        · refine XS.icmpNo X14.here hx rfl (hb hby d5_29) rfl (flt hc29_15).2.2.1 ?_
          exact kt
        have hG0 : ¬ G.toInt < 0 := fun q => hc20_5 (by rw [Int32.lt_iff_toInt_lt]; exact q)
        obtain ⟨hFF, hFG, hGn, hSmE⟩ := hCI.resolve_left hG0
        have hGk : G.toInt ≤ kf1.toInt := by have q := hc29_15; rw [Int32.lt_iff_toInt_lt] at q; omega
        have q1k := hFA1.1
        have q2k := hFF.1
        have hSa : Sm + own_S w0 w1 w2 G kf1 = own_S w0 w1 w2 F kf1 := by rw [hSmE]; exact own_Sadd (by omega) (by omega) (by omega) hFG hGk
        have hSm : 0 ≤ Sm.toInt ∧ Sm.toInt ≤ 7 := by rw [hSmE]; exact ⟨(own_Sb F G hW).1, (own_Sb F G hW).2.1⟩
        subst hc13_3
        refine own_by (A' := T14.setTop (mkF m 35 #[.val (.ref a0), .val (.long q1), .second, .val (.long q2), .second, .val (.int kf1)] [(.ref a0), (.ref a0), (.ref a0)])) (fun t kt => ?_) ?_
        · refine XS.aloadN X14.here hx rfl (hb hby d5_32) rfl rfl ?_
          refine XS.aloadN X14.here hx rfl (hb hby d5_33) rfl rfl ?_
          refine XS.aloadN X14.here hx rfl (hb hby d5_34) rfl rfl ?_
          exact kt
        obtain ⟨T24, X24, e24, st24⟩ := getF X14 hx hZ hown (host := "") (Or.inl (wd47 hw)) Via.refl e14 FS (g := (mkF m 35 #[.val (.ref a0), .val (.long q1), .second, .val (.long q2), .second, .val (.int kf1)] [(.ref a0), (.ref a0), (.ref a0)])) rfl rfl (hb hby d5_35)
        refine own_by (A' := T24.setTop (mkF m 39 #[.val (.ref a0), .val (.long q1), .second, .val (.long q2), .second, .val (.int kf1)] [(.ref a0), (.double (FP.l2d Sm)), (.ref a0), (.ref a0)])) (fun t kt => ?_) ?_
        · refine st24 t ?_
          refine XS.aloadN X24.here hx rfl (hb hby d5_38) rfl rfl ?_
          exact kt
        obtain ⟨T25, X25, e25, st25⟩ := getF X24 hx hZ hown (host := "") (Or.inl (wd19 hw)) Via.refl e24 FG (g := (mkF m 39 #[.val (.ref a0), .val (.long q1), .second, .val (.long q2), .second, .val (.int kf1)] [(.ref a0), (.double (FP.l2d Sm)), (.ref a0), (.ref a0)])) rfl rfl (hb hby d5_39)
        refine own_by (A' := T25.setTop (mkF m 44 #[.val (.ref a0), .val (.long q1), .second, .val (.long q2), .second, .val (.int kf1)] [(.int kf1), (.int G), (.double (FP.l2d Sm)), (.ref a0), (.ref a0)])) (fun t kt => ?_) ?_
        · refine st25 t ?_
          refine XS.iload X25.here hx rfl (hb hby d5_42) rfl ?_
          exact kt
        obtain ⟨cq26, qe26, qe26'⟩ := (E_a0).cell
        obtain ⟨ci26, ki26, hci26, hki26, -, hni26, -⟩ := Cond.instantiable_spec (mvT (args := #[]) hZ (wd5 hw))
        obtain ⟨_, _, ⟨T26, L26, k26, n26⟩, -, X26, ⟨Lc26, hQ26, l26, y26, z26⟩, st26⟩ := X25.privateBack hx (y := (⟨"com/example/fairshed/fairshed/shedding/SicByTime", "sum", "(DII)D"⟩ : MethodName)) hown (mvT hZ (wd43 hw)) (mvT hZ (wd44 hw)) (selects_self_of_private hci26 hki26 (Bool.or_eq_false_iff.mp hni26).1 (Cond.privateMethod_at (mvP hZ (wd45 hw) (args := #[]))) (mvT hZ (wd44 hw)) (by decide)) (Cond.privateMethod_at (mvP hZ (wd45 hw) (args := #[]))) (mvT hZ (wd46 hw)) (by decide) (backOf (W := 1) (rmSu l Z aw hw [] a0 Sm ss w0 w1 w2 G kf1 h0 n0 (Nat.le_trans Z0 K0.1) Fs V_s hSm hW (by have q := hFA1.1; have q2 := hGk; omega) (by have q := hFA1.1; omega)) hZ (wd46 hw) (wd6 hw) (by decide) (by decide)) (g := (mkF m 44 #[.val (.ref a0), .val (.long q1), .second, .val (.long q2), .second, .val (.int kf1)] [(.int kf1), (.int G), (.double (FP.l2d Sm)), (.ref a0), (.ref a0)])) rfl (by rw [hml]; rfl) (Steps.refl _) (a := a0) (by rw [e25]; exact qe26) qe26' (argsL := [(.double (FP.l2d Sm)), (.int G), (.int kf1)]) (rest := [(.ref a0)]) (lenOf pd_6 rfl) rfl (by show 2 * 0 + _ ≤ _; exact Nat.le_of_eq rfl) (hb hby d5_44) (fun _ _ => ⟨rfl, e25, (by decide : 0 + 0 ≤ _), (by decide : 0 + 0 ≤ _)⟩)
        dsimp only [Pt.U, Pt.locs, Pt.cells, Pt.slots] at X26 l26 y26 z26 st26 hQ26
        subst l26 y26 z26
        obtain ⟨hv26, N26q, e26⟩ := hQ26
        have hz26 : Sm + own_S w0 w1 w2 G kf1 = (own_S w0 w1 w2 F kf1) := hSa
        rw [hz26] at hv26
        subst hv26
        have N26 := Fr.app N1 N26q
        refine own_by (A' := T26.setTop (mkF m 47 #[.val (.ref a0), .val (.long q1), .second, .val (.long q2), .second, .val (.int kf1)] [(.double (FP.l2d (own_S w0 w1 w2 F kf1))), (.ref a0)])) (fun t kt => st26.trans kt) ?_
        obtain ⟨T27, h27, X27, e27, W27, st27⟩ := putF X26 hx hZ hown (host := "") (Or.inl (wd47 hw)) Via.refl e26 FS E_a0 (Or.inl (wd48 hw)) (wd5 hw) (ty := .double) (by decide) rfl rfl (g := (mkF m 47 #[.val (.ref a0), .val (.long q1), .second, .val (.long q2), .second, .val (.int kf1)] [(.double (FP.l2d (own_S w0 w1 w2 F kf1))), (.ref a0)])) rfl rfl (hb hby d5_47)
        have F27 := Fld.same W27 FS
        have N27 := Fr.snoc X27 N26 g_a0
        have K27 : Keep h0 h27 [a0] := K0.wr W27 (Or.inl (List.mem_of_getElem? (i := 0) rfl))
        refine own_by (A' := T27.setTop (mkF m 85 #[.val (.ref a0), .val (.long q1), .second, .val (.long q2), .second, .val (.int kf1)] [(.int kf1), (.ref a0)])) (fun t kt => ?_) ?_
        · refine st27 t ?_
          refine XS.goto X27.here hx rfl (pc0 := 50) (pc' := 82) rfl (hb hby d5_50) (by decide) (by decide) ?_
          refine XS.aloadN X27.here hx rfl (hb hby d5_82) rfl rfl ?_
          refine XS.iload X27.here hx rfl (hb hby d5_83) rfl ?_
          exact kt
        obtain ⟨T28, h28, X28, e28, W28, st28⟩ := putF X27 hx hZ hown (host := "") (Or.inl (wd19 hw)) Via.refl e27 (FG.other W27 (Or.inr (sn20_48 hw))) (E_a0.wr W27) (Or.inl (wd20 hw)) (wd5 hw) (ty := .int) (by decide) rfl rfl (g := (mkF m 85 #[.val (.ref a0), .val (.long q1), .second, .val (.long q2), .second, .val (.int kf1)] [(.int kf1), (.ref a0)])) rfl rfl (hb hby d5_85)
        have F28 := Fld.same W28 (FG.other W27 (Or.inr (sn20_48 hw)))
        have N28 := Fr.snoc X28 N27 g_a0
        have K28 : Keep h0 h28 [a0] := K27.wr W28 (Or.inl (List.mem_of_getElem? (i := 0) rfl))
        refine own_by (A' := T28.setTop (mkF m 89 #[.val (.ref a0), .val (.long q1), .second, .val (.long q2), .second, .val (.int kf1)] [(.ref a0)])) (fun t kt => ?_) ?_
        · refine st28 t ?_
          refine XS.aloadN X28.here hx rfl (hb hby d5_88) rfl rfl ?_
          exact kt
        obtain ⟨T29, X29, e29, st29⟩ := getF X28 hx hZ hown (host := "") (Or.inl (wd47 hw)) Via.refl e28 (F27.other W28 (Or.inr (sn48_20 hw))) (g := (mkF m 89 #[.val (.ref a0), .val (.long q1), .second, .val (.long q2), .second, .val (.int kf1)] [(.ref a0)])) rfl rfl (hb hby d5_89)
        refine own_by (A' := T29.setTop (mkF m 92 #[.val (.ref a0), .val (.long q1), .second, .val (.long q2), .second, .val (.int kf1)] [(.double (FP.l2d (own_S w0 w1 w2 F kf1)))])) (fun t kt => st29 t kt) ?_
        obtain ⟨fs, hr, hrun, hended, hW, hsame⟩ := X29.leave (v := some (.double (FP.l2d (own_S w0 w1 w2 F kf1)))) (fun h => by rw [Bd.returns] at h; cases h)
        refine ⟨_, _, ?_, hrun, hended, _, _, rfl, ?_, ⟨_, rfl⟩, hW, hsame.mono (by decide) (by decide)⟩
        · exact own_retD X29 hx Bd.returns (hb hby d5_92) hr
        · show QBe Z a0 tt ss f n t0 t1 t2 w0 w1 w2 q1 q2 h0 n0 _ T29.heap _
          rw [e29]
          exact ⟨F, kf1, rfl, N28, K28, hFF, hFA1, ⟨hne, ((E_a0.wr W27).wr W28), ((Ft.other W27 (Or.inr (sn15_48 hw))).other W28 (Or.inr (sn15_20 hw))), ((Fs.other W27 (Or.inr (sn18_48 hw))).other W28 (Or.inr (sn18_20 hw))), ((Ff.other W27 (Or.inr (sn27_48 hw))).other W28 (Or.inr (sn27_20 hw))), ((Fe.other W27 (Or.inr (sn29_48 hw))).other W28 (Or.inr (sn29_20 hw))), ((FU.other W27 (Or.inr (sn42_48 hw))).other W28 (Or.inr (sn42_20 hw))), ((FF.other W27 (Or.inr (sn31_48 hw))).other W28 (Or.inr (sn31_20 hw))), F28, (F27.other W28 (Or.inr (sn48_20 hw))), ((V_t.other W27 hne.1).other W28 hne.1), ((V_s.other W27 hne.2.1).other W28 hne.2.1)⟩⟩
  · refine own_by (A' := T2.setTop (mkF m 55 #[.val (.ref a0), .val (.long q1), .second, .val (.long q2), .second, .val (.int kf1)] [(.long q1), (.ref a0)])) (fun t kt => ?_) ?_
    · refine XS.ifYes X2.here hx rfl (pc0 := 13) (pc' := 53) rfl (hb hby d5_13) rfl ((if0 _ _).trans (feq (fun q => hc13_3 ((lw_eq _ _).mp q))).2) (by decide) (by decide) ?_
      refine XS.aloadN X2.here hx rfl (hb hby d5_53) rfl rfl ?_
      refine XS.lloadN X2.here hx rfl (hb hby d5_54) rfl ?_
      exact kt
    obtain ⟨T30, h30, X30, e30, W30, st30⟩ := putF X2 hx hZ hown (host := "") (Or.inl (wd41 hw)) Via.refl e2 FU E_a0 (Or.inl (wd42 hw)) (wd5 hw) (ty := .long) (by decide) rfl rfl (g := (mkF m 55 #[.val (.ref a0), .val (.long q1), .second, .val (.long q2), .second, .val (.int kf1)] [(.long q1), (.ref a0)])) rfl rfl (hb hby d5_55)
    have F30 := Fld.same W30 FU
    have N30 := Fr.snoc X30 N1 g_a0
    have K30 : Keep h0 h30 [a0] := K0.wr W30 (Or.inl (List.mem_of_getElem? (i := 0) rfl))
    refine own_by (A' := T30.setTop (mkF m 61 #[.val (.ref a0), .val (.long q1), .second, .val (.long q2), .second, .val (.int kf1)] [(.long q1), (.ref a0), (.ref a0)])) (fun t kt => ?_) ?_
    · refine st30 t ?_
      refine XS.aloadN X30.here hx rfl (hb hby d5_58) rfl rfl ?_
      refine XS.aloadN X30.here hx rfl (hb hby d5_59) rfl rfl ?_
      refine XS.lloadN X30.here hx rfl (hb hby d5_60) rfl ?_
      exact kt
    obtain ⟨cq31, qe31, qe31'⟩ := ((E_a0.wr W30)).cell
    obtain ⟨ci31, ki31, hci31, hki31, -, hni31, -⟩ := Cond.instantiable_spec (mvT (args := #[]) hZ (wd5 hw))
    obtain ⟨_, _, ⟨T31, L31, k31, n31⟩, -, X31, ⟨Lc31, hQ31, l31, y31, z31⟩, st31⟩ := X30.privateBack hx (y := (⟨"com/example/fairshed/fairshed/shedding/SicByTime", "firstAfter", "(J)I"⟩ : MethodName)) hown (mvT hZ (wd37 hw)) (mvT hZ (wd38 hw)) (selects_self_of_private hci31 hki31 (Bool.or_eq_false_iff.mp hni31).1 (Cond.privateMethod_at (mvP hZ (wd39 hw) (args := #[]))) (mvT hZ (wd38 hw)) (by decide)) (Cond.privateMethod_at (mvP hZ (wd39 hw) (args := #[]))) (mvT hZ (wd40 hw)) (by decide) (backOf (W := 1) (rmFAu l Z aw hw [] a0 q1 tt t0 t1 t2 f n h30 n0 (Nat.le_trans Z0 K30.1) (Ft.other W30 (Or.inr (sn15_42 hw))) (Ff.other W30 (Or.inr (sn27_42 hw))) (Fe.other W30 (Or.inr (sn29_42 hw))) (V_t.other W30 hne.1) hfn hs) hZ (wd40 hw) (wd6 hw) (by decide) (by decide)) (g := (mkF m 61 #[.val (.ref a0), .val (.long q1), .second, .val (.long q2), .second, .val (.int kf1)] [(.long q1), (.ref a0), (.ref a0)])) rfl (by rw [hml]; rfl) (Steps.refl _) (a := a0) (by rw [e30]; exact qe31) qe31' (argsL := [(.long q1)]) (rest := [(.ref a0)]) (lenOf pd_5 rfl) rfl (by show 2 * 0 + _ ≤ _; exact Nat.le_of_eq rfl) (hb hby d5_61) (fun _ _ => ⟨rfl, e30, (by decide : 0 + 0 ≤ _), (by decide : 0 + 0 ≤ _)⟩)
    dsimp only [Pt.U, Pt.locs, Pt.cells, Pt.slots] at X31 l31 y31 z31 st31 hQ31
    subst l31 y31 z31
    obtain ⟨kf31, rfl, hFA31, N31q, e31⟩ := hQ31
    have N31 := Fr.app N30 N31q
    refine own_by (A' := T31.setTop (mkF m 64 #[.val (.ref a0), .val (.long q1), .second, .val (.long q2), .second, .val (.int kf1)] [(.int kf31), (.ref a0)])) (fun t kt => st31.trans kt) ?_
    obtain ⟨T32, h32, X32, e32, W32, st32⟩ := putF X31 hx hZ hown (host := "") (Or.inl (wd30 hw)) Via.refl e31 (FF.other W30 (Or.inr (sn31_42 hw))) (E_a0.wr W30) (Or.inl (wd31 hw)) (wd5 hw) (ty := .int) (by decide) rfl rfl (g := (mkF m 64 #[.val (.ref a0), .val (.long q1), .second, .val (.long q2), .second, .val (.int kf1)] [(.int kf31), (.ref a0)])) rfl rfl (hb hby d5_64)
    have F32 := Fld.same W32 (FF.other W30 (Or.inr (sn31_42 hw)))
    have N32 := Fr.snoc X32 N31 g_a0
    have K32 : Keep h0 h32 [a0] := K30.wr W32 (Or.inl (List.mem_of_getElem? (i := 0) rfl))
    refine own_by (A' := T32.setTop (mkF m 71 #[.val (.ref a0), .val (.long q1), .second, .val (.long q2), .second, .val (.int kf1)] [(.ref a0), (.double (FP.l2d (0 : Int64))), (.ref a0), (.ref a0)])) (fun t kt => ?_) ?_
    · refine st32 t ?_
      refine XS.aloadN X32.here hx rfl (hb hby d5_67) rfl rfl ?_
      refine XS.aloadN X32.here hx rfl (hb hby d5_68) rfl rfl ?_
      refine XS.dconst0 X32.here hx rfl (hb hby d5_69) (v := FP.l2d (0 : Int64)) (by decide +kernel) ?_
      refine XS.aloadN X32.here hx rfl (hb hby d5_70) rfl rfl ?_
      exact kt
    obtain ⟨T33, X33, e33, st33⟩ := getF X32 hx hZ hown (host := "") (Or.inl (wd30 hw)) Via.refl e32 F32 (g := (mkF m 71 #[.val (.ref a0), .val (.long q1), .second, .val (.long q2), .second, .val (.int kf1)] [(.ref a0), (.double (FP.l2d (0 : Int64))), (.ref a0), (.ref a0)])) rfl rfl (hb hby d5_71)
    refine own_by (A' := T33.setTop (mkF m 76 #[.val (.ref a0), .val (.long q1), .second, .val (.long q2), .second, .val (.int kf1)] [(.int kf1), (.int kf31), (.double (FP.l2d (0 : Int64))), (.ref a0), (.ref a0)])) (fun t kt => ?_) ?_
    · refine st33 t ?_
      refine XS.iload X33.here hx rfl (hb hby d5_74) rfl ?_
      exact kt
    obtain ⟨cq34, qe34, qe34'⟩ := (((E_a0.wr W30).wr W32)).cell
    obtain ⟨ci34, ki34, hci34, hki34, -, hni34, -⟩ := Cond.instantiable_spec (mvT (args := #[]) hZ (wd5 hw))
    obtain ⟨_, _, ⟨T34, L34, k34, n34⟩, -, X34, ⟨Lc34, hQ34, l34, y34, z34⟩, st34⟩ := X33.privateBack hx (y := (⟨"com/example/fairshed/fairshed/shedding/SicByTime", "sum", "(DII)D"⟩ : MethodName)) hown (mvT hZ (wd43 hw)) (mvT hZ (wd44 hw)) (selects_self_of_private hci34 hki34 (Bool.or_eq_false_iff.mp hni34).1 (Cond.privateMethod_at (mvP hZ (wd45 hw) (args := #[]))) (mvT hZ (wd44 hw)) (by decide)) (Cond.privateMethod_at (mvP hZ (wd45 hw) (args := #[]))) (mvT hZ (wd46 hw)) (by decide) (backOf (W := 1) (rmSu l Z aw hw [] a0 (0 : Int64) ss w0 w1 w2 kf31 kf1 h32 n0 (Nat.le_trans Z0 K32.1) ((Fs.other W30 (Or.inr (sn18_42 hw))).other W32 (Or.inr (sn18_31 hw))) ((V_s.other W30 hne.2.1).other W32 hne.2.1) (by decide) hW (by have q := hFA31.1; have q2 := hFA1.1; omega) (by have q := hFA1.1; omega)) hZ (wd46 hw) (wd6 hw) (by decide) (by decide)) (g := (mkF m 76 #[.val (.ref a0), .val (.long q1), .second, .val (.long q2), .second, .val (.int kf1)] [(.int kf1), (.int kf31), (.double (FP.l2d (0 : Int64))), (.ref a0), (.ref a0)])) rfl (by rw [hml]; rfl) (Steps.refl _) (a := a0) (by rw [e33]; exact qe34) qe34' (argsL := [(.double (FP.l2d (0 : Int64))), (.int kf31), (.int kf1)]) (rest := [(.ref a0)]) (lenOf pd_6 rfl) rfl (by show 2 * 0 + _ ≤ _; exact Nat.le_of_eq rfl) (hb hby d5_76) (fun _ _ => ⟨rfl, e33, (by decide : 0 + 0 ≤ _), (by decide : 0 + 0 ≤ _)⟩)
    dsimp only [Pt.U, Pt.locs, Pt.cells, Pt.slots] at X34 l34 y34 z34 st34 hQ34
    subst l34 y34 z34
    obtain ⟨hv34, N34q, e34⟩ := hQ34
    have hz34 : (0 : Int64) + own_S w0 w1 w2 kf31 kf1 = (own_S w0 w1 w2 kf31 kf1) := Int64.zero_add _
    rw [hz34] at hv34
    subst hv34
    have N34 := Fr.app N32 N34q
    refine own_by (A' := T34.setTop (mkF m 79 #[.val (.ref a0), .val (.long q1), .second, .val (.long q2), .second, .val (.int kf1)] [(.double (FP.l2d (own_S w0 w1 w2 kf31 kf1))), (.ref a0)])) (fun t kt => st34.trans kt) ?_
    obtain ⟨T35, h35, X35, e35, W35, st35⟩ := putF X34 hx hZ hown (host := "") (Or.inl (wd47 hw)) Via.refl e34 ((FS.other W30 (Or.inr (sn48_42 hw))).other W32 (Or.inr (sn48_31 hw))) ((E_a0.wr W30).wr W32) (Or.inl (wd48 hw)) (wd5 hw) (ty := .double) (by decide) rfl rfl (g := (mkF m 79 #[.val (.ref a0), .val (.long q1), .second, .val (.long q2), .second, .val (.int kf1)] [(.double (FP.l2d (own_S w0 w1 w2 kf31 kf1))), (.ref a0)])) rfl rfl (hb hby d5_79)
    have F35 := Fld.same W35 ((FS.other W30 (Or.inr (sn48_42 hw))).other W32 (Or.inr (sn48_31 hw)))
    have N35 := Fr.snoc X35 N34 g_a0
    have K35 : Keep h0 h35 [a0] := K32.wr W35 (Or.inl (List.mem_of_getElem? (i := 0) rfl))
    refine own_by (A' := T35.setTop (mkF m 85 #[.val (.ref a0), .val (.long q1), .second, .val (.long q2), .second, .val (.int kf1)] [(.int kf1), (.ref a0)])) (fun t kt => ?_) ?_
    · refine st35 t ?_
      refine XS.aloadN X35.here hx rfl (hb hby d5_82) rfl rfl ?_
      refine XS.iload X35.here hx rfl (hb hby d5_83) rfl ?_
      exact kt
    obtain ⟨T36, h36, X36, e36, W36, st36⟩ := putF X35 hx hZ hown (host := "") (Or.inl (wd19 hw)) Via.refl e35 (((FG.other W30 (Or.inr (sn20_42 hw))).other W32 (Or.inr (sn20_31 hw))).other W35 (Or.inr (sn20_48 hw))) (((E_a0.wr W30).wr W32).wr W35) (Or.inl (wd20 hw)) (wd5 hw) (ty := .int) (by decide) rfl rfl (g := (mkF m 85 #[.val (.ref a0), .val (.long q1), .second, .val (.long q2), .second, .val (.int kf1)] [(.int kf1), (.ref a0)])) rfl rfl (hb hby d5_85)
    have F36 := Fld.same W36 (((FG.other W30 (Or.inr (sn20_42 hw))).other W32 (Or.inr (sn20_31 hw))).other W35 (Or.inr (sn20_48 hw)))
    have N36 := Fr.snoc X36 N35 g_a0
    have K36 : Keep h0 h36 [a0] := K35.wr W36 (Or.inl (List.mem_of_getElem? (i := 0) rfl))
    refine own_by (A' := T36.setTop (mkF m 89 #[.val (.ref a0), .val (.long q1), .second, .val (.long q2), .second, .val (.int kf1)] [(.ref a0)])) (fun t kt => ?_) ?_
    · refine st36 t ?_
      refine XS.aloadN X36.here hx rfl (hb hby d5_88) rfl rfl ?_
      exact kt
    obtain ⟨T37, X37, e37, st37⟩ := getF X36 hx hZ hown (host := "") (Or.inl (wd47 hw)) Via.refl e36 (F35.other W36 (Or.inr (sn48_20 hw))) (g := (mkF m 89 #[.val (.ref a0), .val (.long q1), .second, .val (.long q2), .second, .val (.int kf1)] [(.ref a0)])) rfl rfl (hb hby d5_89)
    refine own_by (A' := T37.setTop (mkF m 92 #[.val (.ref a0), .val (.long q1), .second, .val (.long q2), .second, .val (.int kf1)] [(.double (FP.l2d (own_S w0 w1 w2 kf31 kf1)))])) (fun t kt => st37 t kt) ?_
    obtain ⟨fs, hr, hrun, hended, hW, hsame⟩ := X37.leave (v := some (.double (FP.l2d (own_S w0 w1 w2 kf31 kf1)))) (fun h => by rw [Bd.returns] at h; cases h)
    refine ⟨_, _, ?_, hrun, hended, _, _, rfl, ?_, ⟨_, rfl⟩, hW, hsame.mono (by decide) (by decide)⟩
    · exact own_retD X37 hx Bd.returns (hb hby d5_92) hr
    · show QBe Z a0 tt ss f n t0 t1 t2 w0 w1 w2 q1 q2 h0 n0 _ T37.heap _
      rw [e37]
      exact ⟨kf31, kf1, rfl, N36, K36, hFA31, hFA1, ⟨hne, ((((E_a0.wr W30).wr W32).wr W35).wr W36), ((((Ft.other W30 (Or.inr (sn15_42 hw))).other W32 (Or.inr (sn15_31 hw))).other W35 (Or.inr (sn15_48 hw))).other W36 (Or.inr (sn15_20 hw))), ((((Fs.other W30 (Or.inr (sn18_42 hw))).other W32 (Or.inr (sn18_31 hw))).other W35 (Or.inr (sn18_48 hw))).other W36 (Or.inr (sn18_20 hw))), ((((Ff.other W30 (Or.inr (sn27_42 hw))).other W32 (Or.inr (sn27_31 hw))).other W35 (Or.inr (sn27_48 hw))).other W36 (Or.inr (sn27_20 hw))), ((((Fe.other W30 (Or.inr (sn29_42 hw))).other W32 (Or.inr (sn29_31 hw))).other W35 (Or.inr (sn29_48 hw))).other W36 (Or.inr (sn29_20 hw))), (((F30.other W32 (Or.inr (sn42_31 hw))).other W35 (Or.inr (sn42_48 hw))).other W36 (Or.inr (sn42_20 hw))), ((F32.other W35 (Or.inr (sn31_48 hw))).other W36 (Or.inr (sn31_20 hw))), F36, (F35.other W36 (Or.inr (sn48_20 hw))), ((((V_t.other W30 hne.1).other W32 hne.1).other W35 hne.1).other W36 hne.1), ((((V_s.other W30 hne.2.1).other W32 hne.2.1).other W35 hne.2.1).other W36 hne.2.1)⟩⟩
def own_Wt (n : Int32) (t0 t1 t2 w0 w1 w2 lo hi : Int64) : Int := (if 0 < n.toInt ∧ lo < t0 ∧ ¬ hi < t0 then w0.toInt else 0) + (if 1 < n.toInt ∧ lo < t1 ∧ ¬ hi < t1 then w1.toInt else 0) + (if 2 < n.toInt ∧ lo < t2 ∧ ¬ hi < t2 then w2.toInt else 0)
def own_Zw (n : Int32) (w0 w1 w2 : Int64) : Prop := (n.toInt ≤ 0 → w0.toInt = 0) ∧ (n.toInt ≤ 1 → w1.toInt = 0) ∧ (n.toInt ≤ 2 → w2.toInt = 0)
def own_AD (n : Int32) (t0 t1 t2 w0 w1 w2 x wt : Int64) (n' : Int32) (t0' t1' t2' w0' w1' w2' : Int64) : Prop := (0 ≤ n'.toInt ∧ n'.toInt ≤ n.toInt + 1) ∧ own_Srt 0 n' t0' t1' t2' ∧ own_Zw n' w0' w1' w2' ∧ (0 ≤ w0'.toInt ∧ 0 ≤ w1'.toInt ∧ 0 ≤ w2'.toInt ∧ w0'.toInt + w1'.toInt + w2'.toInt = w0.toInt + w1.toInt + w2.toInt + wt.toInt) ∧ ∀ lo hi : Int64, own_Wt n' t0' t1' t2' w0' w1' w2' lo hi = own_Wt n t0 t1 t2 w0 w1 w2 lo hi + (if lo < x ∧ ¬ hi < x then wt.toInt else 0)
theorem own_ai00 {t0 t1 t2 w0 w1 w2 x wt : Int64} (hs : own_Srt 0 0 t0 t1 t2) (hF : own_FA 0 0 t0 t1 t2 x 0) (hz : own_Zw 0 w0 w1 w2) (hw : 0 ≤ w0.toInt ∧ 0 ≤ w1.toInt ∧ 0 ≤ w2.toInt ∧ 0 ≤ wt.toInt ∧ w0.toInt + w1.toInt + w2.toInt + wt.toInt ≤ 7) : own_AD 0 t0 t1 t2 w0 w1 w2 x wt 1 x t1 t2 wt w1 w2 := by
  simp only [own_Srt, own_FA, own_Zw, Int64.lt_iff_toInt_lt, Int32.reduceToInt] at hs hF hz
  simp only [own_AD, own_Srt, own_Zw, own_Wt, Int64.lt_iff_toInt_lt, Int32.reduceToInt]
  refine ⟨by omega, by omega, by omega, by omega, fun lo hi => ?_⟩
  repeat' split
  all_goals omega
theorem own_ai10 {t0 t1 t2 w0 w1 w2 x wt : Int64} (hs : own_Srt 0 1 t0 t1 t2) (hF : own_FA 0 1 t0 t1 t2 x 0) (hz : own_Zw 1 w0 w1 w2) (hw : 0 ≤ w0.toInt ∧ 0 ≤ w1.toInt ∧ 0 ≤ w2.toInt ∧ 0 ≤ wt.toInt ∧ w0.toInt + w1.toInt + w2.toInt + wt.toInt ≤ 7) : own_AD 1 t0 t1 t2 w0 w1 w2 x wt 2 x t0 t2 wt w0 w2 := by
  simp only [own_Srt, own_FA, own_Zw, Int64.lt_iff_toInt_lt, Int32.reduceToInt] at hs hF hz
  simp only [own_AD, own_Srt, own_Zw, own_Wt, Int64.lt_iff_toInt_lt, Int32.reduceToInt]
  refine ⟨by omega, by omega, by omega, by omega, fun lo hi => ?_⟩
  repeat' split
  all_goals omega
theorem own_am11 {t0 t1 t2 w0 w1 w2 x wt : Int64} (hs : own_Srt 0 1 t0 t1 t2) (hF : own_FA 0 1 t0 t1 t2 x 1) (hz : own_Zw 1 w0 w1 w2) (hw : 0 ≤ w0.toInt ∧ 0 ≤ w1.toInt ∧ 0 ≤ w2.toInt ∧ 0 ≤ wt.toInt ∧ w0.toInt + w1.toInt + w2.toInt + wt.toInt ≤ 7) (c : t0 = x) : own_AD 1 t0 t1 t2 w0 w1 w2 x wt 1 t0 t1 t2 (w0 + wt) w1 w2 := by
  have e := own_ac (a := w0) (b := wt) (by omega) (by omega)
  subst c
  simp only [own_Srt, own_FA, own_Zw, Int64.lt_iff_toInt_lt, Int32.reduceToInt] at hs hF hz
  simp only [own_AD, own_Srt, own_Zw, own_Wt, Int64.lt_iff_toInt_lt, Int32.reduceToInt]
  refine ⟨by omega, by omega, by omega, by omega, fun lo hi => ?_⟩
  rw [e]
  repeat' split
  all_goals omega
theorem own_ai11 {t0 t1 t2 w0 w1 w2 x wt : Int64} (hs : own_Srt 0 1 t0 t1 t2) (hF : own_FA 0 1 t0 t1 t2 x 1) (hz : own_Zw 1 w0 w1 w2) (hw : 0 ≤ w0.toInt ∧ 0 ≤ w1.toInt ∧ 0 ≤ w2.toInt ∧ 0 ≤ wt.toInt ∧ w0.toInt + w1.toInt + w2.toInt + wt.toInt ≤ 7) (c : ¬ t0 = x) : own_AD 1 t0 t1 t2 w0 w1 w2 x wt 2 t0 x t2 w0 wt w2 := by
  rw [← Int64.toInt_inj] at c
  simp only [own_Srt, own_FA, own_Zw, Int64.lt_iff_toInt_lt, Int32.reduceToInt] at hs hF hz
  simp only [own_AD, own_Srt, own_Zw, own_Wt, Int64.lt_iff_toInt_lt, Int32.reduceToInt]
  refine ⟨by omega, by omega, by omega, by omega, fun lo hi => ?_⟩
  repeat' split
  all_goals omega
theorem own_ai20 {t0 t1 t2 w0 w1 w2 x wt : Int64} (hs : own_Srt 0 2 t0 t1 t2) (hF : own_FA 0 2 t0 t1 t2 x 0) (hz : own_Zw 2 w0 w1 w2) (hw : 0 ≤ w0.toInt ∧ 0 ≤ w1.toInt ∧ 0 ≤ w2.toInt ∧ 0 ≤ wt.toInt ∧ w0.toInt + w1.toInt + w2.toInt + wt.toInt ≤ 7) : own_AD 2 t0 t1 t2 w0 w1 w2 x wt 3 x t0 t1 wt w0 w1 := by
  simp only [own_Srt, own_FA, own_Zw, Int64.lt_iff_toInt_lt, Int32.reduceToInt] at hs hF hz
  simp only [own_AD, own_Srt, own_Zw, own_Wt, Int64.lt_iff_toInt_lt, Int32.reduceToInt]
  refine ⟨by omega, by omega, by omega, by omega, fun lo hi => ?_⟩
  repeat' split
  all_goals omega
theorem own_am21 {t0 t1 t2 w0 w1 w2 x wt : Int64} (hs : own_Srt 0 2 t0 t1 t2) (hF : own_FA 0 2 t0 t1 t2 x 1) (hz : own_Zw 2 w0 w1 w2) (hw : 0 ≤ w0.toInt ∧ 0 ≤ w1.toInt ∧ 0 ≤ w2.toInt ∧ 0 ≤ wt.toInt ∧ w0.toInt + w1.toInt + w2.toInt + wt.toInt ≤ 7) (c : t0 = x) : own_AD 2 t0 t1 t2 w0 w1 w2 x wt 2 t0 t1 t2 (w0 + wt) w1 w2 := by
  have e := own_ac (a := w0) (b := wt) (by omega) (by omega)
  subst c
  simp only [own_Srt, own_FA, own_Zw, Int64.lt_iff_toInt_lt, Int32.reduceToInt] at hs hF hz
  simp only [own_AD, own_Srt, own_Zw, own_Wt, Int64.lt_iff_toInt_lt, Int32.reduceToInt]
  refine ⟨by omega, by omega, by omega, by omega, fun lo hi => ?_⟩
  rw [e]
  repeat' split
  all_goals omega
theorem own_ai21 {t0 t1 t2 w0 w1 w2 x wt : Int64} (hs : own_Srt 0 2 t0 t1 t2) (hF : own_FA 0 2 t0 t1 t2 x 1) (hz : own_Zw 2 w0 w1 w2) (hw : 0 ≤ w0.toInt ∧ 0 ≤ w1.toInt ∧ 0 ≤ w2.toInt ∧ 0 ≤ wt.toInt ∧ w0.toInt + w1.toInt + w2.toInt + wt.toInt ≤ 7) (c : ¬ t0 = x) : own_AD 2 t0 t1 t2 w0 w1 w2 x wt 3 t0 x t1 w0 wt w1 := by
  rw [← Int64.toInt_inj] at c
  simp only [own_Srt, own_FA, own_Zw, Int64.lt_iff_toInt_lt, Int32.reduceToInt] at hs hF hz
  simp only [own_AD, own_Srt, own_Zw, own_Wt, Int64.lt_iff_toInt_lt, Int32.reduceToInt]
  refine ⟨by omega, by omega, by omega, by omega, fun lo hi => ?_⟩
  repeat' split
  all_goals omega
theorem own_am22 {t0 t1 t2 w0 w1 w2 x wt : Int64} (hs : own_Srt 0 2 t0 t1 t2) (hF : own_FA 0 2 t0 t1 t2 x 2) (hz : own_Zw 2 w0 w1 w2) (hw : 0 ≤ w0.toInt ∧ 0 ≤ w1.toInt ∧ 0 ≤ w2.toInt ∧ 0 ≤ wt.toInt ∧ w0.toInt + w1.toInt + w2.toInt + wt.toInt ≤ 7) (c : t1 = x) : own_AD 2 t0 t1 t2 w0 w1 w2 x wt 2 t0 t1 t2 w0 (w1 + wt) w2 := by
  have e := own_ac (a := w1) (b := wt) (by omega) (by omega)
  subst c
  simp only [own_Srt, own_FA, own_Zw, Int64.lt_iff_toInt_lt, Int32.reduceToInt] at hs hF hz
  simp only [own_AD, own_Srt, own_Zw, own_Wt, Int64.lt_iff_toInt_lt, Int32.reduceToInt]
  refine ⟨by omega, by omega, by omega, by omega, fun lo hi => ?_⟩
  rw [e]
  repeat' split
  all_goals omega
theorem own_ai22 {t0 t1 t2 w0 w1 w2 x wt : Int64} (hs : own_Srt 0 2 t0 t1 t2) (hF : own_FA 0 2 t0 t1 t2 x 2) (hz : own_Zw 2 w0 w1 w2) (hw : 0 ≤ w0.toInt ∧ 0 ≤ w1.toInt ∧ 0 ≤ w2.toInt ∧ 0 ≤ wt.toInt ∧ w0.toInt + w1.toInt + w2.toInt + wt.toInt ≤ 7) (c : ¬ t1 = x) : own_AD 2 t0 t1 t2 w0 w1 w2 x wt 3 t0 t1 x w0 w1 wt := by
  rw [← Int64.toInt_inj] at c
  simp only [own_Srt, own_FA, own_Zw, Int64.lt_iff_toInt_lt, Int32.reduceToInt] at hs hF hz
  simp only [own_AD, own_Srt, own_Zw, own_Wt, Int64.lt_iff_toInt_lt, Int32.reduceToInt]
  refine ⟨by omega, by omega, by omega, by omega, fun lo hi => ?_⟩
  repeat' split
  all_goals omega
theorem own_k1 {n f F k t lo hi m u i : Int} (q1 : f ≤ F) (q2 : k ≤ n) (hu : f ≤ i → i < n → u < t) (a3 : i < f → ¬ u < t) (b3 : f ≤ i → i < F → ¬ lo < t) (b6 : F ≤ i → i < n → lo < t) (c3 : f ≤ i → i < k → ¬ hi < t) (c6 : k ≤ i → i < n → hi < t) (hm : (m = lo ∨ m = u) ∧ ¬ m < lo ∧ ¬ m < u) : (F ≤ i ∧ i < k) ↔ (i < n ∧ m < t ∧ ¬ hi < t) := by
  constructor
  · rintro ⟨p, q⟩; have := hu (by omega) (by omega); have := b6 p (by omega); have := c3 (by omega) q; clear hu a3 b3 b6 c3 c6; omega
  · rintro ⟨p, q, r⟩
    refine ⟨Int.not_lt.mp fun y => ?_, Int.not_le.mp fun y => r (c6 y p)⟩
    by_cases z : f ≤ i
    · have := b3 z y; clear hu a3 b3 b6 c3 c6; omega
    · have := a3 (by omega); clear hu a3 b3 b6 c3 c6; omega
theorem own_l1 {f : Int} (p : f ≤ 1) (z : ¬ f = 1) : f ≤ 0 := by omega
theorem own_l2 {f : Int} (p : 1 < f) : 0 < f := by omega
theorem own_l3 {f : Int} (p : f ≤ 2) (z : ¬ f = 2) : f ≤ 1 := by omega
theorem own_l4 {f : Int} (p : 2 < f) : 1 < f := by omega
theorem own_SW {n f F k : Int32} {t0 t1 t2 w0 w1 w2 u lo hi m : Int64} (hs : own_Srt 0 n t0 t1 t2) (hW : 0 ≤ w0.toInt ∧ 0 ≤ w1.toInt ∧ 0 ≤ w2.toInt ∧ w0.toInt + w1.toInt + w2.toInt ≤ 7) (hO : own_FO n t0 t1 t2 u f) (h1 : own_FA f n t0 t1 t2 lo F) (h2 : own_FA f n t0 t1 t2 hi k) (hm : (m = lo ∨ m = u) ∧ ¬ m < lo ∧ ¬ m < u) : (own_S w0 w1 w2 F k).toInt = own_Wt n t0 t1 t2 w0 w1 w2 m hi := by
  rw [(own_Sb F k hW).2.2]
  have e0 : (0 : Int32).toInt = 0 := by decide
  simp only [own_Srt, own_FA, own_FO, own_Wt, Int64.lt_iff_toInt_lt, e0, ← Int64.toInt_inj] at *
  obtain ⟨hs1, hs2⟩ := hs
  obtain ⟨⟨a1, a2⟩, ⟨a3, a4, a5⟩, a6, a7, a8⟩ := hO
  obtain ⟨⟨b1, b2⟩, ⟨b3, b4, b5⟩, b6, b7, b8⟩ := h1
  obtain ⟨⟨c1, c2⟩, ⟨c3, c4, c5⟩, c6, c7, c8⟩ := h2
  have u0 : f.toInt ≤ 0 → 0 < n.toInt → u.toInt < t0.toInt := fun p q => a6 (Int.le_antisymm p a1) q
  have s1 := hs1 (Int.le_refl 0)
  have s2 := hs2 (by decide)
  have u1 : f.toInt ≤ 1 → 1 < n.toInt → u.toInt < t1.toInt := fun p q => by
    by_cases z : f.toInt = 1
    · exact a7 z q
    · exact Int.lt_trans (u0 (own_l1 p z) (own_l2 q)) (s1 q)
  have u2 : f.toInt ≤ 2 → 2 < n.toInt → u.toInt < t2.toInt := fun p q => by
    by_cases z : f.toInt = 2
    · exact a8 z q
    · exact Int.lt_trans (u1 (own_l3 p z) (own_l4 q)) (s2 q)
  have k1 := own_k1 b1 c2 u0 a3 b3 b6 c3 c6 hm
  have k2 := own_k1 b1 c2 u1 a4 b4 b7 c4 c7 hm
  have k3 := own_k1 b1 c2 u2 a5 b5 b8 c5 c8 hm
  simp only [k1, k2, k3, Int.add_assoc]
theorem own_rf0 (x0 x1 x2 lo hi : Int64) : (own_ref 0 x0 x1 x2 lo hi).toInt = 0 := by
  simp [own_ref, own_r]
theorem own_rf1 (x0 x1 x2 lo hi : Int64) : (own_ref 1 x0 x1 x2 lo hi).toInt = (if lo < x0 ∧ ¬ hi < x0 then 1 else 0) := by
  by_cases c0 : lo < x0 <;> by_cases d0 : hi < x0 <;> simp [own_ref, own_r, c0, d0]
theorem own_rf2 (x0 x1 x2 lo hi : Int64) : (own_ref 2 x0 x1 x2 lo hi).toInt = (if lo < x0 ∧ ¬ hi < x0 then 1 else 0) + (if lo < x1 ∧ ¬ hi < x1 then 2 else 0) := by
  by_cases c0 : lo < x0 <;> by_cases d0 : hi < x0 <;> by_cases c1 : lo < x1 <;> by_cases d1 : hi < x1 <;> simp [own_ref, own_r, c0, d0, c1, d1]
theorem own_rf3 (x0 x1 x2 lo hi : Int64) : (own_ref 3 x0 x1 x2 lo hi).toInt = (if lo < x0 ∧ ¬ hi < x0 then 1 else 0) + (if lo < x1 ∧ ¬ hi < x1 then 2 else 0) + (if lo < x2 ∧ ¬ hi < x2 then 4 else 0) := by
  by_cases c0 : lo < x0 <;> by_cases d0 : hi < x0 <;> by_cases c1 : lo < x1 <;> by_cases d1 : hi < x1 <;> by_cases c2 : lo < x2 <;> by_cases d2 : hi < x2 <;> simp [own_ref, own_r, c0, d0, c1, d1, c2, d2]
def own_LI (c : Int32) (tot : Int) (x0 x1 x2 : Int64) (n : Int32) (t0 t1 t2 w0 w1 w2 : Int64) : Prop := (0 ≤ n.toInt ∧ n.toInt ≤ c.toInt) ∧ own_Srt 0 n t0 t1 t2 ∧ own_Zw n w0 w1 w2 ∧ (0 ≤ w0.toInt ∧ 0 ≤ w1.toInt ∧ 0 ≤ w2.toInt ∧ w0.toInt + w1.toInt + w2.toInt = tot) ∧ ∀ lo hi : Int64, own_Wt n t0 t1 t2 w0 w1 w2 lo hi = (own_ref c x0 x1 x2 lo hi).toInt
theorem own_LI0 (x0 x1 x2 : Int64) : own_LI 0 0 x0 x1 x2 0 0 0 0 0 0 0 := by
  refine ⟨by decide, ⟨fun _ q => absurd q (by decide), fun _ q => absurd q (by decide)⟩, ⟨fun _ => rfl, fun _ => rfl, fun _ => rfl⟩, by decide, fun lo hi => ?_⟩
  rw [own_rf0]; simp [own_Wt]
theorem own_LIs0 {x0 x1 x2 : Int64} {n n' : Int32} {t0 t1 t2 w0 w1 w2 t0' t1' t2' w0' w1' w2' : Int64} (I : own_LI 0 0 x0 x1 x2 n t0 t1 t2 w0 w1 w2) (A : own_AD n t0 t1 t2 w0 w1 w2 x0 1 n' t0' t1' t2' w0' w1' w2') : own_LI 1 1 x0 x1 x2 n' t0' t1' t2' w0' w1' w2' := by
  obtain ⟨i1, i2, i3, i4, i5⟩ := I
  obtain ⟨a1, a2, a3, a4, a5⟩ := A
  have ec : (1 : Int64).toInt = 1 := by decide
  simp only [Int32.reduceToInt] at i1 ⊢
  refine ⟨⟨a1.1, ?_⟩, a2, a3, ⟨a4.1, a4.2.1, a4.2.2.1, ?_⟩, fun lo hi => ?_⟩
  · have q := a1.2; have r := i1.2; simp only [Int32.reduceToInt] at r ⊢; clear i5 a5; omega
  · rw [a4.2.2.2, i4.2.2.2, ec]; rfl
  · rw [a5, i5, own_rf0, own_rf1, ec]; rw [Int.zero_add]
theorem own_hw0 {x0 x1 x2 : Int64} {n : Int32} {t0 t1 t2 w0 w1 w2 : Int64} (I : own_LI 0 0 x0 x1 x2 n t0 t1 t2 w0 w1 w2) : (0 ≤ n.toInt ∧ n.toInt ≤ 2) ∧ 0 ≤ w0.toInt ∧ 0 ≤ w1.toInt ∧ 0 ≤ w2.toInt ∧ 0 ≤ (1 : Int64).toInt ∧ w0.toInt + w1.toInt + w2.toInt + (1 : Int64).toInt ≤ 7 := by
  obtain ⟨i1, -, -, i4, -⟩ := I
  simp only [Int32.reduceToInt, Int64.reduceToInt] at *
  omega
theorem own_LIs1 {x0 x1 x2 : Int64} {n n' : Int32} {t0 t1 t2 w0 w1 w2 t0' t1' t2' w0' w1' w2' : Int64} (I : own_LI 1 1 x0 x1 x2 n t0 t1 t2 w0 w1 w2) (A : own_AD n t0 t1 t2 w0 w1 w2 x1 2 n' t0' t1' t2' w0' w1' w2') : own_LI 2 3 x0 x1 x2 n' t0' t1' t2' w0' w1' w2' := by
  obtain ⟨i1, i2, i3, i4, i5⟩ := I
  obtain ⟨a1, a2, a3, a4, a5⟩ := A
  have ec : (2 : Int64).toInt = 2 := by decide
  simp only [Int32.reduceToInt] at i1 ⊢
  refine ⟨⟨a1.1, ?_⟩, a2, a3, ⟨a4.1, a4.2.1, a4.2.2.1, ?_⟩, fun lo hi => ?_⟩
  · have q := a1.2; have r := i1.2; simp only [Int32.reduceToInt] at r ⊢; clear i5 a5; omega
  · rw [a4.2.2.2, i4.2.2.2, ec]; rfl
  · rw [a5, i5, own_rf1, own_rf2, ec]
theorem own_hw1 {x0 x1 x2 : Int64} {n : Int32} {t0 t1 t2 w0 w1 w2 : Int64} (I : own_LI 1 1 x0 x1 x2 n t0 t1 t2 w0 w1 w2) : (0 ≤ n.toInt ∧ n.toInt ≤ 2) ∧ 0 ≤ w0.toInt ∧ 0 ≤ w1.toInt ∧ 0 ≤ w2.toInt ∧ 0 ≤ (2 : Int64).toInt ∧ w0.toInt + w1.toInt + w2.toInt + (2 : Int64).toInt ≤ 7 := by
  obtain ⟨i1, -, -, i4, -⟩ := I
  simp only [Int32.reduceToInt, Int64.reduceToInt] at *
  omega
theorem own_LIs2 {x0 x1 x2 : Int64} {n n' : Int32} {t0 t1 t2 w0 w1 w2 t0' t1' t2' w0' w1' w2' : Int64} (I : own_LI 2 3 x0 x1 x2 n t0 t1 t2 w0 w1 w2) (A : own_AD n t0 t1 t2 w0 w1 w2 x2 4 n' t0' t1' t2' w0' w1' w2') : own_LI 3 7 x0 x1 x2 n' t0' t1' t2' w0' w1' w2' := by
  obtain ⟨i1, i2, i3, i4, i5⟩ := I
  obtain ⟨a1, a2, a3, a4, a5⟩ := A
  have ec : (4 : Int64).toInt = 4 := by decide
  simp only [Int32.reduceToInt] at i1 ⊢
  refine ⟨⟨a1.1, ?_⟩, a2, a3, ⟨a4.1, a4.2.1, a4.2.2.1, ?_⟩, fun lo hi => ?_⟩
  · have q := a1.2; have r := i1.2; simp only [Int32.reduceToInt] at r ⊢; clear i5 a5; omega
  · rw [a4.2.2.2, i4.2.2.2, ec]; rfl
  · rw [a5, i5, own_rf2, own_rf3, ec]
theorem own_hw2 {x0 x1 x2 : Int64} {n : Int32} {t0 t1 t2 w0 w1 w2 : Int64} (I : own_LI 2 3 x0 x1 x2 n t0 t1 t2 w0 w1 w2) : (0 ≤ n.toInt ∧ n.toInt ≤ 2) ∧ 0 ≤ w0.toInt ∧ 0 ≤ w1.toInt ∧ 0 ≤ w2.toInt ∧ 0 ≤ (4 : Int64).toInt ∧ w0.toInt + w1.toInt + w2.toInt + (4 : Int64).toInt ≤ 7 := by
  obtain ⟨i1, -, -, i4, -⟩ := I
  simp only [Int32.reduceToInt, Int64.reduceToInt] at *
  omega
theorem own_hf {c : Int32} {tot : Int} {x0 x1 x2 : Int64} {n : Int32} {t0 t1 t2 w0 w1 w2 : Int64} (I : own_LI c tot x0 x1 x2 n t0 t1 t2 w0 w1 w2) (hc : c.toInt ≤ 3) (ht : tot ≤ 7) : (0 ≤ n.toInt ∧ n.toInt ≤ 3) ∧ 0 ≤ w0.toInt ∧ 0 ≤ w1.toInt ∧ 0 ≤ w2.toInt ∧ w0.toInt + w1.toInt + w2.toInt ≤ 7 := by
  obtain ⟨i1, -, -, i4, -⟩ := I
  omega
theorem own_k0 {n F k t lo hi i : Int} (q2 : k ≤ n) (b3 : i < F → ¬ lo < t) (b6 : F ≤ i → i < n → lo < t) (c3 : i < k → ¬ hi < t) (c6 : k ≤ i → i < n → hi < t) : (F ≤ i ∧ i < k) ↔ (i < n ∧ lo < t ∧ ¬ hi < t) := by
  constructor
  · rintro ⟨p, q⟩; exact ⟨by omega, b6 p (by omega), c3 q⟩
  · rintro ⟨p, q, r⟩; exact ⟨Int.not_lt.mp fun y => b3 y q, Int.not_le.mp fun y => r (c6 y p)⟩
theorem own_SW0 {n F k : Int32} {t0 t1 t2 w0 w1 w2 lo hi : Int64} (hW : 0 ≤ w0.toInt ∧ 0 ≤ w1.toInt ∧ 0 ≤ w2.toInt ∧ w0.toInt + w1.toInt + w2.toInt ≤ 7) (h1 : own_FA 0 n t0 t1 t2 lo F) (h2 : own_FA 0 n t0 t1 t2 hi k) : (own_S w0 w1 w2 F k).toInt = own_Wt n t0 t1 t2 w0 w1 w2 lo hi := by
  rw [(own_Sb F k hW).2.2]
  have e0 : (0 : Int32).toInt = 0 := by decide
  simp only [own_FA, own_Wt, Int64.lt_iff_toInt_lt, e0] at *
  obtain ⟨⟨b1, b2⟩, ⟨b3, b4, b5⟩, b6, b7, b8⟩ := h1
  obtain ⟨⟨c1, c2⟩, ⟨c3, c4, c5⟩, c6, c7, c8⟩ := h2
  have k1 := own_k0 c2 (b3 (by decide)) b6 (c3 (by decide)) c6
  have k2 := own_k0 c2 (b4 (by decide)) b7 (c4 (by decide)) c7
  have k3 := own_k0 c2 (b5 (by decide)) b8 (c5 (by decide)) c8
  simp only [k1, k2, k3, Int.add_assoc]
theorem own_eq0 {c : Int32} {tot : Int} {x0 x1 x2 : Int64} {n F k : Int32} {t0 t1 t2 w0 w1 w2 lo hi : Int64} (I : own_LI c tot x0 x1 x2 n t0 t1 t2 w0 w1 w2) (hc : c.toInt ≤ 3) (ht : tot ≤ 7) (h1 : own_FA 0 n t0 t1 t2 lo F) (h2 : own_FA 0 n t0 t1 t2 hi k) : own_S w0 w1 w2 F k = own_ref c x0 x1 x2 lo hi :=
  Int64.toInt_inj.mp ((own_SW0 (own_hf I hc ht).2 h1 h2).trans (I.2.2.2.2 lo hi))
theorem own_maxm (lo u : Int64) : (own_f1 lo u = lo ∨ own_f1 lo u = u) ∧ ¬ own_f1 lo u < lo ∧ ¬ own_f1 lo u < u := by
  unfold own_f1
  split
  · rename_i h; rw [Int64.lt_iff_toInt_lt] at h; exact ⟨Or.inr rfl, by rw [Int64.lt_iff_toInt_lt]; omega, by rw [Int64.lt_iff_toInt_lt]; omega⟩
  · rename_i h; rw [Int64.lt_iff_toInt_lt] at h; exact ⟨Or.inl rfl, by rw [Int64.lt_iff_toInt_lt]; omega, by rw [Int64.lt_iff_toInt_lt]; omega⟩
theorem own_eq1 {c : Int32} {tot : Int} {x0 x1 x2 : Int64} {n f F k : Int32} {t0 t1 t2 w0 w1 w2 lo hi u : Int64} (I : own_LI c tot x0 x1 x2 n t0 t1 t2 w0 w1 w2) (hc : c.toInt ≤ 3) (ht : tot ≤ 7) (hO : own_FO n t0 t1 t2 u f) (h1 : own_FA f n t0 t1 t2 lo F) (h2 : own_FA f n t0 t1 t2 hi k) : own_S w0 w1 w2 F k = own_ref c x0 x1 x2 (own_f1 lo u) hi :=
  Int64.toInt_inj.mp ((own_SW I.2.1 (own_hf I hc ht).2 hO h1 h2 (own_maxm lo u)).trans (I.2.2.2.2 _ hi))
theorem own_FAle {n F k : Int32} {t0 t1 t2 lo hi : Int64} (hn : 0 ≤ n.toInt ∧ n.toInt ≤ 3) (h1 : own_FA 0 n t0 t1 t2 lo F) (h2 : own_FA 0 n t0 t1 t2 hi k) (hl : ¬ hi < lo) : F.toInt ≤ k.toInt := by
  have e0 : (0 : Int32).toInt = 0 := by decide
  simp only [own_FA, Int64.lt_iff_toInt_lt, e0] at *
  obtain ⟨⟨b1, b2⟩, ⟨b3, b4, b5⟩, b6, b7, b8⟩ := h1
  obtain ⟨⟨c1, c2⟩, ⟨c3, c4, c5⟩, c6, c7, c8⟩ := h2
  refine Int.not_lt.mp fun q => ?_
  have : k.toInt = 0 ∨ k.toInt = 1 ∨ k.toInt = 2 := by clear b3 b4 b5 b6 b7 b8 c3 c4 c5 c6 c7 c8; omega
  rcases this with r | r | r <;> rw [r] at q
  · have := b3 (by decide) q; have := c6 (by rw [r]; decide) (Int.lt_of_lt_of_le q b2); clear b3 b4 b5 b6 b7 b8 c3 c4 c5 c6 c7 c8; omega
  · have := b4 (by decide) q; have := c7 (by rw [r]; decide) (Int.lt_of_lt_of_le q b2); clear b3 b4 b5 b6 b7 b8 c3 c4 c5 c6 c7 c8; omega
  · have := b5 (by decide) q; have := c8 (by rw [r]; decide) (Int.lt_of_lt_of_le q b2); clear b3 b4 b5 b6 b7 b8 c3 c4 c5 c6 c7 c8; omega
theorem own_FAf {n f F : Int32} {t0 t1 t2 lo : Int64} (hf : 0 ≤ f.toInt) (h1 : own_FA 0 n t0 t1 t2 lo F) (hl : f.toInt ≤ F.toInt) : own_FA f n t0 t1 t2 lo F := by
  obtain ⟨⟨b1, b2⟩, ⟨b3, b4, b5⟩, b6⟩ := h1
  exact ⟨⟨hl, b2⟩, ⟨fun _ q => b3 (by decide) q, fun _ q => b4 (by decide) q, fun _ q => b5 (by decide) q⟩, b6⟩
theorem own_Sf {n f : Int32} {t0 t1 t2 : Int64} (h : own_Srt 0 n t0 t1 t2) : own_Srt f n t0 t1 t2 := ⟨fun _ q => h.1 (by decide) q, fun _ q => h.2 (by decide) q⟩
theorem own_CIf {n f F k : Int32} {t0 t1 t2 w0 w1 w2 lo hi : Int64} (hn : 0 ≤ n.toInt ∧ n.toInt ≤ 3) (hf : 0 ≤ f.toInt) (h1 : own_FA 0 n t0 t1 t2 lo F) (h2 : own_FA 0 n t0 t1 t2 hi k) (hl : ¬ hi < lo) : own_CI f n t0 t1 t2 w0 w1 w2 lo F (if F < f then -1 else k) (own_S w0 w1 w2 F k) := by
  split
  · exact Or.inl (by decide)
  · rename_i q; rw [Int32.lt_iff_toInt_lt] at q
    exact Or.inr ⟨own_FAf hf h1 (Int.not_lt.mp q), own_FAle hn h1 h2 hl, h2.1.2, rfl⟩
theorem own_CIn {n f F : Int32} {t0 t1 t2 w0 w1 w2 lo Sm : Int64} : own_CI f n t0 t1 t2 w0 w1 w2 lo F (if F < f then -1 else -1) Sm := by
  split <;> exact Or.inl (by decide)
theorem own_rB (c : Int32) {x0 x1 x2 lo hi : Int64} : own_B (own_ref c x0 x1 x2 lo hi) := by
  have h1 := own_rb (c := c) (k := 1) (x := x0) (lo := lo) (hi := hi) (A := 0) (w := 1) (m := 0) (M := 1) (by decide) (by decide) (by decide) (by decide)
  have h2 := own_rb (c := c) (k := 2) (x := x1) (lo := lo) (hi := hi) (w := 2) (M := 3) h1 (by decide) (by decide) (by decide)
  have h3 := own_rb (c := c) (k := 3) (x := x2) (lo := lo) (hi := hi) (w := 4) (M := 7) h2 (by decide) (by decide) (by decide)
  exact ⟨h3.1, Int.le_trans h3.2 (by decide)⟩
theorem own_u8 {f g : Nat → Value} (h : f 0 = g 0 ∧ f 1 = g 1 ∧ f 2 = g 2 ∧ f 3 = g 3 ∧ f 4 = g 4 ∧ f 5 = g 5 ∧ f 6 = g 6 ∧ f 7 = g 7) : ∀ i, i < 8 → f i = g i := fun i hi => by
  match i, hi with
  | 0, _ => exact h.1
  | 1, _ => exact h.2.1
  | 2, _ => exact h.2.2.1
  | 3, _ => exact h.2.2.2.1
  | 4, _ => exact h.2.2.2.2.1
  | 5, _ => exact h.2.2.2.2.2.1
  | 6, _ => exact h.2.2.2.2.2.2.1
  | 7, _ => exact h.2.2.2.2.2.2.2
def own_a3 (x y z o : Value) (i : Nat) : Value := if i = 0 then x else if i = 1 then y else if i = 2 then z else o
theorem own_e8 : (8 : Int32).toNatClampNeg = 8 := by decide
theorem own_t0 : (0 : Int32).toNatClampNeg = 0 := by decide
theorem own_t1 : (1 : Int32).toNatClampNeg = 1 := by decide
theorem own_t2 : (2 : Int32).toNatClampNeg = 2 := by decide
theorem own_sv0 (v x y z o : Value) (i : Nat) : (if i = (0 : Int32).toNatClampNeg then v else own_a3 x y z o i) = own_a3 v y z o i := by
  rw [own_t0]; unfold own_a3; repeat' split
  all_goals rfl
theorem own_sv1 (v x y z o : Value) (i : Nat) : (if i = (1 : Int32).toNatClampNeg then v else own_a3 x y z o i) = own_a3 x v z o i := by
  rw [own_t1]; unfold own_a3; by_cases a : i = 0
  · subst a; rfl
  · by_cases b : i = 1
    · subst b; rfl
    · simp only [if_neg a, if_neg b]
theorem own_sv2 (v x y z o : Value) (i : Nat) : (if i = (2 : Int32).toNatClampNeg then v else own_a3 x y z o i) = own_a3 x y v o i := by
  rw [own_t2]; unfold own_a3; by_cases a : i = 0
  · subst a; rfl
  · by_cases b : i = 1
    · subst b; rfl
    · by_cases c : i = 2
      · subst c; rfl
      · simp only [if_neg a, if_neg b, if_neg c]
theorem own_a3l (x y z o : Value) : ∀ i, i < 8 → own_a3 x y z o i = [x, y, z, o, o, o, o, o].getD i o := own_u8 ⟨rfl, rfl, rfl, rfl, rfl, rfl, rfl, rfl⟩
theorem own_stJ0 (v a b c : Int64) : ∀ i, i < (8 : Int32).toNatClampNeg → (if i = (0 : Int32).toNatClampNeg then (.long v) else own_j3 a b c i) = own_j3 v b c i := fun i _ => own_sv0 (.long v) (.long a) (.long b) (.long c) (.long 0) i
theorem own_stD0 (v a b c : Int64) : ∀ i, i < (8 : Int32).toNatClampNeg → (if i = (0 : Int32).toNatClampNeg then (.double (FP.l2d v)) else own_d3 a b c i) = own_d3 v b c i := fun i _ => own_sv0 (.double (FP.l2d v)) (.double (FP.l2d a)) (.double (FP.l2d b)) (.double (FP.l2d c)) (.double (FP.l2d 0)) i
theorem own_stJ1 (v a b c : Int64) : ∀ i, i < (8 : Int32).toNatClampNeg → (if i = (1 : Int32).toNatClampNeg then (.long v) else own_j3 a b c i) = own_j3 a v c i := fun i _ => own_sv1 (.long v) (.long a) (.long b) (.long c) (.long 0) i
theorem own_stD1 (v a b c : Int64) : ∀ i, i < (8 : Int32).toNatClampNeg → (if i = (1 : Int32).toNatClampNeg then (.double (FP.l2d v)) else own_d3 a b c i) = own_d3 a v c i := fun i _ => own_sv1 (.double (FP.l2d v)) (.double (FP.l2d a)) (.double (FP.l2d b)) (.double (FP.l2d c)) (.double (FP.l2d 0)) i
theorem own_stJ2 (v a b c : Int64) : ∀ i, i < (8 : Int32).toNatClampNeg → (if i = (2 : Int32).toNatClampNeg then (.long v) else own_j3 a b c i) = own_j3 a b v i := fun i _ => own_sv2 (.long v) (.long a) (.long b) (.long c) (.long 0) i
theorem own_stD2 (v a b c : Int64) : ∀ i, i < (8 : Int32).toNatClampNeg → (if i = (2 : Int32).toNatClampNeg then (.double (FP.l2d v)) else own_d3 a b c i) = own_d3 a b v i := fun i _ => own_sv2 (.double (FP.l2d v)) (.double (FP.l2d a)) (.double (FP.l2d b)) (.double (FP.l2d c)) (.double (FP.l2d 0)) i
theorem own_cl00 (x y z o : Value) : ∀ i, i < 8 → ([x, y, z, o, o, o, o, o].take (1 : Int32).toNatClampNeg ++ ((List.range (0 : Int32).toNatClampNeg).map fun i => [x, y, z, o, o, o, o, o].getD ((0 : Int32).toNatClampNeg + i) o) ++ [x, y, z, o, o, o, o, o].drop ((1 : Int32).toNatClampNeg + (0 : Int32).toNatClampNeg)).getD i o = own_a3 x y z o i := own_u8 ⟨rfl, rfl, rfl, rfl, rfl, rfl, rfl, rfl⟩
theorem own_cl01 (x y z o : Value) : ∀ i, i < 8 → ([x, y, z, o, o, o, o, o].take (1 : Int32).toNatClampNeg ++ ((List.range (1 : Int32).toNatClampNeg).map fun i => [x, y, z, o, o, o, o, o].getD ((0 : Int32).toNatClampNeg + i) o) ++ [x, y, z, o, o, o, o, o].drop ((1 : Int32).toNatClampNeg + (1 : Int32).toNatClampNeg)).getD i o = own_a3 x x z o i := own_u8 ⟨rfl, rfl, rfl, rfl, rfl, rfl, rfl, rfl⟩
theorem own_cl11 (x y z o : Value) : ∀ i, i < 8 → ([x, y, z, o, o, o, o, o].take (2 : Int32).toNatClampNeg ++ ((List.range (0 : Int32).toNatClampNeg).map fun i => [x, y, z, o, o, o, o, o].getD ((1 : Int32).toNatClampNeg + i) o) ++ [x, y, z, o, o, o, o, o].drop ((2 : Int32).toNatClampNeg + (0 : Int32).toNatClampNeg)).getD i o = own_a3 x y z o i := own_u8 ⟨rfl, rfl, rfl, rfl, rfl, rfl, rfl, rfl⟩
theorem own_cl02 (x y z o : Value) : ∀ i, i < 8 → ([x, y, z, o, o, o, o, o].take (1 : Int32).toNatClampNeg ++ ((List.range (2 : Int32).toNatClampNeg).map fun i => [x, y, z, o, o, o, o, o].getD ((0 : Int32).toNatClampNeg + i) o) ++ [x, y, z, o, o, o, o, o].drop ((1 : Int32).toNatClampNeg + (2 : Int32).toNatClampNeg)).getD i o = own_a3 x x y o i := own_u8 ⟨rfl, rfl, rfl, rfl, rfl, rfl, rfl, rfl⟩
theorem own_cl12 (x y z o : Value) : ∀ i, i < 8 → ([x, y, z, o, o, o, o, o].take (2 : Int32).toNatClampNeg ++ ((List.range (1 : Int32).toNatClampNeg).map fun i => [x, y, z, o, o, o, o, o].getD ((1 : Int32).toNatClampNeg + i) o) ++ [x, y, z, o, o, o, o, o].drop ((2 : Int32).toNatClampNeg + (1 : Int32).toNatClampNeg)).getD i o = own_a3 x y y o i := own_u8 ⟨rfl, rfl, rfl, rfl, rfl, rfl, rfl, rfl⟩
theorem own_cl22 (x y z o : Value) : ∀ i, i < 8 → ([x, y, z, o, o, o, o, o].take (3 : Int32).toNatClampNeg ++ ((List.range (0 : Int32).toNatClampNeg).map fun i => [x, y, z, o, o, o, o, o].getD ((2 : Int32).toNatClampNeg + i) o) ++ [x, y, z, o, o, o, o, o].drop ((3 : Int32).toNatClampNeg + (0 : Int32).toNatClampNeg)).getD i o = own_a3 x y z o i := own_u8 ⟨rfl, rfl, rfl, rfl, rfl, rfl, rfl, rfl⟩
theorem own_cp {p : Program} {l : Launch} {e : Env} {R : Room} {s : State} {m : MethodId} {args : Array Value} {below : List Frame} {meth : Method} {c : Code} {T : State} {locs : List Loc} {cells slots : Nat} {Z : State} {h : Heap} (X : Stand p l e R s m args below meth c T locs cells slots) (hx : p.tables.exec = Jvm.exec) (hZ : Z.Warmed39 s.vm) {a0 : Array Value} {own : String} {index : Nat} (hown : s.vm.findClass own = some m.cls)
    (w1 : (Cond.methodLink own index Jvm.Stand.acN).before a0 Z = true) (w2 : (Cond.native Jvm.Stand.acN).before a0 Z = true) (w3 : (Cond.static Jvm.Stand.acN).before a0 Z = true) (w4 : (Cond.initialized "java/lang/System").before a0 Z = true) (eT : T.heap = h)
    {b : Addr} {ty : FieldType} {x y z o : Value} (F : AF Z h b ty (8 : Int32) (own_a3 x y z o)) (hr : refKind ty = false) (fx : fits ty x = true) (fy : fits ty y = true) (fz : fits ty z = true) (fo : fits ty o = true) {sp dp nn : Int32} (h1 : ¬ sp < 0) (h2 : ¬ dp < 0) (h3 : ¬ nn < 0) (h4 : sp.toNatClampNeg + nn.toNatClampNeg ≤ 8) (h5 : dp.toNatClampNeg + nn.toNatClampNeg ≤ 8) {x' y' z' : Value}
    (hq : ∀ i, i < 8 → ([x, y, z, o, o, o, o, o].take dp.toNatClampNeg ++ ((List.range nn.toNatClampNeg).map fun i => [x, y, z, o, o, o, o, o].getD (sp.toNatClampNeg + i) o) ++ [x, y, z, o, o, o, o, o].drop (dp.toNatClampNeg + nn.toNatClampNeg)).getD i o = own_a3 x' y' z' o i) {n0 : Nat} (N : Fr n0 locs) (ge : n0 ≤ b)
    {g : JFrame} (hg : g.method = m) (hsize : g.locals.size = c.maxLocals) {rest : List Value} (hs : g.stack = .int nn :: .int dp :: .ref b :: .int sp :: .ref b :: rest) (hd : decode c.code g.pc = .ok (.invokestatic index, 3)) (hf : 1 ≤ R.frames) {W : Nat} (hW : 2 * g.monitorRoom + (rest.map fun v => v.category).sum ≤ W) (hlo : W + (nativeFrameWords "java/lang/System" "arraycopy" 5 + 11) ≤ R.locals) :
    ∃ T' L, Stand p l e R s m args below meth c T' L cells slots ∧ Fr n0 L ∧ Keep h T'.heap [b] ∧ AF Z T'.heap b ty (8 : Int32) (own_a3 x' y' z' o) ∧ ∀ target, Steps p.tables e below (T'.setTop { g with pc := g.pc + 3, stack := rest }) target → Steps p.tables e below (T.setTop g) target := by
  obtain ⟨cl, A, S, M, H⟩ := F
  have V : Arv Z h b cl.cls ty (8 : Int32) [x, y, z, o, o, o, o, o] o := ⟨cl, A, rfl, S, M, fun i hi => (H i hi).trans (congrArg some (own_a3l x y z o i (by rw [S, own_e8] at hi; exact hi))), fun i hi => by
    rw [S, own_e8] at hi
    match i, hi with
    | 0, _ => exact fx
    | 1, _ => exact fy
    | 2, _ => exact fz
    | 3, _ => exact fo
    | 4, _ => exact fo
    | 5, _ => exact fo
    | 6, _ => exact fo
    | 7, _ => exact fo⟩
  obtain ⟨T', h', L, X', rfl, N', K', B, st⟩ := cpA X hx hZ hown w1 w2 w3 w4 eT V V (Or.inl ⟨rfl, hr⟩) h1 h2 h3 (by rw [own_e8]; exact h4) (by rw [own_e8]; exact h5) rfl (show _ ≤ 8 from h5) N ge hg hsize hs hd hf hW hlo
  obtain ⟨c2, A2, -, S2, M2, H2, -⟩ := B
  exact ⟨T', L, X', N', K', ⟨c2, A2, S2, M2, fun i hi => (H2 i hi).trans (congrArg some (hq i (by rw [S2, own_e8] at hi; exact hi)))⟩, st⟩
def QAd (Z : State) (a0 tt ss : Addr) (n : Int32) (t0 t1 t2 w0 w1 w2 x wt Us Sm : Int64) (h0 : Heap) (n0 : Nat) (v : Option Value) (h : Heap) (L : List Loc) : Prop := v = none ∧ Fr n0 L ∧ Keep h0 h [a0, tt, ss] ∧ ∃ (n' : Int32) (t0' t1' t2' w0' w1' w2' : Int64), own_St Z h a0 tt ss 0 n' t0' t1' t2' w0' w1' w2' Us 0 (-1) Sm ∧ own_AD n t0 t1 t2 w0 w1 w2 x wt n' t0' t1' t2' w0' w1' w2'
theorem own_kk0 {k : Int32} (h : (0 : Int32).toInt ≤ k.toInt ∧ k.toInt ≤ (0 : Int32).toInt) : k = 0 := by
  simp only [← Int32.toInt_inj, Int32.reduceToInt] at *; omega
theorem own_kk1 {k : Int32} (h : (0 : Int32).toInt ≤ k.toInt ∧ k.toInt ≤ (1 : Int32).toInt) : k = 0 ∨ k = 1 := by
  simp only [← Int32.toInt_inj, Int32.reduceToInt] at *; omega
theorem own_kk2 {k : Int32} (h : (0 : Int32).toInt ≤ k.toInt ∧ k.toInt ≤ (2 : Int32).toInt) : k = 0 ∨ k = 1 ∨ k = 2 := by
  simp only [← Int32.toInt_inj, Int32.reduceToInt] at *; omega
theorem d9_0 : decode prog_124_method_2_code 0 = .ok (.aload_n 0, 1) := by decide +kernel
theorem d9_1 : decode prog_124_method_2_code 1 = .ok (.lload_n 1, 1) := by decide +kernel
theorem d9_2 : decode prog_124_method_2_code 2 = .ok (.invokevirtual 21, 3) := by decide +kernel
theorem d9_5 : decode prog_124_method_2_code 5 = .ok (.istore 5, 2) := by decide +kernel
theorem d9_7 : decode prog_124_method_2_code 7 = .ok (.iload 5, 2) := by decide +kernel
theorem d9_9 : decode prog_124_method_2_code 9 = .ok (.aload_n 0, 1) := by decide +kernel
theorem d9_10 : decode prog_124_method_2_code 10 = .ok (.getfield 25, 3) := by decide +kernel
theorem d9_13 : decode prog_124_method_2_code 13 = .ok (.if_icmp .le 47, 3) := by decide +kernel
theorem d9_60 : decode prog_124_method_2_code 60 = .ok (.aload_n 0, 1) := by decide +kernel
theorem d9_61 : decode prog_124_method_2_code 61 = .ok (.getfield 28, 3) := by decide +kernel
theorem d9_64 : decode prog_124_method_2_code 64 = .ok (.aload_n 0, 1) := by decide +kernel
theorem d9_65 : decode prog_124_method_2_code 65 = .ok (.getfield 9, 3) := by decide +kernel
theorem d9_68 : decode prog_124_method_2_code 68 = .ok (.arraylength, 1) := by decide +kernel
theorem d9_69 : decode prog_124_method_2_code 69 = .ok (.if_icmp .ne 14, 3) := by decide +kernel
theorem d9_83 : decode prog_124_method_2_code 83 = .ok (.iload 5, 2) := by decide +kernel
theorem d9_85 : decode prog_124_method_2_code 85 = .ok (.aload_n 0, 1) := by decide +kernel
theorem d9_86 : decode prog_124_method_2_code 86 = .ok (.getfield 17, 3) := by decide +kernel
theorem d9_89 : decode prog_124_method_2_code 89 = .ok (.if_icmp .lt 12, 3) := by decide +kernel
theorem d9_92 : decode prog_124_method_2_code 92 = .ok (.iload 5, 2) := by decide +kernel
theorem d9_94 : decode prog_124_method_2_code 94 = .ok (.aload_n 0, 1) := by decide +kernel
theorem d9_95 : decode prog_124_method_2_code 95 = .ok (.getfield 34, 3) := by decide +kernel
theorem d9_98 : decode prog_124_method_2_code 98 = .ok (.if_icmp .gt 8, 3) := by decide +kernel
theorem d9_101 : decode prog_124_method_2_code 101 = .ok (.aload_n 0, 1) := by decide +kernel
theorem d9_102 : decode prog_124_method_2_code 102 = .ok (.iconst (-1), 1) := by decide +kernel
theorem d9_103 : decode prog_124_method_2_code 103 = .ok (.putfield 17, 3) := by decide +kernel
theorem d9_106 : decode prog_124_method_2_code 106 = .ok (.aload_n 0, 1) := by decide +kernel
theorem d9_107 : decode prog_124_method_2_code 107 = .ok (.getfield 9, 3) := by decide +kernel
theorem d9_110 : decode prog_124_method_2_code 110 = .ok (.iload 5, 2) := by decide +kernel
theorem d9_112 : decode prog_124_method_2_code 112 = .ok (.aload_n 0, 1) := by decide +kernel
theorem d9_113 : decode prog_124_method_2_code 113 = .ok (.getfield 9, 3) := by decide +kernel
theorem d9_116 : decode prog_124_method_2_code 116 = .ok (.iload 5, 2) := by decide +kernel
theorem d9_118 : decode prog_124_method_2_code 118 = .ok (.iconst 1, 1) := by decide +kernel
theorem d9_119 : decode prog_124_method_2_code 119 = .ok (.iadd, 1) := by decide +kernel
theorem d9_120 : decode prog_124_method_2_code 120 = .ok (.aload_n 0, 1) := by decide +kernel
theorem d9_121 : decode prog_124_method_2_code 121 = .ok (.getfield 28, 3) := by decide +kernel
theorem d9_124 : decode prog_124_method_2_code 124 = .ok (.iload 5, 2) := by decide +kernel
theorem d9_126 : decode prog_124_method_2_code 126 = .ok (.isub, 1) := by decide +kernel
theorem d9_127 : decode prog_124_method_2_code 127 = .ok (.invokestatic 37, 3) := by decide +kernel
theorem d9_130 : decode prog_124_method_2_code 130 = .ok (.aload_n 0, 1) := by decide +kernel
theorem d9_131 : decode prog_124_method_2_code 131 = .ok (.getfield 13, 3) := by decide +kernel
theorem d9_134 : decode prog_124_method_2_code 134 = .ok (.iload 5, 2) := by decide +kernel
theorem d9_136 : decode prog_124_method_2_code 136 = .ok (.aload_n 0, 1) := by decide +kernel
theorem d9_137 : decode prog_124_method_2_code 137 = .ok (.getfield 13, 3) := by decide +kernel
theorem d9_140 : decode prog_124_method_2_code 140 = .ok (.iload 5, 2) := by decide +kernel
theorem d9_142 : decode prog_124_method_2_code 142 = .ok (.iconst 1, 1) := by decide +kernel
theorem d9_143 : decode prog_124_method_2_code 143 = .ok (.iadd, 1) := by decide +kernel
theorem d9_144 : decode prog_124_method_2_code 144 = .ok (.aload_n 0, 1) := by decide +kernel
theorem d9_145 : decode prog_124_method_2_code 145 = .ok (.getfield 28, 3) := by decide +kernel
theorem d9_148 : decode prog_124_method_2_code 148 = .ok (.iload 5, 2) := by decide +kernel
theorem d9_150 : decode prog_124_method_2_code 150 = .ok (.isub, 1) := by decide +kernel
theorem d9_151 : decode prog_124_method_2_code 151 = .ok (.invokestatic 37, 3) := by decide +kernel
theorem d9_154 : decode prog_124_method_2_code 154 = .ok (.aload_n 0, 1) := by decide +kernel
theorem d9_155 : decode prog_124_method_2_code 155 = .ok (.getfield 9, 3) := by decide +kernel
theorem d9_158 : decode prog_124_method_2_code 158 = .ok (.iload 5, 2) := by decide +kernel
theorem d9_160 : decode prog_124_method_2_code 160 = .ok (.lload_n 1, 1) := by decide +kernel
theorem d9_161 : decode prog_124_method_2_code 161 = .ok (.lastore, 1) := by decide +kernel
theorem d9_162 : decode prog_124_method_2_code 162 = .ok (.aload_n 0, 1) := by decide +kernel
theorem d9_163 : decode prog_124_method_2_code 163 = .ok (.getfield 13, 3) := by decide +kernel
theorem d9_166 : decode prog_124_method_2_code 166 = .ok (.iload 5, 2) := by decide +kernel
theorem d9_168 : decode prog_124_method_2_code 168 = .ok (.dload_n 3, 1) := by decide +kernel
theorem d9_169 : decode prog_124_method_2_code 169 = .ok (.dastore, 1) := by decide +kernel
theorem d9_170 : decode prog_124_method_2_code 170 = .ok (.aload_n 0, 1) := by decide +kernel
theorem d9_171 : decode prog_124_method_2_code 171 = .ok (.dup, 1) := by decide +kernel
theorem d9_172 : decode prog_124_method_2_code 172 = .ok (.getfield 28, 3) := by decide +kernel
theorem d9_175 : decode prog_124_method_2_code 175 = .ok (.iconst 1, 1) := by decide +kernel
theorem d9_176 : decode prog_124_method_2_code 176 = .ok (.iadd, 1) := by decide +kernel
theorem d9_177 : decode prog_124_method_2_code 177 = .ok (.putfield 28, 3) := by decide +kernel
theorem d9_180 : decode prog_124_method_2_code 180 = .ok (.return_, 1) := by decide +kernel
theorem ef_rmAd0 (m : MethodId) (a0 : Addr) (q1 : Int64) : entryFrame m #[(.ref a0), (.long q1), (.double (FP.l2d wt))] 6 = mkF m 0 #[.val (.ref a0), .val (.long q1), .second, .val (.double (FP.l2d wt)), .second, .unset] [] := by first | (simp [entryFrame, mkF, argsToLocals, Value.category]; done) | rfl
set_option maxRecDepth 65536 in
set_option maxHeartbeats 40000000 in
theorem rmAd0 (l : Launch) (Z : State) (aw : Array Value) (hw : ∀ d ∈ tables_1, d.before aw Z = true) (ws : List Jvm.Cond) (a0 : Addr) (q1 : Int64) (wt : Int64) (tt : Addr) (ss : Addr) (t0 : Int64) (t1 : Int64) (t2 : Int64) (w0 : Int64) (w1 : Int64) (w2 : Int64) (Us : Int64) (Sm : Int64) (h0 : Heap) (n0 : Nat) (Z0 : n0 ≤ h0.size) (S_ : own_St Z h0 a0 tt ss (0 : Int32) (0 : Int32) t0 t1 t2 w0 w1 w2 Us (0 : Int32) (-1 : Int32) Sm) (g_a0 : n0 ≤ a0) (g_tt : n0 ≤ tt) (g_ss : n0 ≤ ss) (hs : own_Srt 0 (0 : Int32) t0 t1 t2) (hz : own_Zw (0 : Int32) w0 w1 w2) (hwt : 0 ≤ w0.toInt ∧ 0 ≤ w1.toInt ∧ 0 ≤ w2.toInt ∧ 0 ≤ wt.toInt ∧ w0.toInt + w1.toInt + w2.toInt + wt.toInt ≤ 7) :
    MetFree l (⟨"com/example/fairshed/fairshed/shedding/SicByTime", "add", "(JD)V"⟩ : MethodName) (head1 (Jvm.Cond.code (⟨"com/example/fairshed/fairshed/shedding/SicByTime", "add", "(JD)V"⟩ : MethodName) prog_124_method_2_code 6 none :: ws) ({ frames := 3, cells := 0, slots := 0, locals := 52 } : Room)) (fun a U => a = #[(.ref a0), (.long q1), (.double (FP.l2d wt))] ∧ Z.Warmed39 U.vm ∧ U.heap = h0) (fun _ _ _ _ _ => True) (fun _ U o U' => ∃ v L, o = .returned v ∧ QAd Z a0 tt ss (0 : Int32) t0 t1 t2 w0 w1 w2 q1 wt Us Sm h0 n0 v U'.heap L ∧ FrameEnd U o U' L ({ frames := 3, cells := 0, slots := 0, locals := 52 } : Room).cells ({ frames := 3, cells := 0, slots := 0, locals := 52 } : Room).slots) := by
  refine MetFree.of_bodySF (plainFor_of_name pn_0) hisR ?_
  intro p e s m args below meth c s₁ Bd hml0 hP hK
  obtain ⟨rfl, hZ, hh⟩ := hP
  have hx := Bd.exec
  have hby := Bd.bytes
  have hml : c.maxLocals = 6 := hml0
  have hown : s.vm.findClass "com/example/fairshed/fairshed/shedding/SicByTime" = some m.cls := findClass_of_methodNamed Bd.named
  have hnm := (name_of_methodNamed Bd.named Bd.method).1
  have X0 : Stand p l e ({ frames := 3, cells := 0, slots := 0, locals := 52 } : Room) s m #[(.ref a0), (.long q1), (.double (FP.l2d wt))] below meth c s₁ [] 0 0 := Stand.of_body Bd
  have e0 : s₁.heap = h0 := by rw [← hh, Bd.state]; rfl
  have N0 := Fr.nil n0
  have K0 : Keep h0 h0 [a0, tt, ss] := Keep.refl _ _
  refine own_by (A' := s₁.setTop (mkF m 0 #[.val (.ref a0), .val (.long q1), .second, .val (.double (FP.l2d wt)), .second, .unset] [])) (fun t k => castTop (ef_rmAd0 m a0 q1) k) ?_
  obtain ⟨hne, E_a0, Ft, Fs, Ff, Fe, FU, FF, FG, FS, V_t, V_s⟩ := S_
  refine own_by (A' := s₁.setTop (mkF m 2 #[.val (.ref a0), .val (.long q1), .second, .val (.double (FP.l2d wt)), .second, .unset] [(.long q1), (.ref a0)])) (fun t kt => ?_) ?_
  · refine XS.aloadN X0.here hx rfl (hb hby d9_0) rfl rfl ?_
    refine XS.lloadN X0.here hx rfl (hb hby d9_1) rfl ?_
    exact kt
  obtain ⟨cq1, qe1, qe1'⟩ := (E_a0).cell
  obtain ⟨ci1, ki1, hci1, hki1, -, hni1, -⟩ := Cond.instantiable_spec (mvT (args := #[]) hZ (wd5 hw))
  obtain ⟨_, _, ⟨T1, L1, k1, n1⟩, -, X1, ⟨Lc1, hQ1, l1, y1, z1⟩, st1⟩ := X0.privateBack hx (y := (⟨"com/example/fairshed/fairshed/shedding/SicByTime", "firstAfter", "(J)I"⟩ : MethodName)) hown (mvT hZ (wd37 hw)) (mvT hZ (wd38 hw)) (selects_self_of_private hci1 hki1 (Bool.or_eq_false_iff.mp hni1).1 (Cond.privateMethod_at (mvP hZ (wd39 hw) (args := #[]))) (mvT hZ (wd38 hw)) (by decide)) (Cond.privateMethod_at (mvP hZ (wd39 hw) (args := #[]))) (mvT hZ (wd40 hw)) (by decide) (backOf (W := 0) (rmFAu l Z aw hw [] a0 q1 tt t0 t1 t2 (0 : Int32) (0 : Int32) h0 n0 (Nat.le_trans Z0 K0.1) Ft Ff Fe V_t (by decide) hs) hZ (wd40 hw) (wd6 hw) (by decide) (by decide)) (g := (mkF m 2 #[.val (.ref a0), .val (.long q1), .second, .val (.double (FP.l2d wt)), .second, .unset] [(.long q1), (.ref a0)])) rfl (by rw [hml]; rfl) (Steps.refl _) (a := a0) (by rw [e0]; exact qe1) qe1' (argsL := [(.long q1)]) (rest := []) (lenOf pd_5 rfl) rfl (by show 2 * 0 + _ ≤ _; exact Nat.le_of_eq rfl) (hb hby d9_2) (fun _ _ => ⟨rfl, e0, (by decide : 0 + 0 ≤ _), (by decide : 0 + 0 ≤ _)⟩)
  dsimp only [Pt.U, Pt.locs, Pt.cells, Pt.slots] at X1 l1 y1 z1 st1 hQ1
  subst l1 y1 z1
  obtain ⟨kf1, rfl, hFA1, N1q, e1⟩ := hQ1
  have N1 := Fr.app N0 N1q
  refine own_by (A' := T1.setTop (mkF m 5 #[.val (.ref a0), .val (.long q1), .second, .val (.double (FP.l2d wt)), .second, .unset] [(.int kf1)])) (fun t kt => st1.trans kt) ?_
  obtain rfl := own_kk0 hFA1.1
  refine own_by (A' := T1.setTop (mkF m 10 #[.val (.ref a0), .val (.long q1), .second, .val (.double (FP.l2d wt)), .second, .val (.int (0 : Int32))] [(.ref a0), (.int (0 : Int32))])) (fun t kt => ?_) ?_
  · refine XS.istore X1.here hx rfl (hb hby d9_5) rfl (l' := #[.val (.ref a0), .val (.long q1), .second, .val (.double (FP.l2d wt)), .second, .val (.int (0 : Int32))]) rfl ?_
    refine XS.iload X1.here hx rfl (hb hby d9_7) rfl ?_
    refine XS.aloadN X1.here hx rfl (hb hby d9_9) rfl rfl ?_
    exact kt
  obtain ⟨T2, X2, e2, st2⟩ := getF X1 hx hZ hown (host := "") (Or.inl (wd26 hw)) Via.refl e1 Ff (g := (mkF m 10 #[.val (.ref a0), .val (.long q1), .second, .val (.double (FP.l2d wt)), .second, .val (.int (0 : Int32))] [(.ref a0), (.int (0 : Int32))])) rfl rfl (hb hby d9_10)
  refine own_by (A' := T2.setTop (mkF m 13 #[.val (.ref a0), .val (.long q1), .second, .val (.double (FP.l2d wt)), .second, .val (.int (0 : Int32))] [(.int (0 : Int32)), (.int (0 : Int32))])) (fun t kt => st2 t kt) ?_
  have hc13_3 : ¬ ((0 : Int32) < (0 : Int32)) := by decide
  refine own_by (A' := T2.setTop (mkF m 61 #[.val (.ref a0), .val (.long q1), .second, .val (.double (FP.l2d wt)), .second, .val (.int (0 : Int32))] [(.ref a0)])) (fun t kt => ?_) ?_
  · refine XS.icmpYes X2.here hx rfl (pc0 := 13) (pc' := 60) rfl (hb hby d9_13) rfl (flt hc13_3).2.2.2 (by decide) (by decide) ?_
    refine XS.aloadN X2.here hx rfl (hb hby d9_60) rfl rfl ?_
    exact kt
  obtain ⟨T4, X4, e4, st4⟩ := getF X2 hx hZ hown (host := "") (Or.inl (wd28 hw)) Via.refl e2 Fe (g := (mkF m 61 #[.val (.ref a0), .val (.long q1), .second, .val (.double (FP.l2d wt)), .second, .val (.int (0 : Int32))] [(.ref a0)])) rfl rfl (hb hby d9_61)
  refine own_by (A' := T4.setTop (mkF m 65 #[.val (.ref a0), .val (.long q1), .second, .val (.double (FP.l2d wt)), .second, .val (.int (0 : Int32))] [(.ref a0), (.int (0 : Int32))])) (fun t kt => ?_) ?_
  · refine st4 t ?_
    refine XS.aloadN X4.here hx rfl (hb hby d9_64) rfl rfl ?_
    exact kt
  obtain ⟨T5, X5, e5, st5⟩ := getF X4 hx hZ hown (host := "") (Or.inl (wd14 hw)) Via.refl e4 Ft (g := (mkF m 65 #[.val (.ref a0), .val (.long q1), .second, .val (.double (FP.l2d wt)), .second, .val (.int (0 : Int32))] [(.ref a0), (.int (0 : Int32))])) rfl rfl (hb hby d9_65)
  refine own_by (A' := T5.setTop (mkF m 68 #[.val (.ref a0), .val (.long q1), .second, .val (.double (FP.l2d wt)), .second, .val (.int (0 : Int32))] [(.ref tt), (.int (0 : Int32))])) (fun t kt => st5 t kt) ?_
  obtain ⟨cl6, Ar6, Sz6, Mn6, -⟩ := id V_t
  refine own_by (A' := T5.setTop (mkF m 69 #[.val (.ref a0), .val (.long q1), .second, .val (.double (FP.l2d wt)), .second, .val (.int (0 : Int32))] [(.int (8 : Int32)), (.int (0 : Int32))])) (fun t kt => ?_) ?_
  · refine X5.arraylength hx (by rw [e5]; exact Ar6.1) (State.isArrayOf_alike hZ.alike Ar6.2.1) (g := (mkF m 68 #[.val (.ref a0), .val (.long q1), .second, .val (.double (FP.l2d wt)), .second, .val (.int (0 : Int32))] [(.ref tt), (.int (0 : Int32))])) rfl rfl (hb hby d9_68) _ ?_
    rw [len_of Sz6 Mn6]
    exact kt
  have hc69_7 : ¬ ((0 : Int32) = (8 : Int32)) := by decide
  refine own_by (A' := T5.setTop (mkF m 86 #[.val (.ref a0), .val (.long q1), .second, .val (.double (FP.l2d wt)), .second, .val (.int (0 : Int32))] [(.ref a0), (.int (0 : Int32))])) (fun t kt => ?_) ?_
  · refine XS.icmpYes X5.here hx rfl (pc0 := 69) (pc' := 83) rfl (hb hby d9_69) rfl (feq hc69_7).2 (by decide) (by decide) ?_
    refine XS.iload X5.here hx rfl (hb hby d9_83) rfl ?_
    refine XS.aloadN X5.here hx rfl (hb hby d9_85) rfl rfl ?_
    exact kt
  obtain ⟨T8, X8, e8, st8⟩ := getF X5 hx hZ hown (host := "") (Or.inl (wd19 hw)) Via.refl e5 FG (g := (mkF m 86 #[.val (.ref a0), .val (.long q1), .second, .val (.double (FP.l2d wt)), .second, .val (.int (0 : Int32))] [(.ref a0), (.int (0 : Int32))])) rfl rfl (hb hby d9_86)
  refine own_by (A' := T8.setTop (mkF m 89 #[.val (.ref a0), .val (.long q1), .second, .val (.double (FP.l2d wt)), .second, .val (.int (0 : Int32))] [(.int (-1 : Int32)), (.int (0 : Int32))])) (fun t kt => st8 t kt) ?_
  have hc89_9 : ¬ ((0 : Int32) < (-1 : Int32)) := by decide
  refine own_by (A' := T8.setTop (mkF m 95 #[.val (.ref a0), .val (.long q1), .second, .val (.double (FP.l2d wt)), .second, .val (.int (0 : Int32))] [(.ref a0), (.int (0 : Int32))])) (fun t kt => ?_) ?_
  · refine XS.icmpNo X8.here hx rfl (hb hby d9_89) rfl (flt hc89_9).1 ?_
    refine XS.iload X8.here hx rfl (hb hby d9_92) rfl ?_
    refine XS.aloadN X8.here hx rfl (hb hby d9_94) rfl rfl ?_
    exact kt
  obtain ⟨T10, X10, e10, st10⟩ := getF X8 hx hZ hown (host := "") (Or.inl (wd30 hw)) Via.refl e8 FF (g := (mkF m 95 #[.val (.ref a0), .val (.long q1), .second, .val (.double (FP.l2d wt)), .second, .val (.int (0 : Int32))] [(.ref a0), (.int (0 : Int32))])) rfl rfl (hb hby d9_95)
  refine own_by (A' := T10.setTop (mkF m 98 #[.val (.ref a0), .val (.long q1), .second, .val (.double (FP.l2d wt)), .second, .val (.int (0 : Int32))] [(.int (0 : Int32)), (.int (0 : Int32))])) (fun t kt => st10 t kt) ?_
  have hc98_11 : ¬ ((0 : Int32) < (0 : Int32)) := by decide
  refine own_by (A' := T10.setTop (mkF m 103 #[.val (.ref a0), .val (.long q1), .second, .val (.double (FP.l2d wt)), .second, .val (.int (0 : Int32))] [(.int (-1 : Int32)), (.ref a0)])) (fun t kt => ?_) ?_
  · refine XS.icmpNo X10.here hx rfl (hb hby d9_98) rfl (flt hc98_11).2.2.1 ?_
    refine XS.aloadN X10.here hx rfl (hb hby d9_101) rfl rfl ?_
    refine XS.iconst X10.here hx rfl (hb hby d9_102) ?_
    exact kt
  obtain ⟨T12, h12, X12, e12, W12, st12⟩ := putF X10 hx hZ hown (host := "") (Or.inl (wd19 hw)) Via.refl e10 FG E_a0 (Or.inl (wd20 hw)) (wd5 hw) (ty := .int) (by decide) rfl rfl (g := (mkF m 103 #[.val (.ref a0), .val (.long q1), .second, .val (.double (FP.l2d wt)), .second, .val (.int (0 : Int32))] [(.int (-1 : Int32)), (.ref a0)])) rfl rfl (hb hby d9_103)
  have F12 := Fld.same W12 FG
  have N12 := Fr.snoc X12 N1 g_a0
  have K12 : Keep h0 h12 [a0, tt, ss] := K0.wr W12 (Or.inl (List.mem_of_getElem? (i := 0) rfl))
  refine own_by (A' := T12.setTop (mkF m 107 #[.val (.ref a0), .val (.long q1), .second, .val (.double (FP.l2d wt)), .second, .val (.int (0 : Int32))] [(.ref a0)])) (fun t kt => ?_) ?_
  · refine st12 t ?_
    refine XS.aloadN X12.here hx rfl (hb hby d9_106) rfl rfl ?_
    exact kt
  obtain ⟨T13, X13, e13, st13⟩ := getF X12 hx hZ hown (host := "") (Or.inl (wd14 hw)) Via.refl e12 (Ft.other W12 (Or.inr (sn15_20 hw))) (g := (mkF m 107 #[.val (.ref a0), .val (.long q1), .second, .val (.double (FP.l2d wt)), .second, .val (.int (0 : Int32))] [(.ref a0)])) rfl rfl (hb hby d9_107)
  refine own_by (A' := T13.setTop (mkF m 113 #[.val (.ref a0), .val (.long q1), .second, .val (.double (FP.l2d wt)), .second, .val (.int (0 : Int32))] [(.ref a0), (.int (0 : Int32)), (.ref tt)])) (fun t kt => ?_) ?_
  · refine st13 t ?_
    refine XS.iload X13.here hx rfl (hb hby d9_110) rfl ?_
    refine XS.aloadN X13.here hx rfl (hb hby d9_112) rfl rfl ?_
    exact kt
  obtain ⟨T14, X14, e14, st14⟩ := getF X13 hx hZ hown (host := "") (Or.inl (wd14 hw)) Via.refl e13 (Ft.other W12 (Or.inr (sn15_20 hw))) (g := (mkF m 113 #[.val (.ref a0), .val (.long q1), .second, .val (.double (FP.l2d wt)), .second, .val (.int (0 : Int32))] [(.ref a0), (.int (0 : Int32)), (.ref tt)])) rfl rfl (hb hby d9_113)
  refine own_by (A' := T14.setTop (mkF m 121 #[.val (.ref a0), .val (.long q1), .second, .val (.double (FP.l2d wt)), .second, .val (.int (0 : Int32))] [(.ref a0), (.int (1 : Int32)), (.ref tt), (.int (0 : Int32)), (.ref tt)])) (fun t kt => ?_) ?_
  · refine st14 t ?_
    refine XS.iload X14.here hx rfl (hb hby d9_116) rfl ?_
    refine XS.iconst X14.here hx rfl (hb hby d9_118) ?_
    refine XS.iadd X14.here hx rfl (hb hby d9_119) rfl ?_
    refine XS.aloadN X14.here hx rfl (hb hby d9_120) rfl rfl ?_
    exact kt
  obtain ⟨T15, X15, e15, st15⟩ := getF X14 hx hZ hown (host := "") (Or.inl (wd28 hw)) Via.refl e14 (Fe.other W12 (Or.inr (sn29_20 hw))) (g := (mkF m 121 #[.val (.ref a0), .val (.long q1), .second, .val (.double (FP.l2d wt)), .second, .val (.int (0 : Int32))] [(.ref a0), (.int (1 : Int32)), (.ref tt), (.int (0 : Int32)), (.ref tt)])) rfl rfl (hb hby d9_121)
  refine own_by (A' := T15.setTop (mkF m 127 #[.val (.ref a0), .val (.long q1), .second, .val (.double (FP.l2d wt)), .second, .val (.int (0 : Int32))] [(.int (0 : Int32)), (.int (1 : Int32)), (.ref tt), (.int (0 : Int32)), (.ref tt)])) (fun t kt => ?_) ?_
  · refine st15 t ?_
    refine XS.iload X15.here hx rfl (hb hby d9_124) rfl ?_
    refine XS.isub X15.here hx rfl (hb hby d9_126) rfl ?_
    exact kt
  obtain ⟨T16, L16, X16, N16, Kq16, B16, st16⟩ := own_cp X15 hx hZ hown (wd60 hw) (wd63 hw) (wd61 hw) (wd62 hw) e15 (x := (.long t0)) (y := (.long t1)) (z := (.long t2)) (o := (.long 0)) (V_t.other W12 hne.1) rfl rfl rfl rfl rfl (sp := (0 : Int32)) (dp := (1 : Int32)) (nn := (0 : Int32)) (by decide) (by decide) (by decide) (by decide) (by decide) (own_cl00 (.long t0) (.long t1) (.long t2) (.long 0)) N12 g_tt (g := (mkF m 127 #[.val (.ref a0), .val (.long q1), .second, .val (.double (FP.l2d wt)), .second, .val (.int (0 : Int32))] [(.int (0 : Int32)), (.int (1 : Int32)), (.ref tt), (.int (0 : Int32)), (.ref tt)])) rfl (by rw [hml]; rfl) (rest := []) rfl (hb hby d9_127) (by decide) (W := 0) (by show 2 * 0 + _ ≤ _; exact Nat.le_of_eq rfl) (by decide)
  have K16 : Keep h0 T16.heap [a0, tt, ss] := K12.trans Kq16 (allS (Or.inl (List.mem_of_getElem? (i := 1) rfl)) all0)
  have V16 : AF Z T16.heap tt .long (8 : Int32) (own_j3 t0 t1 t2) := B16
  refine own_by (A' := T16.setTop (mkF m 131 #[.val (.ref a0), .val (.long q1), .second, .val (.double (FP.l2d wt)), .second, .val (.int (0 : Int32))] [(.ref a0)])) (fun t kt => ?_) ?_
  · refine st16 t ?_
    refine XS.aloadN X16.here hx rfl (hb hby d9_130) rfl rfl ?_
    exact kt
  obtain ⟨T17, X17, e17, st17⟩ := getF X16 hx hZ hown (host := "") (Or.inl (wd17 hw)) Via.refl rfl ((Fs.other W12 (Or.inr (sn18_20 hw))).keep Kq16 (ninS (Ne.symm hne.1) nin0)) (g := (mkF m 131 #[.val (.ref a0), .val (.long q1), .second, .val (.double (FP.l2d wt)), .second, .val (.int (0 : Int32))] [(.ref a0)])) rfl rfl (hb hby d9_131)
  refine own_by (A' := T17.setTop (mkF m 137 #[.val (.ref a0), .val (.long q1), .second, .val (.double (FP.l2d wt)), .second, .val (.int (0 : Int32))] [(.ref a0), (.int (0 : Int32)), (.ref ss)])) (fun t kt => ?_) ?_
  · refine st17 t ?_
    refine XS.iload X17.here hx rfl (hb hby d9_134) rfl ?_
    refine XS.aloadN X17.here hx rfl (hb hby d9_136) rfl rfl ?_
    exact kt
  obtain ⟨T18, X18, e18, st18⟩ := getF X17 hx hZ hown (host := "") (Or.inl (wd17 hw)) Via.refl e17 ((Fs.other W12 (Or.inr (sn18_20 hw))).keep Kq16 (ninS (Ne.symm hne.1) nin0)) (g := (mkF m 137 #[.val (.ref a0), .val (.long q1), .second, .val (.double (FP.l2d wt)), .second, .val (.int (0 : Int32))] [(.ref a0), (.int (0 : Int32)), (.ref ss)])) rfl rfl (hb hby d9_137)
  refine own_by (A' := T18.setTop (mkF m 145 #[.val (.ref a0), .val (.long q1), .second, .val (.double (FP.l2d wt)), .second, .val (.int (0 : Int32))] [(.ref a0), (.int (1 : Int32)), (.ref ss), (.int (0 : Int32)), (.ref ss)])) (fun t kt => ?_) ?_
  · refine st18 t ?_
    refine XS.iload X18.here hx rfl (hb hby d9_140) rfl ?_
    refine XS.iconst X18.here hx rfl (hb hby d9_142) ?_
    refine XS.iadd X18.here hx rfl (hb hby d9_143) rfl ?_
    refine XS.aloadN X18.here hx rfl (hb hby d9_144) rfl rfl ?_
    exact kt
  obtain ⟨T19, X19, e19, st19⟩ := getF X18 hx hZ hown (host := "") (Or.inl (wd28 hw)) Via.refl e18 ((Fe.other W12 (Or.inr (sn29_20 hw))).keep Kq16 (ninS (Ne.symm hne.1) nin0)) (g := (mkF m 145 #[.val (.ref a0), .val (.long q1), .second, .val (.double (FP.l2d wt)), .second, .val (.int (0 : Int32))] [(.ref a0), (.int (1 : Int32)), (.ref ss), (.int (0 : Int32)), (.ref ss)])) rfl rfl (hb hby d9_145)
  refine own_by (A' := T19.setTop (mkF m 151 #[.val (.ref a0), .val (.long q1), .second, .val (.double (FP.l2d wt)), .second, .val (.int (0 : Int32))] [(.int (0 : Int32)), (.int (1 : Int32)), (.ref ss), (.int (0 : Int32)), (.ref ss)])) (fun t kt => ?_) ?_
  · refine st19 t ?_
    refine XS.iload X19.here hx rfl (hb hby d9_148) rfl ?_
    refine XS.isub X19.here hx rfl (hb hby d9_150) rfl ?_
    exact kt
  obtain ⟨T20, L20, X20, N20, Kq20, B20, st20⟩ := own_cp X19 hx hZ hown (wd60 hw) (wd63 hw) (wd61 hw) (wd62 hw) e19 (x := (.double (FP.l2d w0))) (y := (.double (FP.l2d w1))) (z := (.double (FP.l2d w2))) (o := (.double (FP.l2d 0))) ((V_s.other W12 hne.2.1).keep Kq16 (ninS (Ne.symm hne.2.2) nin0)) rfl rfl rfl rfl rfl (sp := (0 : Int32)) (dp := (1 : Int32)) (nn := (0 : Int32)) (by decide) (by decide) (by decide) (by decide) (by decide) (own_cl00 (.double (FP.l2d w0)) (.double (FP.l2d w1)) (.double (FP.l2d w2)) (.double (FP.l2d 0))) N16 g_ss (g := (mkF m 151 #[.val (.ref a0), .val (.long q1), .second, .val (.double (FP.l2d wt)), .second, .val (.int (0 : Int32))] [(.int (0 : Int32)), (.int (1 : Int32)), (.ref ss), (.int (0 : Int32)), (.ref ss)])) rfl (by rw [hml]; rfl) (rest := []) rfl (hb hby d9_151) (by decide) (W := 0) (by show 2 * 0 + _ ≤ _; exact Nat.le_of_eq rfl) (by decide)
  have K20 : Keep h0 T20.heap [a0, tt, ss] := K16.trans Kq20 (allS (Or.inl (List.mem_of_getElem? (i := 2) rfl)) all0)
  have V20 : AF Z T20.heap ss .double (8 : Int32) (own_d3 w0 w1 w2) := B20
  refine own_by (A' := T20.setTop (mkF m 155 #[.val (.ref a0), .val (.long q1), .second, .val (.double (FP.l2d wt)), .second, .val (.int (0 : Int32))] [(.ref a0)])) (fun t kt => ?_) ?_
  · refine st20 t ?_
    refine XS.aloadN X20.here hx rfl (hb hby d9_154) rfl rfl ?_
    exact kt
  obtain ⟨T21, X21, e21, st21⟩ := getF X20 hx hZ hown (host := "") (Or.inl (wd14 hw)) Via.refl rfl (((Ft.other W12 (Or.inr (sn15_20 hw))).keep Kq16 (ninS (Ne.symm hne.1) nin0)).keep Kq20 (ninS (Ne.symm hne.2.1) nin0)) (g := (mkF m 155 #[.val (.ref a0), .val (.long q1), .second, .val (.double (FP.l2d wt)), .second, .val (.int (0 : Int32))] [(.ref a0)])) rfl rfl (hb hby d9_155)
  refine own_by (A' := T21.setTop (mkF m 161 #[.val (.ref a0), .val (.long q1), .second, .val (.double (FP.l2d wt)), .second, .val (.int (0 : Int32))] [(.long q1), (.int (0 : Int32)), (.ref tt)])) (fun t kt => ?_) ?_
  · refine st21 t ?_
    refine XS.iload X21.here hx rfl (hb hby d9_158) rfl ?_
    refine XS.lloadN X21.here hx rfl (hb hby d9_160) rfl ?_
    exact kt
  obtain ⟨cl22, Ar22, Sz22, Mn22, Ha22⟩ := id (V16.keep Kq20 (ninS hne.2.2 nin0))
  have hin22 := inb_of (j := (0 : Int32)) Sz22 ⟨by decide, by decide⟩
  obtain ⟨T22, h22, X22, e22, W22, st22⟩ := stJ X21 hx hZ e21 Ar22 (j := (0 : Int32)) hin22 (g := (mkF m 161 #[.val (.ref a0), .val (.long q1), .second, .val (.double (FP.l2d wt)), .second, .val (.int (0 : Int32))] [(.long q1), (.int (0 : Int32)), (.ref tt)])) rfl rfl (hb hby d9_161)
  have V22 : AF Z h22 tt .long (8 : Int32) (fun i => if i = ((0 : Int32)).toNatClampNeg then (.long q1) else (own_j3 t0 t1 t2) i) := AF.set Ar22 Sz22 Mn22 Ha22 hin22 W22
  have N22 := Fr.snoc X22 N20 g_tt
  have K22 : Keep h0 h22 [a0, tt, ss] := K20.wr W22 (Or.inl (List.mem_of_getElem? (i := 1) rfl))
  refine own_by (A' := T22.setTop (mkF m 162 #[.val (.ref a0), .val (.long q1), .second, .val (.double (FP.l2d wt)), .second, .val (.int (0 : Int32))] [])) (fun t kt => st22 t kt) ?_
  have V23 : AF Z h22 tt .long (8 : Int32) (own_j3 q1 t1 t2) := AF.to V22 (own_stJ0 q1 t0 t1 t2)
  refine own_by (A' := T22.setTop (mkF m 163 #[.val (.ref a0), .val (.long q1), .second, .val (.double (FP.l2d wt)), .second, .val (.int (0 : Int32))] [(.ref a0)])) (fun t kt => ?_) ?_
  · refine XS.aloadN X22.here hx rfl (hb hby d9_162) rfl rfl ?_
    exact kt
  obtain ⟨T24, X24, e24, st24⟩ := getF X22 hx hZ hown (host := "") (Or.inl (wd17 hw)) Via.refl e22 ((((Fs.other W12 (Or.inr (sn18_20 hw))).keep Kq16 (ninS (Ne.symm hne.1) nin0)).keep Kq20 (ninS (Ne.symm hne.2.1) nin0)).other W22 (Or.inl (Ne.symm hne.1))) (g := (mkF m 163 #[.val (.ref a0), .val (.long q1), .second, .val (.double (FP.l2d wt)), .second, .val (.int (0 : Int32))] [(.ref a0)])) rfl rfl (hb hby d9_163)
  refine own_by (A' := T24.setTop (mkF m 169 #[.val (.ref a0), .val (.long q1), .second, .val (.double (FP.l2d wt)), .second, .val (.int (0 : Int32))] [(.double (FP.l2d wt)), (.int (0 : Int32)), (.ref ss)])) (fun t kt => ?_) ?_
  · refine st24 t ?_
    refine XS.iload X24.here hx rfl (hb hby d9_166) rfl ?_
    refine XS.dloadN X24.here hx rfl (hb hby d9_168) rfl ?_
    exact kt
  obtain ⟨cl25, Ar25, Sz25, Mn25, Ha25⟩ := id (V20.other W22 (Ne.symm hne.2.2))
  have hin25 := inb_of (j := (0 : Int32)) Sz25 ⟨by decide, by decide⟩
  obtain ⟨T25, h25, X25, e25, W25, st25⟩ := stD X24 hx hZ e24 Ar25 (j := (0 : Int32)) hin25 (g := (mkF m 169 #[.val (.ref a0), .val (.long q1), .second, .val (.double (FP.l2d wt)), .second, .val (.int (0 : Int32))] [(.double (FP.l2d wt)), (.int (0 : Int32)), (.ref ss)])) rfl rfl (hb hby d9_169)
  have V25 : AF Z h25 ss .double (8 : Int32) (fun i => if i = ((0 : Int32)).toNatClampNeg then (.double (FP.l2d wt)) else (own_d3 w0 w1 w2) i) := AF.set Ar25 Sz25 Mn25 Ha25 hin25 W25
  have N25 := Fr.snoc X25 N22 g_ss
  have K25 : Keep h0 h25 [a0, tt, ss] := K22.wr W25 (Or.inl (List.mem_of_getElem? (i := 2) rfl))
  refine own_by (A' := T25.setTop (mkF m 170 #[.val (.ref a0), .val (.long q1), .second, .val (.double (FP.l2d wt)), .second, .val (.int (0 : Int32))] [])) (fun t kt => st25 t kt) ?_
  have V26 : AF Z h25 ss .double (8 : Int32) (own_d3 wt w1 w2) := AF.to V25 (own_stD0 wt w0 w1 w2)
  refine own_by (A' := T25.setTop (mkF m 172 #[.val (.ref a0), .val (.long q1), .second, .val (.double (FP.l2d wt)), .second, .val (.int (0 : Int32))] [(.ref a0), (.ref a0)])) (fun t kt => ?_) ?_
  · refine XS.aloadN X25.here hx rfl (hb hby d9_170) rfl rfl ?_
    refine XS.dup X25.here hx rfl (hb hby d9_171) rfl rfl ?_
    exact kt
  obtain ⟨T27, X27, e27, st27⟩ := getF X25 hx hZ hown (host := "") (Or.inl (wd28 hw)) Via.refl e25 (((((Fe.other W12 (Or.inr (sn29_20 hw))).keep Kq16 (ninS (Ne.symm hne.1) nin0)).keep Kq20 (ninS (Ne.symm hne.2.1) nin0)).other W22 (Or.inl (Ne.symm hne.1))).other W25 (Or.inl (Ne.symm hne.2.1))) (g := (mkF m 172 #[.val (.ref a0), .val (.long q1), .second, .val (.double (FP.l2d wt)), .second, .val (.int (0 : Int32))] [(.ref a0), (.ref a0)])) rfl rfl (hb hby d9_172)
  refine own_by (A' := T27.setTop (mkF m 177 #[.val (.ref a0), .val (.long q1), .second, .val (.double (FP.l2d wt)), .second, .val (.int (0 : Int32))] [(.int (1 : Int32)), (.ref a0)])) (fun t kt => ?_) ?_
  · refine st27 t ?_
    refine XS.iconst X27.here hx rfl (hb hby d9_175) ?_
    refine XS.iadd X27.here hx rfl (hb hby d9_176) rfl ?_
    exact kt
  obtain ⟨T28, h28, X28, e28, W28, st28⟩ := putF X27 hx hZ hown (host := "") (Or.inl (wd28 hw)) Via.refl e27 (((((Fe.other W12 (Or.inr (sn29_20 hw))).keep Kq16 (ninS (Ne.symm hne.1) nin0)).keep Kq20 (ninS (Ne.symm hne.2.1) nin0)).other W22 (Or.inl (Ne.symm hne.1))).other W25 (Or.inl (Ne.symm hne.2.1))) (((((E_a0.wr W12).keep Kq16).keep Kq20).wr W22).wr W25) (Or.inl (wd29 hw)) (wd5 hw) (ty := .int) (by decide) rfl rfl (g := (mkF m 177 #[.val (.ref a0), .val (.long q1), .second, .val (.double (FP.l2d wt)), .second, .val (.int (0 : Int32))] [(.int (1 : Int32)), (.ref a0)])) rfl rfl (hb hby d9_177)
  have F28 := Fld.same W28 (((((Fe.other W12 (Or.inr (sn29_20 hw))).keep Kq16 (ninS (Ne.symm hne.1) nin0)).keep Kq20 (ninS (Ne.symm hne.2.1) nin0)).other W22 (Or.inl (Ne.symm hne.1))).other W25 (Or.inl (Ne.symm hne.2.1)))
  have N28 := Fr.snoc X28 N25 g_a0
  have K28 : Keep h0 h28 [a0, tt, ss] := K25.wr W28 (Or.inl (List.mem_of_getElem? (i := 0) rfl))
  refine own_by (A' := T28.setTop (mkF m 180 #[.val (.ref a0), .val (.long q1), .second, .val (.double (FP.l2d wt)), .second, .val (.int (0 : Int32))] [])) (fun t kt => st28 t kt) ?_
  obtain ⟨fs, hr, hrun, hended, hW, hsame⟩ := X28.leave (v := none) (fun _ => rfl)
  refine ⟨_, _, ?_, hrun, hended, _, _, rfl, ?_, ⟨_, rfl⟩, hW, hsame.mono (by decide) (by decide)⟩
  · exact X28.returnOut hx Bd.returns (hb hby d9_180) hr
  · show QAd Z a0 tt ss (0 : Int32) t0 t1 t2 w0 w1 w2 q1 wt Us Sm h0 n0 _ T28.heap _
    rw [e28]
    exact ⟨rfl, N28, K28, (1 : Int32), q1, t1, t2, wt, w1, w2, ⟨hne, ((((((E_a0.wr W12).keep Kq16).keep Kq20).wr W22).wr W25).wr W28), ((((((Ft.other W12 (Or.inr (sn15_20 hw))).keep Kq16 (ninS (Ne.symm hne.1) nin0)).keep Kq20 (ninS (Ne.symm hne.2.1) nin0)).other W22 (Or.inl (Ne.symm hne.1))).other W25 (Or.inl (Ne.symm hne.2.1))).other W28 (Or.inr (sn15_29 hw))), ((((((Fs.other W12 (Or.inr (sn18_20 hw))).keep Kq16 (ninS (Ne.symm hne.1) nin0)).keep Kq20 (ninS (Ne.symm hne.2.1) nin0)).other W22 (Or.inl (Ne.symm hne.1))).other W25 (Or.inl (Ne.symm hne.2.1))).other W28 (Or.inr (sn18_29 hw))), ((((((Ff.other W12 (Or.inr (sn27_20 hw))).keep Kq16 (ninS (Ne.symm hne.1) nin0)).keep Kq20 (ninS (Ne.symm hne.2.1) nin0)).other W22 (Or.inl (Ne.symm hne.1))).other W25 (Or.inl (Ne.symm hne.2.1))).other W28 (Or.inr (sn27_29 hw))), F28, ((((((FU.other W12 (Or.inr (sn42_20 hw))).keep Kq16 (ninS (Ne.symm hne.1) nin0)).keep Kq20 (ninS (Ne.symm hne.2.1) nin0)).other W22 (Or.inl (Ne.symm hne.1))).other W25 (Or.inl (Ne.symm hne.2.1))).other W28 (Or.inr (sn42_29 hw))), ((((((FF.other W12 (Or.inr (sn31_20 hw))).keep Kq16 (ninS (Ne.symm hne.1) nin0)).keep Kq20 (ninS (Ne.symm hne.2.1) nin0)).other W22 (Or.inl (Ne.symm hne.1))).other W25 (Or.inl (Ne.symm hne.2.1))).other W28 (Or.inr (sn31_29 hw))), (((((F12.keep Kq16 (ninS (Ne.symm hne.1) nin0)).keep Kq20 (ninS (Ne.symm hne.2.1) nin0)).other W22 (Or.inl (Ne.symm hne.1))).other W25 (Or.inl (Ne.symm hne.2.1))).other W28 (Or.inr (sn20_29 hw))), ((((((FS.other W12 (Or.inr (sn48_20 hw))).keep Kq16 (ninS (Ne.symm hne.1) nin0)).keep Kq20 (ninS (Ne.symm hne.2.1) nin0)).other W22 (Or.inl (Ne.symm hne.1))).other W25 (Or.inl (Ne.symm hne.2.1))).other W28 (Or.inr (sn48_29 hw))), ((V23.other W25 hne.2.2).other W28 hne.1), (V26.other W28 hne.2.1)⟩, own_ai00 hs hFA1 hz hwt⟩
theorem d9_16 : decode prog_124_method_2_code 16 = .ok (.aload_n 0, 1) := by decide +kernel
theorem d9_17 : decode prog_124_method_2_code 17 = .ok (.getfield 9, 3) := by decide +kernel
theorem d9_20 : decode prog_124_method_2_code 20 = .ok (.iload 5, 2) := by decide +kernel
theorem d9_22 : decode prog_124_method_2_code 22 = .ok (.iconst 1, 1) := by decide +kernel
theorem d9_23 : decode prog_124_method_2_code 23 = .ok (.isub, 1) := by decide +kernel
theorem d9_24 : decode prog_124_method_2_code 24 = .ok (.laload, 1) := by decide +kernel
theorem d9_25 : decode prog_124_method_2_code 25 = .ok (.lload_n 1, 1) := by decide +kernel
theorem d9_26 : decode prog_124_method_2_code 26 = .ok (.lcmp, 1) := by decide +kernel
theorem d9_27 : decode prog_124_method_2_code 27 = .ok (.ifCond .ne 33, 3) := by decide +kernel
theorem d9_30 : decode prog_124_method_2_code 30 = .ok (.iload 5, 2) := by decide +kernel
theorem d9_32 : decode prog_124_method_2_code 32 = .ok (.iconst 1, 1) := by decide +kernel
theorem d9_33 : decode prog_124_method_2_code 33 = .ok (.isub, 1) := by decide +kernel
theorem d9_34 : decode prog_124_method_2_code 34 = .ok (.aload_n 0, 1) := by decide +kernel
theorem d9_35 : decode prog_124_method_2_code 35 = .ok (.getfield 17, 3) := by decide +kernel
theorem d9_38 : decode prog_124_method_2_code 38 = .ok (.if_icmp .ge 8, 3) := by decide +kernel
theorem d9_46 : decode prog_124_method_2_code 46 = .ok (.aload_n 0, 1) := by decide +kernel
theorem d9_47 : decode prog_124_method_2_code 47 = .ok (.getfield 13, 3) := by decide +kernel
theorem d9_50 : decode prog_124_method_2_code 50 = .ok (.iload 5, 2) := by decide +kernel
theorem d9_52 : decode prog_124_method_2_code 52 = .ok (.iconst 1, 1) := by decide +kernel
theorem d9_53 : decode prog_124_method_2_code 53 = .ok (.isub, 1) := by decide +kernel
theorem d9_54 : decode prog_124_method_2_code 54 = .ok (.dup2, 1) := by decide +kernel
theorem d9_55 : decode prog_124_method_2_code 55 = .ok (.daload, 1) := by decide +kernel
theorem d9_56 : decode prog_124_method_2_code 56 = .ok (.dload_n 3, 1) := by decide +kernel
theorem d9_57 : decode prog_124_method_2_code 57 = .ok (.dadd, 1) := by decide +kernel
theorem d9_58 : decode prog_124_method_2_code 58 = .ok (.dastore, 1) := by decide +kernel
theorem d9_59 : decode prog_124_method_2_code 59 = .ok (.return_, 1) := by decide +kernel
theorem ef_rmAd1 (m : MethodId) (a0 : Addr) (q1 : Int64) : entryFrame m #[(.ref a0), (.long q1), (.double (FP.l2d wt))] 6 = mkF m 0 #[.val (.ref a0), .val (.long q1), .second, .val (.double (FP.l2d wt)), .second, .unset] [] := by first | (simp [entryFrame, mkF, argsToLocals, Value.category]; done) | rfl
set_option maxRecDepth 65536 in
set_option maxHeartbeats 40000000 in
theorem rmAd1 (l : Launch) (Z : State) (aw : Array Value) (hw : ∀ d ∈ tables_1, d.before aw Z = true) (ws : List Jvm.Cond) (a0 : Addr) (q1 : Int64) (wt : Int64) (tt : Addr) (ss : Addr) (t0 : Int64) (t1 : Int64) (t2 : Int64) (w0 : Int64) (w1 : Int64) (w2 : Int64) (Us : Int64) (Sm : Int64) (h0 : Heap) (n0 : Nat) (Z0 : n0 ≤ h0.size) (S_ : own_St Z h0 a0 tt ss (0 : Int32) (1 : Int32) t0 t1 t2 w0 w1 w2 Us (0 : Int32) (-1 : Int32) Sm) (g_a0 : n0 ≤ a0) (g_tt : n0 ≤ tt) (g_ss : n0 ≤ ss) (hs : own_Srt 0 (1 : Int32) t0 t1 t2) (hz : own_Zw (1 : Int32) w0 w1 w2) (hwt : 0 ≤ w0.toInt ∧ 0 ≤ w1.toInt ∧ 0 ≤ w2.toInt ∧ 0 ≤ wt.toInt ∧ w0.toInt + w1.toInt + w2.toInt + wt.toInt ≤ 7) :
    MetFree l (⟨"com/example/fairshed/fairshed/shedding/SicByTime", "add", "(JD)V"⟩ : MethodName) (head1 (Jvm.Cond.code (⟨"com/example/fairshed/fairshed/shedding/SicByTime", "add", "(JD)V"⟩ : MethodName) prog_124_method_2_code 6 none :: ws) ({ frames := 3, cells := 0, slots := 0, locals := 52 } : Room)) (fun a U => a = #[(.ref a0), (.long q1), (.double (FP.l2d wt))] ∧ Z.Warmed39 U.vm ∧ U.heap = h0) (fun _ _ _ _ _ => True) (fun _ U o U' => ∃ v L, o = .returned v ∧ QAd Z a0 tt ss (1 : Int32) t0 t1 t2 w0 w1 w2 q1 wt Us Sm h0 n0 v U'.heap L ∧ FrameEnd U o U' L ({ frames := 3, cells := 0, slots := 0, locals := 52 } : Room).cells ({ frames := 3, cells := 0, slots := 0, locals := 52 } : Room).slots) := by
  refine MetFree.of_bodySF (plainFor_of_name pn_0) hisR ?_
  intro p e s m args below meth c s₁ Bd hml0 hP hK
  obtain ⟨rfl, hZ, hh⟩ := hP
  have hx := Bd.exec
  have hby := Bd.bytes
  have hml : c.maxLocals = 6 := hml0
  have hown : s.vm.findClass "com/example/fairshed/fairshed/shedding/SicByTime" = some m.cls := findClass_of_methodNamed Bd.named
  have hnm := (name_of_methodNamed Bd.named Bd.method).1
  have X0 : Stand p l e ({ frames := 3, cells := 0, slots := 0, locals := 52 } : Room) s m #[(.ref a0), (.long q1), (.double (FP.l2d wt))] below meth c s₁ [] 0 0 := Stand.of_body Bd
  have e0 : s₁.heap = h0 := by rw [← hh, Bd.state]; rfl
  have N0 := Fr.nil n0
  have K0 : Keep h0 h0 [a0, tt, ss] := Keep.refl _ _
  refine own_by (A' := s₁.setTop (mkF m 0 #[.val (.ref a0), .val (.long q1), .second, .val (.double (FP.l2d wt)), .second, .unset] [])) (fun t k => castTop (ef_rmAd1 m a0 q1) k) ?_
  obtain ⟨hne, E_a0, Ft, Fs, Ff, Fe, FU, FF, FG, FS, V_t, V_s⟩ := S_
  refine own_by (A' := s₁.setTop (mkF m 2 #[.val (.ref a0), .val (.long q1), .second, .val (.double (FP.l2d wt)), .second, .unset] [(.long q1), (.ref a0)])) (fun t kt => ?_) ?_
  · refine XS.aloadN X0.here hx rfl (hb hby d9_0) rfl rfl ?_
    refine XS.lloadN X0.here hx rfl (hb hby d9_1) rfl ?_
    exact kt
  obtain ⟨cq1, qe1, qe1'⟩ := (E_a0).cell
  obtain ⟨ci1, ki1, hci1, hki1, -, hni1, -⟩ := Cond.instantiable_spec (mvT (args := #[]) hZ (wd5 hw))
  obtain ⟨_, _, ⟨T1, L1, k1, n1⟩, -, X1, ⟨Lc1, hQ1, l1, y1, z1⟩, st1⟩ := X0.privateBack hx (y := (⟨"com/example/fairshed/fairshed/shedding/SicByTime", "firstAfter", "(J)I"⟩ : MethodName)) hown (mvT hZ (wd37 hw)) (mvT hZ (wd38 hw)) (selects_self_of_private hci1 hki1 (Bool.or_eq_false_iff.mp hni1).1 (Cond.privateMethod_at (mvP hZ (wd39 hw) (args := #[]))) (mvT hZ (wd38 hw)) (by decide)) (Cond.privateMethod_at (mvP hZ (wd39 hw) (args := #[]))) (mvT hZ (wd40 hw)) (by decide) (backOf (W := 0) (rmFAu l Z aw hw [] a0 q1 tt t0 t1 t2 (0 : Int32) (1 : Int32) h0 n0 (Nat.le_trans Z0 K0.1) Ft Ff Fe V_t (by decide) hs) hZ (wd40 hw) (wd6 hw) (by decide) (by decide)) (g := (mkF m 2 #[.val (.ref a0), .val (.long q1), .second, .val (.double (FP.l2d wt)), .second, .unset] [(.long q1), (.ref a0)])) rfl (by rw [hml]; rfl) (Steps.refl _) (a := a0) (by rw [e0]; exact qe1) qe1' (argsL := [(.long q1)]) (rest := []) (lenOf pd_5 rfl) rfl (by show 2 * 0 + _ ≤ _; exact Nat.le_of_eq rfl) (hb hby d9_2) (fun _ _ => ⟨rfl, e0, (by decide : 0 + 0 ≤ _), (by decide : 0 + 0 ≤ _)⟩)
  dsimp only [Pt.U, Pt.locs, Pt.cells, Pt.slots] at X1 l1 y1 z1 st1 hQ1
  subst l1 y1 z1
  obtain ⟨kf1, rfl, hFA1, N1q, e1⟩ := hQ1
  have N1 := Fr.app N0 N1q
  refine own_by (A' := T1.setTop (mkF m 5 #[.val (.ref a0), .val (.long q1), .second, .val (.double (FP.l2d wt)), .second, .unset] [(.int kf1)])) (fun t kt => st1.trans kt) ?_
  rcases own_kk1 hFA1.1 with rfl | rfl
  · refine own_by (A' := T1.setTop (mkF m 10 #[.val (.ref a0), .val (.long q1), .second, .val (.double (FP.l2d wt)), .second, .val (.int (0 : Int32))] [(.ref a0), (.int (0 : Int32))])) (fun t kt => ?_) ?_
    · refine XS.istore X1.here hx rfl (hb hby d9_5) rfl (l' := #[.val (.ref a0), .val (.long q1), .second, .val (.double (FP.l2d wt)), .second, .val (.int (0 : Int32))]) rfl ?_
      refine XS.iload X1.here hx rfl (hb hby d9_7) rfl ?_
      refine XS.aloadN X1.here hx rfl (hb hby d9_9) rfl rfl ?_
      exact kt
    obtain ⟨T2, X2, e2, st2⟩ := getF X1 hx hZ hown (host := "") (Or.inl (wd26 hw)) Via.refl e1 Ff (g := (mkF m 10 #[.val (.ref a0), .val (.long q1), .second, .val (.double (FP.l2d wt)), .second, .val (.int (0 : Int32))] [(.ref a0), (.int (0 : Int32))])) rfl rfl (hb hby d9_10)
    refine own_by (A' := T2.setTop (mkF m 13 #[.val (.ref a0), .val (.long q1), .second, .val (.double (FP.l2d wt)), .second, .val (.int (0 : Int32))] [(.int (0 : Int32)), (.int (0 : Int32))])) (fun t kt => st2 t kt) ?_
    have hc13_3 : ¬ ((0 : Int32) < (0 : Int32)) := by decide
    refine own_by (A' := T2.setTop (mkF m 61 #[.val (.ref a0), .val (.long q1), .second, .val (.double (FP.l2d wt)), .second, .val (.int (0 : Int32))] [(.ref a0)])) (fun t kt => ?_) ?_
    · refine XS.icmpYes X2.here hx rfl (pc0 := 13) (pc' := 60) rfl (hb hby d9_13) rfl (flt hc13_3).2.2.2 (by decide) (by decide) ?_
      refine XS.aloadN X2.here hx rfl (hb hby d9_60) rfl rfl ?_
      exact kt
    obtain ⟨T4, X4, e4, st4⟩ := getF X2 hx hZ hown (host := "") (Or.inl (wd28 hw)) Via.refl e2 Fe (g := (mkF m 61 #[.val (.ref a0), .val (.long q1), .second, .val (.double (FP.l2d wt)), .second, .val (.int (0 : Int32))] [(.ref a0)])) rfl rfl (hb hby d9_61)
    refine own_by (A' := T4.setTop (mkF m 65 #[.val (.ref a0), .val (.long q1), .second, .val (.double (FP.l2d wt)), .second, .val (.int (0 : Int32))] [(.ref a0), (.int (1 : Int32))])) (fun t kt => ?_) ?_
    · refine st4 t ?_
      refine XS.aloadN X4.here hx rfl (hb hby d9_64) rfl rfl ?_
      exact kt
    obtain ⟨T5, X5, e5, st5⟩ := getF X4 hx hZ hown (host := "") (Or.inl (wd14 hw)) Via.refl e4 Ft (g := (mkF m 65 #[.val (.ref a0), .val (.long q1), .second, .val (.double (FP.l2d wt)), .second, .val (.int (0 : Int32))] [(.ref a0), (.int (1 : Int32))])) rfl rfl (hb hby d9_65)
    refine own_by (A' := T5.setTop (mkF m 68 #[.val (.ref a0), .val (.long q1), .second, .val (.double (FP.l2d wt)), .second, .val (.int (0 : Int32))] [(.ref tt), (.int (1 : Int32))])) (fun t kt => st5 t kt) ?_
    obtain ⟨cl6, Ar6, Sz6, Mn6, -⟩ := id V_t
    refine own_by (A' := T5.setTop (mkF m 69 #[.val (.ref a0), .val (.long q1), .second, .val (.double (FP.l2d wt)), .second, .val (.int (0 : Int32))] [(.int (8 : Int32)), (.int (1 : Int32))])) (fun t kt => ?_) ?_
    · refine X5.arraylength hx (by rw [e5]; exact Ar6.1) (State.isArrayOf_alike hZ.alike Ar6.2.1) (g := (mkF m 68 #[.val (.ref a0), .val (.long q1), .second, .val (.double (FP.l2d wt)), .second, .val (.int (0 : Int32))] [(.ref tt), (.int (1 : Int32))])) rfl rfl (hb hby d9_68) _ ?_
      rw [len_of Sz6 Mn6]
      exact kt
    have hc69_7 : ¬ ((1 : Int32) = (8 : Int32)) := by decide
    refine own_by (A' := T5.setTop (mkF m 86 #[.val (.ref a0), .val (.long q1), .second, .val (.double (FP.l2d wt)), .second, .val (.int (0 : Int32))] [(.ref a0), (.int (0 : Int32))])) (fun t kt => ?_) ?_
    · refine XS.icmpYes X5.here hx rfl (pc0 := 69) (pc' := 83) rfl (hb hby d9_69) rfl (feq hc69_7).2 (by decide) (by decide) ?_
      refine XS.iload X5.here hx rfl (hb hby d9_83) rfl ?_
      refine XS.aloadN X5.here hx rfl (hb hby d9_85) rfl rfl ?_
      exact kt
    obtain ⟨T8, X8, e8, st8⟩ := getF X5 hx hZ hown (host := "") (Or.inl (wd19 hw)) Via.refl e5 FG (g := (mkF m 86 #[.val (.ref a0), .val (.long q1), .second, .val (.double (FP.l2d wt)), .second, .val (.int (0 : Int32))] [(.ref a0), (.int (0 : Int32))])) rfl rfl (hb hby d9_86)
    refine own_by (A' := T8.setTop (mkF m 89 #[.val (.ref a0), .val (.long q1), .second, .val (.double (FP.l2d wt)), .second, .val (.int (0 : Int32))] [(.int (-1 : Int32)), (.int (0 : Int32))])) (fun t kt => st8 t kt) ?_
    have hc89_9 : ¬ ((0 : Int32) < (-1 : Int32)) := by decide
    refine own_by (A' := T8.setTop (mkF m 95 #[.val (.ref a0), .val (.long q1), .second, .val (.double (FP.l2d wt)), .second, .val (.int (0 : Int32))] [(.ref a0), (.int (0 : Int32))])) (fun t kt => ?_) ?_
    · refine XS.icmpNo X8.here hx rfl (hb hby d9_89) rfl (flt hc89_9).1 ?_
      refine XS.iload X8.here hx rfl (hb hby d9_92) rfl ?_
      refine XS.aloadN X8.here hx rfl (hb hby d9_94) rfl rfl ?_
      exact kt
    obtain ⟨T10, X10, e10, st10⟩ := getF X8 hx hZ hown (host := "") (Or.inl (wd30 hw)) Via.refl e8 FF (g := (mkF m 95 #[.val (.ref a0), .val (.long q1), .second, .val (.double (FP.l2d wt)), .second, .val (.int (0 : Int32))] [(.ref a0), (.int (0 : Int32))])) rfl rfl (hb hby d9_95)
    refine own_by (A' := T10.setTop (mkF m 98 #[.val (.ref a0), .val (.long q1), .second, .val (.double (FP.l2d wt)), .second, .val (.int (0 : Int32))] [(.int (0 : Int32)), (.int (0 : Int32))])) (fun t kt => st10 t kt) ?_
    have hc98_11 : ¬ ((0 : Int32) < (0 : Int32)) := by decide
    refine own_by (A' := T10.setTop (mkF m 103 #[.val (.ref a0), .val (.long q1), .second, .val (.double (FP.l2d wt)), .second, .val (.int (0 : Int32))] [(.int (-1 : Int32)), (.ref a0)])) (fun t kt => ?_) ?_
    · refine XS.icmpNo X10.here hx rfl (hb hby d9_98) rfl (flt hc98_11).2.2.1 ?_
      refine XS.aloadN X10.here hx rfl (hb hby d9_101) rfl rfl ?_
      refine XS.iconst X10.here hx rfl (hb hby d9_102) ?_
      exact kt
    obtain ⟨T12, h12, X12, e12, W12, st12⟩ := putF X10 hx hZ hown (host := "") (Or.inl (wd19 hw)) Via.refl e10 FG E_a0 (Or.inl (wd20 hw)) (wd5 hw) (ty := .int) (by decide) rfl rfl (g := (mkF m 103 #[.val (.ref a0), .val (.long q1), .second, .val (.double (FP.l2d wt)), .second, .val (.int (0 : Int32))] [(.int (-1 : Int32)), (.ref a0)])) rfl rfl (hb hby d9_103)
    have F12 := Fld.same W12 FG
    have N12 := Fr.snoc X12 N1 g_a0
    have K12 : Keep h0 h12 [a0, tt, ss] := K0.wr W12 (Or.inl (List.mem_of_getElem? (i := 0) rfl))
    refine own_by (A' := T12.setTop (mkF m 107 #[.val (.ref a0), .val (.long q1), .second, .val (.double (FP.l2d wt)), .second, .val (.int (0 : Int32))] [(.ref a0)])) (fun t kt => ?_) ?_
    · refine st12 t ?_
      refine XS.aloadN X12.here hx rfl (hb hby d9_106) rfl rfl ?_
      exact kt
    obtain ⟨T13, X13, e13, st13⟩ := getF X12 hx hZ hown (host := "") (Or.inl (wd14 hw)) Via.refl e12 (Ft.other W12 (Or.inr (sn15_20 hw))) (g := (mkF m 107 #[.val (.ref a0), .val (.long q1), .second, .val (.double (FP.l2d wt)), .second, .val (.int (0 : Int32))] [(.ref a0)])) rfl rfl (hb hby d9_107)
    refine own_by (A' := T13.setTop (mkF m 113 #[.val (.ref a0), .val (.long q1), .second, .val (.double (FP.l2d wt)), .second, .val (.int (0 : Int32))] [(.ref a0), (.int (0 : Int32)), (.ref tt)])) (fun t kt => ?_) ?_
    · refine st13 t ?_
      refine XS.iload X13.here hx rfl (hb hby d9_110) rfl ?_
      refine XS.aloadN X13.here hx rfl (hb hby d9_112) rfl rfl ?_
      exact kt
    obtain ⟨T14, X14, e14, st14⟩ := getF X13 hx hZ hown (host := "") (Or.inl (wd14 hw)) Via.refl e13 (Ft.other W12 (Or.inr (sn15_20 hw))) (g := (mkF m 113 #[.val (.ref a0), .val (.long q1), .second, .val (.double (FP.l2d wt)), .second, .val (.int (0 : Int32))] [(.ref a0), (.int (0 : Int32)), (.ref tt)])) rfl rfl (hb hby d9_113)
    refine own_by (A' := T14.setTop (mkF m 121 #[.val (.ref a0), .val (.long q1), .second, .val (.double (FP.l2d wt)), .second, .val (.int (0 : Int32))] [(.ref a0), (.int (1 : Int32)), (.ref tt), (.int (0 : Int32)), (.ref tt)])) (fun t kt => ?_) ?_
    · refine st14 t ?_
      refine XS.iload X14.here hx rfl (hb hby d9_116) rfl ?_
      refine XS.iconst X14.here hx rfl (hb hby d9_118) ?_
      refine XS.iadd X14.here hx rfl (hb hby d9_119) rfl ?_
      refine XS.aloadN X14.here hx rfl (hb hby d9_120) rfl rfl ?_
      exact kt
    obtain ⟨T15, X15, e15, st15⟩ := getF X14 hx hZ hown (host := "") (Or.inl (wd28 hw)) Via.refl e14 (Fe.other W12 (Or.inr (sn29_20 hw))) (g := (mkF m 121 #[.val (.ref a0), .val (.long q1), .second, .val (.double (FP.l2d wt)), .second, .val (.int (0 : Int32))] [(.ref a0), (.int (1 : Int32)), (.ref tt), (.int (0 : Int32)), (.ref tt)])) rfl rfl (hb hby d9_121)
    refine own_by (A' := T15.setTop (mkF m 127 #[.val (.ref a0), .val (.long q1), .second, .val (.double (FP.l2d wt)), .second, .val (.int (0 : Int32))] [(.int (1 : Int32)), (.int (1 : Int32)), (.ref tt), (.int (0 : Int32)), (.ref tt)])) (fun t kt => ?_) ?_
    · refine st15 t ?_
      refine XS.iload X15.here hx rfl (hb hby d9_124) rfl ?_
      refine XS.isub X15.here hx rfl (hb hby d9_126) rfl ?_
      exact kt
    obtain ⟨T16, L16, X16, N16, Kq16, B16, st16⟩ := own_cp X15 hx hZ hown (wd60 hw) (wd63 hw) (wd61 hw) (wd62 hw) e15 (x := (.long t0)) (y := (.long t1)) (z := (.long t2)) (o := (.long 0)) (V_t.other W12 hne.1) rfl rfl rfl rfl rfl (sp := (0 : Int32)) (dp := (1 : Int32)) (nn := (1 : Int32)) (by decide) (by decide) (by decide) (by decide) (by decide) (own_cl01 (.long t0) (.long t1) (.long t2) (.long 0)) N12 g_tt (g := (mkF m 127 #[.val (.ref a0), .val (.long q1), .second, .val (.double (FP.l2d wt)), .second, .val (.int (0 : Int32))] [(.int (1 : Int32)), (.int (1 : Int32)), (.ref tt), (.int (0 : Int32)), (.ref tt)])) rfl (by rw [hml]; rfl) (rest := []) rfl (hb hby d9_127) (by decide) (W := 0) (by show 2 * 0 + _ ≤ _; exact Nat.le_of_eq rfl) (by decide)
    have K16 : Keep h0 T16.heap [a0, tt, ss] := K12.trans Kq16 (allS (Or.inl (List.mem_of_getElem? (i := 1) rfl)) all0)
    have V16 : AF Z T16.heap tt .long (8 : Int32) (own_j3 t0 t0 t2) := B16
    refine own_by (A' := T16.setTop (mkF m 131 #[.val (.ref a0), .val (.long q1), .second, .val (.double (FP.l2d wt)), .second, .val (.int (0 : Int32))] [(.ref a0)])) (fun t kt => ?_) ?_
    · refine st16 t ?_
      refine XS.aloadN X16.here hx rfl (hb hby d9_130) rfl rfl ?_
      exact kt
    obtain ⟨T17, X17, e17, st17⟩ := getF X16 hx hZ hown (host := "") (Or.inl (wd17 hw)) Via.refl rfl ((Fs.other W12 (Or.inr (sn18_20 hw))).keep Kq16 (ninS (Ne.symm hne.1) nin0)) (g := (mkF m 131 #[.val (.ref a0), .val (.long q1), .second, .val (.double (FP.l2d wt)), .second, .val (.int (0 : Int32))] [(.ref a0)])) rfl rfl (hb hby d9_131)
    refine own_by (A' := T17.setTop (mkF m 137 #[.val (.ref a0), .val (.long q1), .second, .val (.double (FP.l2d wt)), .second, .val (.int (0 : Int32))] [(.ref a0), (.int (0 : Int32)), (.ref ss)])) (fun t kt => ?_) ?_
    · refine st17 t ?_
      refine XS.iload X17.here hx rfl (hb hby d9_134) rfl ?_
      refine XS.aloadN X17.here hx rfl (hb hby d9_136) rfl rfl ?_
      exact kt
    obtain ⟨T18, X18, e18, st18⟩ := getF X17 hx hZ hown (host := "") (Or.inl (wd17 hw)) Via.refl e17 ((Fs.other W12 (Or.inr (sn18_20 hw))).keep Kq16 (ninS (Ne.symm hne.1) nin0)) (g := (mkF m 137 #[.val (.ref a0), .val (.long q1), .second, .val (.double (FP.l2d wt)), .second, .val (.int (0 : Int32))] [(.ref a0), (.int (0 : Int32)), (.ref ss)])) rfl rfl (hb hby d9_137)
    refine own_by (A' := T18.setTop (mkF m 145 #[.val (.ref a0), .val (.long q1), .second, .val (.double (FP.l2d wt)), .second, .val (.int (0 : Int32))] [(.ref a0), (.int (1 : Int32)), (.ref ss), (.int (0 : Int32)), (.ref ss)])) (fun t kt => ?_) ?_
    · refine st18 t ?_
      refine XS.iload X18.here hx rfl (hb hby d9_140) rfl ?_
      refine XS.iconst X18.here hx rfl (hb hby d9_142) ?_
      refine XS.iadd X18.here hx rfl (hb hby d9_143) rfl ?_
      refine XS.aloadN X18.here hx rfl (hb hby d9_144) rfl rfl ?_
      exact kt
    obtain ⟨T19, X19, e19, st19⟩ := getF X18 hx hZ hown (host := "") (Or.inl (wd28 hw)) Via.refl e18 ((Fe.other W12 (Or.inr (sn29_20 hw))).keep Kq16 (ninS (Ne.symm hne.1) nin0)) (g := (mkF m 145 #[.val (.ref a0), .val (.long q1), .second, .val (.double (FP.l2d wt)), .second, .val (.int (0 : Int32))] [(.ref a0), (.int (1 : Int32)), (.ref ss), (.int (0 : Int32)), (.ref ss)])) rfl rfl (hb hby d9_145)
    refine own_by (A' := T19.setTop (mkF m 151 #[.val (.ref a0), .val (.long q1), .second, .val (.double (FP.l2d wt)), .second, .val (.int (0 : Int32))] [(.int (1 : Int32)), (.int (1 : Int32)), (.ref ss), (.int (0 : Int32)), (.ref ss)])) (fun t kt => ?_) ?_
    · refine st19 t ?_
      refine XS.iload X19.here hx rfl (hb hby d9_148) rfl ?_
      refine XS.isub X19.here hx rfl (hb hby d9_150) rfl ?_
      exact kt
    obtain ⟨T20, L20, X20, N20, Kq20, B20, st20⟩ := own_cp X19 hx hZ hown (wd60 hw) (wd63 hw) (wd61 hw) (wd62 hw) e19 (x := (.double (FP.l2d w0))) (y := (.double (FP.l2d w1))) (z := (.double (FP.l2d w2))) (o := (.double (FP.l2d 0))) ((V_s.other W12 hne.2.1).keep Kq16 (ninS (Ne.symm hne.2.2) nin0)) rfl rfl rfl rfl rfl (sp := (0 : Int32)) (dp := (1 : Int32)) (nn := (1 : Int32)) (by decide) (by decide) (by decide) (by decide) (by decide) (own_cl01 (.double (FP.l2d w0)) (.double (FP.l2d w1)) (.double (FP.l2d w2)) (.double (FP.l2d 0))) N16 g_ss (g := (mkF m 151 #[.val (.ref a0), .val (.long q1), .second, .val (.double (FP.l2d wt)), .second, .val (.int (0 : Int32))] [(.int (1 : Int32)), (.int (1 : Int32)), (.ref ss), (.int (0 : Int32)), (.ref ss)])) rfl (by rw [hml]; rfl) (rest := []) rfl (hb hby d9_151) (by decide) (W := 0) (by show 2 * 0 + _ ≤ _; exact Nat.le_of_eq rfl) (by decide)
    have K20 : Keep h0 T20.heap [a0, tt, ss] := K16.trans Kq20 (allS (Or.inl (List.mem_of_getElem? (i := 2) rfl)) all0)
    have V20 : AF Z T20.heap ss .double (8 : Int32) (own_d3 w0 w0 w2) := B20
    refine own_by (A' := T20.setTop (mkF m 155 #[.val (.ref a0), .val (.long q1), .second, .val (.double (FP.l2d wt)), .second, .val (.int (0 : Int32))] [(.ref a0)])) (fun t kt => ?_) ?_
    · refine st20 t ?_
      refine XS.aloadN X20.here hx rfl (hb hby d9_154) rfl rfl ?_
      exact kt
    obtain ⟨T21, X21, e21, st21⟩ := getF X20 hx hZ hown (host := "") (Or.inl (wd14 hw)) Via.refl rfl (((Ft.other W12 (Or.inr (sn15_20 hw))).keep Kq16 (ninS (Ne.symm hne.1) nin0)).keep Kq20 (ninS (Ne.symm hne.2.1) nin0)) (g := (mkF m 155 #[.val (.ref a0), .val (.long q1), .second, .val (.double (FP.l2d wt)), .second, .val (.int (0 : Int32))] [(.ref a0)])) rfl rfl (hb hby d9_155)
    refine own_by (A' := T21.setTop (mkF m 161 #[.val (.ref a0), .val (.long q1), .second, .val (.double (FP.l2d wt)), .second, .val (.int (0 : Int32))] [(.long q1), (.int (0 : Int32)), (.ref tt)])) (fun t kt => ?_) ?_
    · refine st21 t ?_
      refine XS.iload X21.here hx rfl (hb hby d9_158) rfl ?_
      refine XS.lloadN X21.here hx rfl (hb hby d9_160) rfl ?_
      exact kt
    obtain ⟨cl22, Ar22, Sz22, Mn22, Ha22⟩ := id (V16.keep Kq20 (ninS hne.2.2 nin0))
    have hin22 := inb_of (j := (0 : Int32)) Sz22 ⟨by decide, by decide⟩
    obtain ⟨T22, h22, X22, e22, W22, st22⟩ := stJ X21 hx hZ e21 Ar22 (j := (0 : Int32)) hin22 (g := (mkF m 161 #[.val (.ref a0), .val (.long q1), .second, .val (.double (FP.l2d wt)), .second, .val (.int (0 : Int32))] [(.long q1), (.int (0 : Int32)), (.ref tt)])) rfl rfl (hb hby d9_161)
    have V22 : AF Z h22 tt .long (8 : Int32) (fun i => if i = ((0 : Int32)).toNatClampNeg then (.long q1) else (own_j3 t0 t0 t2) i) := AF.set Ar22 Sz22 Mn22 Ha22 hin22 W22
    have N22 := Fr.snoc X22 N20 g_tt
    have K22 : Keep h0 h22 [a0, tt, ss] := K20.wr W22 (Or.inl (List.mem_of_getElem? (i := 1) rfl))
    refine own_by (A' := T22.setTop (mkF m 162 #[.val (.ref a0), .val (.long q1), .second, .val (.double (FP.l2d wt)), .second, .val (.int (0 : Int32))] [])) (fun t kt => st22 t kt) ?_
    have V23 : AF Z h22 tt .long (8 : Int32) (own_j3 q1 t0 t2) := AF.to V22 (own_stJ0 q1 t0 t0 t2)
    refine own_by (A' := T22.setTop (mkF m 163 #[.val (.ref a0), .val (.long q1), .second, .val (.double (FP.l2d wt)), .second, .val (.int (0 : Int32))] [(.ref a0)])) (fun t kt => ?_) ?_
    · refine XS.aloadN X22.here hx rfl (hb hby d9_162) rfl rfl ?_
      exact kt
    obtain ⟨T24, X24, e24, st24⟩ := getF X22 hx hZ hown (host := "") (Or.inl (wd17 hw)) Via.refl e22 ((((Fs.other W12 (Or.inr (sn18_20 hw))).keep Kq16 (ninS (Ne.symm hne.1) nin0)).keep Kq20 (ninS (Ne.symm hne.2.1) nin0)).other W22 (Or.inl (Ne.symm hne.1))) (g := (mkF m 163 #[.val (.ref a0), .val (.long q1), .second, .val (.double (FP.l2d wt)), .second, .val (.int (0 : Int32))] [(.ref a0)])) rfl rfl (hb hby d9_163)
    refine own_by (A' := T24.setTop (mkF m 169 #[.val (.ref a0), .val (.long q1), .second, .val (.double (FP.l2d wt)), .second, .val (.int (0 : Int32))] [(.double (FP.l2d wt)), (.int (0 : Int32)), (.ref ss)])) (fun t kt => ?_) ?_
    · refine st24 t ?_
      refine XS.iload X24.here hx rfl (hb hby d9_166) rfl ?_
      refine XS.dloadN X24.here hx rfl (hb hby d9_168) rfl ?_
      exact kt
    obtain ⟨cl25, Ar25, Sz25, Mn25, Ha25⟩ := id (V20.other W22 (Ne.symm hne.2.2))
    have hin25 := inb_of (j := (0 : Int32)) Sz25 ⟨by decide, by decide⟩
    obtain ⟨T25, h25, X25, e25, W25, st25⟩ := stD X24 hx hZ e24 Ar25 (j := (0 : Int32)) hin25 (g := (mkF m 169 #[.val (.ref a0), .val (.long q1), .second, .val (.double (FP.l2d wt)), .second, .val (.int (0 : Int32))] [(.double (FP.l2d wt)), (.int (0 : Int32)), (.ref ss)])) rfl rfl (hb hby d9_169)
    have V25 : AF Z h25 ss .double (8 : Int32) (fun i => if i = ((0 : Int32)).toNatClampNeg then (.double (FP.l2d wt)) else (own_d3 w0 w0 w2) i) := AF.set Ar25 Sz25 Mn25 Ha25 hin25 W25
    have N25 := Fr.snoc X25 N22 g_ss
    have K25 : Keep h0 h25 [a0, tt, ss] := K22.wr W25 (Or.inl (List.mem_of_getElem? (i := 2) rfl))
    refine own_by (A' := T25.setTop (mkF m 170 #[.val (.ref a0), .val (.long q1), .second, .val (.double (FP.l2d wt)), .second, .val (.int (0 : Int32))] [])) (fun t kt => st25 t kt) ?_
    have V26 : AF Z h25 ss .double (8 : Int32) (own_d3 wt w0 w2) := AF.to V25 (own_stD0 wt w0 w0 w2)
    refine own_by (A' := T25.setTop (mkF m 172 #[.val (.ref a0), .val (.long q1), .second, .val (.double (FP.l2d wt)), .second, .val (.int (0 : Int32))] [(.ref a0), (.ref a0)])) (fun t kt => ?_) ?_
    · refine XS.aloadN X25.here hx rfl (hb hby d9_170) rfl rfl ?_
      refine XS.dup X25.here hx rfl (hb hby d9_171) rfl rfl ?_
      exact kt
    obtain ⟨T27, X27, e27, st27⟩ := getF X25 hx hZ hown (host := "") (Or.inl (wd28 hw)) Via.refl e25 (((((Fe.other W12 (Or.inr (sn29_20 hw))).keep Kq16 (ninS (Ne.symm hne.1) nin0)).keep Kq20 (ninS (Ne.symm hne.2.1) nin0)).other W22 (Or.inl (Ne.symm hne.1))).other W25 (Or.inl (Ne.symm hne.2.1))) (g := (mkF m 172 #[.val (.ref a0), .val (.long q1), .second, .val (.double (FP.l2d wt)), .second, .val (.int (0 : Int32))] [(.ref a0), (.ref a0)])) rfl rfl (hb hby d9_172)
    refine own_by (A' := T27.setTop (mkF m 177 #[.val (.ref a0), .val (.long q1), .second, .val (.double (FP.l2d wt)), .second, .val (.int (0 : Int32))] [(.int (2 : Int32)), (.ref a0)])) (fun t kt => ?_) ?_
    · refine st27 t ?_
      refine XS.iconst X27.here hx rfl (hb hby d9_175) ?_
      refine XS.iadd X27.here hx rfl (hb hby d9_176) rfl ?_
      exact kt
    obtain ⟨T28, h28, X28, e28, W28, st28⟩ := putF X27 hx hZ hown (host := "") (Or.inl (wd28 hw)) Via.refl e27 (((((Fe.other W12 (Or.inr (sn29_20 hw))).keep Kq16 (ninS (Ne.symm hne.1) nin0)).keep Kq20 (ninS (Ne.symm hne.2.1) nin0)).other W22 (Or.inl (Ne.symm hne.1))).other W25 (Or.inl (Ne.symm hne.2.1))) (((((E_a0.wr W12).keep Kq16).keep Kq20).wr W22).wr W25) (Or.inl (wd29 hw)) (wd5 hw) (ty := .int) (by decide) rfl rfl (g := (mkF m 177 #[.val (.ref a0), .val (.long q1), .second, .val (.double (FP.l2d wt)), .second, .val (.int (0 : Int32))] [(.int (2 : Int32)), (.ref a0)])) rfl rfl (hb hby d9_177)
    have F28 := Fld.same W28 (((((Fe.other W12 (Or.inr (sn29_20 hw))).keep Kq16 (ninS (Ne.symm hne.1) nin0)).keep Kq20 (ninS (Ne.symm hne.2.1) nin0)).other W22 (Or.inl (Ne.symm hne.1))).other W25 (Or.inl (Ne.symm hne.2.1)))
    have N28 := Fr.snoc X28 N25 g_a0
    have K28 : Keep h0 h28 [a0, tt, ss] := K25.wr W28 (Or.inl (List.mem_of_getElem? (i := 0) rfl))
    refine own_by (A' := T28.setTop (mkF m 180 #[.val (.ref a0), .val (.long q1), .second, .val (.double (FP.l2d wt)), .second, .val (.int (0 : Int32))] [])) (fun t kt => st28 t kt) ?_
    obtain ⟨fs, hr, hrun, hended, hW, hsame⟩ := X28.leave (v := none) (fun _ => rfl)
    refine ⟨_, _, ?_, hrun, hended, _, _, rfl, ?_, ⟨_, rfl⟩, hW, hsame.mono (by decide) (by decide)⟩
    · exact X28.returnOut hx Bd.returns (hb hby d9_180) hr
    · show QAd Z a0 tt ss (1 : Int32) t0 t1 t2 w0 w1 w2 q1 wt Us Sm h0 n0 _ T28.heap _
      rw [e28]
      exact ⟨rfl, N28, K28, (2 : Int32), q1, t0, t2, wt, w0, w2, ⟨hne, ((((((E_a0.wr W12).keep Kq16).keep Kq20).wr W22).wr W25).wr W28), ((((((Ft.other W12 (Or.inr (sn15_20 hw))).keep Kq16 (ninS (Ne.symm hne.1) nin0)).keep Kq20 (ninS (Ne.symm hne.2.1) nin0)).other W22 (Or.inl (Ne.symm hne.1))).other W25 (Or.inl (Ne.symm hne.2.1))).other W28 (Or.inr (sn15_29 hw))), ((((((Fs.other W12 (Or.inr (sn18_20 hw))).keep Kq16 (ninS (Ne.symm hne.1) nin0)).keep Kq20 (ninS (Ne.symm hne.2.1) nin0)).other W22 (Or.inl (Ne.symm hne.1))).other W25 (Or.inl (Ne.symm hne.2.1))).other W28 (Or.inr (sn18_29 hw))), ((((((Ff.other W12 (Or.inr (sn27_20 hw))).keep Kq16 (ninS (Ne.symm hne.1) nin0)).keep Kq20 (ninS (Ne.symm hne.2.1) nin0)).other W22 (Or.inl (Ne.symm hne.1))).other W25 (Or.inl (Ne.symm hne.2.1))).other W28 (Or.inr (sn27_29 hw))), F28, ((((((FU.other W12 (Or.inr (sn42_20 hw))).keep Kq16 (ninS (Ne.symm hne.1) nin0)).keep Kq20 (ninS (Ne.symm hne.2.1) nin0)).other W22 (Or.inl (Ne.symm hne.1))).other W25 (Or.inl (Ne.symm hne.2.1))).other W28 (Or.inr (sn42_29 hw))), ((((((FF.other W12 (Or.inr (sn31_20 hw))).keep Kq16 (ninS (Ne.symm hne.1) nin0)).keep Kq20 (ninS (Ne.symm hne.2.1) nin0)).other W22 (Or.inl (Ne.symm hne.1))).other W25 (Or.inl (Ne.symm hne.2.1))).other W28 (Or.inr (sn31_29 hw))), (((((F12.keep Kq16 (ninS (Ne.symm hne.1) nin0)).keep Kq20 (ninS (Ne.symm hne.2.1) nin0)).other W22 (Or.inl (Ne.symm hne.1))).other W25 (Or.inl (Ne.symm hne.2.1))).other W28 (Or.inr (sn20_29 hw))), ((((((FS.other W12 (Or.inr (sn48_20 hw))).keep Kq16 (ninS (Ne.symm hne.1) nin0)).keep Kq20 (ninS (Ne.symm hne.2.1) nin0)).other W22 (Or.inl (Ne.symm hne.1))).other W25 (Or.inl (Ne.symm hne.2.1))).other W28 (Or.inr (sn48_29 hw))), ((V23.other W25 hne.2.2).other W28 hne.1), (V26.other W28 hne.2.1)⟩, own_ai10 hs hFA1 hz hwt⟩
  · refine own_by (A' := T1.setTop (mkF m 10 #[.val (.ref a0), .val (.long q1), .second, .val (.double (FP.l2d wt)), .second, .val (.int (1 : Int32))] [(.ref a0), (.int (1 : Int32))])) (fun t kt => ?_) ?_
    · refine XS.istore X1.here hx rfl (hb hby d9_5) rfl (l' := #[.val (.ref a0), .val (.long q1), .second, .val (.double (FP.l2d wt)), .second, .val (.int (1 : Int32))]) rfl ?_
      refine XS.iload X1.here hx rfl (hb hby d9_7) rfl ?_
      refine XS.aloadN X1.here hx rfl (hb hby d9_9) rfl rfl ?_
      exact kt
    obtain ⟨T29, X29, e29, st29⟩ := getF X1 hx hZ hown (host := "") (Or.inl (wd26 hw)) Via.refl e1 Ff (g := (mkF m 10 #[.val (.ref a0), .val (.long q1), .second, .val (.double (FP.l2d wt)), .second, .val (.int (1 : Int32))] [(.ref a0), (.int (1 : Int32))])) rfl rfl (hb hby d9_10)
    refine own_by (A' := T29.setTop (mkF m 13 #[.val (.ref a0), .val (.long q1), .second, .val (.double (FP.l2d wt)), .second, .val (.int (1 : Int32))] [(.int (0 : Int32)), (.int (1 : Int32))])) (fun t kt => st29 t kt) ?_
    have hc13_30 : (0 : Int32) < (1 : Int32) := by decide
    refine own_by (A' := T29.setTop (mkF m 17 #[.val (.ref a0), .val (.long q1), .second, .val (.double (FP.l2d wt)), .second, .val (.int (1 : Int32))] [(.ref a0)])) (fun t kt => ?_) ?_
    · refine XS.icmpNo X29.here hx rfl (hb hby d9_13) rfl (tlt hc13_30).2.2.2 ?_
      refine XS.aloadN X29.here hx rfl (hb hby d9_16) rfl rfl ?_
      exact kt
    obtain ⟨T31, X31, e31, st31⟩ := getF X29 hx hZ hown (host := "") (Or.inl (wd14 hw)) Via.refl e29 Ft (g := (mkF m 17 #[.val (.ref a0), .val (.long q1), .second, .val (.double (FP.l2d wt)), .second, .val (.int (1 : Int32))] [(.ref a0)])) rfl rfl (hb hby d9_17)
    refine own_by (A' := T31.setTop (mkF m 24 #[.val (.ref a0), .val (.long q1), .second, .val (.double (FP.l2d wt)), .second, .val (.int (1 : Int32))] [(.int (0 : Int32)), (.ref tt)])) (fun t kt => ?_) ?_
    · refine st31 t ?_
      refine XS.iload X31.here hx rfl (hb hby d9_20) rfl ?_
      refine XS.iconst X31.here hx rfl (hb hby d9_22) ?_
      refine XS.isub X31.here hx rfl (hb hby d9_23) rfl ?_
      exact kt
    obtain ⟨cl32, Ar32, Sz32, Mn32, Ha32⟩ := id V_t
    have hin32 := inb_of (j := (0 : Int32)) Sz32 ⟨by decide, by decide⟩
    have hat32 : cl32.slots[((0 : Int32)).toNatClampNeg]? = some (.long t0) := (Ha32 _ (Nat.lt_of_not_le fun q => hin32 (Or.inr q))).trans (congrArg some rfl)
    refine own_by (A' := T31.setTop (mkF m 27 #[.val (.ref a0), .val (.long q1), .second, .val (.double (FP.l2d wt)), .second, .val (.int (1 : Int32))] [(.int (lcmpW t0 q1))])) (fun t kt => ?_) ?_
    · refine X31.laload hx (j := (0 : Int32)) (v := (.long t0)) (by rw [e31]; exact Ar32.1) (State.isArrayOf_alike hZ.alike Ar32.2.1) Ar32.2.2 hin32 hat32 (g := (mkF m 24 #[.val (.ref a0), .val (.long q1), .second, .val (.double (FP.l2d wt)), .second, .val (.int (1 : Int32))] [(.int (0 : Int32)), (.ref tt)])) rfl rfl (hb hby d9_24) _ ?_
      refine XS.lloadN X31.here hx rfl (hb hby d9_25) rfl ?_
      refine XS.lcmp X31.here hx rfl (hb hby d9_26) rfl ?_
      exact kt
    by_cases hc27_33 : t0 = q1
    · refine own_by (A' := T31.setTop (mkF m 35 #[.val (.ref a0), .val (.long q1), .second, .val (.double (FP.l2d wt)), .second, .val (.int (1 : Int32))] [(.ref a0), (.int (0 : Int32))])) (fun t kt => ?_) ?_
      · refine XS.ifNo X31.here hx rfl (hb hby d9_27) rfl ((if0 _ _).trans (teq ((lw_eq _ _).mpr hc27_33)).2) ?_
        refine XS.iload X31.here hx rfl (hb hby d9_30) rfl ?_
        refine XS.iconst X31.here hx rfl (hb hby d9_32) ?_
        refine XS.isub X31.here hx rfl (hb hby d9_33) rfl ?_
        refine XS.aloadN X31.here hx rfl (hb hby d9_34) rfl rfl ?_
        exact kt
      obtain ⟨T34, X34, e34, st34⟩ := getF X31 hx hZ hown (host := "") (Or.inl (wd19 hw)) Via.refl e31 FG (g := (mkF m 35 #[.val (.ref a0), .val (.long q1), .second, .val (.double (FP.l2d wt)), .second, .val (.int (1 : Int32))] [(.ref a0), (.int (0 : Int32))])) rfl rfl (hb hby d9_35)
      refine own_by (A' := T34.setTop (mkF m 38 #[.val (.ref a0), .val (.long q1), .second, .val (.double (FP.l2d wt)), .second, .val (.int (1 : Int32))] [(.int (-1 : Int32)), (.int (0 : Int32))])) (fun t kt => st34 t kt) ?_
      have hc38_35 : ¬ ((0 : Int32) < (-1 : Int32)) := by decide
      refine own_by (A' := T34.setTop (mkF m 47 #[.val (.ref a0), .val (.long q1), .second, .val (.double (FP.l2d wt)), .second, .val (.int (1 : Int32))] [(.ref a0)])) (fun t kt => ?_) ?_
      · refine XS.icmpYes X34.here hx rfl (pc0 := 38) (pc' := 46) rfl (hb hby d9_38) rfl (flt hc38_35).2.1 (by decide) (by decide) ?_
        refine XS.aloadN X34.here hx rfl (hb hby d9_46) rfl rfl ?_
        exact kt
      obtain ⟨T36, X36, e36, st36⟩ := getF X34 hx hZ hown (host := "") (Or.inl (wd17 hw)) Via.refl e34 Fs (g := (mkF m 47 #[.val (.ref a0), .val (.long q1), .second, .val (.double (FP.l2d wt)), .second, .val (.int (1 : Int32))] [(.ref a0)])) rfl rfl (hb hby d9_47)
      refine own_by (A' := T36.setTop (mkF m 55 #[.val (.ref a0), .val (.long q1), .second, .val (.double (FP.l2d wt)), .second, .val (.int (1 : Int32))] [(.int (0 : Int32)), (.ref ss), (.int (0 : Int32)), (.ref ss)])) (fun t kt => ?_) ?_
      · refine st36 t ?_
        refine XS.iload X36.here hx rfl (hb hby d9_50) rfl ?_
        refine XS.iconst X36.here hx rfl (hb hby d9_52) ?_
        refine XS.isub X36.here hx rfl (hb hby d9_53) rfl ?_
        refine Jvm.Free.XT.dup2 X36.here hx rfl (hb hby d9_54) rfl rfl rfl ?_
        exact kt
      obtain ⟨cl37, Ar37, Sz37, Mn37, Ha37⟩ := id V_s
      have hin37 := inb_of (j := (0 : Int32)) Sz37 ⟨by decide, by decide⟩
      have hat37 : cl37.slots[((0 : Int32)).toNatClampNeg]? = some (.double (FP.l2d w0)) := (Ha37 _ (Nat.lt_of_not_le fun q => hin37 (Or.inr q))).trans (congrArg some rfl)
      refine own_by (A' := T36.setTop (mkF m 57 #[.val (.ref a0), .val (.long q1), .second, .val (.double (FP.l2d wt)), .second, .val (.int (1 : Int32))] [(.double (FP.l2d wt)), (.double (FP.l2d w0)), (.int (0 : Int32)), (.ref ss)])) (fun t kt => ?_) ?_
      · refine X36.daload hx (j := (0 : Int32)) (v := (.double (FP.l2d w0))) (by rw [e36]; exact Ar37.1) (State.isArrayOf_alike hZ.alike Ar37.2.1) Ar37.2.2 hin37 hat37 (g := (mkF m 55 #[.val (.ref a0), .val (.long q1), .second, .val (.double (FP.l2d wt)), .second, .val (.int (1 : Int32))] [(.int (0 : Int32)), (.ref ss), (.int (0 : Int32)), (.ref ss)])) rfl rfl (hb hby d9_55) _ ?_
        refine XS.dloadN X36.here hx rfl (hb hby d9_56) rfl ?_
        exact kt
      have ha38 := own_ac (a := w0) (b := wt) (by omega) (by omega)
      have ha39 := own_ac (a := w0) (b := wt) (by omega) (by omega)
      refine own_by (A' := T36.setTop (mkF m 58 #[.val (.ref a0), .val (.long q1), .second, .val (.double (FP.l2d wt)), .second, .val (.int (1 : Int32))] [(.double (FP.l2d (w0 + wt))), (.int (0 : Int32)), (.ref ss)])) (fun t kt => ?_) ?_
      · refine XS.daddS X36.here hx rfl (hb hby d9_57) rfl (own_nn2 (a := w0) (b := wt) (by unfold own_B; omega) (by unfold own_B; omega) (by unfold own_B; omega)) (v := FP.l2d (w0 + wt)) (dadd_w (own_53 (by unfold own_B; omega)) (own_53 (by unfold own_B; omega))) ?_
        exact kt
      obtain ⟨cl40, Ar40, Sz40, Mn40, Ha40⟩ := id V_s
      have hin40 := inb_of (j := (0 : Int32)) Sz40 ⟨by decide, by decide⟩
      obtain ⟨T40, h40, X40, e40, W40, st40⟩ := stD X36 hx hZ e36 Ar40 (j := (0 : Int32)) hin40 (g := (mkF m 58 #[.val (.ref a0), .val (.long q1), .second, .val (.double (FP.l2d wt)), .second, .val (.int (1 : Int32))] [(.double (FP.l2d (w0 + wt))), (.int (0 : Int32)), (.ref ss)])) rfl rfl (hb hby d9_58)
      have V40 : AF Z h40 ss .double (8 : Int32) (fun i => if i = ((0 : Int32)).toNatClampNeg then (.double (FP.l2d (w0 + wt))) else (own_d3 w0 w1 w2) i) := AF.set Ar40 Sz40 Mn40 Ha40 hin40 W40
      have N40 := Fr.snoc X40 N1 g_ss
      have K40 : Keep h0 h40 [a0, tt, ss] := K0.wr W40 (Or.inl (List.mem_of_getElem? (i := 2) rfl))
      refine own_by (A' := T40.setTop (mkF m 59 #[.val (.ref a0), .val (.long q1), .second, .val (.double (FP.l2d wt)), .second, .val (.int (1 : Int32))] [])) (fun t kt => st40 t kt) ?_
      have V41 : AF Z h40 ss .double (8 : Int32) (own_d3 (w0 + wt) w1 w2) := AF.to V40 (own_stD0 (w0 + wt) w0 w1 w2)
      obtain ⟨fs, hr, hrun, hended, hW, hsame⟩ := X40.leave (v := none) (fun _ => rfl)
      refine ⟨_, _, ?_, hrun, hended, _, _, rfl, ?_, ⟨_, rfl⟩, hW, hsame.mono (by decide) (by decide)⟩
      · exact X40.returnOut hx Bd.returns (hb hby d9_59) hr
      · show QAd Z a0 tt ss (1 : Int32) t0 t1 t2 w0 w1 w2 q1 wt Us Sm h0 n0 _ T40.heap _
        rw [e40]
        exact ⟨rfl, N40, K40, (1 : Int32), t0, t1, t2, (w0 + wt), w1, w2, ⟨hne, (E_a0.wr W40), (Ft.other W40 (Or.inl (Ne.symm hne.2.1))), (Fs.other W40 (Or.inl (Ne.symm hne.2.1))), (Ff.other W40 (Or.inl (Ne.symm hne.2.1))), (Fe.other W40 (Or.inl (Ne.symm hne.2.1))), (FU.other W40 (Or.inl (Ne.symm hne.2.1))), (FF.other W40 (Or.inl (Ne.symm hne.2.1))), (FG.other W40 (Or.inl (Ne.symm hne.2.1))), (FS.other W40 (Or.inl (Ne.symm hne.2.1))), (V_t.other W40 hne.2.2), V41⟩, own_am11 hs hFA1 hz hwt hc27_33⟩
    · refine own_by (A' := T31.setTop (mkF m 61 #[.val (.ref a0), .val (.long q1), .second, .val (.double (FP.l2d wt)), .second, .val (.int (1 : Int32))] [(.ref a0)])) (fun t kt => ?_) ?_
      · refine XS.ifYes X31.here hx rfl (pc0 := 27) (pc' := 60) rfl (hb hby d9_27) rfl ((if0 _ _).trans (feq (fun q => hc27_33 ((lw_eq _ _).mp q))).2) (by decide) (by decide) ?_
        refine XS.aloadN X31.here hx rfl (hb hby d9_60) rfl rfl ?_
        exact kt
      obtain ⟨T42, X42, e42, st42⟩ := getF X31 hx hZ hown (host := "") (Or.inl (wd28 hw)) Via.refl e31 Fe (g := (mkF m 61 #[.val (.ref a0), .val (.long q1), .second, .val (.double (FP.l2d wt)), .second, .val (.int (1 : Int32))] [(.ref a0)])) rfl rfl (hb hby d9_61)
      refine own_by (A' := T42.setTop (mkF m 65 #[.val (.ref a0), .val (.long q1), .second, .val (.double (FP.l2d wt)), .second, .val (.int (1 : Int32))] [(.ref a0), (.int (1 : Int32))])) (fun t kt => ?_) ?_
      · refine st42 t ?_
        refine XS.aloadN X42.here hx rfl (hb hby d9_64) rfl rfl ?_
        exact kt
      obtain ⟨T43, X43, e43, st43⟩ := getF X42 hx hZ hown (host := "") (Or.inl (wd14 hw)) Via.refl e42 Ft (g := (mkF m 65 #[.val (.ref a0), .val (.long q1), .second, .val (.double (FP.l2d wt)), .second, .val (.int (1 : Int32))] [(.ref a0), (.int (1 : Int32))])) rfl rfl (hb hby d9_65)
      refine own_by (A' := T43.setTop (mkF m 68 #[.val (.ref a0), .val (.long q1), .second, .val (.double (FP.l2d wt)), .second, .val (.int (1 : Int32))] [(.ref tt), (.int (1 : Int32))])) (fun t kt => st43 t kt) ?_
      obtain ⟨cl44, Ar44, Sz44, Mn44, -⟩ := id V_t
      refine own_by (A' := T43.setTop (mkF m 69 #[.val (.ref a0), .val (.long q1), .second, .val (.double (FP.l2d wt)), .second, .val (.int (1 : Int32))] [(.int (8 : Int32)), (.int (1 : Int32))])) (fun t kt => ?_) ?_
      · refine X43.arraylength hx (by rw [e43]; exact Ar44.1) (State.isArrayOf_alike hZ.alike Ar44.2.1) (g := (mkF m 68 #[.val (.ref a0), .val (.long q1), .second, .val (.double (FP.l2d wt)), .second, .val (.int (1 : Int32))] [(.ref tt), (.int (1 : Int32))])) rfl rfl (hb hby d9_68) _ ?_
        rw [len_of Sz44 Mn44]
        exact kt
      have hc69_45 : ¬ ((1 : Int32) = (8 : Int32)) := by decide
      refine own_by (A' := T43.setTop (mkF m 86 #[.val (.ref a0), .val (.long q1), .second, .val (.double (FP.l2d wt)), .second, .val (.int (1 : Int32))] [(.ref a0), (.int (1 : Int32))])) (fun t kt => ?_) ?_
      · refine XS.icmpYes X43.here hx rfl (pc0 := 69) (pc' := 83) rfl (hb hby d9_69) rfl (feq hc69_45).2 (by decide) (by decide) ?_
        refine XS.iload X43.here hx rfl (hb hby d9_83) rfl ?_
        refine XS.aloadN X43.here hx rfl (hb hby d9_85) rfl rfl ?_
        exact kt
      obtain ⟨T46, X46, e46, st46⟩ := getF X43 hx hZ hown (host := "") (Or.inl (wd19 hw)) Via.refl e43 FG (g := (mkF m 86 #[.val (.ref a0), .val (.long q1), .second, .val (.double (FP.l2d wt)), .second, .val (.int (1 : Int32))] [(.ref a0), (.int (1 : Int32))])) rfl rfl (hb hby d9_86)
      refine own_by (A' := T46.setTop (mkF m 89 #[.val (.ref a0), .val (.long q1), .second, .val (.double (FP.l2d wt)), .second, .val (.int (1 : Int32))] [(.int (-1 : Int32)), (.int (1 : Int32))])) (fun t kt => st46 t kt) ?_
      have hc89_47 : ¬ ((1 : Int32) < (-1 : Int32)) := by decide
      refine own_by (A' := T46.setTop (mkF m 95 #[.val (.ref a0), .val (.long q1), .second, .val (.double (FP.l2d wt)), .second, .val (.int (1 : Int32))] [(.ref a0), (.int (1 : Int32))])) (fun t kt => ?_) ?_
      · refine XS.icmpNo X46.here hx rfl (hb hby d9_89) rfl (flt hc89_47).1 ?_
        refine XS.iload X46.here hx rfl (hb hby d9_92) rfl ?_
        refine XS.aloadN X46.here hx rfl (hb hby d9_94) rfl rfl ?_
        exact kt
      obtain ⟨T48, X48, e48, st48⟩ := getF X46 hx hZ hown (host := "") (Or.inl (wd30 hw)) Via.refl e46 FF (g := (mkF m 95 #[.val (.ref a0), .val (.long q1), .second, .val (.double (FP.l2d wt)), .second, .val (.int (1 : Int32))] [(.ref a0), (.int (1 : Int32))])) rfl rfl (hb hby d9_95)
      refine own_by (A' := T48.setTop (mkF m 98 #[.val (.ref a0), .val (.long q1), .second, .val (.double (FP.l2d wt)), .second, .val (.int (1 : Int32))] [(.int (0 : Int32)), (.int (1 : Int32))])) (fun t kt => st48 t kt) ?_
      have hc98_49 : (0 : Int32) < (1 : Int32) := by decide
      refine own_by (A' := T48.setTop (mkF m 107 #[.val (.ref a0), .val (.long q1), .second, .val (.double (FP.l2d wt)), .second, .val (.int (1 : Int32))] [(.ref a0)])) (fun t kt => ?_) ?_
      · refine XS.icmpYes X48.here hx rfl (pc0 := 98) (pc' := 106) rfl (hb hby d9_98) rfl (tlt hc98_49).2.2.1 (by decide) (by decide) ?_
        refine XS.aloadN X48.here hx rfl (hb hby d9_106) rfl rfl ?_
        exact kt
      obtain ⟨T50, X50, e50, st50⟩ := getF X48 hx hZ hown (host := "") (Or.inl (wd14 hw)) Via.refl e48 Ft (g := (mkF m 107 #[.val (.ref a0), .val (.long q1), .second, .val (.double (FP.l2d wt)), .second, .val (.int (1 : Int32))] [(.ref a0)])) rfl rfl (hb hby d9_107)
      refine own_by (A' := T50.setTop (mkF m 113 #[.val (.ref a0), .val (.long q1), .second, .val (.double (FP.l2d wt)), .second, .val (.int (1 : Int32))] [(.ref a0), (.int (1 : Int32)), (.ref tt)])) (fun t kt => ?_) ?_
      · refine st50 t ?_
        refine XS.iload X50.here hx rfl (hb hby d9_110) rfl ?_
        refine XS.aloadN X50.here hx rfl (hb hby d9_112) rfl rfl ?_
        exact kt
      obtain ⟨T51, X51, e51, st51⟩ := getF X50 hx hZ hown (host := "") (Or.inl (wd14 hw)) Via.refl e50 Ft (g := (mkF m 113 #[.val (.ref a0), .val (.long q1), .second, .val (.double (FP.l2d wt)), .second, .val (.int (1 : Int32))] [(.ref a0), (.int (1 : Int32)), (.ref tt)])) rfl rfl (hb hby d9_113)
      refine own_by (A' := T51.setTop (mkF m 121 #[.val (.ref a0), .val (.long q1), .second, .val (.double (FP.l2d wt)), .second, .val (.int (1 : Int32))] [(.ref a0), (.int (2 : Int32)), (.ref tt), (.int (1 : Int32)), (.ref tt)])) (fun t kt => ?_) ?_
      · refine st51 t ?_
        refine XS.iload X51.here hx rfl (hb hby d9_116) rfl ?_
        refine XS.iconst X51.here hx rfl (hb hby d9_118) ?_
        refine XS.iadd X51.here hx rfl (hb hby d9_119) rfl ?_
        refine XS.aloadN X51.here hx rfl (hb hby d9_120) rfl rfl ?_
        exact kt
      obtain ⟨T52, X52, e52, st52⟩ := getF X51 hx hZ hown (host := "") (Or.inl (wd28 hw)) Via.refl e51 Fe (g := (mkF m 121 #[.val (.ref a0), .val (.long q1), .second, .val (.double (FP.l2d wt)), .second, .val (.int (1 : Int32))] [(.ref a0), (.int (2 : Int32)), (.ref tt), (.int (1 : Int32)), (.ref tt)])) rfl rfl (hb hby d9_121)
      refine own_by (A' := T52.setTop (mkF m 127 #[.val (.ref a0), .val (.long q1), .second, .val (.double (FP.l2d wt)), .second, .val (.int (1 : Int32))] [(.int (0 : Int32)), (.int (2 : Int32)), (.ref tt), (.int (1 : Int32)), (.ref tt)])) (fun t kt => ?_) ?_
      · refine st52 t ?_
        refine XS.iload X52.here hx rfl (hb hby d9_124) rfl ?_
        refine XS.isub X52.here hx rfl (hb hby d9_126) rfl ?_
        exact kt
      obtain ⟨T53, L53, X53, N53, Kq53, B53, st53⟩ := own_cp X52 hx hZ hown (wd60 hw) (wd63 hw) (wd61 hw) (wd62 hw) e52 (x := (.long t0)) (y := (.long t1)) (z := (.long t2)) (o := (.long 0)) V_t rfl rfl rfl rfl rfl (sp := (1 : Int32)) (dp := (2 : Int32)) (nn := (0 : Int32)) (by decide) (by decide) (by decide) (by decide) (by decide) (own_cl11 (.long t0) (.long t1) (.long t2) (.long 0)) N1 g_tt (g := (mkF m 127 #[.val (.ref a0), .val (.long q1), .second, .val (.double (FP.l2d wt)), .second, .val (.int (1 : Int32))] [(.int (0 : Int32)), (.int (2 : Int32)), (.ref tt), (.int (1 : Int32)), (.ref tt)])) rfl (by rw [hml]; rfl) (rest := []) rfl (hb hby d9_127) (by decide) (W := 0) (by show 2 * 0 + _ ≤ _; exact Nat.le_of_eq rfl) (by decide)
      have K53 : Keep h0 T53.heap [a0, tt, ss] := K0.trans Kq53 (allS (Or.inl (List.mem_of_getElem? (i := 1) rfl)) all0)
      have V53 : AF Z T53.heap tt .long (8 : Int32) (own_j3 t0 t1 t2) := B53
      refine own_by (A' := T53.setTop (mkF m 131 #[.val (.ref a0), .val (.long q1), .second, .val (.double (FP.l2d wt)), .second, .val (.int (1 : Int32))] [(.ref a0)])) (fun t kt => ?_) ?_
      · refine st53 t ?_
        refine XS.aloadN X53.here hx rfl (hb hby d9_130) rfl rfl ?_
        exact kt
      obtain ⟨T54, X54, e54, st54⟩ := getF X53 hx hZ hown (host := "") (Or.inl (wd17 hw)) Via.refl rfl (Fs.keep Kq53 (ninS (Ne.symm hne.1) nin0)) (g := (mkF m 131 #[.val (.ref a0), .val (.long q1), .second, .val (.double (FP.l2d wt)), .second, .val (.int (1 : Int32))] [(.ref a0)])) rfl rfl (hb hby d9_131)
      refine own_by (A' := T54.setTop (mkF m 137 #[.val (.ref a0), .val (.long q1), .second, .val (.double (FP.l2d wt)), .second, .val (.int (1 : Int32))] [(.ref a0), (.int (1 : Int32)), (.ref ss)])) (fun t kt => ?_) ?_
      · refine st54 t ?_
        refine XS.iload X54.here hx rfl (hb hby d9_134) rfl ?_
        refine XS.aloadN X54.here hx rfl (hb hby d9_136) rfl rfl ?_
        exact kt
      obtain ⟨T55, X55, e55, st55⟩ := getF X54 hx hZ hown (host := "") (Or.inl (wd17 hw)) Via.refl e54 (Fs.keep Kq53 (ninS (Ne.symm hne.1) nin0)) (g := (mkF m 137 #[.val (.ref a0), .val (.long q1), .second, .val (.double (FP.l2d wt)), .second, .val (.int (1 : Int32))] [(.ref a0), (.int (1 : Int32)), (.ref ss)])) rfl rfl (hb hby d9_137)
      refine own_by (A' := T55.setTop (mkF m 145 #[.val (.ref a0), .val (.long q1), .second, .val (.double (FP.l2d wt)), .second, .val (.int (1 : Int32))] [(.ref a0), (.int (2 : Int32)), (.ref ss), (.int (1 : Int32)), (.ref ss)])) (fun t kt => ?_) ?_
      · refine st55 t ?_
        refine XS.iload X55.here hx rfl (hb hby d9_140) rfl ?_
        refine XS.iconst X55.here hx rfl (hb hby d9_142) ?_
        refine XS.iadd X55.here hx rfl (hb hby d9_143) rfl ?_
        refine XS.aloadN X55.here hx rfl (hb hby d9_144) rfl rfl ?_
        exact kt
      obtain ⟨T56, X56, e56, st56⟩ := getF X55 hx hZ hown (host := "") (Or.inl (wd28 hw)) Via.refl e55 (Fe.keep Kq53 (ninS (Ne.symm hne.1) nin0)) (g := (mkF m 145 #[.val (.ref a0), .val (.long q1), .second, .val (.double (FP.l2d wt)), .second, .val (.int (1 : Int32))] [(.ref a0), (.int (2 : Int32)), (.ref ss), (.int (1 : Int32)), (.ref ss)])) rfl rfl (hb hby d9_145)
      refine own_by (A' := T56.setTop (mkF m 151 #[.val (.ref a0), .val (.long q1), .second, .val (.double (FP.l2d wt)), .second, .val (.int (1 : Int32))] [(.int (0 : Int32)), (.int (2 : Int32)), (.ref ss), (.int (1 : Int32)), (.ref ss)])) (fun t kt => ?_) ?_
      · refine st56 t ?_
        refine XS.iload X56.here hx rfl (hb hby d9_148) rfl ?_
        refine XS.isub X56.here hx rfl (hb hby d9_150) rfl ?_
        exact kt
      obtain ⟨T57, L57, X57, N57, Kq57, B57, st57⟩ := own_cp X56 hx hZ hown (wd60 hw) (wd63 hw) (wd61 hw) (wd62 hw) e56 (x := (.double (FP.l2d w0))) (y := (.double (FP.l2d w1))) (z := (.double (FP.l2d w2))) (o := (.double (FP.l2d 0))) (V_s.keep Kq53 (ninS (Ne.symm hne.2.2) nin0)) rfl rfl rfl rfl rfl (sp := (1 : Int32)) (dp := (2 : Int32)) (nn := (0 : Int32)) (by decide) (by decide) (by decide) (by decide) (by decide) (own_cl11 (.double (FP.l2d w0)) (.double (FP.l2d w1)) (.double (FP.l2d w2)) (.double (FP.l2d 0))) N53 g_ss (g := (mkF m 151 #[.val (.ref a0), .val (.long q1), .second, .val (.double (FP.l2d wt)), .second, .val (.int (1 : Int32))] [(.int (0 : Int32)), (.int (2 : Int32)), (.ref ss), (.int (1 : Int32)), (.ref ss)])) rfl (by rw [hml]; rfl) (rest := []) rfl (hb hby d9_151) (by decide) (W := 0) (by show 2 * 0 + _ ≤ _; exact Nat.le_of_eq rfl) (by decide)
      have K57 : Keep h0 T57.heap [a0, tt, ss] := K53.trans Kq57 (allS (Or.inl (List.mem_of_getElem? (i := 2) rfl)) all0)
      have V57 : AF Z T57.heap ss .double (8 : Int32) (own_d3 w0 w1 w2) := B57
      refine own_by (A' := T57.setTop (mkF m 155 #[.val (.ref a0), .val (.long q1), .second, .val (.double (FP.l2d wt)), .second, .val (.int (1 : Int32))] [(.ref a0)])) (fun t kt => ?_) ?_
      · refine st57 t ?_
        refine XS.aloadN X57.here hx rfl (hb hby d9_154) rfl rfl ?_
        exact kt
      obtain ⟨T58, X58, e58, st58⟩ := getF X57 hx hZ hown (host := "") (Or.inl (wd14 hw)) Via.refl rfl ((Ft.keep Kq53 (ninS (Ne.symm hne.1) nin0)).keep Kq57 (ninS (Ne.symm hne.2.1) nin0)) (g := (mkF m 155 #[.val (.ref a0), .val (.long q1), .second, .val (.double (FP.l2d wt)), .second, .val (.int (1 : Int32))] [(.ref a0)])) rfl rfl (hb hby d9_155)
      refine own_by (A' := T58.setTop (mkF m 161 #[.val (.ref a0), .val (.long q1), .second, .val (.double (FP.l2d wt)), .second, .val (.int (1 : Int32))] [(.long q1), (.int (1 : Int32)), (.ref tt)])) (fun t kt => ?_) ?_
      · refine st58 t ?_
        refine XS.iload X58.here hx rfl (hb hby d9_158) rfl ?_
        refine XS.lloadN X58.here hx rfl (hb hby d9_160) rfl ?_
        exact kt
      obtain ⟨cl59, Ar59, Sz59, Mn59, Ha59⟩ := id (V53.keep Kq57 (ninS hne.2.2 nin0))
      have hin59 := inb_of (j := (1 : Int32)) Sz59 ⟨by decide, by decide⟩
      obtain ⟨T59, h59, X59, e59, W59, st59⟩ := stJ X58 hx hZ e58 Ar59 (j := (1 : Int32)) hin59 (g := (mkF m 161 #[.val (.ref a0), .val (.long q1), .second, .val (.double (FP.l2d wt)), .second, .val (.int (1 : Int32))] [(.long q1), (.int (1 : Int32)), (.ref tt)])) rfl rfl (hb hby d9_161)
      have V59 : AF Z h59 tt .long (8 : Int32) (fun i => if i = ((1 : Int32)).toNatClampNeg then (.long q1) else (own_j3 t0 t1 t2) i) := AF.set Ar59 Sz59 Mn59 Ha59 hin59 W59
      have N59 := Fr.snoc X59 N57 g_tt
      have K59 : Keep h0 h59 [a0, tt, ss] := K57.wr W59 (Or.inl (List.mem_of_getElem? (i := 1) rfl))
      refine own_by (A' := T59.setTop (mkF m 162 #[.val (.ref a0), .val (.long q1), .second, .val (.double (FP.l2d wt)), .second, .val (.int (1 : Int32))] [])) (fun t kt => st59 t kt) ?_
      have V60 : AF Z h59 tt .long (8 : Int32) (own_j3 t0 q1 t2) := AF.to V59 (own_stJ1 q1 t0 t1 t2)
      refine own_by (A' := T59.setTop (mkF m 163 #[.val (.ref a0), .val (.long q1), .second, .val (.double (FP.l2d wt)), .second, .val (.int (1 : Int32))] [(.ref a0)])) (fun t kt => ?_) ?_
      · refine XS.aloadN X59.here hx rfl (hb hby d9_162) rfl rfl ?_
        exact kt
      obtain ⟨T61, X61, e61, st61⟩ := getF X59 hx hZ hown (host := "") (Or.inl (wd17 hw)) Via.refl e59 (((Fs.keep Kq53 (ninS (Ne.symm hne.1) nin0)).keep Kq57 (ninS (Ne.symm hne.2.1) nin0)).other W59 (Or.inl (Ne.symm hne.1))) (g := (mkF m 163 #[.val (.ref a0), .val (.long q1), .second, .val (.double (FP.l2d wt)), .second, .val (.int (1 : Int32))] [(.ref a0)])) rfl rfl (hb hby d9_163)
      refine own_by (A' := T61.setTop (mkF m 169 #[.val (.ref a0), .val (.long q1), .second, .val (.double (FP.l2d wt)), .second, .val (.int (1 : Int32))] [(.double (FP.l2d wt)), (.int (1 : Int32)), (.ref ss)])) (fun t kt => ?_) ?_
      · refine st61 t ?_
        refine XS.iload X61.here hx rfl (hb hby d9_166) rfl ?_
        refine XS.dloadN X61.here hx rfl (hb hby d9_168) rfl ?_
        exact kt
      obtain ⟨cl62, Ar62, Sz62, Mn62, Ha62⟩ := id (V57.other W59 (Ne.symm hne.2.2))
      have hin62 := inb_of (j := (1 : Int32)) Sz62 ⟨by decide, by decide⟩
      obtain ⟨T62, h62, X62, e62, W62, st62⟩ := stD X61 hx hZ e61 Ar62 (j := (1 : Int32)) hin62 (g := (mkF m 169 #[.val (.ref a0), .val (.long q1), .second, .val (.double (FP.l2d wt)), .second, .val (.int (1 : Int32))] [(.double (FP.l2d wt)), (.int (1 : Int32)), (.ref ss)])) rfl rfl (hb hby d9_169)
      have V62 : AF Z h62 ss .double (8 : Int32) (fun i => if i = ((1 : Int32)).toNatClampNeg then (.double (FP.l2d wt)) else (own_d3 w0 w1 w2) i) := AF.set Ar62 Sz62 Mn62 Ha62 hin62 W62
      have N62 := Fr.snoc X62 N59 g_ss
      have K62 : Keep h0 h62 [a0, tt, ss] := K59.wr W62 (Or.inl (List.mem_of_getElem? (i := 2) rfl))
      refine own_by (A' := T62.setTop (mkF m 170 #[.val (.ref a0), .val (.long q1), .second, .val (.double (FP.l2d wt)), .second, .val (.int (1 : Int32))] [])) (fun t kt => st62 t kt) ?_
      have V63 : AF Z h62 ss .double (8 : Int32) (own_d3 w0 wt w2) := AF.to V62 (own_stD1 wt w0 w1 w2)
      refine own_by (A' := T62.setTop (mkF m 172 #[.val (.ref a0), .val (.long q1), .second, .val (.double (FP.l2d wt)), .second, .val (.int (1 : Int32))] [(.ref a0), (.ref a0)])) (fun t kt => ?_) ?_
      · refine XS.aloadN X62.here hx rfl (hb hby d9_170) rfl rfl ?_
        refine XS.dup X62.here hx rfl (hb hby d9_171) rfl rfl ?_
        exact kt
      obtain ⟨T64, X64, e64, st64⟩ := getF X62 hx hZ hown (host := "") (Or.inl (wd28 hw)) Via.refl e62 ((((Fe.keep Kq53 (ninS (Ne.symm hne.1) nin0)).keep Kq57 (ninS (Ne.symm hne.2.1) nin0)).other W59 (Or.inl (Ne.symm hne.1))).other W62 (Or.inl (Ne.symm hne.2.1))) (g := (mkF m 172 #[.val (.ref a0), .val (.long q1), .second, .val (.double (FP.l2d wt)), .second, .val (.int (1 : Int32))] [(.ref a0), (.ref a0)])) rfl rfl (hb hby d9_172)
      refine own_by (A' := T64.setTop (mkF m 177 #[.val (.ref a0), .val (.long q1), .second, .val (.double (FP.l2d wt)), .second, .val (.int (1 : Int32))] [(.int (2 : Int32)), (.ref a0)])) (fun t kt => ?_) ?_
      · refine st64 t ?_
        refine XS.iconst X64.here hx rfl (hb hby d9_175) ?_
        refine XS.iadd X64.here hx rfl (hb hby d9_176) rfl ?_
        exact kt
      obtain ⟨T65, h65, X65, e65, W65, st65⟩ := putF X64 hx hZ hown (host := "") (Or.inl (wd28 hw)) Via.refl e64 ((((Fe.keep Kq53 (ninS (Ne.symm hne.1) nin0)).keep Kq57 (ninS (Ne.symm hne.2.1) nin0)).other W59 (Or.inl (Ne.symm hne.1))).other W62 (Or.inl (Ne.symm hne.2.1))) ((((E_a0.keep Kq53).keep Kq57).wr W59).wr W62) (Or.inl (wd29 hw)) (wd5 hw) (ty := .int) (by decide) rfl rfl (g := (mkF m 177 #[.val (.ref a0), .val (.long q1), .second, .val (.double (FP.l2d wt)), .second, .val (.int (1 : Int32))] [(.int (2 : Int32)), (.ref a0)])) rfl rfl (hb hby d9_177)
      have F65 := Fld.same W65 ((((Fe.keep Kq53 (ninS (Ne.symm hne.1) nin0)).keep Kq57 (ninS (Ne.symm hne.2.1) nin0)).other W59 (Or.inl (Ne.symm hne.1))).other W62 (Or.inl (Ne.symm hne.2.1)))
      have N65 := Fr.snoc X65 N62 g_a0
      have K65 : Keep h0 h65 [a0, tt, ss] := K62.wr W65 (Or.inl (List.mem_of_getElem? (i := 0) rfl))
      refine own_by (A' := T65.setTop (mkF m 180 #[.val (.ref a0), .val (.long q1), .second, .val (.double (FP.l2d wt)), .second, .val (.int (1 : Int32))] [])) (fun t kt => st65 t kt) ?_
      obtain ⟨fs, hr, hrun, hended, hW, hsame⟩ := X65.leave (v := none) (fun _ => rfl)
      refine ⟨_, _, ?_, hrun, hended, _, _, rfl, ?_, ⟨_, rfl⟩, hW, hsame.mono (by decide) (by decide)⟩
      · exact X65.returnOut hx Bd.returns (hb hby d9_180) hr
      · show QAd Z a0 tt ss (1 : Int32) t0 t1 t2 w0 w1 w2 q1 wt Us Sm h0 n0 _ T65.heap _
        rw [e65]
        exact ⟨rfl, N65, K65, (2 : Int32), t0, q1, t2, w0, wt, w2, ⟨hne, (((((E_a0.keep Kq53).keep Kq57).wr W59).wr W62).wr W65), (((((Ft.keep Kq53 (ninS (Ne.symm hne.1) nin0)).keep Kq57 (ninS (Ne.symm hne.2.1) nin0)).other W59 (Or.inl (Ne.symm hne.1))).other W62 (Or.inl (Ne.symm hne.2.1))).other W65 (Or.inr (sn15_29 hw))), (((((Fs.keep Kq53 (ninS (Ne.symm hne.1) nin0)).keep Kq57 (ninS (Ne.symm hne.2.1) nin0)).other W59 (Or.inl (Ne.symm hne.1))).other W62 (Or.inl (Ne.symm hne.2.1))).other W65 (Or.inr (sn18_29 hw))), (((((Ff.keep Kq53 (ninS (Ne.symm hne.1) nin0)).keep Kq57 (ninS (Ne.symm hne.2.1) nin0)).other W59 (Or.inl (Ne.symm hne.1))).other W62 (Or.inl (Ne.symm hne.2.1))).other W65 (Or.inr (sn27_29 hw))), F65, (((((FU.keep Kq53 (ninS (Ne.symm hne.1) nin0)).keep Kq57 (ninS (Ne.symm hne.2.1) nin0)).other W59 (Or.inl (Ne.symm hne.1))).other W62 (Or.inl (Ne.symm hne.2.1))).other W65 (Or.inr (sn42_29 hw))), (((((FF.keep Kq53 (ninS (Ne.symm hne.1) nin0)).keep Kq57 (ninS (Ne.symm hne.2.1) nin0)).other W59 (Or.inl (Ne.symm hne.1))).other W62 (Or.inl (Ne.symm hne.2.1))).other W65 (Or.inr (sn31_29 hw))), (((((FG.keep Kq53 (ninS (Ne.symm hne.1) nin0)).keep Kq57 (ninS (Ne.symm hne.2.1) nin0)).other W59 (Or.inl (Ne.symm hne.1))).other W62 (Or.inl (Ne.symm hne.2.1))).other W65 (Or.inr (sn20_29 hw))), (((((FS.keep Kq53 (ninS (Ne.symm hne.1) nin0)).keep Kq57 (ninS (Ne.symm hne.2.1) nin0)).other W59 (Or.inl (Ne.symm hne.1))).other W62 (Or.inl (Ne.symm hne.2.1))).other W65 (Or.inr (sn48_29 hw))), ((V60.other W62 hne.2.2).other W65 hne.1), (V63.other W65 hne.2.1)⟩, own_ai11 hs hFA1 hz hwt hc27_33⟩
theorem ef_rmAd2 (m : MethodId) (a0 : Addr) (q1 : Int64) : entryFrame m #[(.ref a0), (.long q1), (.double (FP.l2d wt))] 6 = mkF m 0 #[.val (.ref a0), .val (.long q1), .second, .val (.double (FP.l2d wt)), .second, .unset] [] := by first | (simp [entryFrame, mkF, argsToLocals, Value.category]; done) | rfl
set_option maxRecDepth 65536 in
set_option maxHeartbeats 40000000 in
theorem rmAd2 (l : Launch) (Z : State) (aw : Array Value) (hw : ∀ d ∈ tables_1, d.before aw Z = true) (ws : List Jvm.Cond) (a0 : Addr) (q1 : Int64) (wt : Int64) (tt : Addr) (ss : Addr) (t0 : Int64) (t1 : Int64) (t2 : Int64) (w0 : Int64) (w1 : Int64) (w2 : Int64) (Us : Int64) (Sm : Int64) (h0 : Heap) (n0 : Nat) (Z0 : n0 ≤ h0.size) (S_ : own_St Z h0 a0 tt ss (0 : Int32) (2 : Int32) t0 t1 t2 w0 w1 w2 Us (0 : Int32) (-1 : Int32) Sm) (g_a0 : n0 ≤ a0) (g_tt : n0 ≤ tt) (g_ss : n0 ≤ ss) (hs : own_Srt 0 (2 : Int32) t0 t1 t2) (hz : own_Zw (2 : Int32) w0 w1 w2) (hwt : 0 ≤ w0.toInt ∧ 0 ≤ w1.toInt ∧ 0 ≤ w2.toInt ∧ 0 ≤ wt.toInt ∧ w0.toInt + w1.toInt + w2.toInt + wt.toInt ≤ 7) :
    MetFree l (⟨"com/example/fairshed/fairshed/shedding/SicByTime", "add", "(JD)V"⟩ : MethodName) (head1 (Jvm.Cond.code (⟨"com/example/fairshed/fairshed/shedding/SicByTime", "add", "(JD)V"⟩ : MethodName) prog_124_method_2_code 6 none :: ws) ({ frames := 3, cells := 0, slots := 0, locals := 52 } : Room)) (fun a U => a = #[(.ref a0), (.long q1), (.double (FP.l2d wt))] ∧ Z.Warmed39 U.vm ∧ U.heap = h0) (fun _ _ _ _ _ => True) (fun _ U o U' => ∃ v L, o = .returned v ∧ QAd Z a0 tt ss (2 : Int32) t0 t1 t2 w0 w1 w2 q1 wt Us Sm h0 n0 v U'.heap L ∧ FrameEnd U o U' L ({ frames := 3, cells := 0, slots := 0, locals := 52 } : Room).cells ({ frames := 3, cells := 0, slots := 0, locals := 52 } : Room).slots) := by
  refine MetFree.of_bodySF (plainFor_of_name pn_0) hisR ?_
  intro p e s m args below meth c s₁ Bd hml0 hP hK
  obtain ⟨rfl, hZ, hh⟩ := hP
  have hx := Bd.exec
  have hby := Bd.bytes
  have hml : c.maxLocals = 6 := hml0
  have hown : s.vm.findClass "com/example/fairshed/fairshed/shedding/SicByTime" = some m.cls := findClass_of_methodNamed Bd.named
  have hnm := (name_of_methodNamed Bd.named Bd.method).1
  have X0 : Stand p l e ({ frames := 3, cells := 0, slots := 0, locals := 52 } : Room) s m #[(.ref a0), (.long q1), (.double (FP.l2d wt))] below meth c s₁ [] 0 0 := Stand.of_body Bd
  have e0 : s₁.heap = h0 := by rw [← hh, Bd.state]; rfl
  have N0 := Fr.nil n0
  have K0 : Keep h0 h0 [a0, tt, ss] := Keep.refl _ _
  refine own_by (A' := s₁.setTop (mkF m 0 #[.val (.ref a0), .val (.long q1), .second, .val (.double (FP.l2d wt)), .second, .unset] [])) (fun t k => castTop (ef_rmAd2 m a0 q1) k) ?_
  obtain ⟨hne, E_a0, Ft, Fs, Ff, Fe, FU, FF, FG, FS, V_t, V_s⟩ := S_
  refine own_by (A' := s₁.setTop (mkF m 2 #[.val (.ref a0), .val (.long q1), .second, .val (.double (FP.l2d wt)), .second, .unset] [(.long q1), (.ref a0)])) (fun t kt => ?_) ?_
  · refine XS.aloadN X0.here hx rfl (hb hby d9_0) rfl rfl ?_
    refine XS.lloadN X0.here hx rfl (hb hby d9_1) rfl ?_
    exact kt
  obtain ⟨cq1, qe1, qe1'⟩ := (E_a0).cell
  obtain ⟨ci1, ki1, hci1, hki1, -, hni1, -⟩ := Cond.instantiable_spec (mvT (args := #[]) hZ (wd5 hw))
  obtain ⟨_, _, ⟨T1, L1, k1, n1⟩, -, X1, ⟨Lc1, hQ1, l1, y1, z1⟩, st1⟩ := X0.privateBack hx (y := (⟨"com/example/fairshed/fairshed/shedding/SicByTime", "firstAfter", "(J)I"⟩ : MethodName)) hown (mvT hZ (wd37 hw)) (mvT hZ (wd38 hw)) (selects_self_of_private hci1 hki1 (Bool.or_eq_false_iff.mp hni1).1 (Cond.privateMethod_at (mvP hZ (wd39 hw) (args := #[]))) (mvT hZ (wd38 hw)) (by decide)) (Cond.privateMethod_at (mvP hZ (wd39 hw) (args := #[]))) (mvT hZ (wd40 hw)) (by decide) (backOf (W := 0) (rmFAu l Z aw hw [] a0 q1 tt t0 t1 t2 (0 : Int32) (2 : Int32) h0 n0 (Nat.le_trans Z0 K0.1) Ft Ff Fe V_t (by decide) hs) hZ (wd40 hw) (wd6 hw) (by decide) (by decide)) (g := (mkF m 2 #[.val (.ref a0), .val (.long q1), .second, .val (.double (FP.l2d wt)), .second, .unset] [(.long q1), (.ref a0)])) rfl (by rw [hml]; rfl) (Steps.refl _) (a := a0) (by rw [e0]; exact qe1) qe1' (argsL := [(.long q1)]) (rest := []) (lenOf pd_5 rfl) rfl (by show 2 * 0 + _ ≤ _; exact Nat.le_of_eq rfl) (hb hby d9_2) (fun _ _ => ⟨rfl, e0, (by decide : 0 + 0 ≤ _), (by decide : 0 + 0 ≤ _)⟩)
  dsimp only [Pt.U, Pt.locs, Pt.cells, Pt.slots] at X1 l1 y1 z1 st1 hQ1
  subst l1 y1 z1
  obtain ⟨kf1, rfl, hFA1, N1q, e1⟩ := hQ1
  have N1 := Fr.app N0 N1q
  refine own_by (A' := T1.setTop (mkF m 5 #[.val (.ref a0), .val (.long q1), .second, .val (.double (FP.l2d wt)), .second, .unset] [(.int kf1)])) (fun t kt => st1.trans kt) ?_
  rcases own_kk2 hFA1.1 with rfl | rfl | rfl
  · refine own_by (A' := T1.setTop (mkF m 10 #[.val (.ref a0), .val (.long q1), .second, .val (.double (FP.l2d wt)), .second, .val (.int (0 : Int32))] [(.ref a0), (.int (0 : Int32))])) (fun t kt => ?_) ?_
    · refine XS.istore X1.here hx rfl (hb hby d9_5) rfl (l' := #[.val (.ref a0), .val (.long q1), .second, .val (.double (FP.l2d wt)), .second, .val (.int (0 : Int32))]) rfl ?_
      refine XS.iload X1.here hx rfl (hb hby d9_7) rfl ?_
      refine XS.aloadN X1.here hx rfl (hb hby d9_9) rfl rfl ?_
      exact kt
    obtain ⟨T2, X2, e2, st2⟩ := getF X1 hx hZ hown (host := "") (Or.inl (wd26 hw)) Via.refl e1 Ff (g := (mkF m 10 #[.val (.ref a0), .val (.long q1), .second, .val (.double (FP.l2d wt)), .second, .val (.int (0 : Int32))] [(.ref a0), (.int (0 : Int32))])) rfl rfl (hb hby d9_10)
    refine own_by (A' := T2.setTop (mkF m 13 #[.val (.ref a0), .val (.long q1), .second, .val (.double (FP.l2d wt)), .second, .val (.int (0 : Int32))] [(.int (0 : Int32)), (.int (0 : Int32))])) (fun t kt => st2 t kt) ?_
    have hc13_3 : ¬ ((0 : Int32) < (0 : Int32)) := by decide
    refine own_by (A' := T2.setTop (mkF m 61 #[.val (.ref a0), .val (.long q1), .second, .val (.double (FP.l2d wt)), .second, .val (.int (0 : Int32))] [(.ref a0)])) (fun t kt => ?_) ?_
    · refine XS.icmpYes X2.here hx rfl (pc0 := 13) (pc' := 60) rfl (hb hby d9_13) rfl (flt hc13_3).2.2.2 (by decide) (by decide) ?_
      refine XS.aloadN X2.here hx rfl (hb hby d9_60) rfl rfl ?_
      exact kt
    obtain ⟨T4, X4, e4, st4⟩ := getF X2 hx hZ hown (host := "") (Or.inl (wd28 hw)) Via.refl e2 Fe (g := (mkF m 61 #[.val (.ref a0), .val (.long q1), .second, .val (.double (FP.l2d wt)), .second, .val (.int (0 : Int32))] [(.ref a0)])) rfl rfl (hb hby d9_61)
    refine own_by (A' := T4.setTop (mkF m 65 #[.val (.ref a0), .val (.long q1), .second, .val (.double (FP.l2d wt)), .second, .val (.int (0 : Int32))] [(.ref a0), (.int (2 : Int32))])) (fun t kt => ?_) ?_
    · refine st4 t ?_
      refine XS.aloadN X4.here hx rfl (hb hby d9_64) rfl rfl ?_
      exact kt
    obtain ⟨T5, X5, e5, st5⟩ := getF X4 hx hZ hown (host := "") (Or.inl (wd14 hw)) Via.refl e4 Ft (g := (mkF m 65 #[.val (.ref a0), .val (.long q1), .second, .val (.double (FP.l2d wt)), .second, .val (.int (0 : Int32))] [(.ref a0), (.int (2 : Int32))])) rfl rfl (hb hby d9_65)
    refine own_by (A' := T5.setTop (mkF m 68 #[.val (.ref a0), .val (.long q1), .second, .val (.double (FP.l2d wt)), .second, .val (.int (0 : Int32))] [(.ref tt), (.int (2 : Int32))])) (fun t kt => st5 t kt) ?_
    obtain ⟨cl6, Ar6, Sz6, Mn6, -⟩ := id V_t
    refine own_by (A' := T5.setTop (mkF m 69 #[.val (.ref a0), .val (.long q1), .second, .val (.double (FP.l2d wt)), .second, .val (.int (0 : Int32))] [(.int (8 : Int32)), (.int (2 : Int32))])) (fun t kt => ?_) ?_
    · refine X5.arraylength hx (by rw [e5]; exact Ar6.1) (State.isArrayOf_alike hZ.alike Ar6.2.1) (g := (mkF m 68 #[.val (.ref a0), .val (.long q1), .second, .val (.double (FP.l2d wt)), .second, .val (.int (0 : Int32))] [(.ref tt), (.int (2 : Int32))])) rfl rfl (hb hby d9_68) _ ?_
      rw [len_of Sz6 Mn6]
      exact kt
    have hc69_7 : ¬ ((2 : Int32) = (8 : Int32)) := by decide
    refine own_by (A' := T5.setTop (mkF m 86 #[.val (.ref a0), .val (.long q1), .second, .val (.double (FP.l2d wt)), .second, .val (.int (0 : Int32))] [(.ref a0), (.int (0 : Int32))])) (fun t kt => ?_) ?_
    · refine XS.icmpYes X5.here hx rfl (pc0 := 69) (pc' := 83) rfl (hb hby d9_69) rfl (feq hc69_7).2 (by decide) (by decide) ?_
      refine XS.iload X5.here hx rfl (hb hby d9_83) rfl ?_
      refine XS.aloadN X5.here hx rfl (hb hby d9_85) rfl rfl ?_
      exact kt
    obtain ⟨T8, X8, e8, st8⟩ := getF X5 hx hZ hown (host := "") (Or.inl (wd19 hw)) Via.refl e5 FG (g := (mkF m 86 #[.val (.ref a0), .val (.long q1), .second, .val (.double (FP.l2d wt)), .second, .val (.int (0 : Int32))] [(.ref a0), (.int (0 : Int32))])) rfl rfl (hb hby d9_86)
    refine own_by (A' := T8.setTop (mkF m 89 #[.val (.ref a0), .val (.long q1), .second, .val (.double (FP.l2d wt)), .second, .val (.int (0 : Int32))] [(.int (-1 : Int32)), (.int (0 : Int32))])) (fun t kt => st8 t kt) ?_
    have hc89_9 : ¬ ((0 : Int32) < (-1 : Int32)) := by decide
    refine own_by (A' := T8.setTop (mkF m 95 #[.val (.ref a0), .val (.long q1), .second, .val (.double (FP.l2d wt)), .second, .val (.int (0 : Int32))] [(.ref a0), (.int (0 : Int32))])) (fun t kt => ?_) ?_
    · refine XS.icmpNo X8.here hx rfl (hb hby d9_89) rfl (flt hc89_9).1 ?_
      refine XS.iload X8.here hx rfl (hb hby d9_92) rfl ?_
      refine XS.aloadN X8.here hx rfl (hb hby d9_94) rfl rfl ?_
      exact kt
    obtain ⟨T10, X10, e10, st10⟩ := getF X8 hx hZ hown (host := "") (Or.inl (wd30 hw)) Via.refl e8 FF (g := (mkF m 95 #[.val (.ref a0), .val (.long q1), .second, .val (.double (FP.l2d wt)), .second, .val (.int (0 : Int32))] [(.ref a0), (.int (0 : Int32))])) rfl rfl (hb hby d9_95)
    refine own_by (A' := T10.setTop (mkF m 98 #[.val (.ref a0), .val (.long q1), .second, .val (.double (FP.l2d wt)), .second, .val (.int (0 : Int32))] [(.int (0 : Int32)), (.int (0 : Int32))])) (fun t kt => st10 t kt) ?_
    have hc98_11 : ¬ ((0 : Int32) < (0 : Int32)) := by decide
    refine own_by (A' := T10.setTop (mkF m 103 #[.val (.ref a0), .val (.long q1), .second, .val (.double (FP.l2d wt)), .second, .val (.int (0 : Int32))] [(.int (-1 : Int32)), (.ref a0)])) (fun t kt => ?_) ?_
    · refine XS.icmpNo X10.here hx rfl (hb hby d9_98) rfl (flt hc98_11).2.2.1 ?_
      refine XS.aloadN X10.here hx rfl (hb hby d9_101) rfl rfl ?_
      refine XS.iconst X10.here hx rfl (hb hby d9_102) ?_
      exact kt
    obtain ⟨T12, h12, X12, e12, W12, st12⟩ := putF X10 hx hZ hown (host := "") (Or.inl (wd19 hw)) Via.refl e10 FG E_a0 (Or.inl (wd20 hw)) (wd5 hw) (ty := .int) (by decide) rfl rfl (g := (mkF m 103 #[.val (.ref a0), .val (.long q1), .second, .val (.double (FP.l2d wt)), .second, .val (.int (0 : Int32))] [(.int (-1 : Int32)), (.ref a0)])) rfl rfl (hb hby d9_103)
    have F12 := Fld.same W12 FG
    have N12 := Fr.snoc X12 N1 g_a0
    have K12 : Keep h0 h12 [a0, tt, ss] := K0.wr W12 (Or.inl (List.mem_of_getElem? (i := 0) rfl))
    refine own_by (A' := T12.setTop (mkF m 107 #[.val (.ref a0), .val (.long q1), .second, .val (.double (FP.l2d wt)), .second, .val (.int (0 : Int32))] [(.ref a0)])) (fun t kt => ?_) ?_
    · refine st12 t ?_
      refine XS.aloadN X12.here hx rfl (hb hby d9_106) rfl rfl ?_
      exact kt
    obtain ⟨T13, X13, e13, st13⟩ := getF X12 hx hZ hown (host := "") (Or.inl (wd14 hw)) Via.refl e12 (Ft.other W12 (Or.inr (sn15_20 hw))) (g := (mkF m 107 #[.val (.ref a0), .val (.long q1), .second, .val (.double (FP.l2d wt)), .second, .val (.int (0 : Int32))] [(.ref a0)])) rfl rfl (hb hby d9_107)
    refine own_by (A' := T13.setTop (mkF m 113 #[.val (.ref a0), .val (.long q1), .second, .val (.double (FP.l2d wt)), .second, .val (.int (0 : Int32))] [(.ref a0), (.int (0 : Int32)), (.ref tt)])) (fun t kt => ?_) ?_
    · refine st13 t ?_
      refine XS.iload X13.here hx rfl (hb hby d9_110) rfl ?_
      refine XS.aloadN X13.here hx rfl (hb hby d9_112) rfl rfl ?_
      exact kt
    obtain ⟨T14, X14, e14, st14⟩ := getF X13 hx hZ hown (host := "") (Or.inl (wd14 hw)) Via.refl e13 (Ft.other W12 (Or.inr (sn15_20 hw))) (g := (mkF m 113 #[.val (.ref a0), .val (.long q1), .second, .val (.double (FP.l2d wt)), .second, .val (.int (0 : Int32))] [(.ref a0), (.int (0 : Int32)), (.ref tt)])) rfl rfl (hb hby d9_113)
    refine own_by (A' := T14.setTop (mkF m 121 #[.val (.ref a0), .val (.long q1), .second, .val (.double (FP.l2d wt)), .second, .val (.int (0 : Int32))] [(.ref a0), (.int (1 : Int32)), (.ref tt), (.int (0 : Int32)), (.ref tt)])) (fun t kt => ?_) ?_
    · refine st14 t ?_
      refine XS.iload X14.here hx rfl (hb hby d9_116) rfl ?_
      refine XS.iconst X14.here hx rfl (hb hby d9_118) ?_
      refine XS.iadd X14.here hx rfl (hb hby d9_119) rfl ?_
      refine XS.aloadN X14.here hx rfl (hb hby d9_120) rfl rfl ?_
      exact kt
    obtain ⟨T15, X15, e15, st15⟩ := getF X14 hx hZ hown (host := "") (Or.inl (wd28 hw)) Via.refl e14 (Fe.other W12 (Or.inr (sn29_20 hw))) (g := (mkF m 121 #[.val (.ref a0), .val (.long q1), .second, .val (.double (FP.l2d wt)), .second, .val (.int (0 : Int32))] [(.ref a0), (.int (1 : Int32)), (.ref tt), (.int (0 : Int32)), (.ref tt)])) rfl rfl (hb hby d9_121)
    refine own_by (A' := T15.setTop (mkF m 127 #[.val (.ref a0), .val (.long q1), .second, .val (.double (FP.l2d wt)), .second, .val (.int (0 : Int32))] [(.int (2 : Int32)), (.int (1 : Int32)), (.ref tt), (.int (0 : Int32)), (.ref tt)])) (fun t kt => ?_) ?_
    · refine st15 t ?_
      refine XS.iload X15.here hx rfl (hb hby d9_124) rfl ?_
      refine XS.isub X15.here hx rfl (hb hby d9_126) rfl ?_
      exact kt
    obtain ⟨T16, L16, X16, N16, Kq16, B16, st16⟩ := own_cp X15 hx hZ hown (wd60 hw) (wd63 hw) (wd61 hw) (wd62 hw) e15 (x := (.long t0)) (y := (.long t1)) (z := (.long t2)) (o := (.long 0)) (V_t.other W12 hne.1) rfl rfl rfl rfl rfl (sp := (0 : Int32)) (dp := (1 : Int32)) (nn := (2 : Int32)) (by decide) (by decide) (by decide) (by decide) (by decide) (own_cl02 (.long t0) (.long t1) (.long t2) (.long 0)) N12 g_tt (g := (mkF m 127 #[.val (.ref a0), .val (.long q1), .second, .val (.double (FP.l2d wt)), .second, .val (.int (0 : Int32))] [(.int (2 : Int32)), (.int (1 : Int32)), (.ref tt), (.int (0 : Int32)), (.ref tt)])) rfl (by rw [hml]; rfl) (rest := []) rfl (hb hby d9_127) (by decide) (W := 0) (by show 2 * 0 + _ ≤ _; exact Nat.le_of_eq rfl) (by decide)
    have K16 : Keep h0 T16.heap [a0, tt, ss] := K12.trans Kq16 (allS (Or.inl (List.mem_of_getElem? (i := 1) rfl)) all0)
    have V16 : AF Z T16.heap tt .long (8 : Int32) (own_j3 t0 t0 t1) := B16
    refine own_by (A' := T16.setTop (mkF m 131 #[.val (.ref a0), .val (.long q1), .second, .val (.double (FP.l2d wt)), .second, .val (.int (0 : Int32))] [(.ref a0)])) (fun t kt => ?_) ?_
    · refine st16 t ?_
      refine XS.aloadN X16.here hx rfl (hb hby d9_130) rfl rfl ?_
      exact kt
    obtain ⟨T17, X17, e17, st17⟩ := getF X16 hx hZ hown (host := "") (Or.inl (wd17 hw)) Via.refl rfl ((Fs.other W12 (Or.inr (sn18_20 hw))).keep Kq16 (ninS (Ne.symm hne.1) nin0)) (g := (mkF m 131 #[.val (.ref a0), .val (.long q1), .second, .val (.double (FP.l2d wt)), .second, .val (.int (0 : Int32))] [(.ref a0)])) rfl rfl (hb hby d9_131)
    refine own_by (A' := T17.setTop (mkF m 137 #[.val (.ref a0), .val (.long q1), .second, .val (.double (FP.l2d wt)), .second, .val (.int (0 : Int32))] [(.ref a0), (.int (0 : Int32)), (.ref ss)])) (fun t kt => ?_) ?_
    · refine st17 t ?_
      refine XS.iload X17.here hx rfl (hb hby d9_134) rfl ?_
      refine XS.aloadN X17.here hx rfl (hb hby d9_136) rfl rfl ?_
      exact kt
    obtain ⟨T18, X18, e18, st18⟩ := getF X17 hx hZ hown (host := "") (Or.inl (wd17 hw)) Via.refl e17 ((Fs.other W12 (Or.inr (sn18_20 hw))).keep Kq16 (ninS (Ne.symm hne.1) nin0)) (g := (mkF m 137 #[.val (.ref a0), .val (.long q1), .second, .val (.double (FP.l2d wt)), .second, .val (.int (0 : Int32))] [(.ref a0), (.int (0 : Int32)), (.ref ss)])) rfl rfl (hb hby d9_137)
    refine own_by (A' := T18.setTop (mkF m 145 #[.val (.ref a0), .val (.long q1), .second, .val (.double (FP.l2d wt)), .second, .val (.int (0 : Int32))] [(.ref a0), (.int (1 : Int32)), (.ref ss), (.int (0 : Int32)), (.ref ss)])) (fun t kt => ?_) ?_
    · refine st18 t ?_
      refine XS.iload X18.here hx rfl (hb hby d9_140) rfl ?_
      refine XS.iconst X18.here hx rfl (hb hby d9_142) ?_
      refine XS.iadd X18.here hx rfl (hb hby d9_143) rfl ?_
      refine XS.aloadN X18.here hx rfl (hb hby d9_144) rfl rfl ?_
      exact kt
    obtain ⟨T19, X19, e19, st19⟩ := getF X18 hx hZ hown (host := "") (Or.inl (wd28 hw)) Via.refl e18 ((Fe.other W12 (Or.inr (sn29_20 hw))).keep Kq16 (ninS (Ne.symm hne.1) nin0)) (g := (mkF m 145 #[.val (.ref a0), .val (.long q1), .second, .val (.double (FP.l2d wt)), .second, .val (.int (0 : Int32))] [(.ref a0), (.int (1 : Int32)), (.ref ss), (.int (0 : Int32)), (.ref ss)])) rfl rfl (hb hby d9_145)
    refine own_by (A' := T19.setTop (mkF m 151 #[.val (.ref a0), .val (.long q1), .second, .val (.double (FP.l2d wt)), .second, .val (.int (0 : Int32))] [(.int (2 : Int32)), (.int (1 : Int32)), (.ref ss), (.int (0 : Int32)), (.ref ss)])) (fun t kt => ?_) ?_
    · refine st19 t ?_
      refine XS.iload X19.here hx rfl (hb hby d9_148) rfl ?_
      refine XS.isub X19.here hx rfl (hb hby d9_150) rfl ?_
      exact kt
    obtain ⟨T20, L20, X20, N20, Kq20, B20, st20⟩ := own_cp X19 hx hZ hown (wd60 hw) (wd63 hw) (wd61 hw) (wd62 hw) e19 (x := (.double (FP.l2d w0))) (y := (.double (FP.l2d w1))) (z := (.double (FP.l2d w2))) (o := (.double (FP.l2d 0))) ((V_s.other W12 hne.2.1).keep Kq16 (ninS (Ne.symm hne.2.2) nin0)) rfl rfl rfl rfl rfl (sp := (0 : Int32)) (dp := (1 : Int32)) (nn := (2 : Int32)) (by decide) (by decide) (by decide) (by decide) (by decide) (own_cl02 (.double (FP.l2d w0)) (.double (FP.l2d w1)) (.double (FP.l2d w2)) (.double (FP.l2d 0))) N16 g_ss (g := (mkF m 151 #[.val (.ref a0), .val (.long q1), .second, .val (.double (FP.l2d wt)), .second, .val (.int (0 : Int32))] [(.int (2 : Int32)), (.int (1 : Int32)), (.ref ss), (.int (0 : Int32)), (.ref ss)])) rfl (by rw [hml]; rfl) (rest := []) rfl (hb hby d9_151) (by decide) (W := 0) (by show 2 * 0 + _ ≤ _; exact Nat.le_of_eq rfl) (by decide)
    have K20 : Keep h0 T20.heap [a0, tt, ss] := K16.trans Kq20 (allS (Or.inl (List.mem_of_getElem? (i := 2) rfl)) all0)
    have V20 : AF Z T20.heap ss .double (8 : Int32) (own_d3 w0 w0 w1) := B20
    refine own_by (A' := T20.setTop (mkF m 155 #[.val (.ref a0), .val (.long q1), .second, .val (.double (FP.l2d wt)), .second, .val (.int (0 : Int32))] [(.ref a0)])) (fun t kt => ?_) ?_
    · refine st20 t ?_
      refine XS.aloadN X20.here hx rfl (hb hby d9_154) rfl rfl ?_
      exact kt
    obtain ⟨T21, X21, e21, st21⟩ := getF X20 hx hZ hown (host := "") (Or.inl (wd14 hw)) Via.refl rfl (((Ft.other W12 (Or.inr (sn15_20 hw))).keep Kq16 (ninS (Ne.symm hne.1) nin0)).keep Kq20 (ninS (Ne.symm hne.2.1) nin0)) (g := (mkF m 155 #[.val (.ref a0), .val (.long q1), .second, .val (.double (FP.l2d wt)), .second, .val (.int (0 : Int32))] [(.ref a0)])) rfl rfl (hb hby d9_155)
    refine own_by (A' := T21.setTop (mkF m 161 #[.val (.ref a0), .val (.long q1), .second, .val (.double (FP.l2d wt)), .second, .val (.int (0 : Int32))] [(.long q1), (.int (0 : Int32)), (.ref tt)])) (fun t kt => ?_) ?_
    · refine st21 t ?_
      refine XS.iload X21.here hx rfl (hb hby d9_158) rfl ?_
      refine XS.lloadN X21.here hx rfl (hb hby d9_160) rfl ?_
      exact kt
    obtain ⟨cl22, Ar22, Sz22, Mn22, Ha22⟩ := id (V16.keep Kq20 (ninS hne.2.2 nin0))
    have hin22 := inb_of (j := (0 : Int32)) Sz22 ⟨by decide, by decide⟩
    obtain ⟨T22, h22, X22, e22, W22, st22⟩ := stJ X21 hx hZ e21 Ar22 (j := (0 : Int32)) hin22 (g := (mkF m 161 #[.val (.ref a0), .val (.long q1), .second, .val (.double (FP.l2d wt)), .second, .val (.int (0 : Int32))] [(.long q1), (.int (0 : Int32)), (.ref tt)])) rfl rfl (hb hby d9_161)
    have V22 : AF Z h22 tt .long (8 : Int32) (fun i => if i = ((0 : Int32)).toNatClampNeg then (.long q1) else (own_j3 t0 t0 t1) i) := AF.set Ar22 Sz22 Mn22 Ha22 hin22 W22
    have N22 := Fr.snoc X22 N20 g_tt
    have K22 : Keep h0 h22 [a0, tt, ss] := K20.wr W22 (Or.inl (List.mem_of_getElem? (i := 1) rfl))
    refine own_by (A' := T22.setTop (mkF m 162 #[.val (.ref a0), .val (.long q1), .second, .val (.double (FP.l2d wt)), .second, .val (.int (0 : Int32))] [])) (fun t kt => st22 t kt) ?_
    have V23 : AF Z h22 tt .long (8 : Int32) (own_j3 q1 t0 t1) := AF.to V22 (own_stJ0 q1 t0 t0 t1)
    refine own_by (A' := T22.setTop (mkF m 163 #[.val (.ref a0), .val (.long q1), .second, .val (.double (FP.l2d wt)), .second, .val (.int (0 : Int32))] [(.ref a0)])) (fun t kt => ?_) ?_
    · refine XS.aloadN X22.here hx rfl (hb hby d9_162) rfl rfl ?_
      exact kt
    obtain ⟨T24, X24, e24, st24⟩ := getF X22 hx hZ hown (host := "") (Or.inl (wd17 hw)) Via.refl e22 ((((Fs.other W12 (Or.inr (sn18_20 hw))).keep Kq16 (ninS (Ne.symm hne.1) nin0)).keep Kq20 (ninS (Ne.symm hne.2.1) nin0)).other W22 (Or.inl (Ne.symm hne.1))) (g := (mkF m 163 #[.val (.ref a0), .val (.long q1), .second, .val (.double (FP.l2d wt)), .second, .val (.int (0 : Int32))] [(.ref a0)])) rfl rfl (hb hby d9_163)
    refine own_by (A' := T24.setTop (mkF m 169 #[.val (.ref a0), .val (.long q1), .second, .val (.double (FP.l2d wt)), .second, .val (.int (0 : Int32))] [(.double (FP.l2d wt)), (.int (0 : Int32)), (.ref ss)])) (fun t kt => ?_) ?_
    · refine st24 t ?_
      refine XS.iload X24.here hx rfl (hb hby d9_166) rfl ?_
      refine XS.dloadN X24.here hx rfl (hb hby d9_168) rfl ?_
      exact kt
    obtain ⟨cl25, Ar25, Sz25, Mn25, Ha25⟩ := id (V20.other W22 (Ne.symm hne.2.2))
    have hin25 := inb_of (j := (0 : Int32)) Sz25 ⟨by decide, by decide⟩
    obtain ⟨T25, h25, X25, e25, W25, st25⟩ := stD X24 hx hZ e24 Ar25 (j := (0 : Int32)) hin25 (g := (mkF m 169 #[.val (.ref a0), .val (.long q1), .second, .val (.double (FP.l2d wt)), .second, .val (.int (0 : Int32))] [(.double (FP.l2d wt)), (.int (0 : Int32)), (.ref ss)])) rfl rfl (hb hby d9_169)
    have V25 : AF Z h25 ss .double (8 : Int32) (fun i => if i = ((0 : Int32)).toNatClampNeg then (.double (FP.l2d wt)) else (own_d3 w0 w0 w1) i) := AF.set Ar25 Sz25 Mn25 Ha25 hin25 W25
    have N25 := Fr.snoc X25 N22 g_ss
    have K25 : Keep h0 h25 [a0, tt, ss] := K22.wr W25 (Or.inl (List.mem_of_getElem? (i := 2) rfl))
    refine own_by (A' := T25.setTop (mkF m 170 #[.val (.ref a0), .val (.long q1), .second, .val (.double (FP.l2d wt)), .second, .val (.int (0 : Int32))] [])) (fun t kt => st25 t kt) ?_
    have V26 : AF Z h25 ss .double (8 : Int32) (own_d3 wt w0 w1) := AF.to V25 (own_stD0 wt w0 w0 w1)
    refine own_by (A' := T25.setTop (mkF m 172 #[.val (.ref a0), .val (.long q1), .second, .val (.double (FP.l2d wt)), .second, .val (.int (0 : Int32))] [(.ref a0), (.ref a0)])) (fun t kt => ?_) ?_
    · refine XS.aloadN X25.here hx rfl (hb hby d9_170) rfl rfl ?_
      refine XS.dup X25.here hx rfl (hb hby d9_171) rfl rfl ?_
      exact kt
    obtain ⟨T27, X27, e27, st27⟩ := getF X25 hx hZ hown (host := "") (Or.inl (wd28 hw)) Via.refl e25 (((((Fe.other W12 (Or.inr (sn29_20 hw))).keep Kq16 (ninS (Ne.symm hne.1) nin0)).keep Kq20 (ninS (Ne.symm hne.2.1) nin0)).other W22 (Or.inl (Ne.symm hne.1))).other W25 (Or.inl (Ne.symm hne.2.1))) (g := (mkF m 172 #[.val (.ref a0), .val (.long q1), .second, .val (.double (FP.l2d wt)), .second, .val (.int (0 : Int32))] [(.ref a0), (.ref a0)])) rfl rfl (hb hby d9_172)
    refine own_by (A' := T27.setTop (mkF m 177 #[.val (.ref a0), .val (.long q1), .second, .val (.double (FP.l2d wt)), .second, .val (.int (0 : Int32))] [(.int (3 : Int32)), (.ref a0)])) (fun t kt => ?_) ?_
    · refine st27 t ?_
      refine XS.iconst X27.here hx rfl (hb hby d9_175) ?_
      refine XS.iadd X27.here hx rfl (hb hby d9_176) rfl ?_
      exact kt
    obtain ⟨T28, h28, X28, e28, W28, st28⟩ := putF X27 hx hZ hown (host := "") (Or.inl (wd28 hw)) Via.refl e27 (((((Fe.other W12 (Or.inr (sn29_20 hw))).keep Kq16 (ninS (Ne.symm hne.1) nin0)).keep Kq20 (ninS (Ne.symm hne.2.1) nin0)).other W22 (Or.inl (Ne.symm hne.1))).other W25 (Or.inl (Ne.symm hne.2.1))) (((((E_a0.wr W12).keep Kq16).keep Kq20).wr W22).wr W25) (Or.inl (wd29 hw)) (wd5 hw) (ty := .int) (by decide) rfl rfl (g := (mkF m 177 #[.val (.ref a0), .val (.long q1), .second, .val (.double (FP.l2d wt)), .second, .val (.int (0 : Int32))] [(.int (3 : Int32)), (.ref a0)])) rfl rfl (hb hby d9_177)
    have F28 := Fld.same W28 (((((Fe.other W12 (Or.inr (sn29_20 hw))).keep Kq16 (ninS (Ne.symm hne.1) nin0)).keep Kq20 (ninS (Ne.symm hne.2.1) nin0)).other W22 (Or.inl (Ne.symm hne.1))).other W25 (Or.inl (Ne.symm hne.2.1)))
    have N28 := Fr.snoc X28 N25 g_a0
    have K28 : Keep h0 h28 [a0, tt, ss] := K25.wr W28 (Or.inl (List.mem_of_getElem? (i := 0) rfl))
    refine own_by (A' := T28.setTop (mkF m 180 #[.val (.ref a0), .val (.long q1), .second, .val (.double (FP.l2d wt)), .second, .val (.int (0 : Int32))] [])) (fun t kt => st28 t kt) ?_
    obtain ⟨fs, hr, hrun, hended, hW, hsame⟩ := X28.leave (v := none) (fun _ => rfl)
    refine ⟨_, _, ?_, hrun, hended, _, _, rfl, ?_, ⟨_, rfl⟩, hW, hsame.mono (by decide) (by decide)⟩
    · exact X28.returnOut hx Bd.returns (hb hby d9_180) hr
    · show QAd Z a0 tt ss (2 : Int32) t0 t1 t2 w0 w1 w2 q1 wt Us Sm h0 n0 _ T28.heap _
      rw [e28]
      exact ⟨rfl, N28, K28, (3 : Int32), q1, t0, t1, wt, w0, w1, ⟨hne, ((((((E_a0.wr W12).keep Kq16).keep Kq20).wr W22).wr W25).wr W28), ((((((Ft.other W12 (Or.inr (sn15_20 hw))).keep Kq16 (ninS (Ne.symm hne.1) nin0)).keep Kq20 (ninS (Ne.symm hne.2.1) nin0)).other W22 (Or.inl (Ne.symm hne.1))).other W25 (Or.inl (Ne.symm hne.2.1))).other W28 (Or.inr (sn15_29 hw))), ((((((Fs.other W12 (Or.inr (sn18_20 hw))).keep Kq16 (ninS (Ne.symm hne.1) nin0)).keep Kq20 (ninS (Ne.symm hne.2.1) nin0)).other W22 (Or.inl (Ne.symm hne.1))).other W25 (Or.inl (Ne.symm hne.2.1))).other W28 (Or.inr (sn18_29 hw))), ((((((Ff.other W12 (Or.inr (sn27_20 hw))).keep Kq16 (ninS (Ne.symm hne.1) nin0)).keep Kq20 (ninS (Ne.symm hne.2.1) nin0)).other W22 (Or.inl (Ne.symm hne.1))).other W25 (Or.inl (Ne.symm hne.2.1))).other W28 (Or.inr (sn27_29 hw))), F28, ((((((FU.other W12 (Or.inr (sn42_20 hw))).keep Kq16 (ninS (Ne.symm hne.1) nin0)).keep Kq20 (ninS (Ne.symm hne.2.1) nin0)).other W22 (Or.inl (Ne.symm hne.1))).other W25 (Or.inl (Ne.symm hne.2.1))).other W28 (Or.inr (sn42_29 hw))), ((((((FF.other W12 (Or.inr (sn31_20 hw))).keep Kq16 (ninS (Ne.symm hne.1) nin0)).keep Kq20 (ninS (Ne.symm hne.2.1) nin0)).other W22 (Or.inl (Ne.symm hne.1))).other W25 (Or.inl (Ne.symm hne.2.1))).other W28 (Or.inr (sn31_29 hw))), (((((F12.keep Kq16 (ninS (Ne.symm hne.1) nin0)).keep Kq20 (ninS (Ne.symm hne.2.1) nin0)).other W22 (Or.inl (Ne.symm hne.1))).other W25 (Or.inl (Ne.symm hne.2.1))).other W28 (Or.inr (sn20_29 hw))), ((((((FS.other W12 (Or.inr (sn48_20 hw))).keep Kq16 (ninS (Ne.symm hne.1) nin0)).keep Kq20 (ninS (Ne.symm hne.2.1) nin0)).other W22 (Or.inl (Ne.symm hne.1))).other W25 (Or.inl (Ne.symm hne.2.1))).other W28 (Or.inr (sn48_29 hw))), ((V23.other W25 hne.2.2).other W28 hne.1), (V26.other W28 hne.2.1)⟩, own_ai20 hs hFA1 hz hwt⟩
  · refine own_by (A' := T1.setTop (mkF m 10 #[.val (.ref a0), .val (.long q1), .second, .val (.double (FP.l2d wt)), .second, .val (.int (1 : Int32))] [(.ref a0), (.int (1 : Int32))])) (fun t kt => ?_) ?_
    · refine XS.istore X1.here hx rfl (hb hby d9_5) rfl (l' := #[.val (.ref a0), .val (.long q1), .second, .val (.double (FP.l2d wt)), .second, .val (.int (1 : Int32))]) rfl ?_
      refine XS.iload X1.here hx rfl (hb hby d9_7) rfl ?_
      refine XS.aloadN X1.here hx rfl (hb hby d9_9) rfl rfl ?_
      exact kt
    obtain ⟨T29, X29, e29, st29⟩ := getF X1 hx hZ hown (host := "") (Or.inl (wd26 hw)) Via.refl e1 Ff (g := (mkF m 10 #[.val (.ref a0), .val (.long q1), .second, .val (.double (FP.l2d wt)), .second, .val (.int (1 : Int32))] [(.ref a0), (.int (1 : Int32))])) rfl rfl (hb hby d9_10)
    refine own_by (A' := T29.setTop (mkF m 13 #[.val (.ref a0), .val (.long q1), .second, .val (.double (FP.l2d wt)), .second, .val (.int (1 : Int32))] [(.int (0 : Int32)), (.int (1 : Int32))])) (fun t kt => st29 t kt) ?_
    have hc13_30 : (0 : Int32) < (1 : Int32) := by decide
    refine own_by (A' := T29.setTop (mkF m 17 #[.val (.ref a0), .val (.long q1), .second, .val (.double (FP.l2d wt)), .second, .val (.int (1 : Int32))] [(.ref a0)])) (fun t kt => ?_) ?_
    · refine XS.icmpNo X29.here hx rfl (hb hby d9_13) rfl (tlt hc13_30).2.2.2 ?_
      refine XS.aloadN X29.here hx rfl (hb hby d9_16) rfl rfl ?_
      exact kt
    obtain ⟨T31, X31, e31, st31⟩ := getF X29 hx hZ hown (host := "") (Or.inl (wd14 hw)) Via.refl e29 Ft (g := (mkF m 17 #[.val (.ref a0), .val (.long q1), .second, .val (.double (FP.l2d wt)), .second, .val (.int (1 : Int32))] [(.ref a0)])) rfl rfl (hb hby d9_17)
    refine own_by (A' := T31.setTop (mkF m 24 #[.val (.ref a0), .val (.long q1), .second, .val (.double (FP.l2d wt)), .second, .val (.int (1 : Int32))] [(.int (0 : Int32)), (.ref tt)])) (fun t kt => ?_) ?_
    · refine st31 t ?_
      refine XS.iload X31.here hx rfl (hb hby d9_20) rfl ?_
      refine XS.iconst X31.here hx rfl (hb hby d9_22) ?_
      refine XS.isub X31.here hx rfl (hb hby d9_23) rfl ?_
      exact kt
    obtain ⟨cl32, Ar32, Sz32, Mn32, Ha32⟩ := id V_t
    have hin32 := inb_of (j := (0 : Int32)) Sz32 ⟨by decide, by decide⟩
    have hat32 : cl32.slots[((0 : Int32)).toNatClampNeg]? = some (.long t0) := (Ha32 _ (Nat.lt_of_not_le fun q => hin32 (Or.inr q))).trans (congrArg some rfl)
    refine own_by (A' := T31.setTop (mkF m 27 #[.val (.ref a0), .val (.long q1), .second, .val (.double (FP.l2d wt)), .second, .val (.int (1 : Int32))] [(.int (lcmpW t0 q1))])) (fun t kt => ?_) ?_
    · refine X31.laload hx (j := (0 : Int32)) (v := (.long t0)) (by rw [e31]; exact Ar32.1) (State.isArrayOf_alike hZ.alike Ar32.2.1) Ar32.2.2 hin32 hat32 (g := (mkF m 24 #[.val (.ref a0), .val (.long q1), .second, .val (.double (FP.l2d wt)), .second, .val (.int (1 : Int32))] [(.int (0 : Int32)), (.ref tt)])) rfl rfl (hb hby d9_24) _ ?_
      refine XS.lloadN X31.here hx rfl (hb hby d9_25) rfl ?_
      refine XS.lcmp X31.here hx rfl (hb hby d9_26) rfl ?_
      exact kt
    by_cases hc27_33 : t0 = q1
    · refine own_by (A' := T31.setTop (mkF m 35 #[.val (.ref a0), .val (.long q1), .second, .val (.double (FP.l2d wt)), .second, .val (.int (1 : Int32))] [(.ref a0), (.int (0 : Int32))])) (fun t kt => ?_) ?_
      · refine XS.ifNo X31.here hx rfl (hb hby d9_27) rfl ((if0 _ _).trans (teq ((lw_eq _ _).mpr hc27_33)).2) ?_
        refine XS.iload X31.here hx rfl (hb hby d9_30) rfl ?_
        refine XS.iconst X31.here hx rfl (hb hby d9_32) ?_
        refine XS.isub X31.here hx rfl (hb hby d9_33) rfl ?_
        refine XS.aloadN X31.here hx rfl (hb hby d9_34) rfl rfl ?_
        exact kt
      obtain ⟨T34, X34, e34, st34⟩ := getF X31 hx hZ hown (host := "") (Or.inl (wd19 hw)) Via.refl e31 FG (g := (mkF m 35 #[.val (.ref a0), .val (.long q1), .second, .val (.double (FP.l2d wt)), .second, .val (.int (1 : Int32))] [(.ref a0), (.int (0 : Int32))])) rfl rfl (hb hby d9_35)
      refine own_by (A' := T34.setTop (mkF m 38 #[.val (.ref a0), .val (.long q1), .second, .val (.double (FP.l2d wt)), .second, .val (.int (1 : Int32))] [(.int (-1 : Int32)), (.int (0 : Int32))])) (fun t kt => st34 t kt) ?_
      have hc38_35 : ¬ ((0 : Int32) < (-1 : Int32)) := by decide
      refine own_by (A' := T34.setTop (mkF m 47 #[.val (.ref a0), .val (.long q1), .second, .val (.double (FP.l2d wt)), .second, .val (.int (1 : Int32))] [(.ref a0)])) (fun t kt => ?_) ?_
      · refine XS.icmpYes X34.here hx rfl (pc0 := 38) (pc' := 46) rfl (hb hby d9_38) rfl (flt hc38_35).2.1 (by decide) (by decide) ?_
        refine XS.aloadN X34.here hx rfl (hb hby d9_46) rfl rfl ?_
        exact kt
      obtain ⟨T36, X36, e36, st36⟩ := getF X34 hx hZ hown (host := "") (Or.inl (wd17 hw)) Via.refl e34 Fs (g := (mkF m 47 #[.val (.ref a0), .val (.long q1), .second, .val (.double (FP.l2d wt)), .second, .val (.int (1 : Int32))] [(.ref a0)])) rfl rfl (hb hby d9_47)
      refine own_by (A' := T36.setTop (mkF m 55 #[.val (.ref a0), .val (.long q1), .second, .val (.double (FP.l2d wt)), .second, .val (.int (1 : Int32))] [(.int (0 : Int32)), (.ref ss), (.int (0 : Int32)), (.ref ss)])) (fun t kt => ?_) ?_
      · refine st36 t ?_
        refine XS.iload X36.here hx rfl (hb hby d9_50) rfl ?_
        refine XS.iconst X36.here hx rfl (hb hby d9_52) ?_
        refine XS.isub X36.here hx rfl (hb hby d9_53) rfl ?_
        refine Jvm.Free.XT.dup2 X36.here hx rfl (hb hby d9_54) rfl rfl rfl ?_
        exact kt
      obtain ⟨cl37, Ar37, Sz37, Mn37, Ha37⟩ := id V_s
      have hin37 := inb_of (j := (0 : Int32)) Sz37 ⟨by decide, by decide⟩
      have hat37 : cl37.slots[((0 : Int32)).toNatClampNeg]? = some (.double (FP.l2d w0)) := (Ha37 _ (Nat.lt_of_not_le fun q => hin37 (Or.inr q))).trans (congrArg some rfl)
      refine own_by (A' := T36.setTop (mkF m 57 #[.val (.ref a0), .val (.long q1), .second, .val (.double (FP.l2d wt)), .second, .val (.int (1 : Int32))] [(.double (FP.l2d wt)), (.double (FP.l2d w0)), (.int (0 : Int32)), (.ref ss)])) (fun t kt => ?_) ?_
      · refine X36.daload hx (j := (0 : Int32)) (v := (.double (FP.l2d w0))) (by rw [e36]; exact Ar37.1) (State.isArrayOf_alike hZ.alike Ar37.2.1) Ar37.2.2 hin37 hat37 (g := (mkF m 55 #[.val (.ref a0), .val (.long q1), .second, .val (.double (FP.l2d wt)), .second, .val (.int (1 : Int32))] [(.int (0 : Int32)), (.ref ss), (.int (0 : Int32)), (.ref ss)])) rfl rfl (hb hby d9_55) _ ?_
        refine XS.dloadN X36.here hx rfl (hb hby d9_56) rfl ?_
        exact kt
      have ha38 := own_ac (a := w0) (b := wt) (by omega) (by omega)
      have ha39 := own_ac (a := w0) (b := wt) (by omega) (by omega)
      refine own_by (A' := T36.setTop (mkF m 58 #[.val (.ref a0), .val (.long q1), .second, .val (.double (FP.l2d wt)), .second, .val (.int (1 : Int32))] [(.double (FP.l2d (w0 + wt))), (.int (0 : Int32)), (.ref ss)])) (fun t kt => ?_) ?_
      · refine XS.daddS X36.here hx rfl (hb hby d9_57) rfl (own_nn2 (a := w0) (b := wt) (by unfold own_B; omega) (by unfold own_B; omega) (by unfold own_B; omega)) (v := FP.l2d (w0 + wt)) (dadd_w (own_53 (by unfold own_B; omega)) (own_53 (by unfold own_B; omega))) ?_
        exact kt
      obtain ⟨cl40, Ar40, Sz40, Mn40, Ha40⟩ := id V_s
      have hin40 := inb_of (j := (0 : Int32)) Sz40 ⟨by decide, by decide⟩
      obtain ⟨T40, h40, X40, e40, W40, st40⟩ := stD X36 hx hZ e36 Ar40 (j := (0 : Int32)) hin40 (g := (mkF m 58 #[.val (.ref a0), .val (.long q1), .second, .val (.double (FP.l2d wt)), .second, .val (.int (1 : Int32))] [(.double (FP.l2d (w0 + wt))), (.int (0 : Int32)), (.ref ss)])) rfl rfl (hb hby d9_58)
      have V40 : AF Z h40 ss .double (8 : Int32) (fun i => if i = ((0 : Int32)).toNatClampNeg then (.double (FP.l2d (w0 + wt))) else (own_d3 w0 w1 w2) i) := AF.set Ar40 Sz40 Mn40 Ha40 hin40 W40
      have N40 := Fr.snoc X40 N1 g_ss
      have K40 : Keep h0 h40 [a0, tt, ss] := K0.wr W40 (Or.inl (List.mem_of_getElem? (i := 2) rfl))
      refine own_by (A' := T40.setTop (mkF m 59 #[.val (.ref a0), .val (.long q1), .second, .val (.double (FP.l2d wt)), .second, .val (.int (1 : Int32))] [])) (fun t kt => st40 t kt) ?_
      have V41 : AF Z h40 ss .double (8 : Int32) (own_d3 (w0 + wt) w1 w2) := AF.to V40 (own_stD0 (w0 + wt) w0 w1 w2)
      obtain ⟨fs, hr, hrun, hended, hW, hsame⟩ := X40.leave (v := none) (fun _ => rfl)
      refine ⟨_, _, ?_, hrun, hended, _, _, rfl, ?_, ⟨_, rfl⟩, hW, hsame.mono (by decide) (by decide)⟩
      · exact X40.returnOut hx Bd.returns (hb hby d9_59) hr
      · show QAd Z a0 tt ss (2 : Int32) t0 t1 t2 w0 w1 w2 q1 wt Us Sm h0 n0 _ T40.heap _
        rw [e40]
        exact ⟨rfl, N40, K40, (2 : Int32), t0, t1, t2, (w0 + wt), w1, w2, ⟨hne, (E_a0.wr W40), (Ft.other W40 (Or.inl (Ne.symm hne.2.1))), (Fs.other W40 (Or.inl (Ne.symm hne.2.1))), (Ff.other W40 (Or.inl (Ne.symm hne.2.1))), (Fe.other W40 (Or.inl (Ne.symm hne.2.1))), (FU.other W40 (Or.inl (Ne.symm hne.2.1))), (FF.other W40 (Or.inl (Ne.symm hne.2.1))), (FG.other W40 (Or.inl (Ne.symm hne.2.1))), (FS.other W40 (Or.inl (Ne.symm hne.2.1))), (V_t.other W40 hne.2.2), V41⟩, own_am21 hs hFA1 hz hwt hc27_33⟩
    · refine own_by (A' := T31.setTop (mkF m 61 #[.val (.ref a0), .val (.long q1), .second, .val (.double (FP.l2d wt)), .second, .val (.int (1 : Int32))] [(.ref a0)])) (fun t kt => ?_) ?_
      · refine XS.ifYes X31.here hx rfl (pc0 := 27) (pc' := 60) rfl (hb hby d9_27) rfl ((if0 _ _).trans (feq (fun q => hc27_33 ((lw_eq _ _).mp q))).2) (by decide) (by decide) ?_
        refine XS.aloadN X31.here hx rfl (hb hby d9_60) rfl rfl ?_
        exact kt
      obtain ⟨T42, X42, e42, st42⟩ := getF X31 hx hZ hown (host := "") (Or.inl (wd28 hw)) Via.refl e31 Fe (g := (mkF m 61 #[.val (.ref a0), .val (.long q1), .second, .val (.double (FP.l2d wt)), .second, .val (.int (1 : Int32))] [(.ref a0)])) rfl rfl (hb hby d9_61)
      refine own_by (A' := T42.setTop (mkF m 65 #[.val (.ref a0), .val (.long q1), .second, .val (.double (FP.l2d wt)), .second, .val (.int (1 : Int32))] [(.ref a0), (.int (2 : Int32))])) (fun t kt => ?_) ?_
      · refine st42 t ?_
        refine XS.aloadN X42.here hx rfl (hb hby d9_64) rfl rfl ?_
        exact kt
      obtain ⟨T43, X43, e43, st43⟩ := getF X42 hx hZ hown (host := "") (Or.inl (wd14 hw)) Via.refl e42 Ft (g := (mkF m 65 #[.val (.ref a0), .val (.long q1), .second, .val (.double (FP.l2d wt)), .second, .val (.int (1 : Int32))] [(.ref a0), (.int (2 : Int32))])) rfl rfl (hb hby d9_65)
      refine own_by (A' := T43.setTop (mkF m 68 #[.val (.ref a0), .val (.long q1), .second, .val (.double (FP.l2d wt)), .second, .val (.int (1 : Int32))] [(.ref tt), (.int (2 : Int32))])) (fun t kt => st43 t kt) ?_
      obtain ⟨cl44, Ar44, Sz44, Mn44, -⟩ := id V_t
      refine own_by (A' := T43.setTop (mkF m 69 #[.val (.ref a0), .val (.long q1), .second, .val (.double (FP.l2d wt)), .second, .val (.int (1 : Int32))] [(.int (8 : Int32)), (.int (2 : Int32))])) (fun t kt => ?_) ?_
      · refine X43.arraylength hx (by rw [e43]; exact Ar44.1) (State.isArrayOf_alike hZ.alike Ar44.2.1) (g := (mkF m 68 #[.val (.ref a0), .val (.long q1), .second, .val (.double (FP.l2d wt)), .second, .val (.int (1 : Int32))] [(.ref tt), (.int (2 : Int32))])) rfl rfl (hb hby d9_68) _ ?_
        rw [len_of Sz44 Mn44]
        exact kt
      have hc69_45 : ¬ ((2 : Int32) = (8 : Int32)) := by decide
      refine own_by (A' := T43.setTop (mkF m 86 #[.val (.ref a0), .val (.long q1), .second, .val (.double (FP.l2d wt)), .second, .val (.int (1 : Int32))] [(.ref a0), (.int (1 : Int32))])) (fun t kt => ?_) ?_
      · refine XS.icmpYes X43.here hx rfl (pc0 := 69) (pc' := 83) rfl (hb hby d9_69) rfl (feq hc69_45).2 (by decide) (by decide) ?_
        refine XS.iload X43.here hx rfl (hb hby d9_83) rfl ?_
        refine XS.aloadN X43.here hx rfl (hb hby d9_85) rfl rfl ?_
        exact kt
      obtain ⟨T46, X46, e46, st46⟩ := getF X43 hx hZ hown (host := "") (Or.inl (wd19 hw)) Via.refl e43 FG (g := (mkF m 86 #[.val (.ref a0), .val (.long q1), .second, .val (.double (FP.l2d wt)), .second, .val (.int (1 : Int32))] [(.ref a0), (.int (1 : Int32))])) rfl rfl (hb hby d9_86)
      refine own_by (A' := T46.setTop (mkF m 89 #[.val (.ref a0), .val (.long q1), .second, .val (.double (FP.l2d wt)), .second, .val (.int (1 : Int32))] [(.int (-1 : Int32)), (.int (1 : Int32))])) (fun t kt => st46 t kt) ?_
      have hc89_47 : ¬ ((1 : Int32) < (-1 : Int32)) := by decide
      refine own_by (A' := T46.setTop (mkF m 95 #[.val (.ref a0), .val (.long q1), .second, .val (.double (FP.l2d wt)), .second, .val (.int (1 : Int32))] [(.ref a0), (.int (1 : Int32))])) (fun t kt => ?_) ?_
      · refine XS.icmpNo X46.here hx rfl (hb hby d9_89) rfl (flt hc89_47).1 ?_
        refine XS.iload X46.here hx rfl (hb hby d9_92) rfl ?_
        refine XS.aloadN X46.here hx rfl (hb hby d9_94) rfl rfl ?_
        exact kt
      obtain ⟨T48, X48, e48, st48⟩ := getF X46 hx hZ hown (host := "") (Or.inl (wd30 hw)) Via.refl e46 FF (g := (mkF m 95 #[.val (.ref a0), .val (.long q1), .second, .val (.double (FP.l2d wt)), .second, .val (.int (1 : Int32))] [(.ref a0), (.int (1 : Int32))])) rfl rfl (hb hby d9_95)
      refine own_by (A' := T48.setTop (mkF m 98 #[.val (.ref a0), .val (.long q1), .second, .val (.double (FP.l2d wt)), .second, .val (.int (1 : Int32))] [(.int (0 : Int32)), (.int (1 : Int32))])) (fun t kt => st48 t kt) ?_
      have hc98_49 : (0 : Int32) < (1 : Int32) := by decide
      refine own_by (A' := T48.setTop (mkF m 107 #[.val (.ref a0), .val (.long q1), .second, .val (.double (FP.l2d wt)), .second, .val (.int (1 : Int32))] [(.ref a0)])) (fun t kt => ?_) ?_
      · refine XS.icmpYes X48.here hx rfl (pc0 := 98) (pc' := 106) rfl (hb hby d9_98) rfl (tlt hc98_49).2.2.1 (by decide) (by decide) ?_
        refine XS.aloadN X48.here hx rfl (hb hby d9_106) rfl rfl ?_
        exact kt
      obtain ⟨T50, X50, e50, st50⟩ := getF X48 hx hZ hown (host := "") (Or.inl (wd14 hw)) Via.refl e48 Ft (g := (mkF m 107 #[.val (.ref a0), .val (.long q1), .second, .val (.double (FP.l2d wt)), .second, .val (.int (1 : Int32))] [(.ref a0)])) rfl rfl (hb hby d9_107)
      refine own_by (A' := T50.setTop (mkF m 113 #[.val (.ref a0), .val (.long q1), .second, .val (.double (FP.l2d wt)), .second, .val (.int (1 : Int32))] [(.ref a0), (.int (1 : Int32)), (.ref tt)])) (fun t kt => ?_) ?_
      · refine st50 t ?_
        refine XS.iload X50.here hx rfl (hb hby d9_110) rfl ?_
        refine XS.aloadN X50.here hx rfl (hb hby d9_112) rfl rfl ?_
        exact kt
      obtain ⟨T51, X51, e51, st51⟩ := getF X50 hx hZ hown (host := "") (Or.inl (wd14 hw)) Via.refl e50 Ft (g := (mkF m 113 #[.val (.ref a0), .val (.long q1), .second, .val (.double (FP.l2d wt)), .second, .val (.int (1 : Int32))] [(.ref a0), (.int (1 : Int32)), (.ref tt)])) rfl rfl (hb hby d9_113)
      refine own_by (A' := T51.setTop (mkF m 121 #[.val (.ref a0), .val (.long q1), .second, .val (.double (FP.l2d wt)), .second, .val (.int (1 : Int32))] [(.ref a0), (.int (2 : Int32)), (.ref tt), (.int (1 : Int32)), (.ref tt)])) (fun t kt => ?_) ?_
      · refine st51 t ?_
        refine XS.iload X51.here hx rfl (hb hby d9_116) rfl ?_
        refine XS.iconst X51.here hx rfl (hb hby d9_118) ?_
        refine XS.iadd X51.here hx rfl (hb hby d9_119) rfl ?_
        refine XS.aloadN X51.here hx rfl (hb hby d9_120) rfl rfl ?_
        exact kt
      obtain ⟨T52, X52, e52, st52⟩ := getF X51 hx hZ hown (host := "") (Or.inl (wd28 hw)) Via.refl e51 Fe (g := (mkF m 121 #[.val (.ref a0), .val (.long q1), .second, .val (.double (FP.l2d wt)), .second, .val (.int (1 : Int32))] [(.ref a0), (.int (2 : Int32)), (.ref tt), (.int (1 : Int32)), (.ref tt)])) rfl rfl (hb hby d9_121)
      refine own_by (A' := T52.setTop (mkF m 127 #[.val (.ref a0), .val (.long q1), .second, .val (.double (FP.l2d wt)), .second, .val (.int (1 : Int32))] [(.int (1 : Int32)), (.int (2 : Int32)), (.ref tt), (.int (1 : Int32)), (.ref tt)])) (fun t kt => ?_) ?_
      · refine st52 t ?_
        refine XS.iload X52.here hx rfl (hb hby d9_124) rfl ?_
        refine XS.isub X52.here hx rfl (hb hby d9_126) rfl ?_
        exact kt
      obtain ⟨T53, L53, X53, N53, Kq53, B53, st53⟩ := own_cp X52 hx hZ hown (wd60 hw) (wd63 hw) (wd61 hw) (wd62 hw) e52 (x := (.long t0)) (y := (.long t1)) (z := (.long t2)) (o := (.long 0)) V_t rfl rfl rfl rfl rfl (sp := (1 : Int32)) (dp := (2 : Int32)) (nn := (1 : Int32)) (by decide) (by decide) (by decide) (by decide) (by decide) (own_cl12 (.long t0) (.long t1) (.long t2) (.long 0)) N1 g_tt (g := (mkF m 127 #[.val (.ref a0), .val (.long q1), .second, .val (.double (FP.l2d wt)), .second, .val (.int (1 : Int32))] [(.int (1 : Int32)), (.int (2 : Int32)), (.ref tt), (.int (1 : Int32)), (.ref tt)])) rfl (by rw [hml]; rfl) (rest := []) rfl (hb hby d9_127) (by decide) (W := 0) (by show 2 * 0 + _ ≤ _; exact Nat.le_of_eq rfl) (by decide)
      have K53 : Keep h0 T53.heap [a0, tt, ss] := K0.trans Kq53 (allS (Or.inl (List.mem_of_getElem? (i := 1) rfl)) all0)
      have V53 : AF Z T53.heap tt .long (8 : Int32) (own_j3 t0 t1 t1) := B53
      refine own_by (A' := T53.setTop (mkF m 131 #[.val (.ref a0), .val (.long q1), .second, .val (.double (FP.l2d wt)), .second, .val (.int (1 : Int32))] [(.ref a0)])) (fun t kt => ?_) ?_
      · refine st53 t ?_
        refine XS.aloadN X53.here hx rfl (hb hby d9_130) rfl rfl ?_
        exact kt
      obtain ⟨T54, X54, e54, st54⟩ := getF X53 hx hZ hown (host := "") (Or.inl (wd17 hw)) Via.refl rfl (Fs.keep Kq53 (ninS (Ne.symm hne.1) nin0)) (g := (mkF m 131 #[.val (.ref a0), .val (.long q1), .second, .val (.double (FP.l2d wt)), .second, .val (.int (1 : Int32))] [(.ref a0)])) rfl rfl (hb hby d9_131)
      refine own_by (A' := T54.setTop (mkF m 137 #[.val (.ref a0), .val (.long q1), .second, .val (.double (FP.l2d wt)), .second, .val (.int (1 : Int32))] [(.ref a0), (.int (1 : Int32)), (.ref ss)])) (fun t kt => ?_) ?_
      · refine st54 t ?_
        refine XS.iload X54.here hx rfl (hb hby d9_134) rfl ?_
        refine XS.aloadN X54.here hx rfl (hb hby d9_136) rfl rfl ?_
        exact kt
      obtain ⟨T55, X55, e55, st55⟩ := getF X54 hx hZ hown (host := "") (Or.inl (wd17 hw)) Via.refl e54 (Fs.keep Kq53 (ninS (Ne.symm hne.1) nin0)) (g := (mkF m 137 #[.val (.ref a0), .val (.long q1), .second, .val (.double (FP.l2d wt)), .second, .val (.int (1 : Int32))] [(.ref a0), (.int (1 : Int32)), (.ref ss)])) rfl rfl (hb hby d9_137)
      refine own_by (A' := T55.setTop (mkF m 145 #[.val (.ref a0), .val (.long q1), .second, .val (.double (FP.l2d wt)), .second, .val (.int (1 : Int32))] [(.ref a0), (.int (2 : Int32)), (.ref ss), (.int (1 : Int32)), (.ref ss)])) (fun t kt => ?_) ?_
      · refine st55 t ?_
        refine XS.iload X55.here hx rfl (hb hby d9_140) rfl ?_
        refine XS.iconst X55.here hx rfl (hb hby d9_142) ?_
        refine XS.iadd X55.here hx rfl (hb hby d9_143) rfl ?_
        refine XS.aloadN X55.here hx rfl (hb hby d9_144) rfl rfl ?_
        exact kt
      obtain ⟨T56, X56, e56, st56⟩ := getF X55 hx hZ hown (host := "") (Or.inl (wd28 hw)) Via.refl e55 (Fe.keep Kq53 (ninS (Ne.symm hne.1) nin0)) (g := (mkF m 145 #[.val (.ref a0), .val (.long q1), .second, .val (.double (FP.l2d wt)), .second, .val (.int (1 : Int32))] [(.ref a0), (.int (2 : Int32)), (.ref ss), (.int (1 : Int32)), (.ref ss)])) rfl rfl (hb hby d9_145)
      refine own_by (A' := T56.setTop (mkF m 151 #[.val (.ref a0), .val (.long q1), .second, .val (.double (FP.l2d wt)), .second, .val (.int (1 : Int32))] [(.int (1 : Int32)), (.int (2 : Int32)), (.ref ss), (.int (1 : Int32)), (.ref ss)])) (fun t kt => ?_) ?_
      · refine st56 t ?_
        refine XS.iload X56.here hx rfl (hb hby d9_148) rfl ?_
        refine XS.isub X56.here hx rfl (hb hby d9_150) rfl ?_
        exact kt
      obtain ⟨T57, L57, X57, N57, Kq57, B57, st57⟩ := own_cp X56 hx hZ hown (wd60 hw) (wd63 hw) (wd61 hw) (wd62 hw) e56 (x := (.double (FP.l2d w0))) (y := (.double (FP.l2d w1))) (z := (.double (FP.l2d w2))) (o := (.double (FP.l2d 0))) (V_s.keep Kq53 (ninS (Ne.symm hne.2.2) nin0)) rfl rfl rfl rfl rfl (sp := (1 : Int32)) (dp := (2 : Int32)) (nn := (1 : Int32)) (by decide) (by decide) (by decide) (by decide) (by decide) (own_cl12 (.double (FP.l2d w0)) (.double (FP.l2d w1)) (.double (FP.l2d w2)) (.double (FP.l2d 0))) N53 g_ss (g := (mkF m 151 #[.val (.ref a0), .val (.long q1), .second, .val (.double (FP.l2d wt)), .second, .val (.int (1 : Int32))] [(.int (1 : Int32)), (.int (2 : Int32)), (.ref ss), (.int (1 : Int32)), (.ref ss)])) rfl (by rw [hml]; rfl) (rest := []) rfl (hb hby d9_151) (by decide) (W := 0) (by show 2 * 0 + _ ≤ _; exact Nat.le_of_eq rfl) (by decide)
      have K57 : Keep h0 T57.heap [a0, tt, ss] := K53.trans Kq57 (allS (Or.inl (List.mem_of_getElem? (i := 2) rfl)) all0)
      have V57 : AF Z T57.heap ss .double (8 : Int32) (own_d3 w0 w1 w1) := B57
      refine own_by (A' := T57.setTop (mkF m 155 #[.val (.ref a0), .val (.long q1), .second, .val (.double (FP.l2d wt)), .second, .val (.int (1 : Int32))] [(.ref a0)])) (fun t kt => ?_) ?_
      · refine st57 t ?_
        refine XS.aloadN X57.here hx rfl (hb hby d9_154) rfl rfl ?_
        exact kt
      obtain ⟨T58, X58, e58, st58⟩ := getF X57 hx hZ hown (host := "") (Or.inl (wd14 hw)) Via.refl rfl ((Ft.keep Kq53 (ninS (Ne.symm hne.1) nin0)).keep Kq57 (ninS (Ne.symm hne.2.1) nin0)) (g := (mkF m 155 #[.val (.ref a0), .val (.long q1), .second, .val (.double (FP.l2d wt)), .second, .val (.int (1 : Int32))] [(.ref a0)])) rfl rfl (hb hby d9_155)
      refine own_by (A' := T58.setTop (mkF m 161 #[.val (.ref a0), .val (.long q1), .second, .val (.double (FP.l2d wt)), .second, .val (.int (1 : Int32))] [(.long q1), (.int (1 : Int32)), (.ref tt)])) (fun t kt => ?_) ?_
      · refine st58 t ?_
        refine XS.iload X58.here hx rfl (hb hby d9_158) rfl ?_
        refine XS.lloadN X58.here hx rfl (hb hby d9_160) rfl ?_
        exact kt
      obtain ⟨cl59, Ar59, Sz59, Mn59, Ha59⟩ := id (V53.keep Kq57 (ninS hne.2.2 nin0))
      have hin59 := inb_of (j := (1 : Int32)) Sz59 ⟨by decide, by decide⟩
      obtain ⟨T59, h59, X59, e59, W59, st59⟩ := stJ X58 hx hZ e58 Ar59 (j := (1 : Int32)) hin59 (g := (mkF m 161 #[.val (.ref a0), .val (.long q1), .second, .val (.double (FP.l2d wt)), .second, .val (.int (1 : Int32))] [(.long q1), (.int (1 : Int32)), (.ref tt)])) rfl rfl (hb hby d9_161)
      have V59 : AF Z h59 tt .long (8 : Int32) (fun i => if i = ((1 : Int32)).toNatClampNeg then (.long q1) else (own_j3 t0 t1 t1) i) := AF.set Ar59 Sz59 Mn59 Ha59 hin59 W59
      have N59 := Fr.snoc X59 N57 g_tt
      have K59 : Keep h0 h59 [a0, tt, ss] := K57.wr W59 (Or.inl (List.mem_of_getElem? (i := 1) rfl))
      refine own_by (A' := T59.setTop (mkF m 162 #[.val (.ref a0), .val (.long q1), .second, .val (.double (FP.l2d wt)), .second, .val (.int (1 : Int32))] [])) (fun t kt => st59 t kt) ?_
      have V60 : AF Z h59 tt .long (8 : Int32) (own_j3 t0 q1 t1) := AF.to V59 (own_stJ1 q1 t0 t1 t1)
      refine own_by (A' := T59.setTop (mkF m 163 #[.val (.ref a0), .val (.long q1), .second, .val (.double (FP.l2d wt)), .second, .val (.int (1 : Int32))] [(.ref a0)])) (fun t kt => ?_) ?_
      · refine XS.aloadN X59.here hx rfl (hb hby d9_162) rfl rfl ?_
        exact kt
      obtain ⟨T61, X61, e61, st61⟩ := getF X59 hx hZ hown (host := "") (Or.inl (wd17 hw)) Via.refl e59 (((Fs.keep Kq53 (ninS (Ne.symm hne.1) nin0)).keep Kq57 (ninS (Ne.symm hne.2.1) nin0)).other W59 (Or.inl (Ne.symm hne.1))) (g := (mkF m 163 #[.val (.ref a0), .val (.long q1), .second, .val (.double (FP.l2d wt)), .second, .val (.int (1 : Int32))] [(.ref a0)])) rfl rfl (hb hby d9_163)
      refine own_by (A' := T61.setTop (mkF m 169 #[.val (.ref a0), .val (.long q1), .second, .val (.double (FP.l2d wt)), .second, .val (.int (1 : Int32))] [(.double (FP.l2d wt)), (.int (1 : Int32)), (.ref ss)])) (fun t kt => ?_) ?_
      · refine st61 t ?_
        refine XS.iload X61.here hx rfl (hb hby d9_166) rfl ?_
        refine XS.dloadN X61.here hx rfl (hb hby d9_168) rfl ?_
        exact kt
      obtain ⟨cl62, Ar62, Sz62, Mn62, Ha62⟩ := id (V57.other W59 (Ne.symm hne.2.2))
      have hin62 := inb_of (j := (1 : Int32)) Sz62 ⟨by decide, by decide⟩
      obtain ⟨T62, h62, X62, e62, W62, st62⟩ := stD X61 hx hZ e61 Ar62 (j := (1 : Int32)) hin62 (g := (mkF m 169 #[.val (.ref a0), .val (.long q1), .second, .val (.double (FP.l2d wt)), .second, .val (.int (1 : Int32))] [(.double (FP.l2d wt)), (.int (1 : Int32)), (.ref ss)])) rfl rfl (hb hby d9_169)
      have V62 : AF Z h62 ss .double (8 : Int32) (fun i => if i = ((1 : Int32)).toNatClampNeg then (.double (FP.l2d wt)) else (own_d3 w0 w1 w1) i) := AF.set Ar62 Sz62 Mn62 Ha62 hin62 W62
      have N62 := Fr.snoc X62 N59 g_ss
      have K62 : Keep h0 h62 [a0, tt, ss] := K59.wr W62 (Or.inl (List.mem_of_getElem? (i := 2) rfl))
      refine own_by (A' := T62.setTop (mkF m 170 #[.val (.ref a0), .val (.long q1), .second, .val (.double (FP.l2d wt)), .second, .val (.int (1 : Int32))] [])) (fun t kt => st62 t kt) ?_
      have V63 : AF Z h62 ss .double (8 : Int32) (own_d3 w0 wt w1) := AF.to V62 (own_stD1 wt w0 w1 w1)
      refine own_by (A' := T62.setTop (mkF m 172 #[.val (.ref a0), .val (.long q1), .second, .val (.double (FP.l2d wt)), .second, .val (.int (1 : Int32))] [(.ref a0), (.ref a0)])) (fun t kt => ?_) ?_
      · refine XS.aloadN X62.here hx rfl (hb hby d9_170) rfl rfl ?_
        refine XS.dup X62.here hx rfl (hb hby d9_171) rfl rfl ?_
        exact kt
      obtain ⟨T64, X64, e64, st64⟩ := getF X62 hx hZ hown (host := "") (Or.inl (wd28 hw)) Via.refl e62 ((((Fe.keep Kq53 (ninS (Ne.symm hne.1) nin0)).keep Kq57 (ninS (Ne.symm hne.2.1) nin0)).other W59 (Or.inl (Ne.symm hne.1))).other W62 (Or.inl (Ne.symm hne.2.1))) (g := (mkF m 172 #[.val (.ref a0), .val (.long q1), .second, .val (.double (FP.l2d wt)), .second, .val (.int (1 : Int32))] [(.ref a0), (.ref a0)])) rfl rfl (hb hby d9_172)
      refine own_by (A' := T64.setTop (mkF m 177 #[.val (.ref a0), .val (.long q1), .second, .val (.double (FP.l2d wt)), .second, .val (.int (1 : Int32))] [(.int (3 : Int32)), (.ref a0)])) (fun t kt => ?_) ?_
      · refine st64 t ?_
        refine XS.iconst X64.here hx rfl (hb hby d9_175) ?_
        refine XS.iadd X64.here hx rfl (hb hby d9_176) rfl ?_
        exact kt
      obtain ⟨T65, h65, X65, e65, W65, st65⟩ := putF X64 hx hZ hown (host := "") (Or.inl (wd28 hw)) Via.refl e64 ((((Fe.keep Kq53 (ninS (Ne.symm hne.1) nin0)).keep Kq57 (ninS (Ne.symm hne.2.1) nin0)).other W59 (Or.inl (Ne.symm hne.1))).other W62 (Or.inl (Ne.symm hne.2.1))) ((((E_a0.keep Kq53).keep Kq57).wr W59).wr W62) (Or.inl (wd29 hw)) (wd5 hw) (ty := .int) (by decide) rfl rfl (g := (mkF m 177 #[.val (.ref a0), .val (.long q1), .second, .val (.double (FP.l2d wt)), .second, .val (.int (1 : Int32))] [(.int (3 : Int32)), (.ref a0)])) rfl rfl (hb hby d9_177)
      have F65 := Fld.same W65 ((((Fe.keep Kq53 (ninS (Ne.symm hne.1) nin0)).keep Kq57 (ninS (Ne.symm hne.2.1) nin0)).other W59 (Or.inl (Ne.symm hne.1))).other W62 (Or.inl (Ne.symm hne.2.1)))
      have N65 := Fr.snoc X65 N62 g_a0
      have K65 : Keep h0 h65 [a0, tt, ss] := K62.wr W65 (Or.inl (List.mem_of_getElem? (i := 0) rfl))
      refine own_by (A' := T65.setTop (mkF m 180 #[.val (.ref a0), .val (.long q1), .second, .val (.double (FP.l2d wt)), .second, .val (.int (1 : Int32))] [])) (fun t kt => st65 t kt) ?_
      obtain ⟨fs, hr, hrun, hended, hW, hsame⟩ := X65.leave (v := none) (fun _ => rfl)
      refine ⟨_, _, ?_, hrun, hended, _, _, rfl, ?_, ⟨_, rfl⟩, hW, hsame.mono (by decide) (by decide)⟩
      · exact X65.returnOut hx Bd.returns (hb hby d9_180) hr
      · show QAd Z a0 tt ss (2 : Int32) t0 t1 t2 w0 w1 w2 q1 wt Us Sm h0 n0 _ T65.heap _
        rw [e65]
        exact ⟨rfl, N65, K65, (3 : Int32), t0, q1, t1, w0, wt, w1, ⟨hne, (((((E_a0.keep Kq53).keep Kq57).wr W59).wr W62).wr W65), (((((Ft.keep Kq53 (ninS (Ne.symm hne.1) nin0)).keep Kq57 (ninS (Ne.symm hne.2.1) nin0)).other W59 (Or.inl (Ne.symm hne.1))).other W62 (Or.inl (Ne.symm hne.2.1))).other W65 (Or.inr (sn15_29 hw))), (((((Fs.keep Kq53 (ninS (Ne.symm hne.1) nin0)).keep Kq57 (ninS (Ne.symm hne.2.1) nin0)).other W59 (Or.inl (Ne.symm hne.1))).other W62 (Or.inl (Ne.symm hne.2.1))).other W65 (Or.inr (sn18_29 hw))), (((((Ff.keep Kq53 (ninS (Ne.symm hne.1) nin0)).keep Kq57 (ninS (Ne.symm hne.2.1) nin0)).other W59 (Or.inl (Ne.symm hne.1))).other W62 (Or.inl (Ne.symm hne.2.1))).other W65 (Or.inr (sn27_29 hw))), F65, (((((FU.keep Kq53 (ninS (Ne.symm hne.1) nin0)).keep Kq57 (ninS (Ne.symm hne.2.1) nin0)).other W59 (Or.inl (Ne.symm hne.1))).other W62 (Or.inl (Ne.symm hne.2.1))).other W65 (Or.inr (sn42_29 hw))), (((((FF.keep Kq53 (ninS (Ne.symm hne.1) nin0)).keep Kq57 (ninS (Ne.symm hne.2.1) nin0)).other W59 (Or.inl (Ne.symm hne.1))).other W62 (Or.inl (Ne.symm hne.2.1))).other W65 (Or.inr (sn31_29 hw))), (((((FG.keep Kq53 (ninS (Ne.symm hne.1) nin0)).keep Kq57 (ninS (Ne.symm hne.2.1) nin0)).other W59 (Or.inl (Ne.symm hne.1))).other W62 (Or.inl (Ne.symm hne.2.1))).other W65 (Or.inr (sn20_29 hw))), (((((FS.keep Kq53 (ninS (Ne.symm hne.1) nin0)).keep Kq57 (ninS (Ne.symm hne.2.1) nin0)).other W59 (Or.inl (Ne.symm hne.1))).other W62 (Or.inl (Ne.symm hne.2.1))).other W65 (Or.inr (sn48_29 hw))), ((V60.other W62 hne.2.2).other W65 hne.1), (V63.other W65 hne.2.1)⟩, own_ai21 hs hFA1 hz hwt hc27_33⟩
  · refine own_by (A' := T1.setTop (mkF m 10 #[.val (.ref a0), .val (.long q1), .second, .val (.double (FP.l2d wt)), .second, .val (.int (2 : Int32))] [(.ref a0), (.int (2 : Int32))])) (fun t kt => ?_) ?_
    · refine XS.istore X1.here hx rfl (hb hby d9_5) rfl (l' := #[.val (.ref a0), .val (.long q1), .second, .val (.double (FP.l2d wt)), .second, .val (.int (2 : Int32))]) rfl ?_
      refine XS.iload X1.here hx rfl (hb hby d9_7) rfl ?_
      refine XS.aloadN X1.here hx rfl (hb hby d9_9) rfl rfl ?_
      exact kt
    obtain ⟨T66, X66, e66, st66⟩ := getF X1 hx hZ hown (host := "") (Or.inl (wd26 hw)) Via.refl e1 Ff (g := (mkF m 10 #[.val (.ref a0), .val (.long q1), .second, .val (.double (FP.l2d wt)), .second, .val (.int (2 : Int32))] [(.ref a0), (.int (2 : Int32))])) rfl rfl (hb hby d9_10)
    refine own_by (A' := T66.setTop (mkF m 13 #[.val (.ref a0), .val (.long q1), .second, .val (.double (FP.l2d wt)), .second, .val (.int (2 : Int32))] [(.int (0 : Int32)), (.int (2 : Int32))])) (fun t kt => st66 t kt) ?_
    have hc13_67 : (0 : Int32) < (2 : Int32) := by decide
    refine own_by (A' := T66.setTop (mkF m 17 #[.val (.ref a0), .val (.long q1), .second, .val (.double (FP.l2d wt)), .second, .val (.int (2 : Int32))] [(.ref a0)])) (fun t kt => ?_) ?_
    · refine XS.icmpNo X66.here hx rfl (hb hby d9_13) rfl (tlt hc13_67).2.2.2 ?_
      refine XS.aloadN X66.here hx rfl (hb hby d9_16) rfl rfl ?_
      exact kt
    obtain ⟨T68, X68, e68, st68⟩ := getF X66 hx hZ hown (host := "") (Or.inl (wd14 hw)) Via.refl e66 Ft (g := (mkF m 17 #[.val (.ref a0), .val (.long q1), .second, .val (.double (FP.l2d wt)), .second, .val (.int (2 : Int32))] [(.ref a0)])) rfl rfl (hb hby d9_17)
    refine own_by (A' := T68.setTop (mkF m 24 #[.val (.ref a0), .val (.long q1), .second, .val (.double (FP.l2d wt)), .second, .val (.int (2 : Int32))] [(.int (1 : Int32)), (.ref tt)])) (fun t kt => ?_) ?_
    · refine st68 t ?_
      refine XS.iload X68.here hx rfl (hb hby d9_20) rfl ?_
      refine XS.iconst X68.here hx rfl (hb hby d9_22) ?_
      refine XS.isub X68.here hx rfl (hb hby d9_23) rfl ?_
      exact kt
    obtain ⟨cl69, Ar69, Sz69, Mn69, Ha69⟩ := id V_t
    have hin69 := inb_of (j := (1 : Int32)) Sz69 ⟨by decide, by decide⟩
    have hat69 : cl69.slots[((1 : Int32)).toNatClampNeg]? = some (.long t1) := (Ha69 _ (Nat.lt_of_not_le fun q => hin69 (Or.inr q))).trans (congrArg some rfl)
    refine own_by (A' := T68.setTop (mkF m 27 #[.val (.ref a0), .val (.long q1), .second, .val (.double (FP.l2d wt)), .second, .val (.int (2 : Int32))] [(.int (lcmpW t1 q1))])) (fun t kt => ?_) ?_
    · refine X68.laload hx (j := (1 : Int32)) (v := (.long t1)) (by rw [e68]; exact Ar69.1) (State.isArrayOf_alike hZ.alike Ar69.2.1) Ar69.2.2 hin69 hat69 (g := (mkF m 24 #[.val (.ref a0), .val (.long q1), .second, .val (.double (FP.l2d wt)), .second, .val (.int (2 : Int32))] [(.int (1 : Int32)), (.ref tt)])) rfl rfl (hb hby d9_24) _ ?_
      refine XS.lloadN X68.here hx rfl (hb hby d9_25) rfl ?_
      refine XS.lcmp X68.here hx rfl (hb hby d9_26) rfl ?_
      exact kt
    by_cases hc27_70 : t1 = q1
    · refine own_by (A' := T68.setTop (mkF m 35 #[.val (.ref a0), .val (.long q1), .second, .val (.double (FP.l2d wt)), .second, .val (.int (2 : Int32))] [(.ref a0), (.int (1 : Int32))])) (fun t kt => ?_) ?_
      · refine XS.ifNo X68.here hx rfl (hb hby d9_27) rfl ((if0 _ _).trans (teq ((lw_eq _ _).mpr hc27_70)).2) ?_
        refine XS.iload X68.here hx rfl (hb hby d9_30) rfl ?_
        refine XS.iconst X68.here hx rfl (hb hby d9_32) ?_
        refine XS.isub X68.here hx rfl (hb hby d9_33) rfl ?_
        refine XS.aloadN X68.here hx rfl (hb hby d9_34) rfl rfl ?_
        exact kt
      obtain ⟨T71, X71, e71, st71⟩ := getF X68 hx hZ hown (host := "") (Or.inl (wd19 hw)) Via.refl e68 FG (g := (mkF m 35 #[.val (.ref a0), .val (.long q1), .second, .val (.double (FP.l2d wt)), .second, .val (.int (2 : Int32))] [(.ref a0), (.int (1 : Int32))])) rfl rfl (hb hby d9_35)
      refine own_by (A' := T71.setTop (mkF m 38 #[.val (.ref a0), .val (.long q1), .second, .val (.double (FP.l2d wt)), .second, .val (.int (2 : Int32))] [(.int (-1 : Int32)), (.int (1 : Int32))])) (fun t kt => st71 t kt) ?_
      have hc38_72 : ¬ ((1 : Int32) < (-1 : Int32)) := by decide
      refine own_by (A' := T71.setTop (mkF m 47 #[.val (.ref a0), .val (.long q1), .second, .val (.double (FP.l2d wt)), .second, .val (.int (2 : Int32))] [(.ref a0)])) (fun t kt => ?_) ?_
      · refine XS.icmpYes X71.here hx rfl (pc0 := 38) (pc' := 46) rfl (hb hby d9_38) rfl (flt hc38_72).2.1 (by decide) (by decide) ?_
        refine XS.aloadN X71.here hx rfl (hb hby d9_46) rfl rfl ?_
        exact kt
      obtain ⟨T73, X73, e73, st73⟩ := getF X71 hx hZ hown (host := "") (Or.inl (wd17 hw)) Via.refl e71 Fs (g := (mkF m 47 #[.val (.ref a0), .val (.long q1), .second, .val (.double (FP.l2d wt)), .second, .val (.int (2 : Int32))] [(.ref a0)])) rfl rfl (hb hby d9_47)
      refine own_by (A' := T73.setTop (mkF m 55 #[.val (.ref a0), .val (.long q1), .second, .val (.double (FP.l2d wt)), .second, .val (.int (2 : Int32))] [(.int (1 : Int32)), (.ref ss), (.int (1 : Int32)), (.ref ss)])) (fun t kt => ?_) ?_
      · refine st73 t ?_
        refine XS.iload X73.here hx rfl (hb hby d9_50) rfl ?_
        refine XS.iconst X73.here hx rfl (hb hby d9_52) ?_
        refine XS.isub X73.here hx rfl (hb hby d9_53) rfl ?_
        refine Jvm.Free.XT.dup2 X73.here hx rfl (hb hby d9_54) rfl rfl rfl ?_
        exact kt
      obtain ⟨cl74, Ar74, Sz74, Mn74, Ha74⟩ := id V_s
      have hin74 := inb_of (j := (1 : Int32)) Sz74 ⟨by decide, by decide⟩
      have hat74 : cl74.slots[((1 : Int32)).toNatClampNeg]? = some (.double (FP.l2d w1)) := (Ha74 _ (Nat.lt_of_not_le fun q => hin74 (Or.inr q))).trans (congrArg some rfl)
      refine own_by (A' := T73.setTop (mkF m 57 #[.val (.ref a0), .val (.long q1), .second, .val (.double (FP.l2d wt)), .second, .val (.int (2 : Int32))] [(.double (FP.l2d wt)), (.double (FP.l2d w1)), (.int (1 : Int32)), (.ref ss)])) (fun t kt => ?_) ?_
      · refine X73.daload hx (j := (1 : Int32)) (v := (.double (FP.l2d w1))) (by rw [e73]; exact Ar74.1) (State.isArrayOf_alike hZ.alike Ar74.2.1) Ar74.2.2 hin74 hat74 (g := (mkF m 55 #[.val (.ref a0), .val (.long q1), .second, .val (.double (FP.l2d wt)), .second, .val (.int (2 : Int32))] [(.int (1 : Int32)), (.ref ss), (.int (1 : Int32)), (.ref ss)])) rfl rfl (hb hby d9_55) _ ?_
        refine XS.dloadN X73.here hx rfl (hb hby d9_56) rfl ?_
        exact kt
      have ha75 := own_ac (a := w1) (b := wt) (by omega) (by omega)
      have ha76 := own_ac (a := w1) (b := wt) (by omega) (by omega)
      refine own_by (A' := T73.setTop (mkF m 58 #[.val (.ref a0), .val (.long q1), .second, .val (.double (FP.l2d wt)), .second, .val (.int (2 : Int32))] [(.double (FP.l2d (w1 + wt))), (.int (1 : Int32)), (.ref ss)])) (fun t kt => ?_) ?_
      · refine XS.daddS X73.here hx rfl (hb hby d9_57) rfl (own_nn2 (a := w1) (b := wt) (by unfold own_B; omega) (by unfold own_B; omega) (by unfold own_B; omega)) (v := FP.l2d (w1 + wt)) (dadd_w (own_53 (by unfold own_B; omega)) (own_53 (by unfold own_B; omega))) ?_
        exact kt
      obtain ⟨cl77, Ar77, Sz77, Mn77, Ha77⟩ := id V_s
      have hin77 := inb_of (j := (1 : Int32)) Sz77 ⟨by decide, by decide⟩
      obtain ⟨T77, h77, X77, e77, W77, st77⟩ := stD X73 hx hZ e73 Ar77 (j := (1 : Int32)) hin77 (g := (mkF m 58 #[.val (.ref a0), .val (.long q1), .second, .val (.double (FP.l2d wt)), .second, .val (.int (2 : Int32))] [(.double (FP.l2d (w1 + wt))), (.int (1 : Int32)), (.ref ss)])) rfl rfl (hb hby d9_58)
      have V77 : AF Z h77 ss .double (8 : Int32) (fun i => if i = ((1 : Int32)).toNatClampNeg then (.double (FP.l2d (w1 + wt))) else (own_d3 w0 w1 w2) i) := AF.set Ar77 Sz77 Mn77 Ha77 hin77 W77
      have N77 := Fr.snoc X77 N1 g_ss
      have K77 : Keep h0 h77 [a0, tt, ss] := K0.wr W77 (Or.inl (List.mem_of_getElem? (i := 2) rfl))
      refine own_by (A' := T77.setTop (mkF m 59 #[.val (.ref a0), .val (.long q1), .second, .val (.double (FP.l2d wt)), .second, .val (.int (2 : Int32))] [])) (fun t kt => st77 t kt) ?_
      have V78 : AF Z h77 ss .double (8 : Int32) (own_d3 w0 (w1 + wt) w2) := AF.to V77 (own_stD1 (w1 + wt) w0 w1 w2)
      obtain ⟨fs, hr, hrun, hended, hW, hsame⟩ := X77.leave (v := none) (fun _ => rfl)
      refine ⟨_, _, ?_, hrun, hended, _, _, rfl, ?_, ⟨_, rfl⟩, hW, hsame.mono (by decide) (by decide)⟩
      · exact X77.returnOut hx Bd.returns (hb hby d9_59) hr
      · show QAd Z a0 tt ss (2 : Int32) t0 t1 t2 w0 w1 w2 q1 wt Us Sm h0 n0 _ T77.heap _
        rw [e77]
        exact ⟨rfl, N77, K77, (2 : Int32), t0, t1, t2, w0, (w1 + wt), w2, ⟨hne, (E_a0.wr W77), (Ft.other W77 (Or.inl (Ne.symm hne.2.1))), (Fs.other W77 (Or.inl (Ne.symm hne.2.1))), (Ff.other W77 (Or.inl (Ne.symm hne.2.1))), (Fe.other W77 (Or.inl (Ne.symm hne.2.1))), (FU.other W77 (Or.inl (Ne.symm hne.2.1))), (FF.other W77 (Or.inl (Ne.symm hne.2.1))), (FG.other W77 (Or.inl (Ne.symm hne.2.1))), (FS.other W77 (Or.inl (Ne.symm hne.2.1))), (V_t.other W77 hne.2.2), V78⟩, own_am22 hs hFA1 hz hwt hc27_70⟩
    · refine own_by (A' := T68.setTop (mkF m 61 #[.val (.ref a0), .val (.long q1), .second, .val (.double (FP.l2d wt)), .second, .val (.int (2 : Int32))] [(.ref a0)])) (fun t kt => ?_) ?_
      · refine XS.ifYes X68.here hx rfl (pc0 := 27) (pc' := 60) rfl (hb hby d9_27) rfl ((if0 _ _).trans (feq (fun q => hc27_70 ((lw_eq _ _).mp q))).2) (by decide) (by decide) ?_
        refine XS.aloadN X68.here hx rfl (hb hby d9_60) rfl rfl ?_
        exact kt
      obtain ⟨T79, X79, e79, st79⟩ := getF X68 hx hZ hown (host := "") (Or.inl (wd28 hw)) Via.refl e68 Fe (g := (mkF m 61 #[.val (.ref a0), .val (.long q1), .second, .val (.double (FP.l2d wt)), .second, .val (.int (2 : Int32))] [(.ref a0)])) rfl rfl (hb hby d9_61)
      refine own_by (A' := T79.setTop (mkF m 65 #[.val (.ref a0), .val (.long q1), .second, .val (.double (FP.l2d wt)), .second, .val (.int (2 : Int32))] [(.ref a0), (.int (2 : Int32))])) (fun t kt => ?_) ?_
      · refine st79 t ?_
        refine XS.aloadN X79.here hx rfl (hb hby d9_64) rfl rfl ?_
        exact kt
      obtain ⟨T80, X80, e80, st80⟩ := getF X79 hx hZ hown (host := "") (Or.inl (wd14 hw)) Via.refl e79 Ft (g := (mkF m 65 #[.val (.ref a0), .val (.long q1), .second, .val (.double (FP.l2d wt)), .second, .val (.int (2 : Int32))] [(.ref a0), (.int (2 : Int32))])) rfl rfl (hb hby d9_65)
      refine own_by (A' := T80.setTop (mkF m 68 #[.val (.ref a0), .val (.long q1), .second, .val (.double (FP.l2d wt)), .second, .val (.int (2 : Int32))] [(.ref tt), (.int (2 : Int32))])) (fun t kt => st80 t kt) ?_
      obtain ⟨cl81, Ar81, Sz81, Mn81, -⟩ := id V_t
      refine own_by (A' := T80.setTop (mkF m 69 #[.val (.ref a0), .val (.long q1), .second, .val (.double (FP.l2d wt)), .second, .val (.int (2 : Int32))] [(.int (8 : Int32)), (.int (2 : Int32))])) (fun t kt => ?_) ?_
      · refine X80.arraylength hx (by rw [e80]; exact Ar81.1) (State.isArrayOf_alike hZ.alike Ar81.2.1) (g := (mkF m 68 #[.val (.ref a0), .val (.long q1), .second, .val (.double (FP.l2d wt)), .second, .val (.int (2 : Int32))] [(.ref tt), (.int (2 : Int32))])) rfl rfl (hb hby d9_68) _ ?_
        rw [len_of Sz81 Mn81]
        exact kt
      have hc69_82 : ¬ ((2 : Int32) = (8 : Int32)) := by decide
      refine own_by (A' := T80.setTop (mkF m 86 #[.val (.ref a0), .val (.long q1), .second, .val (.double (FP.l2d wt)), .second, .val (.int (2 : Int32))] [(.ref a0), (.int (2 : Int32))])) (fun t kt => ?_) ?_
      · refine XS.icmpYes X80.here hx rfl (pc0 := 69) (pc' := 83) rfl (hb hby d9_69) rfl (feq hc69_82).2 (by decide) (by decide) ?_
        refine XS.iload X80.here hx rfl (hb hby d9_83) rfl ?_
        refine XS.aloadN X80.here hx rfl (hb hby d9_85) rfl rfl ?_
        exact kt
      obtain ⟨T83, X83, e83, st83⟩ := getF X80 hx hZ hown (host := "") (Or.inl (wd19 hw)) Via.refl e80 FG (g := (mkF m 86 #[.val (.ref a0), .val (.long q1), .second, .val (.double (FP.l2d wt)), .second, .val (.int (2 : Int32))] [(.ref a0), (.int (2 : Int32))])) rfl rfl (hb hby d9_86)
      refine own_by (A' := T83.setTop (mkF m 89 #[.val (.ref a0), .val (.long q1), .second, .val (.double (FP.l2d wt)), .second, .val (.int (2 : Int32))] [(.int (-1 : Int32)), (.int (2 : Int32))])) (fun t kt => st83 t kt) ?_
      have hc89_84 : ¬ ((2 : Int32) < (-1 : Int32)) := by decide
      refine own_by (A' := T83.setTop (mkF m 95 #[.val (.ref a0), .val (.long q1), .second, .val (.double (FP.l2d wt)), .second, .val (.int (2 : Int32))] [(.ref a0), (.int (2 : Int32))])) (fun t kt => ?_) ?_
      · refine XS.icmpNo X83.here hx rfl (hb hby d9_89) rfl (flt hc89_84).1 ?_
        refine XS.iload X83.here hx rfl (hb hby d9_92) rfl ?_
        refine XS.aloadN X83.here hx rfl (hb hby d9_94) rfl rfl ?_
        exact kt
      obtain ⟨T85, X85, e85, st85⟩ := getF X83 hx hZ hown (host := "") (Or.inl (wd30 hw)) Via.refl e83 FF (g := (mkF m 95 #[.val (.ref a0), .val (.long q1), .second, .val (.double (FP.l2d wt)), .second, .val (.int (2 : Int32))] [(.ref a0), (.int (2 : Int32))])) rfl rfl (hb hby d9_95)
      refine own_by (A' := T85.setTop (mkF m 98 #[.val (.ref a0), .val (.long q1), .second, .val (.double (FP.l2d wt)), .second, .val (.int (2 : Int32))] [(.int (0 : Int32)), (.int (2 : Int32))])) (fun t kt => st85 t kt) ?_
      have hc98_86 : (0 : Int32) < (2 : Int32) := by decide
      refine own_by (A' := T85.setTop (mkF m 107 #[.val (.ref a0), .val (.long q1), .second, .val (.double (FP.l2d wt)), .second, .val (.int (2 : Int32))] [(.ref a0)])) (fun t kt => ?_) ?_
      · refine XS.icmpYes X85.here hx rfl (pc0 := 98) (pc' := 106) rfl (hb hby d9_98) rfl (tlt hc98_86).2.2.1 (by decide) (by decide) ?_
        refine XS.aloadN X85.here hx rfl (hb hby d9_106) rfl rfl ?_
        exact kt
      obtain ⟨T87, X87, e87, st87⟩ := getF X85 hx hZ hown (host := "") (Or.inl (wd14 hw)) Via.refl e85 Ft (g := (mkF m 107 #[.val (.ref a0), .val (.long q1), .second, .val (.double (FP.l2d wt)), .second, .val (.int (2 : Int32))] [(.ref a0)])) rfl rfl (hb hby d9_107)
      refine own_by (A' := T87.setTop (mkF m 113 #[.val (.ref a0), .val (.long q1), .second, .val (.double (FP.l2d wt)), .second, .val (.int (2 : Int32))] [(.ref a0), (.int (2 : Int32)), (.ref tt)])) (fun t kt => ?_) ?_
      · refine st87 t ?_
        refine XS.iload X87.here hx rfl (hb hby d9_110) rfl ?_
        refine XS.aloadN X87.here hx rfl (hb hby d9_112) rfl rfl ?_
        exact kt
      obtain ⟨T88, X88, e88, st88⟩ := getF X87 hx hZ hown (host := "") (Or.inl (wd14 hw)) Via.refl e87 Ft (g := (mkF m 113 #[.val (.ref a0), .val (.long q1), .second, .val (.double (FP.l2d wt)), .second, .val (.int (2 : Int32))] [(.ref a0), (.int (2 : Int32)), (.ref tt)])) rfl rfl (hb hby d9_113)
      refine own_by (A' := T88.setTop (mkF m 121 #[.val (.ref a0), .val (.long q1), .second, .val (.double (FP.l2d wt)), .second, .val (.int (2 : Int32))] [(.ref a0), (.int (3 : Int32)), (.ref tt), (.int (2 : Int32)), (.ref tt)])) (fun t kt => ?_) ?_
      · refine st88 t ?_
        refine XS.iload X88.here hx rfl (hb hby d9_116) rfl ?_
        refine XS.iconst X88.here hx rfl (hb hby d9_118) ?_
        refine XS.iadd X88.here hx rfl (hb hby d9_119) rfl ?_
        refine XS.aloadN X88.here hx rfl (hb hby d9_120) rfl rfl ?_
        exact kt
      obtain ⟨T89, X89, e89, st89⟩ := getF X88 hx hZ hown (host := "") (Or.inl (wd28 hw)) Via.refl e88 Fe (g := (mkF m 121 #[.val (.ref a0), .val (.long q1), .second, .val (.double (FP.l2d wt)), .second, .val (.int (2 : Int32))] [(.ref a0), (.int (3 : Int32)), (.ref tt), (.int (2 : Int32)), (.ref tt)])) rfl rfl (hb hby d9_121)
      refine own_by (A' := T89.setTop (mkF m 127 #[.val (.ref a0), .val (.long q1), .second, .val (.double (FP.l2d wt)), .second, .val (.int (2 : Int32))] [(.int (0 : Int32)), (.int (3 : Int32)), (.ref tt), (.int (2 : Int32)), (.ref tt)])) (fun t kt => ?_) ?_
      · refine st89 t ?_
        refine XS.iload X89.here hx rfl (hb hby d9_124) rfl ?_
        refine XS.isub X89.here hx rfl (hb hby d9_126) rfl ?_
        exact kt
      obtain ⟨T90, L90, X90, N90, Kq90, B90, st90⟩ := own_cp X89 hx hZ hown (wd60 hw) (wd63 hw) (wd61 hw) (wd62 hw) e89 (x := (.long t0)) (y := (.long t1)) (z := (.long t2)) (o := (.long 0)) V_t rfl rfl rfl rfl rfl (sp := (2 : Int32)) (dp := (3 : Int32)) (nn := (0 : Int32)) (by decide) (by decide) (by decide) (by decide) (by decide) (own_cl22 (.long t0) (.long t1) (.long t2) (.long 0)) N1 g_tt (g := (mkF m 127 #[.val (.ref a0), .val (.long q1), .second, .val (.double (FP.l2d wt)), .second, .val (.int (2 : Int32))] [(.int (0 : Int32)), (.int (3 : Int32)), (.ref tt), (.int (2 : Int32)), (.ref tt)])) rfl (by rw [hml]; rfl) (rest := []) rfl (hb hby d9_127) (by decide) (W := 0) (by show 2 * 0 + _ ≤ _; exact Nat.le_of_eq rfl) (by decide)
      have K90 : Keep h0 T90.heap [a0, tt, ss] := K0.trans Kq90 (allS (Or.inl (List.mem_of_getElem? (i := 1) rfl)) all0)
      have V90 : AF Z T90.heap tt .long (8 : Int32) (own_j3 t0 t1 t2) := B90
      refine own_by (A' := T90.setTop (mkF m 131 #[.val (.ref a0), .val (.long q1), .second, .val (.double (FP.l2d wt)), .second, .val (.int (2 : Int32))] [(.ref a0)])) (fun t kt => ?_) ?_
      · refine st90 t ?_
        refine XS.aloadN X90.here hx rfl (hb hby d9_130) rfl rfl ?_
        exact kt
      obtain ⟨T91, X91, e91, st91⟩ := getF X90 hx hZ hown (host := "") (Or.inl (wd17 hw)) Via.refl rfl (Fs.keep Kq90 (ninS (Ne.symm hne.1) nin0)) (g := (mkF m 131 #[.val (.ref a0), .val (.long q1), .second, .val (.double (FP.l2d wt)), .second, .val (.int (2 : Int32))] [(.ref a0)])) rfl rfl (hb hby d9_131)
      refine own_by (A' := T91.setTop (mkF m 137 #[.val (.ref a0), .val (.long q1), .second, .val (.double (FP.l2d wt)), .second, .val (.int (2 : Int32))] [(.ref a0), (.int (2 : Int32)), (.ref ss)])) (fun t kt => ?_) ?_
      · refine st91 t ?_
        refine XS.iload X91.here hx rfl (hb hby d9_134) rfl ?_
        refine XS.aloadN X91.here hx rfl (hb hby d9_136) rfl rfl ?_
        exact kt
      obtain ⟨T92, X92, e92, st92⟩ := getF X91 hx hZ hown (host := "") (Or.inl (wd17 hw)) Via.refl e91 (Fs.keep Kq90 (ninS (Ne.symm hne.1) nin0)) (g := (mkF m 137 #[.val (.ref a0), .val (.long q1), .second, .val (.double (FP.l2d wt)), .second, .val (.int (2 : Int32))] [(.ref a0), (.int (2 : Int32)), (.ref ss)])) rfl rfl (hb hby d9_137)
      refine own_by (A' := T92.setTop (mkF m 145 #[.val (.ref a0), .val (.long q1), .second, .val (.double (FP.l2d wt)), .second, .val (.int (2 : Int32))] [(.ref a0), (.int (3 : Int32)), (.ref ss), (.int (2 : Int32)), (.ref ss)])) (fun t kt => ?_) ?_
      · refine st92 t ?_
        refine XS.iload X92.here hx rfl (hb hby d9_140) rfl ?_
        refine XS.iconst X92.here hx rfl (hb hby d9_142) ?_
        refine XS.iadd X92.here hx rfl (hb hby d9_143) rfl ?_
        refine XS.aloadN X92.here hx rfl (hb hby d9_144) rfl rfl ?_
        exact kt
      obtain ⟨T93, X93, e93, st93⟩ := getF X92 hx hZ hown (host := "") (Or.inl (wd28 hw)) Via.refl e92 (Fe.keep Kq90 (ninS (Ne.symm hne.1) nin0)) (g := (mkF m 145 #[.val (.ref a0), .val (.long q1), .second, .val (.double (FP.l2d wt)), .second, .val (.int (2 : Int32))] [(.ref a0), (.int (3 : Int32)), (.ref ss), (.int (2 : Int32)), (.ref ss)])) rfl rfl (hb hby d9_145)
      refine own_by (A' := T93.setTop (mkF m 151 #[.val (.ref a0), .val (.long q1), .second, .val (.double (FP.l2d wt)), .second, .val (.int (2 : Int32))] [(.int (0 : Int32)), (.int (3 : Int32)), (.ref ss), (.int (2 : Int32)), (.ref ss)])) (fun t kt => ?_) ?_
      · refine st93 t ?_
        refine XS.iload X93.here hx rfl (hb hby d9_148) rfl ?_
        refine XS.isub X93.here hx rfl (hb hby d9_150) rfl ?_
        exact kt
      obtain ⟨T94, L94, X94, N94, Kq94, B94, st94⟩ := own_cp X93 hx hZ hown (wd60 hw) (wd63 hw) (wd61 hw) (wd62 hw) e93 (x := (.double (FP.l2d w0))) (y := (.double (FP.l2d w1))) (z := (.double (FP.l2d w2))) (o := (.double (FP.l2d 0))) (V_s.keep Kq90 (ninS (Ne.symm hne.2.2) nin0)) rfl rfl rfl rfl rfl (sp := (2 : Int32)) (dp := (3 : Int32)) (nn := (0 : Int32)) (by decide) (by decide) (by decide) (by decide) (by decide) (own_cl22 (.double (FP.l2d w0)) (.double (FP.l2d w1)) (.double (FP.l2d w2)) (.double (FP.l2d 0))) N90 g_ss (g := (mkF m 151 #[.val (.ref a0), .val (.long q1), .second, .val (.double (FP.l2d wt)), .second, .val (.int (2 : Int32))] [(.int (0 : Int32)), (.int (3 : Int32)), (.ref ss), (.int (2 : Int32)), (.ref ss)])) rfl (by rw [hml]; rfl) (rest := []) rfl (hb hby d9_151) (by decide) (W := 0) (by show 2 * 0 + _ ≤ _; exact Nat.le_of_eq rfl) (by decide)
      have K94 : Keep h0 T94.heap [a0, tt, ss] := K90.trans Kq94 (allS (Or.inl (List.mem_of_getElem? (i := 2) rfl)) all0)
      have V94 : AF Z T94.heap ss .double (8 : Int32) (own_d3 w0 w1 w2) := B94
      refine own_by (A' := T94.setTop (mkF m 155 #[.val (.ref a0), .val (.long q1), .second, .val (.double (FP.l2d wt)), .second, .val (.int (2 : Int32))] [(.ref a0)])) (fun t kt => ?_) ?_
      · refine st94 t ?_
        refine XS.aloadN X94.here hx rfl (hb hby d9_154) rfl rfl ?_
        exact kt
      obtain ⟨T95, X95, e95, st95⟩ := getF X94 hx hZ hown (host := "") (Or.inl (wd14 hw)) Via.refl rfl ((Ft.keep Kq90 (ninS (Ne.symm hne.1) nin0)).keep Kq94 (ninS (Ne.symm hne.2.1) nin0)) (g := (mkF m 155 #[.val (.ref a0), .val (.long q1), .second, .val (.double (FP.l2d wt)), .second, .val (.int (2 : Int32))] [(.ref a0)])) rfl rfl (hb hby d9_155)
      refine own_by (A' := T95.setTop (mkF m 161 #[.val (.ref a0), .val (.long q1), .second, .val (.double (FP.l2d wt)), .second, .val (.int (2 : Int32))] [(.long q1), (.int (2 : Int32)), (.ref tt)])) (fun t kt => ?_) ?_
      · refine st95 t ?_
        refine XS.iload X95.here hx rfl (hb hby d9_158) rfl ?_
        refine XS.lloadN X95.here hx rfl (hb hby d9_160) rfl ?_
        exact kt
      obtain ⟨cl96, Ar96, Sz96, Mn96, Ha96⟩ := id (V90.keep Kq94 (ninS hne.2.2 nin0))
      have hin96 := inb_of (j := (2 : Int32)) Sz96 ⟨by decide, by decide⟩
      obtain ⟨T96, h96, X96, e96, W96, st96⟩ := stJ X95 hx hZ e95 Ar96 (j := (2 : Int32)) hin96 (g := (mkF m 161 #[.val (.ref a0), .val (.long q1), .second, .val (.double (FP.l2d wt)), .second, .val (.int (2 : Int32))] [(.long q1), (.int (2 : Int32)), (.ref tt)])) rfl rfl (hb hby d9_161)
      have V96 : AF Z h96 tt .long (8 : Int32) (fun i => if i = ((2 : Int32)).toNatClampNeg then (.long q1) else (own_j3 t0 t1 t2) i) := AF.set Ar96 Sz96 Mn96 Ha96 hin96 W96
      have N96 := Fr.snoc X96 N94 g_tt
      have K96 : Keep h0 h96 [a0, tt, ss] := K94.wr W96 (Or.inl (List.mem_of_getElem? (i := 1) rfl))
      refine own_by (A' := T96.setTop (mkF m 162 #[.val (.ref a0), .val (.long q1), .second, .val (.double (FP.l2d wt)), .second, .val (.int (2 : Int32))] [])) (fun t kt => st96 t kt) ?_
      have V97 : AF Z h96 tt .long (8 : Int32) (own_j3 t0 t1 q1) := AF.to V96 (own_stJ2 q1 t0 t1 t2)
      refine own_by (A' := T96.setTop (mkF m 163 #[.val (.ref a0), .val (.long q1), .second, .val (.double (FP.l2d wt)), .second, .val (.int (2 : Int32))] [(.ref a0)])) (fun t kt => ?_) ?_
      · refine XS.aloadN X96.here hx rfl (hb hby d9_162) rfl rfl ?_
        exact kt
      obtain ⟨T98, X98, e98, st98⟩ := getF X96 hx hZ hown (host := "") (Or.inl (wd17 hw)) Via.refl e96 (((Fs.keep Kq90 (ninS (Ne.symm hne.1) nin0)).keep Kq94 (ninS (Ne.symm hne.2.1) nin0)).other W96 (Or.inl (Ne.symm hne.1))) (g := (mkF m 163 #[.val (.ref a0), .val (.long q1), .second, .val (.double (FP.l2d wt)), .second, .val (.int (2 : Int32))] [(.ref a0)])) rfl rfl (hb hby d9_163)
      refine own_by (A' := T98.setTop (mkF m 169 #[.val (.ref a0), .val (.long q1), .second, .val (.double (FP.l2d wt)), .second, .val (.int (2 : Int32))] [(.double (FP.l2d wt)), (.int (2 : Int32)), (.ref ss)])) (fun t kt => ?_) ?_
      · refine st98 t ?_
        refine XS.iload X98.here hx rfl (hb hby d9_166) rfl ?_
        refine XS.dloadN X98.here hx rfl (hb hby d9_168) rfl ?_
        exact kt
      obtain ⟨cl99, Ar99, Sz99, Mn99, Ha99⟩ := id (V94.other W96 (Ne.symm hne.2.2))
      have hin99 := inb_of (j := (2 : Int32)) Sz99 ⟨by decide, by decide⟩
      obtain ⟨T99, h99, X99, e99, W99, st99⟩ := stD X98 hx hZ e98 Ar99 (j := (2 : Int32)) hin99 (g := (mkF m 169 #[.val (.ref a0), .val (.long q1), .second, .val (.double (FP.l2d wt)), .second, .val (.int (2 : Int32))] [(.double (FP.l2d wt)), (.int (2 : Int32)), (.ref ss)])) rfl rfl (hb hby d9_169)
      have V99 : AF Z h99 ss .double (8 : Int32) (fun i => if i = ((2 : Int32)).toNatClampNeg then (.double (FP.l2d wt)) else (own_d3 w0 w1 w2) i) := AF.set Ar99 Sz99 Mn99 Ha99 hin99 W99
      have N99 := Fr.snoc X99 N96 g_ss
      have K99 : Keep h0 h99 [a0, tt, ss] := K96.wr W99 (Or.inl (List.mem_of_getElem? (i := 2) rfl))
      refine own_by (A' := T99.setTop (mkF m 170 #[.val (.ref a0), .val (.long q1), .second, .val (.double (FP.l2d wt)), .second, .val (.int (2 : Int32))] [])) (fun t kt => st99 t kt) ?_
      have V100 : AF Z h99 ss .double (8 : Int32) (own_d3 w0 w1 wt) := AF.to V99 (own_stD2 wt w0 w1 w2)
      refine own_by (A' := T99.setTop (mkF m 172 #[.val (.ref a0), .val (.long q1), .second, .val (.double (FP.l2d wt)), .second, .val (.int (2 : Int32))] [(.ref a0), (.ref a0)])) (fun t kt => ?_) ?_
      · refine XS.aloadN X99.here hx rfl (hb hby d9_170) rfl rfl ?_
        refine XS.dup X99.here hx rfl (hb hby d9_171) rfl rfl ?_
        exact kt
      obtain ⟨T101, X101, e101, st101⟩ := getF X99 hx hZ hown (host := "") (Or.inl (wd28 hw)) Via.refl e99 ((((Fe.keep Kq90 (ninS (Ne.symm hne.1) nin0)).keep Kq94 (ninS (Ne.symm hne.2.1) nin0)).other W96 (Or.inl (Ne.symm hne.1))).other W99 (Or.inl (Ne.symm hne.2.1))) (g := (mkF m 172 #[.val (.ref a0), .val (.long q1), .second, .val (.double (FP.l2d wt)), .second, .val (.int (2 : Int32))] [(.ref a0), (.ref a0)])) rfl rfl (hb hby d9_172)
      refine own_by (A' := T101.setTop (mkF m 177 #[.val (.ref a0), .val (.long q1), .second, .val (.double (FP.l2d wt)), .second, .val (.int (2 : Int32))] [(.int (3 : Int32)), (.ref a0)])) (fun t kt => ?_) ?_
      · refine st101 t ?_
        refine XS.iconst X101.here hx rfl (hb hby d9_175) ?_
        refine XS.iadd X101.here hx rfl (hb hby d9_176) rfl ?_
        exact kt
      obtain ⟨T102, h102, X102, e102, W102, st102⟩ := putF X101 hx hZ hown (host := "") (Or.inl (wd28 hw)) Via.refl e101 ((((Fe.keep Kq90 (ninS (Ne.symm hne.1) nin0)).keep Kq94 (ninS (Ne.symm hne.2.1) nin0)).other W96 (Or.inl (Ne.symm hne.1))).other W99 (Or.inl (Ne.symm hne.2.1))) ((((E_a0.keep Kq90).keep Kq94).wr W96).wr W99) (Or.inl (wd29 hw)) (wd5 hw) (ty := .int) (by decide) rfl rfl (g := (mkF m 177 #[.val (.ref a0), .val (.long q1), .second, .val (.double (FP.l2d wt)), .second, .val (.int (2 : Int32))] [(.int (3 : Int32)), (.ref a0)])) rfl rfl (hb hby d9_177)
      have F102 := Fld.same W102 ((((Fe.keep Kq90 (ninS (Ne.symm hne.1) nin0)).keep Kq94 (ninS (Ne.symm hne.2.1) nin0)).other W96 (Or.inl (Ne.symm hne.1))).other W99 (Or.inl (Ne.symm hne.2.1)))
      have N102 := Fr.snoc X102 N99 g_a0
      have K102 : Keep h0 h102 [a0, tt, ss] := K99.wr W102 (Or.inl (List.mem_of_getElem? (i := 0) rfl))
      refine own_by (A' := T102.setTop (mkF m 180 #[.val (.ref a0), .val (.long q1), .second, .val (.double (FP.l2d wt)), .second, .val (.int (2 : Int32))] [])) (fun t kt => st102 t kt) ?_
      obtain ⟨fs, hr, hrun, hended, hW, hsame⟩ := X102.leave (v := none) (fun _ => rfl)
      refine ⟨_, _, ?_, hrun, hended, _, _, rfl, ?_, ⟨_, rfl⟩, hW, hsame.mono (by decide) (by decide)⟩
      · exact X102.returnOut hx Bd.returns (hb hby d9_180) hr
      · show QAd Z a0 tt ss (2 : Int32) t0 t1 t2 w0 w1 w2 q1 wt Us Sm h0 n0 _ T102.heap _
        rw [e102]
        exact ⟨rfl, N102, K102, (3 : Int32), t0, t1, q1, w0, w1, wt, ⟨hne, (((((E_a0.keep Kq90).keep Kq94).wr W96).wr W99).wr W102), (((((Ft.keep Kq90 (ninS (Ne.symm hne.1) nin0)).keep Kq94 (ninS (Ne.symm hne.2.1) nin0)).other W96 (Or.inl (Ne.symm hne.1))).other W99 (Or.inl (Ne.symm hne.2.1))).other W102 (Or.inr (sn15_29 hw))), (((((Fs.keep Kq90 (ninS (Ne.symm hne.1) nin0)).keep Kq94 (ninS (Ne.symm hne.2.1) nin0)).other W96 (Or.inl (Ne.symm hne.1))).other W99 (Or.inl (Ne.symm hne.2.1))).other W102 (Or.inr (sn18_29 hw))), (((((Ff.keep Kq90 (ninS (Ne.symm hne.1) nin0)).keep Kq94 (ninS (Ne.symm hne.2.1) nin0)).other W96 (Or.inl (Ne.symm hne.1))).other W99 (Or.inl (Ne.symm hne.2.1))).other W102 (Or.inr (sn27_29 hw))), F102, (((((FU.keep Kq90 (ninS (Ne.symm hne.1) nin0)).keep Kq94 (ninS (Ne.symm hne.2.1) nin0)).other W96 (Or.inl (Ne.symm hne.1))).other W99 (Or.inl (Ne.symm hne.2.1))).other W102 (Or.inr (sn42_29 hw))), (((((FF.keep Kq90 (ninS (Ne.symm hne.1) nin0)).keep Kq94 (ninS (Ne.symm hne.2.1) nin0)).other W96 (Or.inl (Ne.symm hne.1))).other W99 (Or.inl (Ne.symm hne.2.1))).other W102 (Or.inr (sn31_29 hw))), (((((FG.keep Kq90 (ninS (Ne.symm hne.1) nin0)).keep Kq94 (ninS (Ne.symm hne.2.1) nin0)).other W96 (Or.inl (Ne.symm hne.1))).other W99 (Or.inl (Ne.symm hne.2.1))).other W102 (Or.inr (sn20_29 hw))), (((((FS.keep Kq90 (ninS (Ne.symm hne.1) nin0)).keep Kq94 (ninS (Ne.symm hne.2.1) nin0)).other W96 (Or.inl (Ne.symm hne.1))).other W99 (Or.inl (Ne.symm hne.2.1))).other W102 (Or.inr (sn48_29 hw))), ((V97.other W99 hne.2.2).other W102 hne.1), (V100.other W102 hne.2.1)⟩, own_ai22 hs hFA1 hz hwt hc27_70⟩
theorem rmAdu (l : Launch) (Z : State) (aw : Array Value) (hw : ∀ d ∈ tables_1, d.before aw Z = true) (ws : List Jvm.Cond) (a0 : Addr) (q1 : Int64) (wt : Int64) (tt : Addr) (ss : Addr) (t0 : Int64) (t1 : Int64) (t2 : Int64) (w0 : Int64) (w1 : Int64) (w2 : Int64) (Us : Int64) (Sm : Int64) (n : Int32) (h0 : Heap) (n0 : Nat) (Z0 : n0 ≤ h0.size) (S_ : own_St Z h0 a0 tt ss 0 n t0 t1 t2 w0 w1 w2 Us 0 (-1) Sm) (g_a0 : n0 ≤ a0) (g_tt : n0 ≤ tt) (g_ss : n0 ≤ ss) (hs : own_Srt 0 n t0 t1 t2) (hz : own_Zw n w0 w1 w2) (hn : 0 ≤ n.toInt ∧ n.toInt ≤ 2) (hwt : 0 ≤ w0.toInt ∧ 0 ≤ w1.toInt ∧ 0 ≤ w2.toInt ∧ 0 ≤ wt.toInt ∧ w0.toInt + w1.toInt + w2.toInt + wt.toInt ≤ 7) :
    MetFree l (⟨"com/example/fairshed/fairshed/shedding/SicByTime", "add", "(JD)V"⟩ : MethodName) (head1 (Jvm.Cond.code (⟨"com/example/fairshed/fairshed/shedding/SicByTime", "add", "(JD)V"⟩ : MethodName) prog_124_method_2_code 6 none :: ws) ({ frames := 3, cells := 0, slots := 0, locals := 52 } : Room)) (fun a U => a = #[.ref a0, .long q1, .double (FP.l2d wt)] ∧ Z.Warmed39 U.vm ∧ U.heap = h0) (fun _ _ _ _ _ => True) (fun _ U o U' => ∃ v L, o = .returned v ∧ QAd Z a0 tt ss n t0 t1 t2 w0 w1 w2 q1 wt Us Sm h0 n0 v U'.heap L ∧ FrameEnd U o U' L ({ frames := 3, cells := 0, slots := 0, locals := 52 } : Room).cells ({ frames := 3, cells := 0, slots := 0, locals := 52 } : Room).slots) := by
  rcases own_kk2 hn with rfl | rfl | rfl
  · exact rmAd0 l Z aw hw ws a0 q1 wt tt ss t0 t1 t2 w0 w1 w2 Us Sm h0 n0 Z0 S_ g_a0 g_tt g_ss hs hz hwt
  · exact rmAd1 l Z aw hw ws a0 q1 wt tt ss t0 t1 t2 w0 w1 w2 Us Sm h0 n0 Z0 S_ g_a0 g_tt g_ss hs hz hwt
  · exact rmAd2 l Z aw hw ws a0 q1 wt tt ss t0 t1 t2 w0 w1 w2 Us Sm h0 n0 Z0 S_ g_a0 g_tt g_ss hs hz hwt
theorem own_4 (a : Int32) : (a &&& (3 : Int32)) = 0 ∨ (a &&& (3 : Int32)) = 1 ∨ (a &&& (3 : Int32)) = 2 ∨ (a &&& (3 : Int32)) = 3 := by
  have h := c_mask a 3 2 (by decide) (by decide)
  simp only [← Int32.toInt_inj, Int32.reduceToInt]
  omega
theorem own_sB {w0 w1 w2 : Int64} (i j : Int32) (hW : 0 ≤ w0.toInt ∧ 0 ≤ w1.toInt ∧ 0 ≤ w2.toInt ∧ w0.toInt + w1.toInt + w2.toInt ≤ 7) : own_B (own_S w0 w1 w2 i j) := ⟨(own_Sb i j hW).1, Int.le_trans (own_Sb i j hW).2.1 (by decide)⟩
theorem pd_7 : parseMethodDescriptor "(JJ)J" = some ⟨[.long, .long], some .long⟩ := by decide +kernel
theorem pd_8 : parseMethodDescriptor "()V" = some ⟨[], none⟩ := by decide +kernel
theorem pd_9 : parseMethodDescriptor "(JD)V" = some ⟨[.long, .double], none⟩ := by decide +kernel
theorem pd_10 : parseMethodDescriptor "(J)V" = some ⟨[.long], none⟩ := by decide +kernel
theorem pd_11 : parseMethodDescriptor "(JJ)D" = some ⟨[.long, .long], some .double⟩ := by decide +kernel
theorem pd_12 : parseMethodDescriptor "(IJJJJJ)D" = some ⟨[.int, .long, .long, .long, .long, .long], some .double⟩ := by decide +kernel
theorem ef_rm0 (m : MethodId) (q0 : Int64) (p1 : Int32) (q2 : Int64) (q3 : Int64) (q4 : Int64) (q5 : Int64) : entryFrame m #[(.long q0), (.int p1), (.long q2), (.long q3), (.long q4), (.long q5)] maxLocals = mkF m 0 #[.val (.long q0), .second, .val (.int p1), .val (.long q2), .second, .val (.long q3), .second, .val (.long q4), .second, .val (.long q5), .second, .unset, .unset, .unset, .unset, .unset, .unset, .unset, .unset, .unset, .unset, .unset, .unset, .unset, .unset, .unset, .unset, .unset, .unset, .unset, .unset, .unset, .unset, .unset, .unset, .unset, .unset] [] := by first | (simp [entryFrame, mkF, argsToLocals, Value.category, maxLocals]; done) | rfl
def Q0 (Z : State) (q0 : Int64) (p1 : Int32) (q2 : Int64) (q3 : Int64) (q4 : Int64) (q5 : Int64) (h0 : Heap) (n0 : Nat) (v : Option Value) (h : Heap) (L : List Loc) : Prop := v = some (.int 1) ∧ Fr n0 L
set_option maxRecDepth 65536 in
set_option maxHeartbeats 40000000 in
theorem rm0 (l : Launch) (Z : State) (aw : Array Value) (hw : ∀ d ∈ tables_1, d.before aw Z = true) (ws : List Jvm.Cond) (q0 : Int64) (p1 : Int32) (q2 : Int64) (q3 : Int64) (q4 : Int64) (q5 : Int64) (h0 : Heap) (n0 : Nat) (Z0 : n0 ≤ h0.size) :
    MetFree l x (head1 (Jvm.Cond.code x code maxLocals ret :: ws) room_1) (fun a U => a = #[(.long q0), (.int p1), (.long q2), (.long q3), (.long q4), (.long q5)] ∧ Z.Warmed39 U.vm ∧ U.heap = h0) (fun _ _ _ _ _ => True) (fun _ U o U' => ∃ v L, o = .returned v ∧ Q0 Z q0 p1 q2 q3 q4 q5 h0 n0 v U'.heap L ∧ FrameEnd U o U' L 3 24) := by
  refine MetFree.of_bodySF (plainFor_of_name pn_1) hisR ?_
  intro p e s m args below meth c s₁ Bd hml0 hP hK
  obtain ⟨rfl, hZ, hh⟩ := hP
  have hx := Bd.exec
  have hby := Bd.bytes
  have hml : c.maxLocals = 37 := hml0
  have hown : s.vm.findClass "com/example/fairshed/fairshed/shedding/SicByTimeForgetPinLaw" = some m.cls := findClass_of_methodNamed Bd.named
  have hnm := (name_of_methodNamed Bd.named Bd.method).1
  have X0 : Stand p l e room_1 s m #[(.long q0), (.int p1), (.long q2), (.long q3), (.long q4), (.long q5)] below meth c s₁ [] 0 0 := Stand.of_body Bd
  have e0 : s₁.heap = h0 := by rw [← hh, Bd.state]; rfl
  have N0 := Fr.nil n0
  have K0 : Keep h0 h0 [] := Keep.refl _ _
  refine own_by (A' := s₁.setTop (mkF m 0 #[.val (.long q0), .second, .val (.int p1), .val (.long q2), .second, .val (.long q3), .second, .val (.long q4), .second, .val (.long q5), .second, .unset, .unset, .unset, .unset, .unset, .unset, .unset, .unset, .unset, .unset, .unset, .unset, .unset, .unset, .unset, .unset, .unset, .unset, .unset, .unset, .unset, .unset, .unset, .unset, .unset, .unset] [])) (fun t k => castTop (ef_rm0 m q0 p1 q2 q3 q4 q5) k) ?_
  refine own_by (A' := s₁.setTop (mkF m 40 #[.val (.long q0), .second, .val (.int p1), .val (.long q2), .second, .val (.long q3), .second, .val (.long q4), .second, .val (.long q5), .second, .val (.long (q0 + ((p1 &&& (7 : Int32)).toInt64))), .second, .val (.long (q0 + ((((p1.toUInt32 >>> ((3 : Int32) &&& 31).toUInt32).toInt32) &&& (7 : Int32)).toInt64))), .second, .val (.long (q0 + ((((p1.toUInt32 >>> ((6 : Int32) &&& 31).toUInt32).toInt32) &&& (7 : Int32)).toInt64))), .second, .val (.int (((p1.toUInt32 >>> ((9 : Int32) &&& 31).toUInt32).toInt32) &&& (3 : Int32))), .unset, .unset, .unset, .unset, .unset, .unset, .unset, .unset, .unset, .unset, .unset, .unset, .unset, .unset, .unset, .unset, .unset, .unset, .unset] [])) (fun t kt => ?_) ?_
  · refine XS.lloadN X0.here hx rfl (hb hby at_0) rfl ?_
    refine XS.iloadN X0.here hx rfl (hb hby at_1) rfl ?_
    refine XS.bipush X0.here hx rfl (hb hby at_2) ?_
    refine XS.iand X0.here hx rfl (hb hby at_4) rfl ?_
    refine XS.i2l X0.here hx rfl (hb hby at_5) rfl ?_
    refine XS.ladd X0.here hx rfl (hb hby at_6) rfl ?_
    refine XS.lstore X0.here hx rfl (hb hby at_7) rfl (l' := #[.val (.long q0), .second, .val (.int p1), .val (.long q2), .second, .val (.long q3), .second, .val (.long q4), .second, .val (.long q5), .second, .val (.long (q0 + ((p1 &&& (7 : Int32)).toInt64))), .second, .unset, .unset, .unset, .unset, .unset, .unset, .unset, .unset, .unset, .unset, .unset, .unset, .unset, .unset, .unset, .unset, .unset, .unset, .unset, .unset, .unset, .unset, .unset, .unset]) rfl ?_
    refine XS.lloadN X0.here hx rfl (hb hby at_9) rfl ?_
    refine XS.iloadN X0.here hx rfl (hb hby at_10) rfl ?_
    refine XS.iconst X0.here hx rfl (hb hby at_11) ?_
    refine XS.iushr X0.here hx rfl (hb hby at_12) rfl ?_
    refine XS.bipush X0.here hx rfl (hb hby at_13) ?_
    refine XS.iand X0.here hx rfl (hb hby at_15) rfl ?_
    refine XS.i2l X0.here hx rfl (hb hby at_16) rfl ?_
    refine XS.ladd X0.here hx rfl (hb hby at_17) rfl ?_
    refine XS.lstore X0.here hx rfl (hb hby at_18) rfl (l' := #[.val (.long q0), .second, .val (.int p1), .val (.long q2), .second, .val (.long q3), .second, .val (.long q4), .second, .val (.long q5), .second, .val (.long (q0 + ((p1 &&& (7 : Int32)).toInt64))), .second, .val (.long (q0 + ((((p1.toUInt32 >>> ((3 : Int32) &&& 31).toUInt32).toInt32) &&& (7 : Int32)).toInt64))), .second, .unset, .unset, .unset, .unset, .unset, .unset, .unset, .unset, .unset, .unset, .unset, .unset, .unset, .unset, .unset, .unset, .unset, .unset, .unset, .unset, .unset, .unset]) rfl ?_
    refine XS.lloadN X0.here hx rfl (hb hby at_20) rfl ?_
    refine XS.iloadN X0.here hx rfl (hb hby at_21) rfl ?_
    refine XS.bipush X0.here hx rfl (hb hby at_22) ?_
    refine XS.iushr X0.here hx rfl (hb hby at_24) rfl ?_
    refine XS.bipush X0.here hx rfl (hb hby at_25) ?_
    refine XS.iand X0.here hx rfl (hb hby at_27) rfl ?_
    refine XS.i2l X0.here hx rfl (hb hby at_28) rfl ?_
    refine XS.ladd X0.here hx rfl (hb hby at_29) rfl ?_
    refine XS.lstore X0.here hx rfl (hb hby at_30) rfl (l' := #[.val (.long q0), .second, .val (.int p1), .val (.long q2), .second, .val (.long q3), .second, .val (.long q4), .second, .val (.long q5), .second, .val (.long (q0 + ((p1 &&& (7 : Int32)).toInt64))), .second, .val (.long (q0 + ((((p1.toUInt32 >>> ((3 : Int32) &&& 31).toUInt32).toInt32) &&& (7 : Int32)).toInt64))), .second, .val (.long (q0 + ((((p1.toUInt32 >>> ((6 : Int32) &&& 31).toUInt32).toInt32) &&& (7 : Int32)).toInt64))), .second, .unset, .unset, .unset, .unset, .unset, .unset, .unset, .unset, .unset, .unset, .unset, .unset, .unset, .unset, .unset, .unset, .unset, .unset, .unset, .unset]) rfl ?_
    refine XS.iloadN X0.here hx rfl (hb hby at_32) rfl ?_
    refine XS.bipush X0.here hx rfl (hb hby at_33) ?_
    refine XS.iushr X0.here hx rfl (hb hby at_35) rfl ?_
    refine XS.iconst X0.here hx rfl (hb hby at_36) ?_
    refine XS.iand X0.here hx rfl (hb hby at_37) rfl ?_
    refine XS.istore X0.here hx rfl (hb hby at_38) rfl (l' := #[.val (.long q0), .second, .val (.int p1), .val (.long q2), .second, .val (.long q3), .second, .val (.long q4), .second, .val (.long q5), .second, .val (.long (q0 + ((p1 &&& (7 : Int32)).toInt64))), .second, .val (.long (q0 + ((((p1.toUInt32 >>> ((3 : Int32) &&& 31).toUInt32).toInt32) &&& (7 : Int32)).toInt64))), .second, .val (.long (q0 + ((((p1.toUInt32 >>> ((6 : Int32) &&& 31).toUInt32).toInt32) &&& (7 : Int32)).toInt64))), .second, .val (.int (((p1.toUInt32 >>> ((9 : Int32) &&& 31).toUInt32).toInt32) &&& (3 : Int32))), .unset, .unset, .unset, .unset, .unset, .unset, .unset, .unset, .unset, .unset, .unset, .unset, .unset, .unset, .unset, .unset, .unset, .unset, .unset]) rfl ?_
    exact kt
  generalize h_x0 : (q0 + ((p1 &&& (7 : Int32)).toInt64)) = x0
  generalize h_x1 : (q0 + ((((p1.toUInt32 >>> ((3 : Int32) &&& 31).toUInt32).toInt32) &&& (7 : Int32)).toInt64)) = x1
  generalize h_x2 : (q0 + ((((p1.toUInt32 >>> ((6 : Int32) &&& 31).toUInt32).toInt32) &&& (7 : Int32)).toInt64)) = x2
  generalize h_cc : (((p1.toUInt32 >>> ((9 : Int32) &&& 31).toUInt32).toInt32) &&& (3 : Int32)) = cc
  have hcc : cc = 0 ∨ cc = 1 ∨ cc = 2 ∨ cc = 3 := by rw [← h_cc]; exact own_4 _
  have hc3 : cc.toInt ≤ 3 := by rcases hcc with q | q | q | q <;> rw [q] <;> decide
  refine own_by (A' := s₁.setTop (mkF m 46 #[.val (.long q0), .second, .val (.int p1), .val (.long q2), .second, .val (.long q3), .second, .val (.long q4), .second, .val (.long q5), .second, .val (.long x0), .second, .val (.long x1), .second, .val (.long x2), .second, .val (.int cc), .unset, .unset, .unset, .unset, .unset, .unset, .unset, .unset, .unset, .unset, .unset, .unset, .unset, .unset, .unset, .unset, .unset, .unset, .unset] [(.int (((p1.toUInt32 >>> ((11 : Int32) &&& 31).toUInt32).toInt32) &&& (1 : Int32)))])) (fun t kt => ?_) ?_
  · refine XS.iloadN X0.here hx rfl (hb hby at_40) rfl ?_
    refine XS.bipush X0.here hx rfl (hb hby at_41) ?_
    refine XS.iushr X0.here hx rfl (hb hby at_43) rfl ?_
    refine XS.iconst X0.here hx rfl (hb hby at_44) ?_
    refine XS.iand X0.here hx rfl (hb hby at_45) rfl ?_
    exact kt
  refine own_by (A' := s₁.setTop (mkF m 64 #[.val (.long q0), .second, .val (.int p1), .val (.long q2), .second, .val (.long q3), .second, .val (.long q4), .second, .val (.long q5), .second, .val (.long x0), .second, .val (.long x1), .second, .val (.long x2), .second, .val (.int cc), .unset, .unset, .unset, .unset, .unset, .unset, .unset, .unset, .unset, .unset, .unset, .unset, .unset, .unset, .unset, .unset, .unset, .unset, .unset] [(.long (if (((p1.toUInt32 >>> ((11 : Int32) &&& 31).toUInt32).toInt32) &&& (1 : Int32)) = (0 : Int32) then q2 else (q0 + ((q2 &&& (15 : Int64)) - (4 : Int64)))))])) (fun t kt => ?_) ?_
  · show Steps p.tables e below (s₁.setTop (mkF m 46 #[.val (.long q0), .second, .val (.int p1), .val (.long q2), .second, .val (.long q3), .second, .val (.long q4), .second, .val (.long q5), .second, .val (.long x0), .second, .val (.long x1), .second, .val (.long x2), .second, .val (.int cc), .unset, .unset, .unset, .unset, .unset, .unset, .unset, .unset, .unset, .unset, .unset, .unset, .unset, .unset, .unset, .unset, .unset, .unset, .unset] [(.int (((p1.toUInt32 >>> ((11 : Int32) &&& 31).toUInt32).toInt32) &&& (1 : Int32)))])) t
    by_cases hj46_1 : (((p1.toUInt32 >>> ((11 : Int32) &&& 31).toUInt32).toInt32) &&& (1 : Int32)) = (0 : Int32)
    · rw [if_pos hj46_1] at kt
      refine XS.ifYes X0.here hx rfl (pc0 := 46) (pc' := 63) rfl (hb hby at_46) rfl ((if0 _ _).trans (teq hj46_1).1) (by decide) (by decide) ?_
      refine XS.lloadN X0.here hx rfl (hb hby at_63) rfl ?_
      exact kt
    · rw [if_neg hj46_1] at kt
      refine XS.ifNo X0.here hx rfl (hb hby at_46) rfl ((if0 _ _).trans (feq hj46_1).1) ?_
      refine XS.lloadN X0.here hx rfl (hb hby at_49) rfl ?_
      refine XS.lloadN X0.here hx rfl (hb hby at_50) rfl ?_
      refine X0.ldc2Long hx hown (mvT hZ (wd53 hw)) (g := (mkF m 51 #[.val (.long q0), .second, .val (.int p1), .val (.long q2), .second, .val (.long q3), .second, .val (.long q4), .second, .val (.long q5), .second, .val (.long x0), .second, .val (.long x1), .second, .val (.long x2), .second, .val (.int cc), .unset, .unset, .unset, .unset, .unset, .unset, .unset, .unset, .unset, .unset, .unset, .unset, .unset, .unset, .unset, .unset, .unset, .unset, .unset] [(.long q2), (.long q0)])) rfl (hb hby at_51) _ ?_
      refine XS.land X0.here hx rfl (hb hby at_54) rfl ?_
      refine X0.ldc2Long hx hown (mvT hZ (wd54 hw)) (g := (mkF m 55 #[.val (.long q0), .second, .val (.int p1), .val (.long q2), .second, .val (.long q3), .second, .val (.long q4), .second, .val (.long q5), .second, .val (.long x0), .second, .val (.long x1), .second, .val (.long x2), .second, .val (.int cc), .unset, .unset, .unset, .unset, .unset, .unset, .unset, .unset, .unset, .unset, .unset, .unset, .unset, .unset, .unset, .unset, .unset, .unset, .unset] [(.long (q2 &&& (15 : Int64))), (.long q0)])) rfl (hb hby at_55) _ ?_
      refine XS.lsub X0.here hx rfl (hb hby at_58) rfl ?_
      refine XS.ladd X0.here hx rfl (hb hby at_59) rfl ?_
      refine XS.goto X0.here hx rfl (pc0 := 60) (pc' := 64) rfl (hb hby at_60) (by decide) (by decide) ?_
      exact kt
  refine own_by (A' := s₁.setTop (mkF m 66 #[.val (.long q0), .second, .val (.int p1), .val (.long q2), .second, .val (.long q3), .second, .val (.long q4), .second, .val (.long q5), .second, .val (.long x0), .second, .val (.long x1), .second, .val (.long x2), .second, .val (.int cc), .val (.long (if (((p1.toUInt32 >>> ((11 : Int32) &&& 31).toUInt32).toInt32) &&& (1 : Int32)) = (0 : Int32) then q2 else (q0 + ((q2 &&& (15 : Int64)) - (4 : Int64))))), .second, .unset, .unset, .unset, .unset, .unset, .unset, .unset, .unset, .unset, .unset, .unset, .unset, .unset, .unset, .unset, .unset, .unset] [])) (fun t kt => ?_) ?_
  · refine XS.lstore X0.here hx rfl (hb hby at_64) rfl (l' := #[.val (.long q0), .second, .val (.int p1), .val (.long q2), .second, .val (.long q3), .second, .val (.long q4), .second, .val (.long q5), .second, .val (.long x0), .second, .val (.long x1), .second, .val (.long x2), .second, .val (.int cc), .val (.long (if (((p1.toUInt32 >>> ((11 : Int32) &&& 31).toUInt32).toInt32) &&& (1 : Int32)) = (0 : Int32) then q2 else (q0 + ((q2 &&& (15 : Int64)) - (4 : Int64))))), .second, .unset, .unset, .unset, .unset, .unset, .unset, .unset, .unset, .unset, .unset, .unset, .unset, .unset, .unset, .unset, .unset, .unset]) rfl ?_
    exact kt
  generalize h_uu : (if (((p1.toUInt32 >>> ((11 : Int32) &&& 31).toUInt32).toInt32) &&& (1 : Int32)) = (0 : Int32) then q2 else (q0 + ((q2 &&& (15 : Int64)) - (4 : Int64)))) = uu
  refine own_by (A' := s₁.setTop (mkF m 72 #[.val (.long q0), .second, .val (.int p1), .val (.long q2), .second, .val (.long q3), .second, .val (.long q4), .second, .val (.long q5), .second, .val (.long x0), .second, .val (.long x1), .second, .val (.long x2), .second, .val (.int cc), .val (.long uu), .second, .unset, .unset, .unset, .unset, .unset, .unset, .unset, .unset, .unset, .unset, .unset, .unset, .unset, .unset, .unset, .unset, .unset] [(.int (((p1.toUInt32 >>> ((12 : Int32) &&& 31).toUInt32).toInt32) &&& (1 : Int32)))])) (fun t kt => ?_) ?_
  · refine XS.iloadN X0.here hx rfl (hb hby at_66) rfl ?_
    refine XS.bipush X0.here hx rfl (hb hby at_67) ?_
    refine XS.iushr X0.here hx rfl (hb hby at_69) rfl ?_
    refine XS.iconst X0.here hx rfl (hb hby at_70) ?_
    refine XS.iand X0.here hx rfl (hb hby at_71) rfl ?_
    exact kt
  refine own_by (A' := s₁.setTop (mkF m 92 #[.val (.long q0), .second, .val (.int p1), .val (.long q2), .second, .val (.long q3), .second, .val (.long q4), .second, .val (.long q5), .second, .val (.long x0), .second, .val (.long x1), .second, .val (.long x2), .second, .val (.int cc), .val (.long uu), .second, .unset, .unset, .unset, .unset, .unset, .unset, .unset, .unset, .unset, .unset, .unset, .unset, .unset, .unset, .unset, .unset, .unset] [(.long (if (((p1.toUInt32 >>> ((12 : Int32) &&& 31).toUInt32).toInt32) &&& (1 : Int32)) = (0 : Int32) then q3 else (q0 + ((q3 &&& (15 : Int64)) - (4 : Int64)))))])) (fun t kt => ?_) ?_
  · show Steps p.tables e below (s₁.setTop (mkF m 72 #[.val (.long q0), .second, .val (.int p1), .val (.long q2), .second, .val (.long q3), .second, .val (.long q4), .second, .val (.long q5), .second, .val (.long x0), .second, .val (.long x1), .second, .val (.long x2), .second, .val (.int cc), .val (.long uu), .second, .unset, .unset, .unset, .unset, .unset, .unset, .unset, .unset, .unset, .unset, .unset, .unset, .unset, .unset, .unset, .unset, .unset] [(.int (((p1.toUInt32 >>> ((12 : Int32) &&& 31).toUInt32).toInt32) &&& (1 : Int32)))])) t
    by_cases hj72_2 : (((p1.toUInt32 >>> ((12 : Int32) &&& 31).toUInt32).toInt32) &&& (1 : Int32)) = (0 : Int32)
    · rw [if_pos hj72_2] at kt
      refine XS.ifYes X0.here hx rfl (pc0 := 72) (pc' := 90) rfl (hb hby at_72) rfl ((if0 _ _).trans (teq hj72_2).1) (by decide) (by decide) ?_
      refine XS.lload X0.here hx rfl (hb hby at_90) rfl ?_
      exact kt
    · rw [if_neg hj72_2] at kt
      refine XS.ifNo X0.here hx rfl (hb hby at_72) rfl ((if0 _ _).trans (feq hj72_2).1) ?_
      refine XS.lloadN X0.here hx rfl (hb hby at_75) rfl ?_
      refine XS.lload X0.here hx rfl (hb hby at_76) rfl ?_
      refine X0.ldc2Long hx hown (mvT hZ (wd53 hw)) (g := (mkF m 78 #[.val (.long q0), .second, .val (.int p1), .val (.long q2), .second, .val (.long q3), .second, .val (.long q4), .second, .val (.long q5), .second, .val (.long x0), .second, .val (.long x1), .second, .val (.long x2), .second, .val (.int cc), .val (.long uu), .second, .unset, .unset, .unset, .unset, .unset, .unset, .unset, .unset, .unset, .unset, .unset, .unset, .unset, .unset, .unset, .unset, .unset] [(.long q3), (.long q0)])) rfl (hb hby at_78) _ ?_
      refine XS.land X0.here hx rfl (hb hby at_81) rfl ?_
      refine X0.ldc2Long hx hown (mvT hZ (wd54 hw)) (g := (mkF m 82 #[.val (.long q0), .second, .val (.int p1), .val (.long q2), .second, .val (.long q3), .second, .val (.long q4), .second, .val (.long q5), .second, .val (.long x0), .second, .val (.long x1), .second, .val (.long x2), .second, .val (.int cc), .val (.long uu), .second, .unset, .unset, .unset, .unset, .unset, .unset, .unset, .unset, .unset, .unset, .unset, .unset, .unset, .unset, .unset, .unset, .unset] [(.long (q3 &&& (15 : Int64))), (.long q0)])) rfl (hb hby at_82) _ ?_
      refine XS.lsub X0.here hx rfl (hb hby at_85) rfl ?_
      refine XS.ladd X0.here hx rfl (hb hby at_86) rfl ?_
      refine XS.goto X0.here hx rfl (pc0 := 87) (pc' := 92) rfl (hb hby at_87) (by decide) (by decide) ?_
      exact kt
  refine own_by (A' := s₁.setTop (mkF m 94 #[.val (.long q0), .second, .val (.int p1), .val (.long q2), .second, .val (.long q3), .second, .val (.long q4), .second, .val (.long q5), .second, .val (.long x0), .second, .val (.long x1), .second, .val (.long x2), .second, .val (.int cc), .val (.long uu), .second, .val (.long (if (((p1.toUInt32 >>> ((12 : Int32) &&& 31).toUInt32).toInt32) &&& (1 : Int32)) = (0 : Int32) then q3 else (q0 + ((q3 &&& (15 : Int64)) - (4 : Int64))))), .second, .unset, .unset, .unset, .unset, .unset, .unset, .unset, .unset, .unset, .unset, .unset, .unset, .unset, .unset, .unset] [])) (fun t kt => ?_) ?_
  · refine XS.lstore X0.here hx rfl (hb hby at_92) rfl (l' := #[.val (.long q0), .second, .val (.int p1), .val (.long q2), .second, .val (.long q3), .second, .val (.long q4), .second, .val (.long q5), .second, .val (.long x0), .second, .val (.long x1), .second, .val (.long x2), .second, .val (.int cc), .val (.long uu), .second, .val (.long (if (((p1.toUInt32 >>> ((12 : Int32) &&& 31).toUInt32).toInt32) &&& (1 : Int32)) = (0 : Int32) then q3 else (q0 + ((q3 &&& (15 : Int64)) - (4 : Int64))))), .second, .unset, .unset, .unset, .unset, .unset, .unset, .unset, .unset, .unset, .unset, .unset, .unset, .unset, .unset, .unset]) rfl ?_
    exact kt
  generalize h_ff : (if (((p1.toUInt32 >>> ((12 : Int32) &&& 31).toUInt32).toInt32) &&& (1 : Int32)) = (0 : Int32) then q3 else (q0 + ((q3 &&& (15 : Int64)) - (4 : Int64)))) = ff
  refine own_by (A' := s₁.setTop (mkF m 100 #[.val (.long q0), .second, .val (.int p1), .val (.long q2), .second, .val (.long q3), .second, .val (.long q4), .second, .val (.long q5), .second, .val (.long x0), .second, .val (.long x1), .second, .val (.long x2), .second, .val (.int cc), .val (.long uu), .second, .val (.long ff), .second, .unset, .unset, .unset, .unset, .unset, .unset, .unset, .unset, .unset, .unset, .unset, .unset, .unset, .unset, .unset] [(.int (((p1.toUInt32 >>> ((13 : Int32) &&& 31).toUInt32).toInt32) &&& (1 : Int32)))])) (fun t kt => ?_) ?_
  · refine XS.iloadN X0.here hx rfl (hb hby at_94) rfl ?_
    refine XS.bipush X0.here hx rfl (hb hby at_95) ?_
    refine XS.iushr X0.here hx rfl (hb hby at_97) rfl ?_
    refine XS.iconst X0.here hx rfl (hb hby at_98) ?_
    refine XS.iand X0.here hx rfl (hb hby at_99) rfl ?_
    exact kt
  refine own_by (A' := s₁.setTop (mkF m 120 #[.val (.long q0), .second, .val (.int p1), .val (.long q2), .second, .val (.long q3), .second, .val (.long q4), .second, .val (.long q5), .second, .val (.long x0), .second, .val (.long x1), .second, .val (.long x2), .second, .val (.int cc), .val (.long uu), .second, .val (.long ff), .second, .unset, .unset, .unset, .unset, .unset, .unset, .unset, .unset, .unset, .unset, .unset, .unset, .unset, .unset, .unset] [(.long (if (((p1.toUInt32 >>> ((13 : Int32) &&& 31).toUInt32).toInt32) &&& (1 : Int32)) = (0 : Int32) then q4 else (q0 + ((q4 &&& (15 : Int64)) - (4 : Int64)))))])) (fun t kt => ?_) ?_
  · show Steps p.tables e below (s₁.setTop (mkF m 100 #[.val (.long q0), .second, .val (.int p1), .val (.long q2), .second, .val (.long q3), .second, .val (.long q4), .second, .val (.long q5), .second, .val (.long x0), .second, .val (.long x1), .second, .val (.long x2), .second, .val (.int cc), .val (.long uu), .second, .val (.long ff), .second, .unset, .unset, .unset, .unset, .unset, .unset, .unset, .unset, .unset, .unset, .unset, .unset, .unset, .unset, .unset] [(.int (((p1.toUInt32 >>> ((13 : Int32) &&& 31).toUInt32).toInt32) &&& (1 : Int32)))])) t
    by_cases hj100_3 : (((p1.toUInt32 >>> ((13 : Int32) &&& 31).toUInt32).toInt32) &&& (1 : Int32)) = (0 : Int32)
    · rw [if_pos hj100_3] at kt
      refine XS.ifYes X0.here hx rfl (pc0 := 100) (pc' := 118) rfl (hb hby at_100) rfl ((if0 _ _).trans (teq hj100_3).1) (by decide) (by decide) ?_
      refine XS.lload X0.here hx rfl (hb hby at_118) rfl ?_
      exact kt
    · rw [if_neg hj100_3] at kt
      refine XS.ifNo X0.here hx rfl (hb hby at_100) rfl ((if0 _ _).trans (feq hj100_3).1) ?_
      refine XS.lloadN X0.here hx rfl (hb hby at_103) rfl ?_
      refine XS.lload X0.here hx rfl (hb hby at_104) rfl ?_
      refine X0.ldc2Long hx hown (mvT hZ (wd53 hw)) (g := (mkF m 106 #[.val (.long q0), .second, .val (.int p1), .val (.long q2), .second, .val (.long q3), .second, .val (.long q4), .second, .val (.long q5), .second, .val (.long x0), .second, .val (.long x1), .second, .val (.long x2), .second, .val (.int cc), .val (.long uu), .second, .val (.long ff), .second, .unset, .unset, .unset, .unset, .unset, .unset, .unset, .unset, .unset, .unset, .unset, .unset, .unset, .unset, .unset] [(.long q4), (.long q0)])) rfl (hb hby at_106) _ ?_
      refine XS.land X0.here hx rfl (hb hby at_109) rfl ?_
      refine X0.ldc2Long hx hown (mvT hZ (wd54 hw)) (g := (mkF m 110 #[.val (.long q0), .second, .val (.int p1), .val (.long q2), .second, .val (.long q3), .second, .val (.long q4), .second, .val (.long q5), .second, .val (.long x0), .second, .val (.long x1), .second, .val (.long x2), .second, .val (.int cc), .val (.long uu), .second, .val (.long ff), .second, .unset, .unset, .unset, .unset, .unset, .unset, .unset, .unset, .unset, .unset, .unset, .unset, .unset, .unset, .unset] [(.long (q4 &&& (15 : Int64))), (.long q0)])) rfl (hb hby at_110) _ ?_
      refine XS.lsub X0.here hx rfl (hb hby at_113) rfl ?_
      refine XS.ladd X0.here hx rfl (hb hby at_114) rfl ?_
      refine XS.goto X0.here hx rfl (pc0 := 115) (pc' := 120) rfl (hb hby at_115) (by decide) (by decide) ?_
      exact kt
  refine own_by (A' := s₁.setTop (mkF m 122 #[.val (.long q0), .second, .val (.int p1), .val (.long q2), .second, .val (.long q3), .second, .val (.long q4), .second, .val (.long q5), .second, .val (.long x0), .second, .val (.long x1), .second, .val (.long x2), .second, .val (.int cc), .val (.long uu), .second, .val (.long ff), .second, .val (.long (if (((p1.toUInt32 >>> ((13 : Int32) &&& 31).toUInt32).toInt32) &&& (1 : Int32)) = (0 : Int32) then q4 else (q0 + ((q4 &&& (15 : Int64)) - (4 : Int64))))), .second, .unset, .unset, .unset, .unset, .unset, .unset, .unset, .unset, .unset, .unset, .unset, .unset, .unset] [])) (fun t kt => ?_) ?_
  · refine XS.lstore X0.here hx rfl (hb hby at_120) rfl (l' := #[.val (.long q0), .second, .val (.int p1), .val (.long q2), .second, .val (.long q3), .second, .val (.long q4), .second, .val (.long q5), .second, .val (.long x0), .second, .val (.long x1), .second, .val (.long x2), .second, .val (.int cc), .val (.long uu), .second, .val (.long ff), .second, .val (.long (if (((p1.toUInt32 >>> ((13 : Int32) &&& 31).toUInt32).toInt32) &&& (1 : Int32)) = (0 : Int32) then q4 else (q0 + ((q4 &&& (15 : Int64)) - (4 : Int64))))), .second, .unset, .unset, .unset, .unset, .unset, .unset, .unset, .unset, .unset, .unset, .unset, .unset, .unset]) rfl ?_
    exact kt
  generalize h_aa : (if (((p1.toUInt32 >>> ((13 : Int32) &&& 31).toUInt32).toInt32) &&& (1 : Int32)) = (0 : Int32) then q4 else (q0 + ((q4 &&& (15 : Int64)) - (4 : Int64)))) = aa
  refine own_by (A' := s₁.setTop (mkF m 128 #[.val (.long q0), .second, .val (.int p1), .val (.long q2), .second, .val (.long q3), .second, .val (.long q4), .second, .val (.long q5), .second, .val (.long x0), .second, .val (.long x1), .second, .val (.long x2), .second, .val (.int cc), .val (.long uu), .second, .val (.long ff), .second, .val (.long aa), .second, .unset, .unset, .unset, .unset, .unset, .unset, .unset, .unset, .unset, .unset, .unset, .unset, .unset] [(.int (((p1.toUInt32 >>> ((14 : Int32) &&& 31).toUInt32).toInt32) &&& (1 : Int32)))])) (fun t kt => ?_) ?_
  · refine XS.iloadN X0.here hx rfl (hb hby at_122) rfl ?_
    refine XS.bipush X0.here hx rfl (hb hby at_123) ?_
    refine XS.iushr X0.here hx rfl (hb hby at_125) rfl ?_
    refine XS.iconst X0.here hx rfl (hb hby at_126) ?_
    refine XS.iand X0.here hx rfl (hb hby at_127) rfl ?_
    exact kt
  refine own_by (A' := s₁.setTop (mkF m 148 #[.val (.long q0), .second, .val (.int p1), .val (.long q2), .second, .val (.long q3), .second, .val (.long q4), .second, .val (.long q5), .second, .val (.long x0), .second, .val (.long x1), .second, .val (.long x2), .second, .val (.int cc), .val (.long uu), .second, .val (.long ff), .second, .val (.long aa), .second, .unset, .unset, .unset, .unset, .unset, .unset, .unset, .unset, .unset, .unset, .unset, .unset, .unset] [(.long (if (((p1.toUInt32 >>> ((14 : Int32) &&& 31).toUInt32).toInt32) &&& (1 : Int32)) = (0 : Int32) then q5 else (q0 + ((q5 &&& (15 : Int64)) - (4 : Int64)))))])) (fun t kt => ?_) ?_
  · show Steps p.tables e below (s₁.setTop (mkF m 128 #[.val (.long q0), .second, .val (.int p1), .val (.long q2), .second, .val (.long q3), .second, .val (.long q4), .second, .val (.long q5), .second, .val (.long x0), .second, .val (.long x1), .second, .val (.long x2), .second, .val (.int cc), .val (.long uu), .second, .val (.long ff), .second, .val (.long aa), .second, .unset, .unset, .unset, .unset, .unset, .unset, .unset, .unset, .unset, .unset, .unset, .unset, .unset] [(.int (((p1.toUInt32 >>> ((14 : Int32) &&& 31).toUInt32).toInt32) &&& (1 : Int32)))])) t
    by_cases hj128_4 : (((p1.toUInt32 >>> ((14 : Int32) &&& 31).toUInt32).toInt32) &&& (1 : Int32)) = (0 : Int32)
    · rw [if_pos hj128_4] at kt
      refine XS.ifYes X0.here hx rfl (pc0 := 128) (pc' := 146) rfl (hb hby at_128) rfl ((if0 _ _).trans (teq hj128_4).1) (by decide) (by decide) ?_
      refine XS.lload X0.here hx rfl (hb hby at_146) rfl ?_
      exact kt
    · rw [if_neg hj128_4] at kt
      refine XS.ifNo X0.here hx rfl (hb hby at_128) rfl ((if0 _ _).trans (feq hj128_4).1) ?_
      refine XS.lloadN X0.here hx rfl (hb hby at_131) rfl ?_
      refine XS.lload X0.here hx rfl (hb hby at_132) rfl ?_
      refine X0.ldc2Long hx hown (mvT hZ (wd53 hw)) (g := (mkF m 134 #[.val (.long q0), .second, .val (.int p1), .val (.long q2), .second, .val (.long q3), .second, .val (.long q4), .second, .val (.long q5), .second, .val (.long x0), .second, .val (.long x1), .second, .val (.long x2), .second, .val (.int cc), .val (.long uu), .second, .val (.long ff), .second, .val (.long aa), .second, .unset, .unset, .unset, .unset, .unset, .unset, .unset, .unset, .unset, .unset, .unset, .unset, .unset] [(.long q5), (.long q0)])) rfl (hb hby at_134) _ ?_
      refine XS.land X0.here hx rfl (hb hby at_137) rfl ?_
      refine X0.ldc2Long hx hown (mvT hZ (wd54 hw)) (g := (mkF m 138 #[.val (.long q0), .second, .val (.int p1), .val (.long q2), .second, .val (.long q3), .second, .val (.long q4), .second, .val (.long q5), .second, .val (.long x0), .second, .val (.long x1), .second, .val (.long x2), .second, .val (.int cc), .val (.long uu), .second, .val (.long ff), .second, .val (.long aa), .second, .unset, .unset, .unset, .unset, .unset, .unset, .unset, .unset, .unset, .unset, .unset, .unset, .unset] [(.long (q5 &&& (15 : Int64))), (.long q0)])) rfl (hb hby at_138) _ ?_
      refine XS.lsub X0.here hx rfl (hb hby at_141) rfl ?_
      refine XS.ladd X0.here hx rfl (hb hby at_142) rfl ?_
      refine XS.goto X0.here hx rfl (pc0 := 143) (pc' := 148) rfl (hb hby at_143) (by decide) (by decide) ?_
      exact kt
  refine own_by (A' := s₁.setTop (mkF m 150 #[.val (.long q0), .second, .val (.int p1), .val (.long q2), .second, .val (.long q3), .second, .val (.long q4), .second, .val (.long q5), .second, .val (.long x0), .second, .val (.long x1), .second, .val (.long x2), .second, .val (.int cc), .val (.long uu), .second, .val (.long ff), .second, .val (.long aa), .second, .val (.long (if (((p1.toUInt32 >>> ((14 : Int32) &&& 31).toUInt32).toInt32) &&& (1 : Int32)) = (0 : Int32) then q5 else (q0 + ((q5 &&& (15 : Int64)) - (4 : Int64))))), .second, .unset, .unset, .unset, .unset, .unset, .unset, .unset, .unset, .unset, .unset, .unset] [])) (fun t kt => ?_) ?_
  · refine XS.lstore X0.here hx rfl (hb hby at_148) rfl (l' := #[.val (.long q0), .second, .val (.int p1), .val (.long q2), .second, .val (.long q3), .second, .val (.long q4), .second, .val (.long q5), .second, .val (.long x0), .second, .val (.long x1), .second, .val (.long x2), .second, .val (.int cc), .val (.long uu), .second, .val (.long ff), .second, .val (.long aa), .second, .val (.long (if (((p1.toUInt32 >>> ((14 : Int32) &&& 31).toUInt32).toInt32) &&& (1 : Int32)) = (0 : Int32) then q5 else (q0 + ((q5 &&& (15 : Int64)) - (4 : Int64))))), .second, .unset, .unset, .unset, .unset, .unset, .unset, .unset, .unset, .unset, .unset, .unset]) rfl ?_
    exact kt
  generalize h_bb : (if (((p1.toUInt32 >>> ((14 : Int32) &&& 31).toUInt32).toInt32) &&& (1 : Int32)) = (0 : Int32) then q5 else (q0 + ((q5 &&& (15 : Int64)) - (4 : Int64)))) = bb
  refine own_by (A' := s₁.setTop (mkF m 154 #[.val (.long q0), .second, .val (.int p1), .val (.long q2), .second, .val (.long q3), .second, .val (.long q4), .second, .val (.long q5), .second, .val (.long x0), .second, .val (.long x1), .second, .val (.long x2), .second, .val (.int cc), .val (.long uu), .second, .val (.long ff), .second, .val (.long aa), .second, .val (.long bb), .second, .unset, .unset, .unset, .unset, .unset, .unset, .unset, .unset, .unset, .unset, .unset] [(.long aa), (.long ff)])) (fun t kt => ?_) ?_
  · refine XS.lload X0.here hx rfl (hb hby at_150) rfl ?_
    refine XS.lload X0.here hx rfl (hb hby at_152) rfl ?_
    exact kt
  obtain ⟨_, _, ⟨T5, L5, k5, n5⟩, -, X5, ⟨Lc5, hQ5, l5, y5, z5⟩, st5⟩ := Jvm.LawKit.callS X0 hx (y := (⟨"java/lang/Math", "max", "(JJ)J"⟩ : MethodName)) hown (mvT hZ (wd0 hw)) (mvT hZ (wd1 hw)) (mvT hZ (wd2 hw)) (mvT hZ (wd3 hw)) (by decide) (backOf (W := 0) (rm1 l Z aw hw [] ff aa h0 n0 (Nat.le_trans Z0 K0.1) ) hZ (wd3 hw) (wd2 hw) (by decide) (by decide)) (g := (mkF m 154 #[.val (.long q0), .second, .val (.int p1), .val (.long q2), .second, .val (.long q3), .second, .val (.long q4), .second, .val (.long q5), .second, .val (.long x0), .second, .val (.long x1), .second, .val (.long x2), .second, .val (.int cc), .val (.long uu), .second, .val (.long ff), .second, .val (.long aa), .second, .val (.long bb), .second, .unset, .unset, .unset, .unset, .unset, .unset, .unset, .unset, .unset, .unset, .unset] [(.long aa), (.long ff)])) rfl (by rw [hml]; rfl) (argsL := [(.long ff), (.long aa)]) (rest := []) (lenOf pd_7 rfl) rfl (by show 2 * 0 + _ ≤ _; exact Nat.le_of_eq rfl) (hb hby at_154) (fun _ _ => ⟨rfl, e0, (by decide : 0 + 0 ≤ _), (by decide : 0 + 0 ≤ _)⟩)
  dsimp only [Pt.U, Pt.locs, Pt.cells, Pt.slots] at X5 l5 y5 z5 st5 hQ5
  subst l5 y5 z5
  obtain ⟨rfl, N5q, e5⟩ := hQ5
  have N5 := Fr.app N0 N5q
  refine own_by (A' := T5.setTop (mkF m 163 #[.val (.long q0), .second, .val (.int p1), .val (.long q2), .second, .val (.long q3), .second, .val (.long q4), .second, .val (.long q5), .second, .val (.long x0), .second, .val (.long x1), .second, .val (.long x2), .second, .val (.int cc), .val (.long uu), .second, .val (.long ff), .second, .val (.long aa), .second, .val (.long bb), .second, .val (.long (own_f1 ff aa)), .second, .unset, .unset, .unset, .unset, .unset, .unset, .unset, .unset, .unset] [(.long bb), (.long ff)])) (fun t kt => ?_) ?_
  · refine st5 t ?_
    refine XS.lstore X5.here hx rfl (hb hby at_157) rfl (l' := #[.val (.long q0), .second, .val (.int p1), .val (.long q2), .second, .val (.long q3), .second, .val (.long q4), .second, .val (.long q5), .second, .val (.long x0), .second, .val (.long x1), .second, .val (.long x2), .second, .val (.int cc), .val (.long uu), .second, .val (.long ff), .second, .val (.long aa), .second, .val (.long bb), .second, .val (.long (own_f1 ff aa)), .second, .unset, .unset, .unset, .unset, .unset, .unset, .unset, .unset, .unset]) rfl ?_
    refine XS.lload X5.here hx rfl (hb hby at_159) rfl ?_
    refine XS.lload X5.here hx rfl (hb hby at_161) rfl ?_
    exact kt
  obtain ⟨_, _, ⟨T6, L6, k6, n6⟩, -, X6, ⟨Lc6, hQ6, l6, y6, z6⟩, st6⟩ := Jvm.LawKit.callS X5 hx (y := (⟨"java/lang/Math", "max", "(JJ)J"⟩ : MethodName)) hown (mvT hZ (wd0 hw)) (mvT hZ (wd1 hw)) (mvT hZ (wd2 hw)) (mvT hZ (wd3 hw)) (by decide) (backOf (W := 0) (rm1 l Z aw hw [] ff bb h0 n0 (Nat.le_trans Z0 K0.1) ) hZ (wd3 hw) (wd2 hw) (by decide) (by decide)) (g := (mkF m 163 #[.val (.long q0), .second, .val (.int p1), .val (.long q2), .second, .val (.long q3), .second, .val (.long q4), .second, .val (.long q5), .second, .val (.long x0), .second, .val (.long x1), .second, .val (.long x2), .second, .val (.int cc), .val (.long uu), .second, .val (.long ff), .second, .val (.long aa), .second, .val (.long bb), .second, .val (.long (own_f1 ff aa)), .second, .unset, .unset, .unset, .unset, .unset, .unset, .unset, .unset, .unset] [(.long bb), (.long ff)])) rfl (by rw [hml]; rfl) (argsL := [(.long ff), (.long bb)]) (rest := []) (lenOf pd_7 rfl) rfl (by show 2 * 0 + _ ≤ _; exact Nat.le_of_eq rfl) (hb hby at_163) (fun _ _ => ⟨rfl, e5, (by decide : 0 + 0 ≤ _), (by decide : 0 + 0 ≤ _)⟩)
  dsimp only [Pt.U, Pt.locs, Pt.cells, Pt.slots] at X6 l6 y6 z6 st6 hQ6
  subst l6 y6 z6
  obtain ⟨rfl, N6q, e6⟩ := hQ6
  have N6 := Fr.app N5 N6q
  refine own_by (A' := T6.setTop (mkF m 174 #[.val (.long q0), .second, .val (.int p1), .val (.long q2), .second, .val (.long q3), .second, .val (.long q4), .second, .val (.long q5), .second, .val (.long x0), .second, .val (.long x1), .second, .val (.long x2), .second, .val (.int cc), .val (.long uu), .second, .val (.long ff), .second, .val (.long aa), .second, .val (.long bb), .second, .val (.long (own_f1 ff aa)), .second, .val (.long (own_f1 ff bb)), .second, .unset, .unset, .unset, .unset, .unset, .unset, .unset] [(.int (((p1.toUInt32 >>> ((15 : Int32) &&& 31).toUInt32).toInt32) &&& (1 : Int32)))])) (fun t kt => ?_) ?_
  · refine st6 t ?_
    refine XS.lstore X6.here hx rfl (hb hby at_166) rfl (l' := #[.val (.long q0), .second, .val (.int p1), .val (.long q2), .second, .val (.long q3), .second, .val (.long q4), .second, .val (.long q5), .second, .val (.long x0), .second, .val (.long x1), .second, .val (.long x2), .second, .val (.int cc), .val (.long uu), .second, .val (.long ff), .second, .val (.long aa), .second, .val (.long bb), .second, .val (.long (own_f1 ff aa)), .second, .val (.long (own_f1 ff bb)), .second, .unset, .unset, .unset, .unset, .unset, .unset, .unset]) rfl ?_
    refine XS.iloadN X6.here hx rfl (hb hby at_168) rfl ?_
    refine XS.bipush X6.here hx rfl (hb hby at_169) ?_
    refine XS.iushr X6.here hx rfl (hb hby at_171) rfl ?_
    refine XS.iconst X6.here hx rfl (hb hby at_172) ?_
    refine XS.iand X6.here hx rfl (hb hby at_173) rfl ?_
    exact kt
  refine own_by (A' := T6.setTop (mkF m 182 #[.val (.long q0), .second, .val (.int p1), .val (.long q2), .second, .val (.long q3), .second, .val (.long q4), .second, .val (.long q5), .second, .val (.long x0), .second, .val (.long x1), .second, .val (.long x2), .second, .val (.int cc), .val (.long uu), .second, .val (.long ff), .second, .val (.long aa), .second, .val (.long bb), .second, .val (.long (own_f1 ff aa)), .second, .val (.long (own_f1 ff bb)), .second, .unset, .unset, .unset, .unset, .unset, .unset, .unset] [(.int (if (((p1.toUInt32 >>> ((15 : Int32) &&& 31).toUInt32).toInt32) &&& (1 : Int32)) = (0 : Int32) then (0 : Int32) else (1 : Int32)))])) (fun t kt => ?_) ?_
  · show Steps p.tables e below (T6.setTop (mkF m 174 #[.val (.long q0), .second, .val (.int p1), .val (.long q2), .second, .val (.long q3), .second, .val (.long q4), .second, .val (.long q5), .second, .val (.long x0), .second, .val (.long x1), .second, .val (.long x2), .second, .val (.int cc), .val (.long uu), .second, .val (.long ff), .second, .val (.long aa), .second, .val (.long bb), .second, .val (.long (own_f1 ff aa)), .second, .val (.long (own_f1 ff bb)), .second, .unset, .unset, .unset, .unset, .unset, .unset, .unset] [(.int (((p1.toUInt32 >>> ((15 : Int32) &&& 31).toUInt32).toInt32) &&& (1 : Int32)))])) t
    by_cases hj174_7 : (((p1.toUInt32 >>> ((15 : Int32) &&& 31).toUInt32).toInt32) &&& (1 : Int32)) = (0 : Int32)
    · rw [if_pos hj174_7] at kt
      refine XS.ifYes X6.here hx rfl (pc0 := 174) (pc' := 181) rfl (hb hby at_174) rfl ((if0 _ _).trans (teq hj174_7).1) (by decide) (by decide) ?_
      refine XS.iconst X6.here hx rfl (hb hby at_181) ?_
      exact kt
    · rw [if_neg hj174_7] at kt
      refine XS.ifNo X6.here hx rfl (hb hby at_174) rfl ((if0 _ _).trans (feq hj174_7).1) ?_
      refine XS.iconst X6.here hx rfl (hb hby at_177) ?_
      refine XS.goto X6.here hx rfl (pc0 := 178) (pc' := 182) rfl (hb hby at_178) (by decide) (by decide) ?_
      exact kt
  refine own_by (A' := T6.setTop (mkF m 184 #[.val (.long q0), .second, .val (.int p1), .val (.long q2), .second, .val (.long q3), .second, .val (.long q4), .second, .val (.long q5), .second, .val (.long x0), .second, .val (.long x1), .second, .val (.long x2), .second, .val (.int cc), .val (.long uu), .second, .val (.long ff), .second, .val (.long aa), .second, .val (.long bb), .second, .val (.long (own_f1 ff aa)), .second, .val (.long (own_f1 ff bb)), .second, .val (.int (if (((p1.toUInt32 >>> ((15 : Int32) &&& 31).toUInt32).toInt32) &&& (1 : Int32)) = (0 : Int32) then (0 : Int32) else (1 : Int32))), .unset, .unset, .unset, .unset, .unset, .unset] [])) (fun t kt => ?_) ?_
  · refine XS.istore X6.here hx rfl (hb hby at_182) rfl (l' := #[.val (.long q0), .second, .val (.int p1), .val (.long q2), .second, .val (.long q3), .second, .val (.long q4), .second, .val (.long q5), .second, .val (.long x0), .second, .val (.long x1), .second, .val (.long x2), .second, .val (.int cc), .val (.long uu), .second, .val (.long ff), .second, .val (.long aa), .second, .val (.long bb), .second, .val (.long (own_f1 ff aa)), .second, .val (.long (own_f1 ff bb)), .second, .val (.int (if (((p1.toUInt32 >>> ((15 : Int32) &&& 31).toUInt32).toInt32) &&& (1 : Int32)) = (0 : Int32) then (0 : Int32) else (1 : Int32))), .unset, .unset, .unset, .unset, .unset, .unset]) rfl ?_
    exact kt
  generalize h_ak : (if (((p1.toUInt32 >>> ((15 : Int32) &&& 31).toUInt32).toInt32) &&& (1 : Int32)) = (0 : Int32) then (0 : Int32) else (1 : Int32)) = ak
  obtain ⟨T8, h8, X8, e8, E8, A8, D8, -, st8⟩ := newO X6 hx hZ hown (wd4 hw) (wd5 hw) (wd6 hw) e6 (g := (mkF m 184 #[.val (.long q0), .second, .val (.int p1), .val (.long q2), .second, .val (.long q3), .second, .val (.long q4), .second, .val (.long q5), .second, .val (.long x0), .second, .val (.long x1), .second, .val (.long x2), .second, .val (.int cc), .val (.long uu), .second, .val (.long ff), .second, .val (.long aa), .second, .val (.long bb), .second, .val (.long (own_f1 ff aa)), .second, .val (.long (own_f1 ff bb)), .second, .val (.int ak), .unset, .unset, .unset, .unset, .unset, .unset] [])) rfl (hb hby at_184) (by decide) (by decide)
  obtain ⟨b8, g8⟩ : ∃ z, z = h0.size := ⟨_, rfl⟩
  rw [← g8] at A8 D8 st8
  have sz_b8 : h0.size ≤ b8 := Nat.le_trans K0.1 (Nat.le_of_eq g8.symm)
  have g_b8 : n0 ≤ b8 := Nat.le_trans Z0 sz_b8
  have K8 : Keep h0 h8 [] := K0.ext E8
  have F_timesUs_b8 : Fld Z h8 b8 "com/example/fairshed/fairshed/shedding/SicByTime" "timesUs" "[J" .null := (D8 (Or.inl (wd15 hw)) (ty := (.array .long)) (by decide))
  have F_sics_b8 : Fld Z h8 b8 "com/example/fairshed/fairshed/shedding/SicByTime" "sics" "[D" .null := (D8 (Or.inl (wd18 hw)) (ty := (.array .double)) (by decide))
  have F_summedTo_b8 : Fld Z h8 b8 "com/example/fairshed/fairshed/shedding/SicByTime" "summedTo" "I" (.int (0 : Int32)) := (D8 (Or.inl (wd20 hw)) (ty := .int) (by decide))
  have F_first_b8 : Fld Z h8 b8 "com/example/fairshed/fairshed/shedding/SicByTime" "first" "I" (.int (0 : Int32)) := (D8 (Or.inl (wd27 hw)) (ty := .int) (by decide))
  have F_end_b8 : Fld Z h8 b8 "com/example/fairshed/fairshed/shedding/SicByTime" "end" "I" (.int (0 : Int32)) := (D8 (Or.inl (wd29 hw)) (ty := .int) (by decide))
  have F_summedFrom_b8 : Fld Z h8 b8 "com/example/fairshed/fairshed/shedding/SicByTime" "summedFrom" "I" (.int (0 : Int32)) := (D8 (Or.inl (wd31 hw)) (ty := .int) (by decide))
  have F_summedFromUs_b8 : Fld Z h8 b8 "com/example/fairshed/fairshed/shedding/SicByTime" "summedFromUs" "J" (.long (0 : Int64)) := (D8 (Or.inl (wd42 hw)) (ty := .long) (by decide))
  have F_summed_b8 : Fld Z h8 b8 "com/example/fairshed/fairshed/shedding/SicByTime" "summed" "D" (.double (FP.l2d (0 : Int64))) := Fld.zeroD (D8 (Or.inl (wd48 hw)) (ty := .double) (by decide))
  refine own_by (A' := T8.setTop (mkF m 188 #[.val (.long q0), .second, .val (.int p1), .val (.long q2), .second, .val (.long q3), .second, .val (.long q4), .second, .val (.long q5), .second, .val (.long x0), .second, .val (.long x1), .second, .val (.long x2), .second, .val (.int cc), .val (.long uu), .second, .val (.long ff), .second, .val (.long aa), .second, .val (.long bb), .second, .val (.long (own_f1 ff aa)), .second, .val (.long (own_f1 ff bb)), .second, .val (.int ak), .unset, .unset, .unset, .unset, .unset, .unset] [(.ref b8), (.ref b8)])) (fun t kt => ?_) ?_
  · refine st8 t ?_
    refine XS.dup X8.here hx rfl (hb hby at_187) rfl rfl ?_
    exact kt
  obtain ⟨_, _, ⟨T9, L9, k9, n9⟩, -, X9, ⟨Lc9, hQ9, l9, y9, z9⟩, st9⟩ := X8.specialBack hx (y := (⟨"com/example/fairshed/fairshed/shedding/SicByTime", "<init>", "()V"⟩ : MethodName)) rfl hown (mvT hZ (wd7 hw)) (mvT hZ (wd8 hw)) (mvT hZ (wd9 hw)) (by decide) (backOf (W := 1) (rmNew l Z aw hw [] b8 h8 h0.size K8.1 A8 F_timesUs_b8 F_sics_b8 F_first_b8 F_end_b8 F_summedFromUs_b8 F_summedFrom_b8 F_summedTo_b8 F_summed_b8 sz_b8) hZ (wd9 hw) (wd6 hw) (by decide) (by decide)) (g := (mkF m 188 #[.val (.long q0), .second, .val (.int p1), .val (.long q2), .second, .val (.long q3), .second, .val (.long q4), .second, .val (.long q5), .second, .val (.long x0), .second, .val (.long x1), .second, .val (.long x2), .second, .val (.int cc), .val (.long uu), .second, .val (.long ff), .second, .val (.long aa), .second, .val (.long bb), .second, .val (.long (own_f1 ff aa)), .second, .val (.long (own_f1 ff bb)), .second, .val (.int ak), .unset, .unset, .unset, .unset, .unset, .unset] [(.ref b8), (.ref b8)])) rfl (by rw [hml]; rfl) (Steps.refl _) (a := b8) (argsL := []) (rest := [(.ref b8)]) (lenOf pd_8 rfl) rfl (by show 2 * 0 + _ ≤ _; exact Nat.le_of_eq rfl) (hb hby at_188) (fun _ _ => ⟨rfl, e8, (by decide : 1 + 2 ≤ _), (by decide : 8 + 16 ≤ _)⟩)
  dsimp only [Pt.U, Pt.locs, Pt.cells, Pt.slots] at X9 l9 y9 z9 st9 hQ9
  subst l9 y9 z9
  obtain ⟨rfl, N9q, Kq9, tt, ss, sz_tt, sz_ss, St9⟩ := hQ9
  have N9 := Fr.app N6 (fun y hy => Nat.le_trans Z0 (N9q y hy))
  have g_tt := Nat.le_trans Z0 sz_tt
  have g_ss := Nat.le_trans Z0 sz_ss
  have K9 : Keep h0 T9.heap [] := K8.trans Kq9 (allS (Or.inr sz_b8) all0)
  refine own_by (A' := T9.setTop (mkF m 193 #[.val (.long q0), .second, .val (.int p1), .val (.long q2), .second, .val (.long q3), .second, .val (.long q4), .second, .val (.long q5), .second, .val (.long x0), .second, .val (.long x1), .second, .val (.long x2), .second, .val (.int cc), .val (.long uu), .second, .val (.long ff), .second, .val (.long aa), .second, .val (.long bb), .second, .val (.long (own_f1 ff aa)), .second, .val (.long (own_f1 ff bb)), .second, .val (.int ak), .val (.ref b8), .unset, .unset, .unset, .unset, .unset] [])) (fun t kt => ?_) ?_
  · refine st9.trans ?_
    refine XS.astore X9.here hx rfl (hb hby at_191) rfl rfl (l' := #[.val (.long q0), .second, .val (.int p1), .val (.long q2), .second, .val (.long q3), .second, .val (.long q4), .second, .val (.long q5), .second, .val (.long x0), .second, .val (.long x1), .second, .val (.long x2), .second, .val (.int cc), .val (.long uu), .second, .val (.long ff), .second, .val (.long aa), .second, .val (.long bb), .second, .val (.long (own_f1 ff aa)), .second, .val (.long (own_f1 ff bb)), .second, .val (.int ak), .val (.ref b8), .unset, .unset, .unset, .unset, .unset]) rfl ?_
    exact kt
  refine own_cut (Φ := fun A' => ∃ (TJ10 : State) (LJ10 : List Loc) (hJ10 : Heap) (nj : Int32) (tj0 : Int64) (tj1 : Int64) (tj2 : Int64) (wj0 : Int64) (wj1 : Int64) (wj2 : Int64) (tot : Int), A' = TJ10.setTop (mkF m 239 #[.val (.long q0), .second, .val (.int p1), .val (.long q2), .second, .val (.long q3), .second, .val (.long q4), .second, .val (.long q5), .second, .val (.long x0), .second, .val (.long x1), .second, .val (.long x2), .second, .val (.int cc), .val (.long uu), .second, .val (.long ff), .second, .val (.long aa), .second, .val (.long bb), .second, .val (.long (own_f1 ff aa)), .second, .val (.long (own_f1 ff bb)), .second, .val (.int ak), .val (.ref b8), .unset, .unset, .unset, .unset, .unset] []) ∧ Stand p l e room_1 s m #[(.long q0), (.int p1), (.long q2), (.long q3), (.long q4), (.long q5)] below meth c TJ10 LJ10 3 24 ∧ TJ10.heap = hJ10 ∧ Fr n0 LJ10 ∧ Keep h0 hJ10 [] ∧ (tot ≤ 7) ∧ (own_LI cc tot x0 x1 x2 nj tj0 tj1 tj2 wj0 wj1 wj2) ∧ (own_St Z hJ10 b8 tt ss 0 nj tj0 tj1 tj2 wj0 wj1 wj2 0 0 (-1) 0)) (fun kJ10 => ?_) ?_
  · rcases hcc with rfl | rfl | rfl | rfl
    · refine own_by (A' := T9.setTop (mkF m 196 #[.val (.long q0), .second, .val (.int p1), .val (.long q2), .second, .val (.long q3), .second, .val (.long q4), .second, .val (.long q5), .second, .val (.long x0), .second, .val (.long x1), .second, .val (.long x2), .second, .val (.int (0 : Int32)), .val (.long uu), .second, .val (.long ff), .second, .val (.long aa), .second, .val (.long bb), .second, .val (.long (own_f1 ff aa)), .second, .val (.long (own_f1 ff bb)), .second, .val (.int ak), .val (.ref b8), .unset, .unset, .unset, .unset, .unset] [(.int (1 : Int32)), (.int (0 : Int32))])) (fun t kt => ?_) ?_
      · refine XS.iload X9.here hx rfl (hb hby at_193) rfl ?_
        refine XS.iconst X9.here hx rfl (hb hby at_195) ?_
        exact kt
      have hc196_11 : (0 : Int32) < (1 : Int32) := by decide
      refine own_by (A' := T9.setTop (mkF m 210 #[.val (.long q0), .second, .val (.int p1), .val (.long q2), .second, .val (.long q3), .second, .val (.long q4), .second, .val (.long q5), .second, .val (.long x0), .second, .val (.long x1), .second, .val (.long x2), .second, .val (.int (0 : Int32)), .val (.long uu), .second, .val (.long ff), .second, .val (.long aa), .second, .val (.long bb), .second, .val (.long (own_f1 ff aa)), .second, .val (.long (own_f1 ff bb)), .second, .val (.int ak), .val (.ref b8), .unset, .unset, .unset, .unset, .unset] [(.int (2 : Int32)), (.int (0 : Int32))])) (fun t kt => ?_) ?_
      · refine XS.icmpYes X9.here hx rfl (pc0 := 196) (pc' := 207) rfl (hb hby at_196) rfl (tlt hc196_11).1 (by decide) (by decide) ?_
        refine XS.iload X9.here hx rfl (hb hby at_207) rfl ?_
        refine XS.iconst X9.here hx rfl (hb hby at_209) ?_
        exact kt
      have hc210_12 : (0 : Int32) < (2 : Int32) := by decide
      refine own_by (A' := T9.setTop (mkF m 226 #[.val (.long q0), .second, .val (.int p1), .val (.long q2), .second, .val (.long q3), .second, .val (.long q4), .second, .val (.long q5), .second, .val (.long x0), .second, .val (.long x1), .second, .val (.long x2), .second, .val (.int (0 : Int32)), .val (.long uu), .second, .val (.long ff), .second, .val (.long aa), .second, .val (.long bb), .second, .val (.long (own_f1 ff aa)), .second, .val (.long (own_f1 ff bb)), .second, .val (.int ak), .val (.ref b8), .unset, .unset, .unset, .unset, .unset] [(.int (3 : Int32)), (.int (0 : Int32))])) (fun t kt => ?_) ?_
      · refine XS.icmpYes X9.here hx rfl (pc0 := 210) (pc' := 223) rfl (hb hby at_210) rfl (tlt hc210_12).1 (by decide) (by decide) ?_
        refine XS.iload X9.here hx rfl (hb hby at_223) rfl ?_
        refine XS.iconst X9.here hx rfl (hb hby at_225) ?_
        exact kt
      have hc226_13 : (0 : Int32) < (3 : Int32) := by decide
      refine own_by (A' := T9.setTop (mkF m 239 #[.val (.long q0), .second, .val (.int p1), .val (.long q2), .second, .val (.long q3), .second, .val (.long q4), .second, .val (.long q5), .second, .val (.long x0), .second, .val (.long x1), .second, .val (.long x2), .second, .val (.int (0 : Int32)), .val (.long uu), .second, .val (.long ff), .second, .val (.long aa), .second, .val (.long bb), .second, .val (.long (own_f1 ff aa)), .second, .val (.long (own_f1 ff bb)), .second, .val (.int ak), .val (.ref b8), .unset, .unset, .unset, .unset, .unset] [])) (fun t kt => ?_) ?_
      · refine XS.icmpYes X9.here hx rfl (pc0 := 226) (pc' := 239) rfl (hb hby at_226) rfl (tlt hc226_13).1 (by decide) (by decide) ?_
        exact kt
      exact kJ10 _ ⟨T9, _, T9.heap, (0 : Int32), (0 : Int64), (0 : Int64), (0 : Int64), (0 : Int64), (0 : Int64), (0 : Int64), 0, rfl, X9, rfl, N9, K9, (by decide), (own_LI0 x0 x1 x2), St9⟩
    · refine own_by (A' := T9.setTop (mkF m 196 #[.val (.long q0), .second, .val (.int p1), .val (.long q2), .second, .val (.long q3), .second, .val (.long q4), .second, .val (.long q5), .second, .val (.long x0), .second, .val (.long x1), .second, .val (.long x2), .second, .val (.int (1 : Int32)), .val (.long uu), .second, .val (.long ff), .second, .val (.long aa), .second, .val (.long bb), .second, .val (.long (own_f1 ff aa)), .second, .val (.long (own_f1 ff bb)), .second, .val (.int ak), .val (.ref b8), .unset, .unset, .unset, .unset, .unset] [(.int (1 : Int32)), (.int (1 : Int32))])) (fun t kt => ?_) ?_
      · refine XS.iload X9.here hx rfl (hb hby at_193) rfl ?_
        refine XS.iconst X9.here hx rfl (hb hby at_195) ?_
        exact kt
      have hc196_14 : ¬ ((1 : Int32) < (1 : Int32)) := by decide
      refine own_by (A' := T9.setTop (mkF m 204 #[.val (.long q0), .second, .val (.int p1), .val (.long q2), .second, .val (.long q3), .second, .val (.long q4), .second, .val (.long q5), .second, .val (.long x0), .second, .val (.long x1), .second, .val (.long x2), .second, .val (.int (1 : Int32)), .val (.long uu), .second, .val (.long ff), .second, .val (.long aa), .second, .val (.long bb), .second, .val (.long (own_f1 ff aa)), .second, .val (.long (own_f1 ff bb)), .second, .val (.int ak), .val (.ref b8), .unset, .unset, .unset, .unset, .unset] [(.double (FP.l2d (1 : Int64))), (.long x0), (.ref b8)])) (fun t kt => ?_) ?_
      · refine XS.icmpNo X9.here hx rfl (hb hby at_196) rfl (flt hc196_14).1 ?_
        refine XS.aload X9.here hx rfl (hb hby at_199) rfl rfl ?_
        refine XS.lload X9.here hx rfl (hb hby at_201) rfl ?_
        refine XS.dconst1 X9.here hx rfl (hb hby at_203) (v := FP.l2d (1 : Int64)) (by decide +kernel) ?_
        exact kt
      obtain ⟨cq15, kq15, q15a, q15b, q15c⟩ := isOf hZ rfl St9.2.1
      obtain ⟨_, _, ⟨T15, L15, k15, n15⟩, -, X15, ⟨Lc15, hQ15, l15, y15, z15⟩, st15⟩ := X9.virtualBack hx (y := (⟨"com/example/fairshed/fairshed/shedding/SicByTime", "add", "(JD)V"⟩ : MethodName)) (z := (⟨"com/example/fairshed/fairshed/shedding/SicByTime", "add", "(JD)V"⟩ : MethodName)) hown (mvT hZ (wd55 hw)) (mvT hZ (wd56 hw)) (notFace_of_selects (args := #[]) (mvT hZ (wd58 hw))) (mvT hZ (wd58 hw)) (mvT hZ (wd57 hw)) (by decide) (backOf (W := 0) (rmAdu l Z aw hw [] b8 x0 (1 : Int64) tt ss (0 : Int64) (0 : Int64) (0 : Int64) (0 : Int64) (0 : Int64) (0 : Int64) (0 : Int64) (0 : Int64) (0 : Int32) T9.heap n0 (Nat.le_trans Z0 K9.1) St9 g_b8 g_tt g_ss (own_LI0 x0 x1 x2).2.1 (own_LI0 x0 x1 x2).2.2.1 (own_hw0 (own_LI0 x0 x1 x2)).1 (own_hw0 (own_LI0 x0 x1 x2)).2) hZ (wd59 hw) (wd6 hw) (by decide) (by decide)) q15a q15c (g := (mkF m 204 #[.val (.long q0), .second, .val (.int p1), .val (.long q2), .second, .val (.long q3), .second, .val (.long q4), .second, .val (.long q5), .second, .val (.long x0), .second, .val (.long x1), .second, .val (.long x2), .second, .val (.int (1 : Int32)), .val (.long uu), .second, .val (.long ff), .second, .val (.long aa), .second, .val (.long bb), .second, .val (.long (own_f1 ff aa)), .second, .val (.long (own_f1 ff bb)), .second, .val (.int ak), .val (.ref b8), .unset, .unset, .unset, .unset, .unset] [(.double (FP.l2d (1 : Int64))), (.long x0), (.ref b8)])) rfl (by rw [hml]; rfl) (Steps.refl _) (argsL := [(.long x0), (.double (FP.l2d (1 : Int64)))]) (rest := []) (lenOf pd_9 rfl) rfl (by show 2 * 0 + _ ≤ _; exact Nat.le_of_eq rfl) (hb hby at_204) (fun _ _ => ⟨rfl, rfl, (by decide : 3 + 0 ≤ _), (by decide : 24 + 0 ≤ _)⟩)
      dsimp only [Pt.U, Pt.locs, Pt.cells, Pt.slots] at X15 l15 y15 z15 st15 hQ15
      subst l15 y15 z15
      obtain ⟨rfl, N15q, Kq15, n_15, t0_15, t1_15, t2_15, w0_15, w1_15, w2_15, St15, AD15⟩ := hQ15
      have N15 := Fr.app N9 N15q
      have K15 : Keep h0 T15.heap [] := K9.trans Kq15 (allS (Or.inr sz_b8) (allS (Or.inr sz_tt) (allS (Or.inr sz_ss) all0)))
      have I15 := own_LIs0 (own_LI0 x0 x1 x2) AD15
      refine own_by (A' := T15.setTop (mkF m 210 #[.val (.long q0), .second, .val (.int p1), .val (.long q2), .second, .val (.long q3), .second, .val (.long q4), .second, .val (.long q5), .second, .val (.long x0), .second, .val (.long x1), .second, .val (.long x2), .second, .val (.int (1 : Int32)), .val (.long uu), .second, .val (.long ff), .second, .val (.long aa), .second, .val (.long bb), .second, .val (.long (own_f1 ff aa)), .second, .val (.long (own_f1 ff bb)), .second, .val (.int ak), .val (.ref b8), .unset, .unset, .unset, .unset, .unset] [(.int (2 : Int32)), (.int (1 : Int32))])) (fun t kt => ?_) ?_
      · refine st15.trans ?_
        refine XS.iload X15.here hx rfl (hb hby at_207) rfl ?_
        refine XS.iconst X15.here hx rfl (hb hby at_209) ?_
        exact kt
      have hc210_16 : (1 : Int32) < (2 : Int32) := by decide
      refine own_by (A' := T15.setTop (mkF m 226 #[.val (.long q0), .second, .val (.int p1), .val (.long q2), .second, .val (.long q3), .second, .val (.long q4), .second, .val (.long q5), .second, .val (.long x0), .second, .val (.long x1), .second, .val (.long x2), .second, .val (.int (1 : Int32)), .val (.long uu), .second, .val (.long ff), .second, .val (.long aa), .second, .val (.long bb), .second, .val (.long (own_f1 ff aa)), .second, .val (.long (own_f1 ff bb)), .second, .val (.int ak), .val (.ref b8), .unset, .unset, .unset, .unset, .unset] [(.int (3 : Int32)), (.int (1 : Int32))])) (fun t kt => ?_) ?_
      · refine XS.icmpYes X15.here hx rfl (pc0 := 210) (pc' := 223) rfl (hb hby at_210) rfl (tlt hc210_16).1 (by decide) (by decide) ?_
        refine XS.iload X15.here hx rfl (hb hby at_223) rfl ?_
        refine XS.iconst X15.here hx rfl (hb hby at_225) ?_
        exact kt
      have hc226_17 : (1 : Int32) < (3 : Int32) := by decide
      refine own_by (A' := T15.setTop (mkF m 239 #[.val (.long q0), .second, .val (.int p1), .val (.long q2), .second, .val (.long q3), .second, .val (.long q4), .second, .val (.long q5), .second, .val (.long x0), .second, .val (.long x1), .second, .val (.long x2), .second, .val (.int (1 : Int32)), .val (.long uu), .second, .val (.long ff), .second, .val (.long aa), .second, .val (.long bb), .second, .val (.long (own_f1 ff aa)), .second, .val (.long (own_f1 ff bb)), .second, .val (.int ak), .val (.ref b8), .unset, .unset, .unset, .unset, .unset] [])) (fun t kt => ?_) ?_
      · refine XS.icmpYes X15.here hx rfl (pc0 := 226) (pc' := 239) rfl (hb hby at_226) rfl (tlt hc226_17).1 (by decide) (by decide) ?_
        exact kt
      exact kJ10 _ ⟨T15, _, T15.heap, n_15, t0_15, t1_15, t2_15, w0_15, w1_15, w2_15, 1, rfl, X15, rfl, N15, K15, (by decide), I15, St15⟩
    · refine own_by (A' := T9.setTop (mkF m 196 #[.val (.long q0), .second, .val (.int p1), .val (.long q2), .second, .val (.long q3), .second, .val (.long q4), .second, .val (.long q5), .second, .val (.long x0), .second, .val (.long x1), .second, .val (.long x2), .second, .val (.int (2 : Int32)), .val (.long uu), .second, .val (.long ff), .second, .val (.long aa), .second, .val (.long bb), .second, .val (.long (own_f1 ff aa)), .second, .val (.long (own_f1 ff bb)), .second, .val (.int ak), .val (.ref b8), .unset, .unset, .unset, .unset, .unset] [(.int (1 : Int32)), (.int (2 : Int32))])) (fun t kt => ?_) ?_
      · refine XS.iload X9.here hx rfl (hb hby at_193) rfl ?_
        refine XS.iconst X9.here hx rfl (hb hby at_195) ?_
        exact kt
      have hc196_18 : ¬ ((2 : Int32) < (1 : Int32)) := by decide
      refine own_by (A' := T9.setTop (mkF m 204 #[.val (.long q0), .second, .val (.int p1), .val (.long q2), .second, .val (.long q3), .second, .val (.long q4), .second, .val (.long q5), .second, .val (.long x0), .second, .val (.long x1), .second, .val (.long x2), .second, .val (.int (2 : Int32)), .val (.long uu), .second, .val (.long ff), .second, .val (.long aa), .second, .val (.long bb), .second, .val (.long (own_f1 ff aa)), .second, .val (.long (own_f1 ff bb)), .second, .val (.int ak), .val (.ref b8), .unset, .unset, .unset, .unset, .unset] [(.double (FP.l2d (1 : Int64))), (.long x0), (.ref b8)])) (fun t kt => ?_) ?_
      · refine XS.icmpNo X9.here hx rfl (hb hby at_196) rfl (flt hc196_18).1 ?_
        refine XS.aload X9.here hx rfl (hb hby at_199) rfl rfl ?_
        refine XS.lload X9.here hx rfl (hb hby at_201) rfl ?_
        refine XS.dconst1 X9.here hx rfl (hb hby at_203) (v := FP.l2d (1 : Int64)) (by decide +kernel) ?_
        exact kt
      obtain ⟨cq19, kq19, q19a, q19b, q19c⟩ := isOf hZ rfl St9.2.1
      obtain ⟨_, _, ⟨T19, L19, k19, n19⟩, -, X19, ⟨Lc19, hQ19, l19, y19, z19⟩, st19⟩ := X9.virtualBack hx (y := (⟨"com/example/fairshed/fairshed/shedding/SicByTime", "add", "(JD)V"⟩ : MethodName)) (z := (⟨"com/example/fairshed/fairshed/shedding/SicByTime", "add", "(JD)V"⟩ : MethodName)) hown (mvT hZ (wd55 hw)) (mvT hZ (wd56 hw)) (notFace_of_selects (args := #[]) (mvT hZ (wd58 hw))) (mvT hZ (wd58 hw)) (mvT hZ (wd57 hw)) (by decide) (backOf (W := 0) (rmAdu l Z aw hw [] b8 x0 (1 : Int64) tt ss (0 : Int64) (0 : Int64) (0 : Int64) (0 : Int64) (0 : Int64) (0 : Int64) (0 : Int64) (0 : Int64) (0 : Int32) T9.heap n0 (Nat.le_trans Z0 K9.1) St9 g_b8 g_tt g_ss (own_LI0 x0 x1 x2).2.1 (own_LI0 x0 x1 x2).2.2.1 (own_hw0 (own_LI0 x0 x1 x2)).1 (own_hw0 (own_LI0 x0 x1 x2)).2) hZ (wd59 hw) (wd6 hw) (by decide) (by decide)) q19a q19c (g := (mkF m 204 #[.val (.long q0), .second, .val (.int p1), .val (.long q2), .second, .val (.long q3), .second, .val (.long q4), .second, .val (.long q5), .second, .val (.long x0), .second, .val (.long x1), .second, .val (.long x2), .second, .val (.int (2 : Int32)), .val (.long uu), .second, .val (.long ff), .second, .val (.long aa), .second, .val (.long bb), .second, .val (.long (own_f1 ff aa)), .second, .val (.long (own_f1 ff bb)), .second, .val (.int ak), .val (.ref b8), .unset, .unset, .unset, .unset, .unset] [(.double (FP.l2d (1 : Int64))), (.long x0), (.ref b8)])) rfl (by rw [hml]; rfl) (Steps.refl _) (argsL := [(.long x0), (.double (FP.l2d (1 : Int64)))]) (rest := []) (lenOf pd_9 rfl) rfl (by show 2 * 0 + _ ≤ _; exact Nat.le_of_eq rfl) (hb hby at_204) (fun _ _ => ⟨rfl, rfl, (by decide : 3 + 0 ≤ _), (by decide : 24 + 0 ≤ _)⟩)
      dsimp only [Pt.U, Pt.locs, Pt.cells, Pt.slots] at X19 l19 y19 z19 st19 hQ19
      subst l19 y19 z19
      obtain ⟨rfl, N19q, Kq19, n_19, t0_19, t1_19, t2_19, w0_19, w1_19, w2_19, St19, AD19⟩ := hQ19
      have N19 := Fr.app N9 N19q
      have K19 : Keep h0 T19.heap [] := K9.trans Kq19 (allS (Or.inr sz_b8) (allS (Or.inr sz_tt) (allS (Or.inr sz_ss) all0)))
      have I19 := own_LIs0 (own_LI0 x0 x1 x2) AD19
      refine own_by (A' := T19.setTop (mkF m 210 #[.val (.long q0), .second, .val (.int p1), .val (.long q2), .second, .val (.long q3), .second, .val (.long q4), .second, .val (.long q5), .second, .val (.long x0), .second, .val (.long x1), .second, .val (.long x2), .second, .val (.int (2 : Int32)), .val (.long uu), .second, .val (.long ff), .second, .val (.long aa), .second, .val (.long bb), .second, .val (.long (own_f1 ff aa)), .second, .val (.long (own_f1 ff bb)), .second, .val (.int ak), .val (.ref b8), .unset, .unset, .unset, .unset, .unset] [(.int (2 : Int32)), (.int (2 : Int32))])) (fun t kt => ?_) ?_
      · refine st19.trans ?_
        refine XS.iload X19.here hx rfl (hb hby at_207) rfl ?_
        refine XS.iconst X19.here hx rfl (hb hby at_209) ?_
        exact kt
      have hc210_20 : ¬ ((2 : Int32) < (2 : Int32)) := by decide
      refine own_by (A' := T19.setTop (mkF m 220 #[.val (.long q0), .second, .val (.int p1), .val (.long q2), .second, .val (.long q3), .second, .val (.long q4), .second, .val (.long q5), .second, .val (.long x0), .second, .val (.long x1), .second, .val (.long x2), .second, .val (.int (2 : Int32)), .val (.long uu), .second, .val (.long ff), .second, .val (.long aa), .second, .val (.long bb), .second, .val (.long (own_f1 ff aa)), .second, .val (.long (own_f1 ff bb)), .second, .val (.int ak), .val (.ref b8), .unset, .unset, .unset, .unset, .unset] [(.double (FP.l2d (2 : Int64))), (.long x1), (.ref b8)])) (fun t kt => ?_) ?_
      · refine XS.icmpNo X19.here hx rfl (hb hby at_210) rfl (flt hc210_20).1 ?_
        refine XS.aload X19.here hx rfl (hb hby at_213) rfl rfl ?_
        refine XS.lload X19.here hx rfl (hb hby at_215) rfl ?_
        refine own_ldc2D X19 hx hown (mvT hZ (wd64 hw)) (k := 2) (by decide +kernel) (g := (mkF m 217 #[.val (.long q0), .second, .val (.int p1), .val (.long q2), .second, .val (.long q3), .second, .val (.long q4), .second, .val (.long q5), .second, .val (.long x0), .second, .val (.long x1), .second, .val (.long x2), .second, .val (.int (2 : Int32)), .val (.long uu), .second, .val (.long ff), .second, .val (.long aa), .second, .val (.long bb), .second, .val (.long (own_f1 ff aa)), .second, .val (.long (own_f1 ff bb)), .second, .val (.int ak), .val (.ref b8), .unset, .unset, .unset, .unset, .unset] [(.long x1), (.ref b8)])) rfl (hb hby at_217) _ ?_
        exact kt
      obtain ⟨cq21, kq21, q21a, q21b, q21c⟩ := isOf hZ rfl St19.2.1
      obtain ⟨_, _, ⟨T21, L21, k21, n21⟩, -, X21, ⟨Lc21, hQ21, l21, y21, z21⟩, st21⟩ := X19.virtualBack hx (y := (⟨"com/example/fairshed/fairshed/shedding/SicByTime", "add", "(JD)V"⟩ : MethodName)) (z := (⟨"com/example/fairshed/fairshed/shedding/SicByTime", "add", "(JD)V"⟩ : MethodName)) hown (mvT hZ (wd55 hw)) (mvT hZ (wd56 hw)) (notFace_of_selects (args := #[]) (mvT hZ (wd58 hw))) (mvT hZ (wd58 hw)) (mvT hZ (wd57 hw)) (by decide) (backOf (W := 0) (rmAdu l Z aw hw [] b8 x1 (2 : Int64) tt ss t0_19 t1_19 t2_19 w0_19 w1_19 w2_19 (0 : Int64) (0 : Int64) n_19 T19.heap n0 (Nat.le_trans Z0 K19.1) St19 g_b8 g_tt g_ss I19.2.1 I19.2.2.1 (own_hw1 I19).1 (own_hw1 I19).2) hZ (wd59 hw) (wd6 hw) (by decide) (by decide)) q21a q21c (g := (mkF m 220 #[.val (.long q0), .second, .val (.int p1), .val (.long q2), .second, .val (.long q3), .second, .val (.long q4), .second, .val (.long q5), .second, .val (.long x0), .second, .val (.long x1), .second, .val (.long x2), .second, .val (.int (2 : Int32)), .val (.long uu), .second, .val (.long ff), .second, .val (.long aa), .second, .val (.long bb), .second, .val (.long (own_f1 ff aa)), .second, .val (.long (own_f1 ff bb)), .second, .val (.int ak), .val (.ref b8), .unset, .unset, .unset, .unset, .unset] [(.double (FP.l2d (2 : Int64))), (.long x1), (.ref b8)])) rfl (by rw [hml]; rfl) (Steps.refl _) (argsL := [(.long x1), (.double (FP.l2d (2 : Int64)))]) (rest := []) (lenOf pd_9 rfl) rfl (by show 2 * 0 + _ ≤ _; exact Nat.le_of_eq rfl) (hb hby at_220) (fun _ _ => ⟨rfl, rfl, (by decide : 3 + 0 ≤ _), (by decide : 24 + 0 ≤ _)⟩)
      dsimp only [Pt.U, Pt.locs, Pt.cells, Pt.slots] at X21 l21 y21 z21 st21 hQ21
      subst l21 y21 z21
      obtain ⟨rfl, N21q, Kq21, n_21, t0_21, t1_21, t2_21, w0_21, w1_21, w2_21, St21, AD21⟩ := hQ21
      have N21 := Fr.app N19 N21q
      have K21 : Keep h0 T21.heap [] := K19.trans Kq21 (allS (Or.inr sz_b8) (allS (Or.inr sz_tt) (allS (Or.inr sz_ss) all0)))
      have I21 := own_LIs1 I19 AD21
      refine own_by (A' := T21.setTop (mkF m 226 #[.val (.long q0), .second, .val (.int p1), .val (.long q2), .second, .val (.long q3), .second, .val (.long q4), .second, .val (.long q5), .second, .val (.long x0), .second, .val (.long x1), .second, .val (.long x2), .second, .val (.int (2 : Int32)), .val (.long uu), .second, .val (.long ff), .second, .val (.long aa), .second, .val (.long bb), .second, .val (.long (own_f1 ff aa)), .second, .val (.long (own_f1 ff bb)), .second, .val (.int ak), .val (.ref b8), .unset, .unset, .unset, .unset, .unset] [(.int (3 : Int32)), (.int (2 : Int32))])) (fun t kt => ?_) ?_
      · refine st21.trans ?_
        refine XS.iload X21.here hx rfl (hb hby at_223) rfl ?_
        refine XS.iconst X21.here hx rfl (hb hby at_225) ?_
        exact kt
      have hc226_22 : (2 : Int32) < (3 : Int32) := by decide
      refine own_by (A' := T21.setTop (mkF m 239 #[.val (.long q0), .second, .val (.int p1), .val (.long q2), .second, .val (.long q3), .second, .val (.long q4), .second, .val (.long q5), .second, .val (.long x0), .second, .val (.long x1), .second, .val (.long x2), .second, .val (.int (2 : Int32)), .val (.long uu), .second, .val (.long ff), .second, .val (.long aa), .second, .val (.long bb), .second, .val (.long (own_f1 ff aa)), .second, .val (.long (own_f1 ff bb)), .second, .val (.int ak), .val (.ref b8), .unset, .unset, .unset, .unset, .unset] [])) (fun t kt => ?_) ?_
      · refine XS.icmpYes X21.here hx rfl (pc0 := 226) (pc' := 239) rfl (hb hby at_226) rfl (tlt hc226_22).1 (by decide) (by decide) ?_
        exact kt
      exact kJ10 _ ⟨T21, _, T21.heap, n_21, t0_21, t1_21, t2_21, w0_21, w1_21, w2_21, 3, rfl, X21, rfl, N21, K21, (by decide), I21, St21⟩
    · refine own_by (A' := T9.setTop (mkF m 196 #[.val (.long q0), .second, .val (.int p1), .val (.long q2), .second, .val (.long q3), .second, .val (.long q4), .second, .val (.long q5), .second, .val (.long x0), .second, .val (.long x1), .second, .val (.long x2), .second, .val (.int (3 : Int32)), .val (.long uu), .second, .val (.long ff), .second, .val (.long aa), .second, .val (.long bb), .second, .val (.long (own_f1 ff aa)), .second, .val (.long (own_f1 ff bb)), .second, .val (.int ak), .val (.ref b8), .unset, .unset, .unset, .unset, .unset] [(.int (1 : Int32)), (.int (3 : Int32))])) (fun t kt => ?_) ?_
      · refine XS.iload X9.here hx rfl (hb hby at_193) rfl ?_
        refine XS.iconst X9.here hx rfl (hb hby at_195) ?_
        exact kt
      have hc196_23 : ¬ ((3 : Int32) < (1 : Int32)) := by decide
      refine own_by (A' := T9.setTop (mkF m 204 #[.val (.long q0), .second, .val (.int p1), .val (.long q2), .second, .val (.long q3), .second, .val (.long q4), .second, .val (.long q5), .second, .val (.long x0), .second, .val (.long x1), .second, .val (.long x2), .second, .val (.int (3 : Int32)), .val (.long uu), .second, .val (.long ff), .second, .val (.long aa), .second, .val (.long bb), .second, .val (.long (own_f1 ff aa)), .second, .val (.long (own_f1 ff bb)), .second, .val (.int ak), .val (.ref b8), .unset, .unset, .unset, .unset, .unset] [(.double (FP.l2d (1 : Int64))), (.long x0), (.ref b8)])) (fun t kt => ?_) ?_
      · refine XS.icmpNo X9.here hx rfl (hb hby at_196) rfl (flt hc196_23).1 ?_
        refine XS.aload X9.here hx rfl (hb hby at_199) rfl rfl ?_
        refine XS.lload X9.here hx rfl (hb hby at_201) rfl ?_
        refine XS.dconst1 X9.here hx rfl (hb hby at_203) (v := FP.l2d (1 : Int64)) (by decide +kernel) ?_
        exact kt
      obtain ⟨cq24, kq24, q24a, q24b, q24c⟩ := isOf hZ rfl St9.2.1
      obtain ⟨_, _, ⟨T24, L24, k24, n24⟩, -, X24, ⟨Lc24, hQ24, l24, y24, z24⟩, st24⟩ := X9.virtualBack hx (y := (⟨"com/example/fairshed/fairshed/shedding/SicByTime", "add", "(JD)V"⟩ : MethodName)) (z := (⟨"com/example/fairshed/fairshed/shedding/SicByTime", "add", "(JD)V"⟩ : MethodName)) hown (mvT hZ (wd55 hw)) (mvT hZ (wd56 hw)) (notFace_of_selects (args := #[]) (mvT hZ (wd58 hw))) (mvT hZ (wd58 hw)) (mvT hZ (wd57 hw)) (by decide) (backOf (W := 0) (rmAdu l Z aw hw [] b8 x0 (1 : Int64) tt ss (0 : Int64) (0 : Int64) (0 : Int64) (0 : Int64) (0 : Int64) (0 : Int64) (0 : Int64) (0 : Int64) (0 : Int32) T9.heap n0 (Nat.le_trans Z0 K9.1) St9 g_b8 g_tt g_ss (own_LI0 x0 x1 x2).2.1 (own_LI0 x0 x1 x2).2.2.1 (own_hw0 (own_LI0 x0 x1 x2)).1 (own_hw0 (own_LI0 x0 x1 x2)).2) hZ (wd59 hw) (wd6 hw) (by decide) (by decide)) q24a q24c (g := (mkF m 204 #[.val (.long q0), .second, .val (.int p1), .val (.long q2), .second, .val (.long q3), .second, .val (.long q4), .second, .val (.long q5), .second, .val (.long x0), .second, .val (.long x1), .second, .val (.long x2), .second, .val (.int (3 : Int32)), .val (.long uu), .second, .val (.long ff), .second, .val (.long aa), .second, .val (.long bb), .second, .val (.long (own_f1 ff aa)), .second, .val (.long (own_f1 ff bb)), .second, .val (.int ak), .val (.ref b8), .unset, .unset, .unset, .unset, .unset] [(.double (FP.l2d (1 : Int64))), (.long x0), (.ref b8)])) rfl (by rw [hml]; rfl) (Steps.refl _) (argsL := [(.long x0), (.double (FP.l2d (1 : Int64)))]) (rest := []) (lenOf pd_9 rfl) rfl (by show 2 * 0 + _ ≤ _; exact Nat.le_of_eq rfl) (hb hby at_204) (fun _ _ => ⟨rfl, rfl, (by decide : 3 + 0 ≤ _), (by decide : 24 + 0 ≤ _)⟩)
      dsimp only [Pt.U, Pt.locs, Pt.cells, Pt.slots] at X24 l24 y24 z24 st24 hQ24
      subst l24 y24 z24
      obtain ⟨rfl, N24q, Kq24, n_24, t0_24, t1_24, t2_24, w0_24, w1_24, w2_24, St24, AD24⟩ := hQ24
      have N24 := Fr.app N9 N24q
      have K24 : Keep h0 T24.heap [] := K9.trans Kq24 (allS (Or.inr sz_b8) (allS (Or.inr sz_tt) (allS (Or.inr sz_ss) all0)))
      have I24 := own_LIs0 (own_LI0 x0 x1 x2) AD24
      refine own_by (A' := T24.setTop (mkF m 210 #[.val (.long q0), .second, .val (.int p1), .val (.long q2), .second, .val (.long q3), .second, .val (.long q4), .second, .val (.long q5), .second, .val (.long x0), .second, .val (.long x1), .second, .val (.long x2), .second, .val (.int (3 : Int32)), .val (.long uu), .second, .val (.long ff), .second, .val (.long aa), .second, .val (.long bb), .second, .val (.long (own_f1 ff aa)), .second, .val (.long (own_f1 ff bb)), .second, .val (.int ak), .val (.ref b8), .unset, .unset, .unset, .unset, .unset] [(.int (2 : Int32)), (.int (3 : Int32))])) (fun t kt => ?_) ?_
      · refine st24.trans ?_
        refine XS.iload X24.here hx rfl (hb hby at_207) rfl ?_
        refine XS.iconst X24.here hx rfl (hb hby at_209) ?_
        exact kt
      have hc210_25 : ¬ ((3 : Int32) < (2 : Int32)) := by decide
      refine own_by (A' := T24.setTop (mkF m 220 #[.val (.long q0), .second, .val (.int p1), .val (.long q2), .second, .val (.long q3), .second, .val (.long q4), .second, .val (.long q5), .second, .val (.long x0), .second, .val (.long x1), .second, .val (.long x2), .second, .val (.int (3 : Int32)), .val (.long uu), .second, .val (.long ff), .second, .val (.long aa), .second, .val (.long bb), .second, .val (.long (own_f1 ff aa)), .second, .val (.long (own_f1 ff bb)), .second, .val (.int ak), .val (.ref b8), .unset, .unset, .unset, .unset, .unset] [(.double (FP.l2d (2 : Int64))), (.long x1), (.ref b8)])) (fun t kt => ?_) ?_
      · refine XS.icmpNo X24.here hx rfl (hb hby at_210) rfl (flt hc210_25).1 ?_
        refine XS.aload X24.here hx rfl (hb hby at_213) rfl rfl ?_
        refine XS.lload X24.here hx rfl (hb hby at_215) rfl ?_
        refine own_ldc2D X24 hx hown (mvT hZ (wd64 hw)) (k := 2) (by decide +kernel) (g := (mkF m 217 #[.val (.long q0), .second, .val (.int p1), .val (.long q2), .second, .val (.long q3), .second, .val (.long q4), .second, .val (.long q5), .second, .val (.long x0), .second, .val (.long x1), .second, .val (.long x2), .second, .val (.int (3 : Int32)), .val (.long uu), .second, .val (.long ff), .second, .val (.long aa), .second, .val (.long bb), .second, .val (.long (own_f1 ff aa)), .second, .val (.long (own_f1 ff bb)), .second, .val (.int ak), .val (.ref b8), .unset, .unset, .unset, .unset, .unset] [(.long x1), (.ref b8)])) rfl (hb hby at_217) _ ?_
        exact kt
      obtain ⟨cq26, kq26, q26a, q26b, q26c⟩ := isOf hZ rfl St24.2.1
      obtain ⟨_, _, ⟨T26, L26, k26, n26⟩, -, X26, ⟨Lc26, hQ26, l26, y26, z26⟩, st26⟩ := X24.virtualBack hx (y := (⟨"com/example/fairshed/fairshed/shedding/SicByTime", "add", "(JD)V"⟩ : MethodName)) (z := (⟨"com/example/fairshed/fairshed/shedding/SicByTime", "add", "(JD)V"⟩ : MethodName)) hown (mvT hZ (wd55 hw)) (mvT hZ (wd56 hw)) (notFace_of_selects (args := #[]) (mvT hZ (wd58 hw))) (mvT hZ (wd58 hw)) (mvT hZ (wd57 hw)) (by decide) (backOf (W := 0) (rmAdu l Z aw hw [] b8 x1 (2 : Int64) tt ss t0_24 t1_24 t2_24 w0_24 w1_24 w2_24 (0 : Int64) (0 : Int64) n_24 T24.heap n0 (Nat.le_trans Z0 K24.1) St24 g_b8 g_tt g_ss I24.2.1 I24.2.2.1 (own_hw1 I24).1 (own_hw1 I24).2) hZ (wd59 hw) (wd6 hw) (by decide) (by decide)) q26a q26c (g := (mkF m 220 #[.val (.long q0), .second, .val (.int p1), .val (.long q2), .second, .val (.long q3), .second, .val (.long q4), .second, .val (.long q5), .second, .val (.long x0), .second, .val (.long x1), .second, .val (.long x2), .second, .val (.int (3 : Int32)), .val (.long uu), .second, .val (.long ff), .second, .val (.long aa), .second, .val (.long bb), .second, .val (.long (own_f1 ff aa)), .second, .val (.long (own_f1 ff bb)), .second, .val (.int ak), .val (.ref b8), .unset, .unset, .unset, .unset, .unset] [(.double (FP.l2d (2 : Int64))), (.long x1), (.ref b8)])) rfl (by rw [hml]; rfl) (Steps.refl _) (argsL := [(.long x1), (.double (FP.l2d (2 : Int64)))]) (rest := []) (lenOf pd_9 rfl) rfl (by show 2 * 0 + _ ≤ _; exact Nat.le_of_eq rfl) (hb hby at_220) (fun _ _ => ⟨rfl, rfl, (by decide : 3 + 0 ≤ _), (by decide : 24 + 0 ≤ _)⟩)
      dsimp only [Pt.U, Pt.locs, Pt.cells, Pt.slots] at X26 l26 y26 z26 st26 hQ26
      subst l26 y26 z26
      obtain ⟨rfl, N26q, Kq26, n_26, t0_26, t1_26, t2_26, w0_26, w1_26, w2_26, St26, AD26⟩ := hQ26
      have N26 := Fr.app N24 N26q
      have K26 : Keep h0 T26.heap [] := K24.trans Kq26 (allS (Or.inr sz_b8) (allS (Or.inr sz_tt) (allS (Or.inr sz_ss) all0)))
      have I26 := own_LIs1 I24 AD26
      refine own_by (A' := T26.setTop (mkF m 226 #[.val (.long q0), .second, .val (.int p1), .val (.long q2), .second, .val (.long q3), .second, .val (.long q4), .second, .val (.long q5), .second, .val (.long x0), .second, .val (.long x1), .second, .val (.long x2), .second, .val (.int (3 : Int32)), .val (.long uu), .second, .val (.long ff), .second, .val (.long aa), .second, .val (.long bb), .second, .val (.long (own_f1 ff aa)), .second, .val (.long (own_f1 ff bb)), .second, .val (.int ak), .val (.ref b8), .unset, .unset, .unset, .unset, .unset] [(.int (3 : Int32)), (.int (3 : Int32))])) (fun t kt => ?_) ?_
      · refine st26.trans ?_
        refine XS.iload X26.here hx rfl (hb hby at_223) rfl ?_
        refine XS.iconst X26.here hx rfl (hb hby at_225) ?_
        exact kt
      have hc226_27 : ¬ ((3 : Int32) < (3 : Int32)) := by decide
      refine own_by (A' := T26.setTop (mkF m 236 #[.val (.long q0), .second, .val (.int p1), .val (.long q2), .second, .val (.long q3), .second, .val (.long q4), .second, .val (.long q5), .second, .val (.long x0), .second, .val (.long x1), .second, .val (.long x2), .second, .val (.int (3 : Int32)), .val (.long uu), .second, .val (.long ff), .second, .val (.long aa), .second, .val (.long bb), .second, .val (.long (own_f1 ff aa)), .second, .val (.long (own_f1 ff bb)), .second, .val (.int ak), .val (.ref b8), .unset, .unset, .unset, .unset, .unset] [(.double (FP.l2d (4 : Int64))), (.long x2), (.ref b8)])) (fun t kt => ?_) ?_
      · refine XS.icmpNo X26.here hx rfl (hb hby at_226) rfl (flt hc226_27).1 ?_
        refine XS.aload X26.here hx rfl (hb hby at_229) rfl rfl ?_
        refine XS.lload X26.here hx rfl (hb hby at_231) rfl ?_
        refine own_ldc2D X26 hx hown (mvT hZ (wd65 hw)) (k := 4) (by decide +kernel) (g := (mkF m 233 #[.val (.long q0), .second, .val (.int p1), .val (.long q2), .second, .val (.long q3), .second, .val (.long q4), .second, .val (.long q5), .second, .val (.long x0), .second, .val (.long x1), .second, .val (.long x2), .second, .val (.int (3 : Int32)), .val (.long uu), .second, .val (.long ff), .second, .val (.long aa), .second, .val (.long bb), .second, .val (.long (own_f1 ff aa)), .second, .val (.long (own_f1 ff bb)), .second, .val (.int ak), .val (.ref b8), .unset, .unset, .unset, .unset, .unset] [(.long x2), (.ref b8)])) rfl (hb hby at_233) _ ?_
        exact kt
      obtain ⟨cq28, kq28, q28a, q28b, q28c⟩ := isOf hZ rfl St26.2.1
      obtain ⟨_, _, ⟨T28, L28, k28, n28⟩, -, X28, ⟨Lc28, hQ28, l28, y28, z28⟩, st28⟩ := X26.virtualBack hx (y := (⟨"com/example/fairshed/fairshed/shedding/SicByTime", "add", "(JD)V"⟩ : MethodName)) (z := (⟨"com/example/fairshed/fairshed/shedding/SicByTime", "add", "(JD)V"⟩ : MethodName)) hown (mvT hZ (wd55 hw)) (mvT hZ (wd56 hw)) (notFace_of_selects (args := #[]) (mvT hZ (wd58 hw))) (mvT hZ (wd58 hw)) (mvT hZ (wd57 hw)) (by decide) (backOf (W := 0) (rmAdu l Z aw hw [] b8 x2 (4 : Int64) tt ss t0_26 t1_26 t2_26 w0_26 w1_26 w2_26 (0 : Int64) (0 : Int64) n_26 T26.heap n0 (Nat.le_trans Z0 K26.1) St26 g_b8 g_tt g_ss I26.2.1 I26.2.2.1 (own_hw2 I26).1 (own_hw2 I26).2) hZ (wd59 hw) (wd6 hw) (by decide) (by decide)) q28a q28c (g := (mkF m 236 #[.val (.long q0), .second, .val (.int p1), .val (.long q2), .second, .val (.long q3), .second, .val (.long q4), .second, .val (.long q5), .second, .val (.long x0), .second, .val (.long x1), .second, .val (.long x2), .second, .val (.int (3 : Int32)), .val (.long uu), .second, .val (.long ff), .second, .val (.long aa), .second, .val (.long bb), .second, .val (.long (own_f1 ff aa)), .second, .val (.long (own_f1 ff bb)), .second, .val (.int ak), .val (.ref b8), .unset, .unset, .unset, .unset, .unset] [(.double (FP.l2d (4 : Int64))), (.long x2), (.ref b8)])) rfl (by rw [hml]; rfl) (Steps.refl _) (argsL := [(.long x2), (.double (FP.l2d (4 : Int64)))]) (rest := []) (lenOf pd_9 rfl) rfl (by show 2 * 0 + _ ≤ _; exact Nat.le_of_eq rfl) (hb hby at_236) (fun _ _ => ⟨rfl, rfl, (by decide : 3 + 0 ≤ _), (by decide : 24 + 0 ≤ _)⟩)
      dsimp only [Pt.U, Pt.locs, Pt.cells, Pt.slots] at X28 l28 y28 z28 st28 hQ28
      subst l28 y28 z28
      obtain ⟨rfl, N28q, Kq28, n_28, t0_28, t1_28, t2_28, w0_28, w1_28, w2_28, St28, AD28⟩ := hQ28
      have N28 := Fr.app N26 N28q
      have K28 : Keep h0 T28.heap [] := K26.trans Kq28 (allS (Or.inr sz_b8) (allS (Or.inr sz_tt) (allS (Or.inr sz_ss) all0)))
      have I28 := own_LIs2 I26 AD28
      refine own_by (A' := T28.setTop (mkF m 239 #[.val (.long q0), .second, .val (.int p1), .val (.long q2), .second, .val (.long q3), .second, .val (.long q4), .second, .val (.long q5), .second, .val (.long x0), .second, .val (.long x1), .second, .val (.long x2), .second, .val (.int (3 : Int32)), .val (.long uu), .second, .val (.long ff), .second, .val (.long aa), .second, .val (.long bb), .second, .val (.long (own_f1 ff aa)), .second, .val (.long (own_f1 ff bb)), .second, .val (.int ak), .val (.ref b8), .unset, .unset, .unset, .unset, .unset] [])) (fun t kt => st28.trans kt) ?_
      exact kJ10 _ ⟨T28, _, T28.heap, n_28, t0_28, t1_28, t2_28, w0_28, w1_28, w2_28, 7, rfl, X28, rfl, N28, K28, (by decide), I28, St28⟩
  rintro A' ⟨TJ10, LJ10, hJ10, nj, tj0, tj1, tj2, wj0, wj1, wj2, tot, rfl, XJ10, eJ10, NJ10, KJ10, htot, IJ, StJ⟩
  refine own_by (A' := TJ10.setTop (mkF m 244 #[.val (.long q0), .second, .val (.int p1), .val (.long q2), .second, .val (.long q3), .second, .val (.long q4), .second, .val (.long q5), .second, .val (.long x0), .second, .val (.long x1), .second, .val (.long x2), .second, .val (.int cc), .val (.long uu), .second, .val (.long ff), .second, .val (.long aa), .second, .val (.long bb), .second, .val (.long (own_f1 ff aa)), .second, .val (.long (own_f1 ff bb)), .second, .val (.int ak), .val (.ref b8), .val (.int (1 : Int32)), .unset, .unset, .unset, .unset] [(.int ak)])) (fun t kt => ?_) ?_
  · refine XS.iconst XJ10.here hx rfl (hb hby at_239) ?_
    refine XS.istore XJ10.here hx rfl (hb hby at_240) rfl (l' := #[.val (.long q0), .second, .val (.int p1), .val (.long q2), .second, .val (.long q3), .second, .val (.long q4), .second, .val (.long q5), .second, .val (.long x0), .second, .val (.long x1), .second, .val (.long x2), .second, .val (.int cc), .val (.long uu), .second, .val (.long ff), .second, .val (.long aa), .second, .val (.long bb), .second, .val (.long (own_f1 ff aa)), .second, .val (.long (own_f1 ff bb)), .second, .val (.int ak), .val (.ref b8), .val (.int (1 : Int32)), .unset, .unset, .unset, .unset]) rfl ?_
    refine XS.iload XJ10.here hx rfl (hb hby at_242) rfl ?_
    exact kt
  by_cases hc244_29 : ak = (0 : Int32)
  · refine own_by (A' := TJ10.setTop (mkF m 290 #[.val (.long q0), .second, .val (.int p1), .val (.long q2), .second, .val (.long q3), .second, .val (.long q4), .second, .val (.long q5), .second, .val (.long x0), .second, .val (.long x1), .second, .val (.long x2), .second, .val (.int cc), .val (.long uu), .second, .val (.long ff), .second, .val (.long aa), .second, .val (.long bb), .second, .val (.long (own_f1 ff aa)), .second, .val (.long (own_f1 ff bb)), .second, .val (.int ak), .val (.ref b8), .val (.int (1 : Int32)), .unset, .unset, .unset, .unset] [(.long uu), (.ref b8)])) (fun t kt => ?_) ?_
    · refine XS.ifYes XJ10.here hx rfl (pc0 := 244) (pc' := 286) rfl (hb hby at_244) rfl ((if0 _ _).trans (teq hc244_29).1) (by decide) (by decide) ?_
      refine XS.aload XJ10.here hx rfl (hb hby at_286) rfl rfl ?_
      refine XS.lload XJ10.here hx rfl (hb hby at_288) rfl ?_
      exact kt
    obtain ⟨cq30, kq30, q30a, q30b, q30c⟩ := isOf hZ eJ10 StJ.2.1
    obtain ⟨_, _, ⟨T30, L30, k30, n30⟩, -, X30, ⟨Lc30, hQ30, l30, y30, z30⟩, st30⟩ := XJ10.virtualBack hx (y := (⟨"com/example/fairshed/fairshed/shedding/SicByTime", "forget", "(J)V"⟩ : MethodName)) (z := (⟨"com/example/fairshed/fairshed/shedding/SicByTime", "forget", "(J)V"⟩ : MethodName)) hown (mvT hZ (wd21 hw)) (mvT hZ (wd22 hw)) (notFace_of_selects (args := #[]) (mvT hZ (wd24 hw))) (mvT hZ (wd24 hw)) (mvT hZ (wd23 hw)) (by decide) (backOf (W := 0) (rmFou l Z aw hw [] b8 uu tt ss tj0 tj1 tj2 wj0 wj1 wj2 (0 : Int64) (0 : Int32) (-1 : Int32) (0 : Int64) nj hJ10 n0 (Nat.le_trans Z0 KJ10.1) StJ g_b8 (own_hf IJ hc3 htot).1) hZ (wd25 hw) (wd6 hw) (by decide) (by decide)) q30a q30c (g := (mkF m 290 #[.val (.long q0), .second, .val (.int p1), .val (.long q2), .second, .val (.long q3), .second, .val (.long q4), .second, .val (.long q5), .second, .val (.long x0), .second, .val (.long x1), .second, .val (.long x2), .second, .val (.int cc), .val (.long uu), .second, .val (.long ff), .second, .val (.long aa), .second, .val (.long bb), .second, .val (.long (own_f1 ff aa)), .second, .val (.long (own_f1 ff bb)), .second, .val (.int ak), .val (.ref b8), .val (.int (1 : Int32)), .unset, .unset, .unset, .unset] [(.long uu), (.ref b8)])) rfl (by rw [hml]; rfl) (Steps.refl _) (argsL := [(.long uu)]) (rest := []) (lenOf pd_10 rfl) rfl (by show 2 * 0 + _ ≤ _; exact Nat.le_of_eq rfl) (hb hby at_290) (fun _ _ => ⟨rfl, eJ10, (by decide : 3 + 0 ≤ _), (by decide : 24 + 0 ≤ _)⟩)
    dsimp only [Pt.U, Pt.locs, Pt.cells, Pt.slots] at X30 l30 y30 z30 st30 hQ30
    subst l30 y30 z30
    obtain ⟨rfl, N30q, Kq30, f_30, G_30, St30, hO30, hG30⟩ := hQ30
    subst hG30
    have N30 := Fr.app NJ10 N30q
    have K30 : Keep h0 T30.heap [] := KJ10.trans Kq30 (allS (Or.inr sz_b8) all0)
    refine own_by (A' := T30.setTop (mkF m 299 #[.val (.long q0), .second, .val (.int p1), .val (.long q2), .second, .val (.long q3), .second, .val (.long q4), .second, .val (.long q5), .second, .val (.long x0), .second, .val (.long x1), .second, .val (.long x2), .second, .val (.int cc), .val (.long uu), .second, .val (.long ff), .second, .val (.long aa), .second, .val (.long bb), .second, .val (.long (own_f1 ff aa)), .second, .val (.long (own_f1 ff bb)), .second, .val (.int ak), .val (.ref b8), .val (.int (1 : Int32)), .unset, .unset, .unset, .unset] [(.long (own_f1 ff bb)), (.long ff), (.ref b8)])) (fun t kt => ?_) ?_
    · refine st30.trans ?_
      refine XS.aload X30.here hx rfl (hb hby at_293) rfl rfl ?_
      refine XS.lload X30.here hx rfl (hb hby at_295) rfl ?_
      refine XS.lload X30.here hx rfl (hb hby at_297) rfl ?_
      exact kt
    obtain ⟨cq31, kq31, q31a, q31b, q31c⟩ := isOf hZ rfl St30.2.1
    obtain ⟨_, _, ⟨T31, L31, k31, n31⟩, -, X31, ⟨Lc31, hQ31, l31, y31, z31⟩, st31⟩ := X30.virtualBack hx (y := (⟨"com/example/fairshed/fairshed/shedding/SicByTime", "between", "(JJ)D"⟩ : MethodName)) (z := (⟨"com/example/fairshed/fairshed/shedding/SicByTime", "between", "(JJ)D"⟩ : MethodName)) hown (mvT hZ (wd32 hw)) (mvT hZ (wd33 hw)) (notFace_of_selects (args := #[]) (mvT hZ (wd35 hw))) (mvT hZ (wd35 hw)) (mvT hZ (wd34 hw)) (by decide) (backOf (W := 0) (rmBe l Z aw hw [] b8 ff (own_f1 ff bb) f_30 nj tt ss tj0 tj1 tj2 wj0 wj1 wj2 (0 : Int64) (0 : Int32) (if (0 : Int32) < f_30 then -1 else (-1 : Int32)) (0 : Int64) T30.heap n0 (Nat.le_trans Z0 K30.1) St30 g_b8 ⟨hO30.1.1, hO30.1.2, (own_hf IJ hc3 htot).1.2⟩ (own_Sf IJ.2.1) (own_hf IJ hc3 htot).2 own_CIn) hZ (wd36 hw) (wd6 hw) (by decide) (by decide)) q31a q31c (g := (mkF m 299 #[.val (.long q0), .second, .val (.int p1), .val (.long q2), .second, .val (.long q3), .second, .val (.long q4), .second, .val (.long q5), .second, .val (.long x0), .second, .val (.long x1), .second, .val (.long x2), .second, .val (.int cc), .val (.long uu), .second, .val (.long ff), .second, .val (.long aa), .second, .val (.long bb), .second, .val (.long (own_f1 ff aa)), .second, .val (.long (own_f1 ff bb)), .second, .val (.int ak), .val (.ref b8), .val (.int (1 : Int32)), .unset, .unset, .unset, .unset] [(.long (own_f1 ff bb)), (.long ff), (.ref b8)])) rfl (by rw [hml]; rfl) (Steps.refl _) (argsL := [(.long ff), (.long (own_f1 ff bb))]) (rest := []) (lenOf pd_11 rfl) rfl (by show 2 * 0 + _ ≤ _; exact Nat.le_of_eq rfl) (hb hby at_299) (fun _ _ => ⟨rfl, rfl, (by decide : 3 + 0 ≤ _), (by decide : 24 + 0 ≤ _)⟩)
    dsimp only [Pt.U, Pt.locs, Pt.cells, Pt.slots] at X31 l31 y31 z31 st31 hQ31
    subst l31 y31 z31
    obtain ⟨F_31, k_31, rfl, N31q, Kq31, hL31, hH31, St31⟩ := hQ31
    have N31 := Fr.app N30 N31q
    have K31 : Keep h0 T31.heap [] := K30.trans Kq31 (allS (Or.inr sz_b8) all0)
    refine own_by (A' := T31.setTop (mkF m 308 #[.val (.long q0), .second, .val (.int p1), .val (.long q2), .second, .val (.long q3), .second, .val (.long q4), .second, .val (.long q5), .second, .val (.long x0), .second, .val (.long x1), .second, .val (.long x2), .second, .val (.int cc), .val (.long uu), .second, .val (.long ff), .second, .val (.long aa), .second, .val (.long bb), .second, .val (.long (own_f1 ff aa)), .second, .val (.long (own_f1 ff bb)), .second, .val (.int ak), .val (.ref b8), .val (.int (1 : Int32)), .val (.double (FP.l2d (own_S wj0 wj1 wj2 F_31 k_31))), .second, .unset, .unset] [(.long uu), (.long ff)])) (fun t kt => ?_) ?_
    · refine st31.trans ?_
      refine XS.dstore X31.here hx rfl (hb hby at_302) rfl (l' := #[.val (.long q0), .second, .val (.int p1), .val (.long q2), .second, .val (.long q3), .second, .val (.long q4), .second, .val (.long q5), .second, .val (.long x0), .second, .val (.long x1), .second, .val (.long x2), .second, .val (.int cc), .val (.long uu), .second, .val (.long ff), .second, .val (.long aa), .second, .val (.long bb), .second, .val (.long (own_f1 ff aa)), .second, .val (.long (own_f1 ff bb)), .second, .val (.int ak), .val (.ref b8), .val (.int (1 : Int32)), .val (.double (FP.l2d (own_S wj0 wj1 wj2 F_31 k_31))), .second, .unset, .unset]) rfl ?_
      refine XS.lload X31.here hx rfl (hb hby at_304) rfl ?_
      refine XS.lload X31.here hx rfl (hb hby at_306) rfl ?_
      exact kt
    obtain ⟨_, _, ⟨T32, L32, k32, n32⟩, -, X32, ⟨Lc32, hQ32, l32, y32, z32⟩, st32⟩ := Jvm.LawKit.callS X31 hx (y := (⟨"java/lang/Math", "max", "(JJ)J"⟩ : MethodName)) hown (mvT hZ (wd0 hw)) (mvT hZ (wd1 hw)) (mvT hZ (wd2 hw)) (mvT hZ (wd3 hw)) (by decide) (backOf (W := 0) (rm1 l Z aw hw [] ff uu T31.heap n0 (Nat.le_trans Z0 K31.1) ) hZ (wd3 hw) (wd2 hw) (by decide) (by decide)) (g := (mkF m 308 #[.val (.long q0), .second, .val (.int p1), .val (.long q2), .second, .val (.long q3), .second, .val (.long q4), .second, .val (.long q5), .second, .val (.long x0), .second, .val (.long x1), .second, .val (.long x2), .second, .val (.int cc), .val (.long uu), .second, .val (.long ff), .second, .val (.long aa), .second, .val (.long bb), .second, .val (.long (own_f1 ff aa)), .second, .val (.long (own_f1 ff bb)), .second, .val (.int ak), .val (.ref b8), .val (.int (1 : Int32)), .val (.double (FP.l2d (own_S wj0 wj1 wj2 F_31 k_31))), .second, .unset, .unset] [(.long uu), (.long ff)])) rfl (by rw [hml]; rfl) (argsL := [(.long ff), (.long uu)]) (rest := []) (lenOf pd_7 rfl) rfl (by show 2 * 0 + _ ≤ _; exact Nat.le_of_eq rfl) (hb hby at_308) (fun _ _ => ⟨rfl, rfl, (by decide : 3 + 0 ≤ _), (by decide : 24 + 0 ≤ _)⟩)
    dsimp only [Pt.U, Pt.locs, Pt.cells, Pt.slots] at X32 l32 y32 z32 st32 hQ32
    subst l32 y32 z32
    obtain ⟨rfl, N32q, e32⟩ := hQ32
    have N32 := Fr.app N31 N32q
    refine own_by (A' := T32.setTop (mkF m 315 #[.val (.long q0), .second, .val (.int p1), .val (.long q2), .second, .val (.long q3), .second, .val (.long q4), .second, .val (.long q5), .second, .val (.long x0), .second, .val (.long x1), .second, .val (.long x2), .second, .val (.int cc), .val (.long uu), .second, .val (.long ff), .second, .val (.long aa), .second, .val (.long bb), .second, .val (.long (own_f1 ff aa)), .second, .val (.long (own_f1 ff bb)), .second, .val (.int ak), .val (.ref b8), .val (.int (1 : Int32)), .val (.double (FP.l2d (own_S wj0 wj1 wj2 F_31 k_31))), .second, .val (.long (own_f1 ff uu)), .second] [(.int (1 : Int32))])) (fun t kt => ?_) ?_
    · refine st32 t ?_
      refine XS.lstore X32.here hx rfl (hb hby at_311) rfl (l' := #[.val (.long q0), .second, .val (.int p1), .val (.long q2), .second, .val (.long q3), .second, .val (.long q4), .second, .val (.long q5), .second, .val (.long x0), .second, .val (.long x1), .second, .val (.long x2), .second, .val (.int cc), .val (.long uu), .second, .val (.long ff), .second, .val (.long aa), .second, .val (.long bb), .second, .val (.long (own_f1 ff aa)), .second, .val (.long (own_f1 ff bb)), .second, .val (.int ak), .val (.ref b8), .val (.int (1 : Int32)), .val (.double (FP.l2d (own_S wj0 wj1 wj2 F_31 k_31))), .second, .val (.long (own_f1 ff uu)), .second]) rfl ?_
      refine XS.iload X32.here hx rfl (hb hby at_313) rfl ?_
      exact kt
    have hc315_33 : ¬ ((1 : Int32) = (0 : Int32)) := by decide
    refine own_by (A' := T32.setTop (mkF m 332 #[.val (.long q0), .second, .val (.int p1), .val (.long q2), .second, .val (.long q3), .second, .val (.long q4), .second, .val (.long q5), .second, .val (.long x0), .second, .val (.long x1), .second, .val (.long x2), .second, .val (.int cc), .val (.long uu), .second, .val (.long ff), .second, .val (.long aa), .second, .val (.long bb), .second, .val (.long (own_f1 ff aa)), .second, .val (.long (own_f1 ff bb)), .second, .val (.int ak), .val (.ref b8), .val (.int (1 : Int32)), .val (.double (FP.l2d (own_S wj0 wj1 wj2 F_31 k_31))), .second, .val (.long (own_f1 ff uu)), .second] [(.long (own_f1 ff bb)), (.long (own_f1 ff uu)), (.long x2), (.long x1), (.long x0), (.int cc), (.double (FP.l2d (own_S wj0 wj1 wj2 F_31 k_31)))])) (fun t kt => ?_) ?_
    · refine XS.ifNo X32.here hx rfl (hb hby at_315) rfl ((if0 _ _).trans (feq hc315_33).1) ?_
      refine XS.dload X32.here hx rfl (hb hby at_318) rfl ?_
      refine XS.iload X32.here hx rfl (hb hby at_320) rfl ?_
      refine XS.lload X32.here hx rfl (hb hby at_322) rfl ?_
      refine XS.lload X32.here hx rfl (hb hby at_324) rfl ?_
      refine XS.lload X32.here hx rfl (hb hby at_326) rfl ?_
      refine XS.lload X32.here hx rfl (hb hby at_328) rfl ?_
      refine XS.lload X32.here hx rfl (hb hby at_330) rfl ?_
      exact kt
    obtain ⟨_, _, ⟨T34, L34, k34, n34⟩, -, X34, ⟨Lc34, hQ34, l34, y34, z34⟩, st34⟩ := Jvm.LawKit.callS X32 hx (y := (⟨"com/example/fairshed/fairshed/shedding/SicByTimeForgetPinLaw", "ref", "(IJJJJJ)D"⟩ : MethodName)) hown (mvT hZ (wd49 hw)) (mvT hZ (wd50 hw)) (mvT hZ (wd51 hw)) (mvT hZ (wd52 hw)) (by decide) (backOf (W := 2) (rm8 l Z aw hw [] cc x0 x1 x2 (own_f1 ff uu) (own_f1 ff bb) T31.heap n0 (Nat.le_trans Z0 K31.1) ) hZ (wd52 hw) (wd51 hw) (by decide) (by decide)) (g := (mkF m 332 #[.val (.long q0), .second, .val (.int p1), .val (.long q2), .second, .val (.long q3), .second, .val (.long q4), .second, .val (.long q5), .second, .val (.long x0), .second, .val (.long x1), .second, .val (.long x2), .second, .val (.int cc), .val (.long uu), .second, .val (.long ff), .second, .val (.long aa), .second, .val (.long bb), .second, .val (.long (own_f1 ff aa)), .second, .val (.long (own_f1 ff bb)), .second, .val (.int ak), .val (.ref b8), .val (.int (1 : Int32)), .val (.double (FP.l2d (own_S wj0 wj1 wj2 F_31 k_31))), .second, .val (.long (own_f1 ff uu)), .second] [(.long (own_f1 ff bb)), (.long (own_f1 ff uu)), (.long x2), (.long x1), (.long x0), (.int cc), (.double (FP.l2d (own_S wj0 wj1 wj2 F_31 k_31)))])) rfl (by rw [hml]; rfl) (argsL := [(.int cc), (.long x0), (.long x1), (.long x2), (.long (own_f1 ff uu)), (.long (own_f1 ff bb))]) (rest := [(.double (FP.l2d (own_S wj0 wj1 wj2 F_31 k_31)))]) (lenOf pd_12 rfl) rfl (by show 2 * 0 + _ ≤ _; exact Nat.le_of_eq rfl) (hb hby at_332) (fun _ _ => ⟨rfl, e32, (by decide : 3 + 0 ≤ _), (by decide : 24 + 0 ≤ _)⟩)
    dsimp only [Pt.U, Pt.locs, Pt.cells, Pt.slots] at X34 l34 y34 z34 st34 hQ34
    subst l34 y34 z34
    obtain ⟨rfl, N34q, e34⟩ := hQ34
    have N34 := Fr.app N32 N34q
    refine own_by (A' := T34.setTop (mkF m 336 #[.val (.long q0), .second, .val (.int p1), .val (.long q2), .second, .val (.long q3), .second, .val (.long q4), .second, .val (.long q5), .second, .val (.long x0), .second, .val (.long x1), .second, .val (.long x2), .second, .val (.int cc), .val (.long uu), .second, .val (.long ff), .second, .val (.long aa), .second, .val (.long bb), .second, .val (.long (own_f1 ff aa)), .second, .val (.long (own_f1 ff bb)), .second, .val (.int ak), .val (.ref b8), .val (.int (1 : Int32)), .val (.double (FP.l2d (own_S wj0 wj1 wj2 F_31 k_31))), .second, .val (.long (own_f1 ff uu)), .second] [(.int (lcmpW (own_S wj0 wj1 wj2 F_31 k_31) (own_ref cc x0 x1 x2 (own_f1 ff uu) (own_f1 ff bb))))])) (fun t kt => ?_) ?_
    · refine st34 t ?_
      refine XS.dcmpS X34.here hx rfl (hb hby at_335) rfl (v := (lcmpW (own_S wj0 wj1 wj2 F_31 k_31) (own_ref cc x0 x1 x2 (own_f1 ff uu) (own_f1 ff bb)))) (dcmpV_w (own_53 (own_sB _ _ (own_hf IJ hc3 htot).2)) (own_53 (own_rB _)) _) ?_
      exact kt
    have hc336_35 : (own_S wj0 wj1 wj2 F_31 k_31) = (own_ref cc x0 x1 x2 (own_f1 ff uu) (own_f1 ff bb)) := own_eq1 IJ hc3 htot hO30 hL31 hH31
    refine own_by (A' := T34.setTop (mkF m 344 #[.val (.long q0), .second, .val (.int p1), .val (.long q2), .second, .val (.long q3), .second, .val (.long q4), .second, .val (.long q5), .second, .val (.long x0), .second, .val (.long x1), .second, .val (.long x2), .second, .val (.int cc), .val (.long uu), .second, .val (.long ff), .second, .val (.long aa), .second, .val (.long bb), .second, .val (.long (own_f1 ff aa)), .second, .val (.long (own_f1 ff bb)), .second, .val (.int ak), .val (.ref b8), .val (.int (1 : Int32)), .val (.double (FP.l2d (own_S wj0 wj1 wj2 F_31 k_31))), .second, .val (.long (own_f1 ff uu)), .second] [(.int (1 : Int32))])) (fun t kt => ?_) ?_
    · refine XS.ifNo X34.here hx rfl (hb hby at_336) rfl ((if0 _ _).trans (teq ((lw_eq _ _).mpr hc336_35)).2) ?_
      refine XS.iconst X34.here hx rfl (hb hby at_339) ?_
      refine XS.goto X34.here hx rfl (pc0 := 340) (pc' := 344) rfl (hb hby at_340) (by decide) (by decide) ?_
      exact kt
    obtain ⟨fs, hr, hrun, hended, hW, hsame⟩ := X34.leave (v := some (.int (1 : Int32))) (fun h => by rw [Bd.returns] at h; cases h)
    refine ⟨_, _, ?_, hrun, hended, _, _, rfl, ?_, ⟨_, rfl⟩, hW, hsame.mono (by decide) (by decide)⟩
    · exact retN X34 hx (t := .boolean) Bd.returns (by simp) (hb hby at_344) hr
    · show Q0 Z q0 p1 q2 q3 q4 q5 h0 n0 _ T34.heap _
      rw [e34]
      exact ⟨rfl, N34⟩
  · refine own_by (A' := TJ10.setTop (mkF m 253 #[.val (.long q0), .second, .val (.int p1), .val (.long q2), .second, .val (.long q3), .second, .val (.long q4), .second, .val (.long q5), .second, .val (.long x0), .second, .val (.long x1), .second, .val (.long x2), .second, .val (.int cc), .val (.long uu), .second, .val (.long ff), .second, .val (.long aa), .second, .val (.long bb), .second, .val (.long (own_f1 ff aa)), .second, .val (.long (own_f1 ff bb)), .second, .val (.int ak), .val (.ref b8), .val (.int (1 : Int32)), .unset, .unset, .unset, .unset] [(.long (own_f1 ff aa)), (.long ff), (.ref b8)])) (fun t kt => ?_) ?_
    · refine XS.ifNo XJ10.here hx rfl (hb hby at_244) rfl ((if0 _ _).trans (feq hc244_29).1) ?_
      refine XS.aload XJ10.here hx rfl (hb hby at_247) rfl rfl ?_
      refine XS.lload XJ10.here hx rfl (hb hby at_249) rfl ?_
      refine XS.lload XJ10.here hx rfl (hb hby at_251) rfl ?_
      exact kt
    obtain ⟨cq36, kq36, q36a, q36b, q36c⟩ := isOf hZ eJ10 StJ.2.1
    obtain ⟨_, _, ⟨T36, L36, k36, n36⟩, -, X36, ⟨Lc36, hQ36, l36, y36, z36⟩, st36⟩ := XJ10.virtualBack hx (y := (⟨"com/example/fairshed/fairshed/shedding/SicByTime", "between", "(JJ)D"⟩ : MethodName)) (z := (⟨"com/example/fairshed/fairshed/shedding/SicByTime", "between", "(JJ)D"⟩ : MethodName)) hown (mvT hZ (wd32 hw)) (mvT hZ (wd33 hw)) (notFace_of_selects (args := #[]) (mvT hZ (wd35 hw))) (mvT hZ (wd35 hw)) (mvT hZ (wd34 hw)) (by decide) (backOf (W := 0) (rmBe l Z aw hw [] b8 ff (own_f1 ff aa) (0 : Int32) nj tt ss tj0 tj1 tj2 wj0 wj1 wj2 (0 : Int64) (0 : Int32) (-1 : Int32) (0 : Int64) hJ10 n0 (Nat.le_trans Z0 KJ10.1) StJ g_b8 ⟨(by decide), (own_hf IJ hc3 htot).1.1, (own_hf IJ hc3 htot).1.2⟩ (own_Sf IJ.2.1) (own_hf IJ hc3 htot).2 (Or.inl (by decide))) hZ (wd36 hw) (wd6 hw) (by decide) (by decide)) q36a q36c (g := (mkF m 253 #[.val (.long q0), .second, .val (.int p1), .val (.long q2), .second, .val (.long q3), .second, .val (.long q4), .second, .val (.long q5), .second, .val (.long x0), .second, .val (.long x1), .second, .val (.long x2), .second, .val (.int cc), .val (.long uu), .second, .val (.long ff), .second, .val (.long aa), .second, .val (.long bb), .second, .val (.long (own_f1 ff aa)), .second, .val (.long (own_f1 ff bb)), .second, .val (.int ak), .val (.ref b8), .val (.int (1 : Int32)), .unset, .unset, .unset, .unset] [(.long (own_f1 ff aa)), (.long ff), (.ref b8)])) rfl (by rw [hml]; rfl) (Steps.refl _) (argsL := [(.long ff), (.long (own_f1 ff aa))]) (rest := []) (lenOf pd_11 rfl) rfl (by show 2 * 0 + _ ≤ _; exact Nat.le_of_eq rfl) (hb hby at_253) (fun _ _ => ⟨rfl, eJ10, (by decide : 3 + 0 ≤ _), (by decide : 24 + 0 ≤ _)⟩)
    dsimp only [Pt.U, Pt.locs, Pt.cells, Pt.slots] at X36 l36 y36 z36 st36 hQ36
    subst l36 y36 z36
    obtain ⟨F_36, k_36, rfl, N36q, Kq36, hL36, hH36, St36⟩ := hQ36
    have N36 := Fr.app NJ10 N36q
    have K36 : Keep h0 T36.heap [] := KJ10.trans Kq36 (allS (Or.inr sz_b8) all0)
    refine own_by (A' := T36.setTop (mkF m 272 #[.val (.long q0), .second, .val (.int p1), .val (.long q2), .second, .val (.long q3), .second, .val (.long q4), .second, .val (.long q5), .second, .val (.long x0), .second, .val (.long x1), .second, .val (.long x2), .second, .val (.int cc), .val (.long uu), .second, .val (.long ff), .second, .val (.long aa), .second, .val (.long bb), .second, .val (.long (own_f1 ff aa)), .second, .val (.long (own_f1 ff bb)), .second, .val (.int ak), .val (.ref b8), .val (.int (1 : Int32)), .val (.double (FP.l2d (own_S wj0 wj1 wj2 F_36 k_36))), .second, .unset, .unset] [(.long (own_f1 ff aa)), (.long ff), (.long x2), (.long x1), (.long x0), (.int cc), (.double (FP.l2d (own_S wj0 wj1 wj2 F_36 k_36)))])) (fun t kt => ?_) ?_
    · refine st36.trans ?_
      refine XS.dstore X36.here hx rfl (hb hby at_256) rfl (l' := #[.val (.long q0), .second, .val (.int p1), .val (.long q2), .second, .val (.long q3), .second, .val (.long q4), .second, .val (.long q5), .second, .val (.long x0), .second, .val (.long x1), .second, .val (.long x2), .second, .val (.int cc), .val (.long uu), .second, .val (.long ff), .second, .val (.long aa), .second, .val (.long bb), .second, .val (.long (own_f1 ff aa)), .second, .val (.long (own_f1 ff bb)), .second, .val (.int ak), .val (.ref b8), .val (.int (1 : Int32)), .val (.double (FP.l2d (own_S wj0 wj1 wj2 F_36 k_36))), .second, .unset, .unset]) rfl ?_
      refine XS.dload X36.here hx rfl (hb hby at_258) rfl ?_
      refine XS.iload X36.here hx rfl (hb hby at_260) rfl ?_
      refine XS.lload X36.here hx rfl (hb hby at_262) rfl ?_
      refine XS.lload X36.here hx rfl (hb hby at_264) rfl ?_
      refine XS.lload X36.here hx rfl (hb hby at_266) rfl ?_
      refine XS.lload X36.here hx rfl (hb hby at_268) rfl ?_
      refine XS.lload X36.here hx rfl (hb hby at_270) rfl ?_
      exact kt
    obtain ⟨_, _, ⟨T37, L37, k37, n37⟩, -, X37, ⟨Lc37, hQ37, l37, y37, z37⟩, st37⟩ := Jvm.LawKit.callS X36 hx (y := (⟨"com/example/fairshed/fairshed/shedding/SicByTimeForgetPinLaw", "ref", "(IJJJJJ)D"⟩ : MethodName)) hown (mvT hZ (wd49 hw)) (mvT hZ (wd50 hw)) (mvT hZ (wd51 hw)) (mvT hZ (wd52 hw)) (by decide) (backOf (W := 2) (rm8 l Z aw hw [] cc x0 x1 x2 ff (own_f1 ff aa) T36.heap n0 (Nat.le_trans Z0 K36.1) ) hZ (wd52 hw) (wd51 hw) (by decide) (by decide)) (g := (mkF m 272 #[.val (.long q0), .second, .val (.int p1), .val (.long q2), .second, .val (.long q3), .second, .val (.long q4), .second, .val (.long q5), .second, .val (.long x0), .second, .val (.long x1), .second, .val (.long x2), .second, .val (.int cc), .val (.long uu), .second, .val (.long ff), .second, .val (.long aa), .second, .val (.long bb), .second, .val (.long (own_f1 ff aa)), .second, .val (.long (own_f1 ff bb)), .second, .val (.int ak), .val (.ref b8), .val (.int (1 : Int32)), .val (.double (FP.l2d (own_S wj0 wj1 wj2 F_36 k_36))), .second, .unset, .unset] [(.long (own_f1 ff aa)), (.long ff), (.long x2), (.long x1), (.long x0), (.int cc), (.double (FP.l2d (own_S wj0 wj1 wj2 F_36 k_36)))])) rfl (by rw [hml]; rfl) (argsL := [(.int cc), (.long x0), (.long x1), (.long x2), (.long ff), (.long (own_f1 ff aa))]) (rest := [(.double (FP.l2d (own_S wj0 wj1 wj2 F_36 k_36)))]) (lenOf pd_12 rfl) rfl (by show 2 * 0 + _ ≤ _; exact Nat.le_of_eq rfl) (hb hby at_272) (fun _ _ => ⟨rfl, rfl, (by decide : 3 + 0 ≤ _), (by decide : 24 + 0 ≤ _)⟩)
    dsimp only [Pt.U, Pt.locs, Pt.cells, Pt.slots] at X37 l37 y37 z37 st37 hQ37
    subst l37 y37 z37
    obtain ⟨rfl, N37q, e37⟩ := hQ37
    have N37 := Fr.app N36 N37q
    refine own_by (A' := T37.setTop (mkF m 276 #[.val (.long q0), .second, .val (.int p1), .val (.long q2), .second, .val (.long q3), .second, .val (.long q4), .second, .val (.long q5), .second, .val (.long x0), .second, .val (.long x1), .second, .val (.long x2), .second, .val (.int cc), .val (.long uu), .second, .val (.long ff), .second, .val (.long aa), .second, .val (.long bb), .second, .val (.long (own_f1 ff aa)), .second, .val (.long (own_f1 ff bb)), .second, .val (.int ak), .val (.ref b8), .val (.int (1 : Int32)), .val (.double (FP.l2d (own_S wj0 wj1 wj2 F_36 k_36))), .second, .unset, .unset] [(.int (lcmpW (own_S wj0 wj1 wj2 F_36 k_36) (own_ref cc x0 x1 x2 ff (own_f1 ff aa))))])) (fun t kt => ?_) ?_
    · refine st37 t ?_
      refine XS.dcmpS X37.here hx rfl (hb hby at_275) rfl (v := (lcmpW (own_S wj0 wj1 wj2 F_36 k_36) (own_ref cc x0 x1 x2 ff (own_f1 ff aa)))) (dcmpV_w (own_53 (own_sB _ _ (own_hf IJ hc3 htot).2)) (own_53 (own_rB _)) _) ?_
      exact kt
    have hc276_38 : (own_S wj0 wj1 wj2 F_36 k_36) = (own_ref cc x0 x1 x2 ff (own_f1 ff aa)) := own_eq0 IJ hc3 htot hL36 hH36
    refine own_by (A' := T37.setTop (mkF m 290 #[.val (.long q0), .second, .val (.int p1), .val (.long q2), .second, .val (.long q3), .second, .val (.long q4), .second, .val (.long q5), .second, .val (.long x0), .second, .val (.long x1), .second, .val (.long x2), .second, .val (.int cc), .val (.long uu), .second, .val (.long ff), .second, .val (.long aa), .second, .val (.long bb), .second, .val (.long (own_f1 ff aa)), .second, .val (.long (own_f1 ff bb)), .second, .val (.int ak), .val (.ref b8), .val (.int (1 : Int32)), .val (.double (FP.l2d (own_S wj0 wj1 wj2 F_36 k_36))), .second, .unset, .unset] [(.long uu), (.ref b8)])) (fun t kt => ?_) ?_
    · refine XS.ifNo X37.here hx rfl (hb hby at_276) rfl ((if0 _ _).trans (teq ((lw_eq _ _).mpr hc276_38)).2) ?_
      refine XS.iconst X37.here hx rfl (hb hby at_279) ?_
      refine XS.goto X37.here hx rfl (pc0 := 280) (pc' := 284) rfl (hb hby at_280) (by decide) (by decide) ?_
      refine XS.istore X37.here hx rfl (hb hby at_284) rfl (l' := #[.val (.long q0), .second, .val (.int p1), .val (.long q2), .second, .val (.long q3), .second, .val (.long q4), .second, .val (.long q5), .second, .val (.long x0), .second, .val (.long x1), .second, .val (.long x2), .second, .val (.int cc), .val (.long uu), .second, .val (.long ff), .second, .val (.long aa), .second, .val (.long bb), .second, .val (.long (own_f1 ff aa)), .second, .val (.long (own_f1 ff bb)), .second, .val (.int ak), .val (.ref b8), .val (.int (1 : Int32)), .val (.double (FP.l2d (own_S wj0 wj1 wj2 F_36 k_36))), .second, .unset, .unset]) rfl ?_
      refine XS.aload X37.here hx rfl (hb hby at_286) rfl rfl ?_
      refine XS.lload X37.here hx rfl (hb hby at_288) rfl ?_
      exact kt
    obtain ⟨cq39, kq39, q39a, q39b, q39c⟩ := isOf hZ e37 St36.2.1
    obtain ⟨_, _, ⟨T39, L39, k39, n39⟩, -, X39, ⟨Lc39, hQ39, l39, y39, z39⟩, st39⟩ := X37.virtualBack hx (y := (⟨"com/example/fairshed/fairshed/shedding/SicByTime", "forget", "(J)V"⟩ : MethodName)) (z := (⟨"com/example/fairshed/fairshed/shedding/SicByTime", "forget", "(J)V"⟩ : MethodName)) hown (mvT hZ (wd21 hw)) (mvT hZ (wd22 hw)) (notFace_of_selects (args := #[]) (mvT hZ (wd24 hw))) (mvT hZ (wd24 hw)) (mvT hZ (wd23 hw)) (by decide) (backOf (W := 0) (rmFou l Z aw hw [] b8 uu tt ss tj0 tj1 tj2 wj0 wj1 wj2 ff F_36 k_36 (own_S wj0 wj1 wj2 F_36 k_36) nj T36.heap n0 (Nat.le_trans Z0 K36.1) St36 g_b8 (own_hf IJ hc3 htot).1) hZ (wd25 hw) (wd6 hw) (by decide) (by decide)) q39a q39c (g := (mkF m 290 #[.val (.long q0), .second, .val (.int p1), .val (.long q2), .second, .val (.long q3), .second, .val (.long q4), .second, .val (.long q5), .second, .val (.long x0), .second, .val (.long x1), .second, .val (.long x2), .second, .val (.int cc), .val (.long uu), .second, .val (.long ff), .second, .val (.long aa), .second, .val (.long bb), .second, .val (.long (own_f1 ff aa)), .second, .val (.long (own_f1 ff bb)), .second, .val (.int ak), .val (.ref b8), .val (.int (1 : Int32)), .val (.double (FP.l2d (own_S wj0 wj1 wj2 F_36 k_36))), .second, .unset, .unset] [(.long uu), (.ref b8)])) rfl (by rw [hml]; rfl) (Steps.refl _) (argsL := [(.long uu)]) (rest := []) (lenOf pd_10 rfl) rfl (by show 2 * 0 + _ ≤ _; exact Nat.le_of_eq rfl) (hb hby at_290) (fun _ _ => ⟨rfl, e37, (by decide : 3 + 0 ≤ _), (by decide : 24 + 0 ≤ _)⟩)
    dsimp only [Pt.U, Pt.locs, Pt.cells, Pt.slots] at X39 l39 y39 z39 st39 hQ39
    subst l39 y39 z39
    obtain ⟨rfl, N39q, Kq39, f_39, G_39, St39, hO39, hG39⟩ := hQ39
    subst hG39
    have N39 := Fr.app N37 N39q
    have K39 : Keep h0 T39.heap [] := K36.trans Kq39 (allS (Or.inr sz_b8) all0)
    refine own_by (A' := T39.setTop (mkF m 299 #[.val (.long q0), .second, .val (.int p1), .val (.long q2), .second, .val (.long q3), .second, .val (.long q4), .second, .val (.long q5), .second, .val (.long x0), .second, .val (.long x1), .second, .val (.long x2), .second, .val (.int cc), .val (.long uu), .second, .val (.long ff), .second, .val (.long aa), .second, .val (.long bb), .second, .val (.long (own_f1 ff aa)), .second, .val (.long (own_f1 ff bb)), .second, .val (.int ak), .val (.ref b8), .val (.int (1 : Int32)), .val (.double (FP.l2d (own_S wj0 wj1 wj2 F_36 k_36))), .second, .unset, .unset] [(.long (own_f1 ff bb)), (.long ff), (.ref b8)])) (fun t kt => ?_) ?_
    · refine st39.trans ?_
      refine XS.aload X39.here hx rfl (hb hby at_293) rfl rfl ?_
      refine XS.lload X39.here hx rfl (hb hby at_295) rfl ?_
      refine XS.lload X39.here hx rfl (hb hby at_297) rfl ?_
      exact kt
    obtain ⟨cq40, kq40, q40a, q40b, q40c⟩ := isOf hZ rfl St39.2.1
    obtain ⟨_, _, ⟨T40, L40, k40, n40⟩, -, X40, ⟨Lc40, hQ40, l40, y40, z40⟩, st40⟩ := X39.virtualBack hx (y := (⟨"com/example/fairshed/fairshed/shedding/SicByTime", "between", "(JJ)D"⟩ : MethodName)) (z := (⟨"com/example/fairshed/fairshed/shedding/SicByTime", "between", "(JJ)D"⟩ : MethodName)) hown (mvT hZ (wd32 hw)) (mvT hZ (wd33 hw)) (notFace_of_selects (args := #[]) (mvT hZ (wd35 hw))) (mvT hZ (wd35 hw)) (mvT hZ (wd34 hw)) (by decide) (backOf (W := 0) (rmBe l Z aw hw [] b8 ff (own_f1 ff bb) f_39 nj tt ss tj0 tj1 tj2 wj0 wj1 wj2 ff F_36 (if F_36 < f_39 then -1 else k_36) (own_S wj0 wj1 wj2 F_36 k_36) T39.heap n0 (Nat.le_trans Z0 K39.1) St39 g_b8 ⟨hO39.1.1, hO39.1.2, (own_hf IJ hc3 htot).1.2⟩ (own_Sf IJ.2.1) (own_hf IJ hc3 htot).2 (own_CIf (own_hf IJ hc3 htot).1 hO39.1.1 hL36 hH36 (own_maxm _ _).2.1)) hZ (wd36 hw) (wd6 hw) (by decide) (by decide)) q40a q40c (g := (mkF m 299 #[.val (.long q0), .second, .val (.int p1), .val (.long q2), .second, .val (.long q3), .second, .val (.long q4), .second, .val (.long q5), .second, .val (.long x0), .second, .val (.long x1), .second, .val (.long x2), .second, .val (.int cc), .val (.long uu), .second, .val (.long ff), .second, .val (.long aa), .second, .val (.long bb), .second, .val (.long (own_f1 ff aa)), .second, .val (.long (own_f1 ff bb)), .second, .val (.int ak), .val (.ref b8), .val (.int (1 : Int32)), .val (.double (FP.l2d (own_S wj0 wj1 wj2 F_36 k_36))), .second, .unset, .unset] [(.long (own_f1 ff bb)), (.long ff), (.ref b8)])) rfl (by rw [hml]; rfl) (Steps.refl _) (argsL := [(.long ff), (.long (own_f1 ff bb))]) (rest := []) (lenOf pd_11 rfl) rfl (by show 2 * 0 + _ ≤ _; exact Nat.le_of_eq rfl) (hb hby at_299) (fun _ _ => ⟨rfl, rfl, (by decide : 3 + 0 ≤ _), (by decide : 24 + 0 ≤ _)⟩)
    dsimp only [Pt.U, Pt.locs, Pt.cells, Pt.slots] at X40 l40 y40 z40 st40 hQ40
    subst l40 y40 z40
    obtain ⟨F_40, k_40, rfl, N40q, Kq40, hL40, hH40, St40⟩ := hQ40
    have N40 := Fr.app N39 N40q
    have K40 : Keep h0 T40.heap [] := K39.trans Kq40 (allS (Or.inr sz_b8) all0)
    refine own_by (A' := T40.setTop (mkF m 308 #[.val (.long q0), .second, .val (.int p1), .val (.long q2), .second, .val (.long q3), .second, .val (.long q4), .second, .val (.long q5), .second, .val (.long x0), .second, .val (.long x1), .second, .val (.long x2), .second, .val (.int cc), .val (.long uu), .second, .val (.long ff), .second, .val (.long aa), .second, .val (.long bb), .second, .val (.long (own_f1 ff aa)), .second, .val (.long (own_f1 ff bb)), .second, .val (.int ak), .val (.ref b8), .val (.int (1 : Int32)), .val (.double (FP.l2d (own_S wj0 wj1 wj2 F_40 k_40))), .second, .unset, .unset] [(.long uu), (.long ff)])) (fun t kt => ?_) ?_
    · refine st40.trans ?_
      refine XS.dstore X40.here hx rfl (hb hby at_302) rfl (l' := #[.val (.long q0), .second, .val (.int p1), .val (.long q2), .second, .val (.long q3), .second, .val (.long q4), .second, .val (.long q5), .second, .val (.long x0), .second, .val (.long x1), .second, .val (.long x2), .second, .val (.int cc), .val (.long uu), .second, .val (.long ff), .second, .val (.long aa), .second, .val (.long bb), .second, .val (.long (own_f1 ff aa)), .second, .val (.long (own_f1 ff bb)), .second, .val (.int ak), .val (.ref b8), .val (.int (1 : Int32)), .val (.double (FP.l2d (own_S wj0 wj1 wj2 F_40 k_40))), .second, .unset, .unset]) rfl ?_
      refine XS.lload X40.here hx rfl (hb hby at_304) rfl ?_
      refine XS.lload X40.here hx rfl (hb hby at_306) rfl ?_
      exact kt
    obtain ⟨_, _, ⟨T41, L41, k41, n41⟩, -, X41, ⟨Lc41, hQ41, l41, y41, z41⟩, st41⟩ := Jvm.LawKit.callS X40 hx (y := (⟨"java/lang/Math", "max", "(JJ)J"⟩ : MethodName)) hown (mvT hZ (wd0 hw)) (mvT hZ (wd1 hw)) (mvT hZ (wd2 hw)) (mvT hZ (wd3 hw)) (by decide) (backOf (W := 0) (rm1 l Z aw hw [] ff uu T40.heap n0 (Nat.le_trans Z0 K40.1) ) hZ (wd3 hw) (wd2 hw) (by decide) (by decide)) (g := (mkF m 308 #[.val (.long q0), .second, .val (.int p1), .val (.long q2), .second, .val (.long q3), .second, .val (.long q4), .second, .val (.long q5), .second, .val (.long x0), .second, .val (.long x1), .second, .val (.long x2), .second, .val (.int cc), .val (.long uu), .second, .val (.long ff), .second, .val (.long aa), .second, .val (.long bb), .second, .val (.long (own_f1 ff aa)), .second, .val (.long (own_f1 ff bb)), .second, .val (.int ak), .val (.ref b8), .val (.int (1 : Int32)), .val (.double (FP.l2d (own_S wj0 wj1 wj2 F_40 k_40))), .second, .unset, .unset] [(.long uu), (.long ff)])) rfl (by rw [hml]; rfl) (argsL := [(.long ff), (.long uu)]) (rest := []) (lenOf pd_7 rfl) rfl (by show 2 * 0 + _ ≤ _; exact Nat.le_of_eq rfl) (hb hby at_308) (fun _ _ => ⟨rfl, rfl, (by decide : 3 + 0 ≤ _), (by decide : 24 + 0 ≤ _)⟩)
    dsimp only [Pt.U, Pt.locs, Pt.cells, Pt.slots] at X41 l41 y41 z41 st41 hQ41
    subst l41 y41 z41
    obtain ⟨rfl, N41q, e41⟩ := hQ41
    have N41 := Fr.app N40 N41q
    refine own_by (A' := T41.setTop (mkF m 315 #[.val (.long q0), .second, .val (.int p1), .val (.long q2), .second, .val (.long q3), .second, .val (.long q4), .second, .val (.long q5), .second, .val (.long x0), .second, .val (.long x1), .second, .val (.long x2), .second, .val (.int cc), .val (.long uu), .second, .val (.long ff), .second, .val (.long aa), .second, .val (.long bb), .second, .val (.long (own_f1 ff aa)), .second, .val (.long (own_f1 ff bb)), .second, .val (.int ak), .val (.ref b8), .val (.int (1 : Int32)), .val (.double (FP.l2d (own_S wj0 wj1 wj2 F_40 k_40))), .second, .val (.long (own_f1 ff uu)), .second] [(.int (1 : Int32))])) (fun t kt => ?_) ?_
    · refine st41 t ?_
      refine XS.lstore X41.here hx rfl (hb hby at_311) rfl (l' := #[.val (.long q0), .second, .val (.int p1), .val (.long q2), .second, .val (.long q3), .second, .val (.long q4), .second, .val (.long q5), .second, .val (.long x0), .second, .val (.long x1), .second, .val (.long x2), .second, .val (.int cc), .val (.long uu), .second, .val (.long ff), .second, .val (.long aa), .second, .val (.long bb), .second, .val (.long (own_f1 ff aa)), .second, .val (.long (own_f1 ff bb)), .second, .val (.int ak), .val (.ref b8), .val (.int (1 : Int32)), .val (.double (FP.l2d (own_S wj0 wj1 wj2 F_40 k_40))), .second, .val (.long (own_f1 ff uu)), .second]) rfl ?_
      refine XS.iload X41.here hx rfl (hb hby at_313) rfl ?_
      exact kt
    have hc315_42 : ¬ ((1 : Int32) = (0 : Int32)) := by decide
    refine own_by (A' := T41.setTop (mkF m 332 #[.val (.long q0), .second, .val (.int p1), .val (.long q2), .second, .val (.long q3), .second, .val (.long q4), .second, .val (.long q5), .second, .val (.long x0), .second, .val (.long x1), .second, .val (.long x2), .second, .val (.int cc), .val (.long uu), .second, .val (.long ff), .second, .val (.long aa), .second, .val (.long bb), .second, .val (.long (own_f1 ff aa)), .second, .val (.long (own_f1 ff bb)), .second, .val (.int ak), .val (.ref b8), .val (.int (1 : Int32)), .val (.double (FP.l2d (own_S wj0 wj1 wj2 F_40 k_40))), .second, .val (.long (own_f1 ff uu)), .second] [(.long (own_f1 ff bb)), (.long (own_f1 ff uu)), (.long x2), (.long x1), (.long x0), (.int cc), (.double (FP.l2d (own_S wj0 wj1 wj2 F_40 k_40)))])) (fun t kt => ?_) ?_
    · refine XS.ifNo X41.here hx rfl (hb hby at_315) rfl ((if0 _ _).trans (feq hc315_42).1) ?_
      refine XS.dload X41.here hx rfl (hb hby at_318) rfl ?_
      refine XS.iload X41.here hx rfl (hb hby at_320) rfl ?_
      refine XS.lload X41.here hx rfl (hb hby at_322) rfl ?_
      refine XS.lload X41.here hx rfl (hb hby at_324) rfl ?_
      refine XS.lload X41.here hx rfl (hb hby at_326) rfl ?_
      refine XS.lload X41.here hx rfl (hb hby at_328) rfl ?_
      refine XS.lload X41.here hx rfl (hb hby at_330) rfl ?_
      exact kt
    obtain ⟨_, _, ⟨T43, L43, k43, n43⟩, -, X43, ⟨Lc43, hQ43, l43, y43, z43⟩, st43⟩ := Jvm.LawKit.callS X41 hx (y := (⟨"com/example/fairshed/fairshed/shedding/SicByTimeForgetPinLaw", "ref", "(IJJJJJ)D"⟩ : MethodName)) hown (mvT hZ (wd49 hw)) (mvT hZ (wd50 hw)) (mvT hZ (wd51 hw)) (mvT hZ (wd52 hw)) (by decide) (backOf (W := 2) (rm8 l Z aw hw [] cc x0 x1 x2 (own_f1 ff uu) (own_f1 ff bb) T40.heap n0 (Nat.le_trans Z0 K40.1) ) hZ (wd52 hw) (wd51 hw) (by decide) (by decide)) (g := (mkF m 332 #[.val (.long q0), .second, .val (.int p1), .val (.long q2), .second, .val (.long q3), .second, .val (.long q4), .second, .val (.long q5), .second, .val (.long x0), .second, .val (.long x1), .second, .val (.long x2), .second, .val (.int cc), .val (.long uu), .second, .val (.long ff), .second, .val (.long aa), .second, .val (.long bb), .second, .val (.long (own_f1 ff aa)), .second, .val (.long (own_f1 ff bb)), .second, .val (.int ak), .val (.ref b8), .val (.int (1 : Int32)), .val (.double (FP.l2d (own_S wj0 wj1 wj2 F_40 k_40))), .second, .val (.long (own_f1 ff uu)), .second] [(.long (own_f1 ff bb)), (.long (own_f1 ff uu)), (.long x2), (.long x1), (.long x0), (.int cc), (.double (FP.l2d (own_S wj0 wj1 wj2 F_40 k_40)))])) rfl (by rw [hml]; rfl) (argsL := [(.int cc), (.long x0), (.long x1), (.long x2), (.long (own_f1 ff uu)), (.long (own_f1 ff bb))]) (rest := [(.double (FP.l2d (own_S wj0 wj1 wj2 F_40 k_40)))]) (lenOf pd_12 rfl) rfl (by show 2 * 0 + _ ≤ _; exact Nat.le_of_eq rfl) (hb hby at_332) (fun _ _ => ⟨rfl, e41, (by decide : 3 + 0 ≤ _), (by decide : 24 + 0 ≤ _)⟩)
    dsimp only [Pt.U, Pt.locs, Pt.cells, Pt.slots] at X43 l43 y43 z43 st43 hQ43
    subst l43 y43 z43
    obtain ⟨rfl, N43q, e43⟩ := hQ43
    have N43 := Fr.app N41 N43q
    refine own_by (A' := T43.setTop (mkF m 336 #[.val (.long q0), .second, .val (.int p1), .val (.long q2), .second, .val (.long q3), .second, .val (.long q4), .second, .val (.long q5), .second, .val (.long x0), .second, .val (.long x1), .second, .val (.long x2), .second, .val (.int cc), .val (.long uu), .second, .val (.long ff), .second, .val (.long aa), .second, .val (.long bb), .second, .val (.long (own_f1 ff aa)), .second, .val (.long (own_f1 ff bb)), .second, .val (.int ak), .val (.ref b8), .val (.int (1 : Int32)), .val (.double (FP.l2d (own_S wj0 wj1 wj2 F_40 k_40))), .second, .val (.long (own_f1 ff uu)), .second] [(.int (lcmpW (own_S wj0 wj1 wj2 F_40 k_40) (own_ref cc x0 x1 x2 (own_f1 ff uu) (own_f1 ff bb))))])) (fun t kt => ?_) ?_
    · refine st43 t ?_
      refine XS.dcmpS X43.here hx rfl (hb hby at_335) rfl (v := (lcmpW (own_S wj0 wj1 wj2 F_40 k_40) (own_ref cc x0 x1 x2 (own_f1 ff uu) (own_f1 ff bb)))) (dcmpV_w (own_53 (own_sB _ _ (own_hf IJ hc3 htot).2)) (own_53 (own_rB _)) _) ?_
      exact kt
    have hc336_44 : (own_S wj0 wj1 wj2 F_40 k_40) = (own_ref cc x0 x1 x2 (own_f1 ff uu) (own_f1 ff bb)) := own_eq1 IJ hc3 htot hO39 hL40 hH40
    refine own_by (A' := T43.setTop (mkF m 344 #[.val (.long q0), .second, .val (.int p1), .val (.long q2), .second, .val (.long q3), .second, .val (.long q4), .second, .val (.long q5), .second, .val (.long x0), .second, .val (.long x1), .second, .val (.long x2), .second, .val (.int cc), .val (.long uu), .second, .val (.long ff), .second, .val (.long aa), .second, .val (.long bb), .second, .val (.long (own_f1 ff aa)), .second, .val (.long (own_f1 ff bb)), .second, .val (.int ak), .val (.ref b8), .val (.int (1 : Int32)), .val (.double (FP.l2d (own_S wj0 wj1 wj2 F_40 k_40))), .second, .val (.long (own_f1 ff uu)), .second] [(.int (1 : Int32))])) (fun t kt => ?_) ?_
    · refine XS.ifNo X43.here hx rfl (hb hby at_336) rfl ((if0 _ _).trans (teq ((lw_eq _ _).mpr hc336_44)).2) ?_
      refine XS.iconst X43.here hx rfl (hb hby at_339) ?_
      refine XS.goto X43.here hx rfl (pc0 := 340) (pc' := 344) rfl (hb hby at_340) (by decide) (by decide) ?_
      exact kt
    obtain ⟨fs, hr, hrun, hended, hW, hsame⟩ := X43.leave (v := some (.int (1 : Int32))) (fun h => by rw [Bd.returns] at h; cases h)
    refine ⟨_, _, ?_, hrun, hended, _, _, rfl, ?_, ⟨_, rfl⟩, hW, hsame.mono (by decide) (by decide)⟩
    · exact retN X43 hx (t := .boolean) Bd.returns (by simp) (hb hby at_344) hr
    · show Q0 Z q0 p1 q2 q3 q4 q5 h0 n0 _ T43.heap _
      rw [e43]
      exact ⟨rfl, N43⟩
set_option maxRecDepth 65536 in
set_option maxHeartbeats 40000000 in
theorem comes_1 {Post : Tables → Env → Array Value → State → Outcome → State → Prop} (hpost : ∀ tb e args s v u, (limb_1_1.after args s (.returned v) u = true ∧ limb_1_2.after args s (.returned v) u = true ∧ True) → FrameEnd s (.returned v) u (Jvm.fieldLocs frame_1_writes args s ++ Jvm.arrayLocs frame_1_arrays args s ++ Jvm.staticLocs frame_1_statics s) 16 128 → Post tb e args s (.returned v) u) :
    ArmFor flags0 classFile x code maxLocals ret World_1 tables_1 room_1 Calls_1 rest_1 Pre_1 Post := by
  intro l hfl _ _ p e ha hc hk s m args below hf hA hF happ hP
  obtain ⟨hcalls, hrest, hpre⟩ := hP
  obtain ⟨-, -, -, hnamed, -, -, -, hat⟩ := (Spec.applies_iff hf).mp happ
  obtain ⟨hg, hn⟩ := and_e (Cond.before_iff.mp (show (Jvm.Cond.and given_1 narrow_1).before args s = true from hpre))
  obtain ⟨ga1, ga2⟩ := and_e hg
  obtain ⟨ga3, ga4⟩ := and_e ga2
  obtain ⟨ga5, ga6⟩ := and_e ga4
  obtain ⟨ga7, ga8⟩ := and_e ga6
  obtain ⟨ga9, ga10⟩ := and_e ga8
  obtain ⟨ga11, ga12⟩ := and_e ga10
  obtain ⟨w0, w1, w2, w3, w4, w5, rfl⟩ : ∃ w0 w1 w2 w3 w4 w5 : Value, args = #[w0, w1, w2, w3, w4, w5] := by
    have hs : args.size = 6 := by simpa [Cond.value, given_1] using ga1
    obtain ⟨L⟩ := args
    match L, hs with
    | [w0, w1, w2, w3, w4, w5], _ => exact ⟨w0, w1, w2, w3, w4, w5, rfl⟩
  have hw := fun d (hd : d ∈ tables_1) => atoms_spec (ws := Jvm.Cond.code x code maxLocals ret :: tables_1) hat d (List.mem_cons_of_mem _ hd)
  have hfit : Fit s := fun {y c} hc i hi => by
    obtain ⟨ha, rfl⟩ := Array.getElem?_eq_some_iff.mp hc
    have q := List.all_eq_true.mp ((Array.all_eq_true_iff_forall_mem.mp hF) _ (Array.getElem_mem ha)) i (List.mem_range.mpr hi)
    simpa [Array.getElem?_eq_getElem hi] using q
  obtain ⟨i0, ei0⟩ := isL_v ga3
  obtain rfl : w0 = (.long i0) := Option.some.inj ei0
  obtain ⟨i1, ei1⟩ := is_v ga5
  obtain rfl : w1 = (.int i1) := Option.some.inj ei1
  obtain ⟨i2, ei2⟩ := isL_v ga7
  obtain rfl : w2 = (.long i2) := Option.some.inj ei2
  obtain ⟨i3, ei3⟩ := isL_v ga9
  obtain rfl : w3 = (.long i3) := Option.some.inj ei3
  obtain ⟨i4, ei4⟩ := isL_v ga11
  obtain rfl : w4 = (.long i4) := Option.some.inj ei4
  obtain ⟨i5, ei5⟩ := isL_v ga12
  obtain rfl : w5 = (.long i5) := Option.some.inj ei5
  obtain ⟨n, o, h1, h2, h3, _, L, rfl, ⟨rfl, N⟩, hq⟩ := rm0 l s _ hw tables_1 i0 i1 i2 i3 i4 i5  s.heap s.heap.size (Nat.le_refl _)  p e ha hc hk s m _ below hf ((Spec.applies_iff_loose hf).mp happ).1 ⟨rfl, State.Warmed39.refl s, rfl⟩ trivial
  refine ⟨n, _, h1, h2, h3, hpost _ _ _ _ _ _ ⟨Cond.after_iff.mpr rfl, Cond.after_iff.mpr (eq_i res_at (Term.int_eval (1)) rfl), trivial⟩ ⟨hq.1, hq.2.1, (hq.2.2.sift fun y hy => Or.inr (N y hy)).mono (by decide) (by decide)⟩⟩
theorem main_1_1 : Claimed_1_1 := comes_1 fun _ _ _ _ _ _ h hF => ⟨h.1, hF⟩
theorem main_1_2 : Claimed_1_2 := comes_1 fun _ _ _ _ _ _ h hF => ⟨h.2.1, hF⟩
end Jvm.Pilot.@@N@@
namespace Jvm.Pilot.@@N@@
open Jvm Jvm.ClassFile Sem Op Lib Jvm.Free Jvm.Stand Jvm.Pilot.@@N@@.Jvm.D
/-! MADE BY PROGRAM (witnessworld.py) out of the Statement's table words and the real class files: 16 classes; the members and pool entries that the words name. The judged class is class 1, her method 1. -/
namespace start1
open Jvm.ClassFile
def u (s : String) : CpInfo := .utf8 (stringToUtf16 s)
/-- a pool by its gaps: so many unusable entries, then the entry; so many at the end -/
def gap : Nat → List CpInfo → List CpInfo
  | 0, r => r
  | n + 1, r => .unusable :: gap n r
def poolList (es : List (Nat × CpInfo)) (last : Nat) : List CpInfo := es.foldr (fun e r => gap e.1 (e.2 :: r)) (gap last [])
def pool (es : List (Nat × CpInfo)) (last : Nat) : Array CpInfo := ⟨poolList es last⟩
def fileOf (pool : Array CpInfo) (this : Nat) (attrs : Array Attribute := #[]) (ms : Array MethodInfo := #[]) (fl : Nat := 33) (sup : Nat := 0) (ifs : Array Nat := #[]) (fds : Array FieldInfo := #[]) : ClassFile where
  minorVersion := 0
  majorVersion := 65
  constantPool := pool
  accessFlags := fl
  thisClass := this
  superClass := sup
  interfaces := ifs
  fields := fds
  methods := ms
  attributes := attrs
def plain (name : String) (sup : Option ClassId) : Class where
  name := name
  kind := .ordinary
  loader := none
  accessFlags := 33
  super := sup
  interfaces := #[]
  cf := none
  fields := #[]
  methods := #[]
  instanceTypes := #[]
  staticTypes := #[]
  resolved := #[]
  callSites := []
  init := .initialized
  statics := none
  mirror := none

def pool0 : Array CpInfo := pool [(5, u "<init>"), (0, u "()V"), (1, .class_ 10), (1, u "java/lang/Object")] 113

def k0c0 : Code := { maxStack := 0, maxLocals := 1, code := object_method_1_code, exceptionTable := #[], attributes := #[] }
def k0m0 : Method := { name := "<init>", desc := "()V", sig := { parameters := [], returnType := none }, accessFlags := 1, code := some k0c0 }
/-- java/lang/Object -/
def k0 : Class := { plain "java/lang/Object" none with
  accessFlags := 33
  interfaces := #[]
  cf := some (fileOf pool0 8 #[] #[{ accessFlags := 1, nameIndex := 5, descriptorIndex := 6, attributes := #[] }] 33 0 #[] #[])
  fields := #[]
  methods := #[k0m0]
  instanceTypes := #[]
  staticTypes := #[]
  resolved := Array.replicate 124 none
  statics := none }

def pool1 : Array CpInfo := pool [(2, .class_ 4), (0, .nameAndType 5 6), (0, u "java/lang/Object"), (0, u "<init>"), (0, u "()V"), (0, .long 15), (1, .long 4), (1, .methodref 12 13), (0, .class_ 14), (0, .nameAndType 15 16), (0, u "java/lang/Math"), (0, u "max"), (0, u "(JJ)J"), (0, .class_ 18), (0, u "com/example/fairshed/fairshed/shedding/SicByTime"), (0, .methodref 17 3), (0, .methodref 17 21), (0, .nameAndType 22 23), (0, u "add"), (0, u "(JD)V"), (0, .double 4611686018427387904), (1, .double 4616189618054758400), (1, .methodref 17 29), (0, .nameAndType 30 31), (0, u "between"), (0, u "(JJ)D"), (0, .methodref 33 34), (0, .class_ 35), (0, .nameAndType 36 37), (0, u "com/example/fairshed/fairshed/shedding/SicByTimeForgetPinLaw"), (0, u "ref"), (0, u "(IJJJJJ)D"), (0, .methodref 17 39), (0, .nameAndType 40 41), (0, u "forget"), (0, u "(J)V"), (2, u "law"), (0, u "(JIJJJJ)Z")] 3

def k1m0 : Method := { name := "<init>", desc := "()V", sig := { parameters := [], returnType := none }, accessFlags := 1, code := none }
def k1c1 : Code := { maxStack := 13, maxLocals := 37, code := code, exceptionTable := #[], attributes := #[] }
def k1m1 : Method := { name := "law", desc := "(JIJJJJ)Z", sig := { parameters := [.long, .int, .long, .long, .long, .long], returnType := some .boolean }, accessFlags := 9, code := some k1c1 }
def k1c2 : Code := { maxStack := 4, maxLocals := 13, code := method_3_code, exceptionTable := #[], attributes := #[] }
def k1m2 : Method := { name := "ref", desc := "(IJJJJJ)D", sig := { parameters := [.int, .long, .long, .long, .long, .long], returnType := some .double }, accessFlags := 10, code := some k1c2 }
/-- com/example/fairshed/fairshed/shedding/SicByTimeForgetPinLaw -/
def k1 : Class := { plain "com/example/fairshed/fairshed/shedding/SicByTimeForgetPinLaw" (some 0) with
  accessFlags := 49
  interfaces := #[]
  cf := some (fileOf pool1 33 #[] #[{ accessFlags := 1, nameIndex := 5, descriptorIndex := 6, attributes := #[] }, { accessFlags := 9, nameIndex := 44, descriptorIndex := 45, attributes := #[] }, { accessFlags := 10, nameIndex := 36, descriptorIndex := 37, attributes := #[] }] 49 2 #[] #[])
  fields := #[]
  methods := #[k1m0, k1m1, k1m2]
  instanceTypes := #[]
  staticTypes := #[]
  resolved := Array.replicate 49 none
  statics := none }

def pool2 : Array CpInfo := pool [(1, .class_ 2), (0, u "java/lang/Math"), (1, .class_ 6), (1, u "java/lang/Object"), (0, u "<init>"), (0, u "()V"), (89, .class_ 100), (1, u "java/lang/Math$RandomNumberGeneratorHolder"), (20, u "(JJ)J"), (50, u "negativeZeroFloatBits"), (0, u "J"), (2, u "negativeZeroDoubleBits"), (21, u "max"), (46, u "$assertionsDisabled"), (0, u "Z"), (91, u "twoToTheDoubleScaleDown"), (0, u "D"), (4, u "twoToTheDoubleScaleUp"), (9, u "E"), (3, u "PI"), (2, u "TAU"), (2, u "DEGREES_TO_RADIANS"), (0, u "RADIANS_TO_DEGREES")] 94

def k2m0 : Method := { name := "<init>", desc := "()V", sig := { parameters := [], returnType := none }, accessFlags := 2, code := none }
def k2c1 : Code := { maxStack := 4, maxLocals := 4, code := jdk_29_method_66_code, exceptionTable := #[], attributes := #[] }
def k2m1 : Method := { name := "max", desc := "(JJ)J", sig := { parameters := [.long, .long], returnType := some .long }, accessFlags := 9, code := some k2c1 }
/-- java/lang/Math -/
def k2 : Class := { plain "java/lang/Math" (some 0) with
  accessFlags := 49
  interfaces := #[]
  cf := some (fileOf pool2 1 #[.nestMembers #[98]] #[{ accessFlags := 2, nameIndex := 7, descriptorIndex := 8, attributes := #[] }, { accessFlags := 9, nameIndex := 198, descriptorIndex := 121, attributes := #[] }] 49 4 #[] #[{ accessFlags := 25, nameIndex := 354, descriptorIndex := 339, attributes := #[] }, { accessFlags := 25, nameIndex := 358, descriptorIndex := 339, attributes := #[] }, { accessFlags := 25, nameIndex := 361, descriptorIndex := 339, attributes := #[] }, { accessFlags := 26, nameIndex := 364, descriptorIndex := 339, attributes := #[] }, { accessFlags := 26, nameIndex := 365, descriptorIndex := 339, attributes := #[] }, { accessFlags := 26, nameIndex := 172, descriptorIndex := 173, attributes := #[] }, { accessFlags := 26, nameIndex := 176, descriptorIndex := 173, attributes := #[] }, { accessFlags := 8, nameIndex := 344, descriptorIndex := 339, attributes := #[] }, { accessFlags := 8, nameIndex := 338, descriptorIndex := 339, attributes := #[] }, { accessFlags := 4120, nameIndex := 245, descriptorIndex := 246, attributes := #[] }])
  fields := #[{ name := "E", type := .double, accessFlags := 25, slot := 0, constantValue := 0 }, { name := "PI", type := .double, accessFlags := 25, slot := 1, constantValue := 0 }, { name := "TAU", type := .double, accessFlags := 25, slot := 2, constantValue := 0 }, { name := "DEGREES_TO_RADIANS", type := .double, accessFlags := 26, slot := 3, constantValue := 0 }, { name := "RADIANS_TO_DEGREES", type := .double, accessFlags := 26, slot := 4, constantValue := 0 }, { name := "negativeZeroFloatBits", type := .long, accessFlags := 26, slot := 5, constantValue := 0 }, { name := "negativeZeroDoubleBits", type := .long, accessFlags := 26, slot := 6, constantValue := 0 }, { name := "twoToTheDoubleScaleUp", type := .double, accessFlags := 8, slot := 7, constantValue := 0 }, { name := "twoToTheDoubleScaleDown", type := .double, accessFlags := 8, slot := 8, constantValue := 0 }, { name := "$assertionsDisabled", type := .boolean, accessFlags := 4120, slot := 9, constantValue := 0 }]
  methods := #[k2m0, k2m1]
  instanceTypes := #[]
  staticTypes := #[.double, .double, .double, .double, .double, .long, .long, .double, .double, .boolean]
  resolved := Array.replicate 460 none
  statics := none }

def pool3 : Array CpInfo := pool [(1, .methodref 2 3), (0, .class_ 4), (0, .nameAndType 5 6), (0, u "java/lang/Object"), (0, u "<init>"), (0, u "()V"), (0, .class_ 8), (0, u "com/example/fairshed/fairshed/shedding/SicByTime"), (0, .fieldref 7 10), (0, .nameAndType 11 12), (0, u "timesUs"), (0, u "[J"), (0, .fieldref 7 14), (0, .nameAndType 15 16), (0, u "sics"), (0, u "[D"), (0, .fieldref 7 18), (0, .nameAndType 19 20), (0, u "summedTo"), (0, u "I"), (0, .methodref 7 22), (0, .nameAndType 23 24), (0, u "firstAfter"), (0, u "(J)I"), (0, .fieldref 7 26), (0, .nameAndType 27 20), (0, u "first"), (0, .fieldref 7 29), (0, .nameAndType 30 20), (0, u "end"), (3, .fieldref 7 35), (0, .nameAndType 36 20), (0, u "summedFrom"), (0, .methodref 38 39), (0, .class_ 40), (0, .nameAndType 41 42), (0, u "java/lang/System"), (0, u "arraycopy"), (0, u "(Ljava/lang/Object;ILjava/lang/Object;II)V"), (0, .fieldref 7 44), (0, .nameAndType 45 46), (0, u "summedFromUs"), (0, u "J"), (0, .fieldref 7 48), (0, .nameAndType 49 50), (0, u "summed"), (0, u "D"), (0, .methodref 7 52), (0, .nameAndType 53 54), (0, u "sum"), (0, u "(DII)D"), (8, .methodref 64 65), (0, .class_ 66), (0, .nameAndType 67 68), (0, u "java/util/Arrays"), (0, u "binarySearch"), (0, u "([JIIJ)I"), (7, u "INITIAL_ROOM"), (4, u "add"), (0, u "(JD)V"), (1, u "forget"), (0, u "(J)V"), (0, u "between"), (0, u "(JJ)D")] 4

def k3c0 : Code := { maxStack := 2, maxLocals := 1, code := prog_124_method_1_code, exceptionTable := #[], attributes := #[] }
def k3m0 : Method := { name := "<init>", desc := "()V", sig := { parameters := [], returnType := none }, accessFlags := 0, code := some k3c0 }
def k3c1 : Code := { maxStack := 6, maxLocals := 6, code := prog_124_method_2_code, exceptionTable := #[], attributes := #[] }
def k3m1 : Method := { name := "add", desc := "(JD)V", sig := { parameters := [.long, .double], returnType := none }, accessFlags := 0, code := some k3c1 }
def k3c2 : Code := { maxStack := 4, maxLocals := 3, code := prog_124_method_3_code, exceptionTable := #[], attributes := #[] }
def k3m2 : Method := { name := "forget", desc := "(J)V", sig := { parameters := [.long], returnType := none }, accessFlags := 0, code := some k3c2 }
def k3c3 : Code := { maxStack := 6, maxLocals := 6, code := prog_124_method_4_code, exceptionTable := #[], attributes := #[] }
def k3m3 : Method := { name := "between", desc := "(JJ)D", sig := { parameters := [.long, .long], returnType := some .double }, accessFlags := 0, code := some k3c3 }
def k3c4 : Code := { maxStack := 4, maxLocals := 6, code := prog_124_method_6_code, exceptionTable := #[], attributes := #[] }
def k3m4 : Method := { name := "sum", desc := "(DII)D", sig := { parameters := [.double, .int, .int], returnType := some .double }, accessFlags := 2, code := some k3c4 }
def k3c5 : Code := { maxStack := 5, maxLocals := 4, code := prog_124_method_7_code, exceptionTable := #[], attributes := #[] }
def k3m5 : Method := { name := "firstAfter", desc := "(J)I", sig := { parameters := [.long], returnType := some .int }, accessFlags := 2, code := some k3c5 }
/-- com/example/fairshed/fairshed/shedding/SicByTime -/
def k3 : Class := { plain "com/example/fairshed/fairshed/shedding/SicByTime" (some 0) with
  accessFlags := 32
  interfaces := #[]
  cf := some (fileOf pool3 7 #[] #[{ accessFlags := 0, nameIndex := 5, descriptorIndex := 6, attributes := #[] }, { accessFlags := 0, nameIndex := 81, descriptorIndex := 82, attributes := #[] }, { accessFlags := 0, nameIndex := 84, descriptorIndex := 85, attributes := #[] }, { accessFlags := 0, nameIndex := 86, descriptorIndex := 87, attributes := #[] }, { accessFlags := 2, nameIndex := 53, descriptorIndex := 54, attributes := #[] }, { accessFlags := 2, nameIndex := 23, descriptorIndex := 24, attributes := #[] }] 32 2 #[] #[{ accessFlags := 26, nameIndex := 76, descriptorIndex := 20, attributes := #[] }, { accessFlags := 2, nameIndex := 11, descriptorIndex := 12, attributes := #[] }, { accessFlags := 2, nameIndex := 15, descriptorIndex := 16, attributes := #[] }, { accessFlags := 2, nameIndex := 27, descriptorIndex := 20, attributes := #[] }, { accessFlags := 2, nameIndex := 30, descriptorIndex := 20, attributes := #[] }, { accessFlags := 2, nameIndex := 45, descriptorIndex := 46, attributes := #[] }, { accessFlags := 2, nameIndex := 36, descriptorIndex := 20, attributes := #[] }, { accessFlags := 2, nameIndex := 19, descriptorIndex := 20, attributes := #[] }, { accessFlags := 2, nameIndex := 49, descriptorIndex := 50, attributes := #[] }])
  fields := #[{ name := "INITIAL_ROOM", type := .int, accessFlags := 26, slot := 0, constantValue := 0 }, { name := "timesUs", type := (.array .long), accessFlags := 2, slot := 0, constantValue := 0 }, { name := "sics", type := (.array .double), accessFlags := 2, slot := 1, constantValue := 0 }, { name := "first", type := .int, accessFlags := 2, slot := 2, constantValue := 0 }, { name := "end", type := .int, accessFlags := 2, slot := 3, constantValue := 0 }, { name := "summedFromUs", type := .long, accessFlags := 2, slot := 4, constantValue := 0 }, { name := "summedFrom", type := .int, accessFlags := 2, slot := 5, constantValue := 0 }, { name := "summedTo", type := .int, accessFlags := 2, slot := 6, constantValue := 0 }, { name := "summed", type := .double, accessFlags := 2, slot := 7, constantValue := 0 }]
  methods := #[k3m0, k3m1, k3m2, k3m3, k3m4, k3m5]
  instanceTypes := #[(.array .long), (.array .double), .int, .int, .long, .int, .int, .double]
  staticTypes := #[.int]
  resolved := Array.replicate 92 none
  statics := none }

def pool4 : Array CpInfo := pool [(2, .class_ 4), (1, u "java/lang/Object"), (0, u "<init>"), (0, u "()V"), (1, .class_ 10), (1, u "java/lang/System"), (0, u "allowSecurityManager"), (0, u "I"), (16, u "cons"), (0, u "Ljava/io/Console;"), (77, .class_ 110), (1, u "java/lang/System$CallersHolder"), (43, u "initialErrStream"), (0, u "Ljava/io/PrintStream;"), (19, u "security"), (0, u "Ljava/lang/SecurityManager;"), (31, .class_ 209), (0, u "java/lang/System$1"), (7, u "props"), (0, u "Ljava/util/Properties;"), (2, u "lineSeparator"), (0, u "Ljava/lang/String;"), (96, .class_ 321), (1, u "java/lang/System$LoggerFinder"), (5, .class_ 328), (0, u "java/lang/System$Logger"), (67, u "err"), (2, u "out"), (91, u "notSupportedJnuEncoding"), (15, u "in"), (17, u "initialIn"), (0, u "Ljava/io/InputStream;"), (35, u "bootLayer"), (0, u "Ljava/lang/ModuleLayer;"), (99, .class_ 664), (0, u "java/lang/System$2"), (9, u "NEVER"), (2, u "MAYBE"), (49, u "arraycopy"), (0, u "(Ljava/lang/Object;ILjava/lang/Object;II)V"), (72, .class_ 802), (0, u "java/lang/System$Logger$Level")] 31

def k4m0 : Method := { name := "<init>", desc := "()V", sig := { parameters := [], returnType := none }, accessFlags := 2, code := none }
def k4m1 : Method := { name := "arraycopy", desc := "(Ljava/lang/Object;ILjava/lang/Object;II)V", sig := { parameters := [(.object "java/lang/Object"), .int, (.object "java/lang/Object"), .int, .int], returnType := none }, accessFlags := 265, code := none }
/-- java/lang/System -/
def k4 : Class := { plain "java/lang/System" (some 0) with
  accessFlags := 49
  interfaces := #[]
  cf := some (fileOf pool4 8 #[.nestMembers #[319, 327, 801, 108, 663, 208]] #[{ accessFlags := 2, nameIndex := 5, descriptorIndex := 6, attributes := #[] }, { accessFlags := 265, nameIndex := 727, descriptorIndex := 728, attributes := #[] }] 49 2 #[] #[{ accessFlags := 25, nameIndex := 507, descriptorIndex := 526, attributes := #[] }, { accessFlags := 25, nameIndex := 399, descriptorIndex := 155, attributes := #[] }, { accessFlags := 25, nameIndex := 396, descriptorIndex := 155, attributes := #[] }, { accessFlags := 10, nameIndex := 525, descriptorIndex := 526, attributes := #[] }, { accessFlags := 26, nameIndex := 674, descriptorIndex := 12, attributes := #[] }, { accessFlags := 26, nameIndex := 677, descriptorIndex := 12, attributes := #[] }, { accessFlags := 10, nameIndex := 11, descriptorIndex := 12, attributes := #[] }, { accessFlags := 74, nameIndex := 175, descriptorIndex := 176, attributes := #[] }, { accessFlags := 10, nameIndex := 491, descriptorIndex := 222, attributes := #[] }, { accessFlags := 74, nameIndex := 29, descriptorIndex := 30, attributes := #[] }, { accessFlags := 74, nameIndex := 154, descriptorIndex := 155, attributes := #[] }, { accessFlags := 10, nameIndex := 217, descriptorIndex := 218, attributes := #[] }, { accessFlags := 10, nameIndex := 221, descriptorIndex := 222, attributes := #[] }, { accessFlags := 8, nameIndex := 562, descriptorIndex := 563, attributes := #[] }])
  fields := #[{ name := "in", type := (.object "java/io/InputStream"), accessFlags := 25, slot := 0, constantValue := 0 }, { name := "out", type := (.object "java/io/PrintStream"), accessFlags := 25, slot := 1, constantValue := 0 }, { name := "err", type := (.object "java/io/PrintStream"), accessFlags := 25, slot := 2, constantValue := 0 }, { name := "initialIn", type := (.object "java/io/InputStream"), accessFlags := 10, slot := 3, constantValue := 0 }, { name := "NEVER", type := .int, accessFlags := 26, slot := 4, constantValue := 0 }, { name := "MAYBE", type := .int, accessFlags := 26, slot := 5, constantValue := 0 }, { name := "allowSecurityManager", type := .int, accessFlags := 10, slot := 6, constantValue := 0 }, { name := "security", type := (.object "java/lang/SecurityManager"), accessFlags := 74, slot := 7, constantValue := 0 }, { name := "notSupportedJnuEncoding", type := (.object "java/lang/String"), accessFlags := 10, slot := 8, constantValue := 0 }, { name := "cons", type := (.object "java/io/Console"), accessFlags := 74, slot := 9, constantValue := 0 }, { name := "initialErrStream", type := (.object "java/io/PrintStream"), accessFlags := 74, slot := 10, constantValue := 0 }, { name := "props", type := (.object "java/util/Properties"), accessFlags := 10, slot := 11, constantValue := 0 }, { name := "lineSeparator", type := (.object "java/lang/String"), accessFlags := 10, slot := 12, constantValue := 0 }, { name := "bootLayer", type := (.object "java/lang/ModuleLayer"), accessFlags := 8, slot := 13, constantValue := 0 }]
  methods := #[k4m0, k4m1]
  instanceTypes := #[]
  staticTypes := #[(.object "java/io/InputStream"), (.object "java/io/PrintStream"), (.object "java/io/PrintStream"), (.object "java/io/InputStream"), .int, .int, .int, (.object "java/lang/SecurityManager"), (.object "java/lang/String"), (.object "java/io/Console"), (.object "java/io/PrintStream"), (.object "java/util/Properties"), (.object "java/lang/String"), (.object "java/lang/ModuleLayer")]
  resolved := Array.replicate 834 none
  statics := none }

def pool5 : Array CpInfo := pool [(2, .class_ 4), (1, u "java/lang/Object"), (0, u "<init>"), (0, u "()V"), (6, .methodref 14 15), (0, .class_ 16), (0, .nameAndType 17 18), (0, u "java/util/Arrays"), (0, u "rangeCheck"), (0, u "(III)V"), (55, .class_ 76), (1, u "java/util/Arrays$NaturalOrder"), (36, .class_ 115), (1, u "java/util/Arrays$LegacyMergeSort"), (1, u "Z"), (87, .methodref 14 206), (0, .nameAndType 207 208), (0, u "binarySearch0"), (0, u "([JIIJ)I"), (166, .class_ 376), (0, u "java/util/Arrays$ArrayList"), (68, u "$assertionsDisabled"), (269, u "MIN_ARRAY_SORT_GRAN"), (0, u "I"), (2, u "INSERTIONSORT_THRESHOLD"), (74, u "binarySearch"), (180, .class_ 976), (0, u "java/util/Arrays$ArrayItr")] 52

def k5m0 : Method := { name := "<init>", desc := "()V", sig := { parameters := [], returnType := none }, accessFlags := 2, code := none }
def k5c1 : Code := { maxStack := 4, maxLocals := 3, code := jdk_65_method_30_code, exceptionTable := #[], attributes := #[] }
def k5m1 : Method := { name := "rangeCheck", desc := "(III)V", sig := { parameters := [.int, .int, .int], returnType := none }, accessFlags := 8, code := some k5c1 }
def k5c2 : Code := { maxStack := 5, maxLocals := 5, code := jdk_65_method_55_code, exceptionTable := #[], attributes := #[] }
def k5m2 : Method := { name := "binarySearch", desc := "([JIIJ)I", sig := { parameters := [(.array .long), .int, .int, .long], returnType := some .int }, accessFlags := 9, code := some k5c2 }
def k5c3 : Code := { maxStack := 4, maxLocals := 10, code := jdk_65_method_56_code, exceptionTable := #[], attributes := #[] }
def k5m3 : Method := { name := "binarySearch0", desc := "([JIIJ)I", sig := { parameters := [(.array .long), .int, .int, .long], returnType := some .int }, accessFlags := 10, code := some k5c3 }
/-- java/util/Arrays -/
def k5 : Class := { plain "java/util/Arrays" (some 0) with
  accessFlags := 49
  interfaces := #[]
  cf := some (fileOf pool5 14 #[.nestMembers #[975, 375, 113, 74]] #[{ accessFlags := 2, nameIndex := 5, descriptorIndex := 6, attributes := #[] }, { accessFlags := 8, nameIndex := 17, descriptorIndex := 18, attributes := #[] }, { accessFlags := 9, nameIndex := 794, descriptorIndex := 208, attributes := #[] }, { accessFlags := 10, nameIndex := 207, descriptorIndex := 208, attributes := #[] }] 49 2 #[] #[{ accessFlags := 26, nameIndex := 715, descriptorIndex := 716, attributes := #[] }, { accessFlags := 26, nameIndex := 719, descriptorIndex := 716, attributes := #[] }, { accessFlags := 4120, nameIndex := 445, descriptorIndex := 117, attributes := #[] }])
  fields := #[{ name := "MIN_ARRAY_SORT_GRAN", type := .int, accessFlags := 26, slot := 0, constantValue := 0 }, { name := "INSERTIONSORT_THRESHOLD", type := .int, accessFlags := 26, slot := 1, constantValue := 0 }, { name := "$assertionsDisabled", type := .boolean, accessFlags := 4120, slot := 2, constantValue := 0 }]
  methods := #[k5m0, k5m1, k5m2, k5m3]
  instanceTypes := #[]
  staticTypes := #[.int, .int, .boolean]
  resolved := Array.replicate 1029 none
  statics := none }

def pool6 : Array CpInfo := pool [(1, u "java/lang/Cloneable"), (0, .class_ 1), (0, u "java/lang/Object"), (0, .class_ 3)] 3

/-- java/lang/Cloneable -/
def k6 : Class := { plain "java/lang/Cloneable" (some 0) with
  accessFlags := 1537
  interfaces := #[]
  cf := some (fileOf pool6 2 #[] #[] 1537 4 #[] #[])
  fields := #[]
  methods := #[]
  instanceTypes := #[]
  staticTypes := #[]
  resolved := Array.replicate 8 none
  statics := none }

def pool7 : Array CpInfo := pool [(1, u "java/io/Serializable"), (0, .class_ 1), (0, u "java/lang/Object"), (0, .class_ 3)] 3

/-- java/io/Serializable -/
def k7 : Class := { plain "java/io/Serializable" (some 0) with
  accessFlags := 1537
  interfaces := #[]
  cf := some (fileOf pool7 2 #[] #[] 1537 4 #[] #[])
  fields := #[]
  methods := #[]
  instanceTypes := #[]
  staticTypes := #[]
  resolved := Array.replicate 8 none
  statics := none }

/-- the primitive byte -/
def k8 : Class := { plain "byte" none with kind := .primitive 'B', accessFlags := 0x411 }
/-- [B -/
def k9 : Class := { plain "[B" (some 0) with kind := .array 8 .byte, interfaces := #[6, 7], accessFlags := 1041 }

/-- the primitive double -/
def k10 : Class := { plain "double" none with kind := .primitive 'D', accessFlags := 0x411 }
/-- [D -/
def k11 : Class := { plain "[D" (some 0) with kind := .array 10 .double, interfaces := #[6, 7], accessFlags := 1041 }

/-- the primitive int -/
def k12 : Class := { plain "int" none with kind := .primitive 'I', accessFlags := 0x411 }
/-- [I -/
def k13 : Class := { plain "[I" (some 0) with kind := .array 12 .int, interfaces := #[6, 7], accessFlags := 1041 }

/-- the primitive long -/
def k14 : Class := { plain "long" none with kind := .primitive 'J', accessFlags := 0x411 }
/-- [J -/
def k15 : Class := { plain "[J" (some 0) with kind := .array 14 .long, interfaces := #[6, 7], accessFlags := 1041 }

def heap : Heap := #[]
def classes : Array Class := #[k0, k1, k2, k3, k4, k5, k6, k7, k8, k9, k10, k11, k12, k13, k14, k15]
def interned : List (Array UInt16 × Addr) := []
def slotsUsed : Nat := 0
def theMethod : MethodId := ⟨1, 1⟩
def args0 : Array Value := #[.long 7, .int 9, .long 5, .long 3, .long 4, .long 2]
def aboutOver (below : List Frame) : State where
  vm := { classes := classes, interned := interned.toArray }
  heap := heap
  slotsUsed := slotsUsed
  threads := #[{ frames := .invoking theMethod args0 :: below }]
def below0 : List Frame := [.native { method := ⟨0, 0⟩, args := #[] }]
def about1 : State := aboutOver below0
def p0 : Program := .bare "" "" ""
def e0 : Env := launch0.env 0 0 0
theorem w_frames : about1.frames = Frame.invoking theMethod args0 :: below0 := rfl
set_option maxRecDepth 65536 in
theorem w_args : argsFit about1.vm theMethod args0 = true := by decide +kernel
set_option maxRecDepth 65536 in
theorem w_heap : heapFits about1 = true := by decide +kernel
set_option maxRecDepth 65536 in
theorem w_runnable : about1.curStatus? = some .runnable := by decide +kernel
set_option maxRecDepth 65536 in
theorem w_alone : about1.alone = true := by decide +kernel
set_option maxRecDepth 65536 in
theorem w_named : about1.methodNamed? x = some theMethod := by decide +kernel
set_option maxRecDepth 65536 in
theorem w_hears : about1.hears theMethod below0 = true := by decide +kernel
set_option maxRecDepth 65536 in
theorem w_ripe : about1.ripe theMethod args0 below0 = true := by decide +kernel
theorem w_running : about1.status = .running := rfl
set_option maxRecDepth 65536 in
theorem w_room : about1.hasRoom e0.platform room_1 = true :=
  launch0.hasRoom_least _ room_1 (by decide +kernel) (by decide +kernel) (by decide +kernel) (by decide +kernel) (by decide +kernel) (by decide +kernel)
theorem allAtoms_all (ts : List Jvm.Cond) (a : Array Jvm.Value) (st : Jvm.State) : (allAtoms ts).before a st = ts.all (fun c => c.before a st) := by
  induction ts with
  | nil => rfl
  | cons c t ih =>
    show (Jvm.Cond.and c (allAtoms t)).before a st = _
    rw [Jvm.Cond.before_and, ih, List.all_cons]
def words1 : List Jvm.Cond := Jvm.Cond.code x code maxLocals ret :: tables_1
/-- a 'code' word, met by the world's own term for the bytes: nothing is compared byte by byte -/
theorem code_word {y : MethodName} {bytes : ByteArray} {mx : Nat} {rt : Option FieldType} {a : Array Value} {s : State} {m : MethodId} {meth : Method} {c : Code} (h1 : s.methodNamed? y = some m) (h2 : s.vm.method? m = some meth) (h3 : meth.code = some c) (h4 : c.code = bytes)
    (h5 : (c.maxLocals == mx && c.exceptionTable.isEmpty && decide (c.maxStack ≤ mostOperands) && decide (meth.sig.returnType = rt) && !meth.locks && decide (parseMethodDescriptor y.desc = some meth.sig)) = true) : (Jvm.Cond.code y bytes mx rt).before a s = true := by
  simp only [Bool.and_eq_true, beq_iff_eq, Bool.not_eq_true', decide_eq_true_eq] at h5
  obtain ⟨⟨⟨⟨⟨g1, g2⟩, g3⟩, g4⟩, g5⟩, g6⟩ := h5
  simp [Cond.before, Cond.holds, Cond.value, h1, h2, h3, h4, g1, g2, g3, g4, g5, g6]
def isCode : Jvm.Cond → Bool
  | .code _ _ _ _ => true
  | _ => false
theorem all_split {L : List Jvm.Cond} {P : Jvm.Cond → Bool} (h1 : L.all (fun c => isCode c || P c) = true) (h2 : ∀ c ∈ L.filter isCode, P c = true) : L.all P = true := by
  refine List.all_eq_true.mpr fun c hc => ?_
  have h := List.all_eq_true.mp h1 c hc
  rcases Bool.eq_false_or_eq_true (isCode c) with hi | hi
  · exact h2 c (List.mem_filter.mpr ⟨hc, hi⟩)
  · simpa [hi] using h
set_option maxRecDepth 65536 in
theorem w_c0 : (Jvm.Cond.code x code maxLocals ret).before args0 about1 = true := code_word (m := ⟨1, 1⟩) (meth := k1m1) (c := k1c1) (by decide +kernel) rfl rfl rfl (by decide +kernel)
set_option maxRecDepth 65536 in
theorem w_c1 : (Jvm.Cond.code ({ cls := "java/lang/Math", name := "max", desc := "(JJ)J" } : Jvm.MethodName) jdk_29_method_66_code (4 : Nat) (Option.some Jvm.ClassFile.FieldType.long)).before args0 about1 = true := code_word (m := ⟨2, 1⟩) (meth := k2m1) (c := k2c1) (by decide +kernel) rfl rfl rfl (by decide +kernel)
set_option maxRecDepth 65536 in
theorem w_c2 : (Jvm.Cond.code ({ cls := "com/example/fairshed/fairshed/shedding/SicByTime", name := "<init>", desc := "()V" } : Jvm.MethodName) prog_124_method_1_code (1 : Nat) (Option.none : Option Jvm.ClassFile.FieldType)).before args0 about1 = true := code_word (m := ⟨3, 0⟩) (meth := k3m0) (c := k3c0) (by decide +kernel) rfl rfl rfl (by decide +kernel)
set_option maxRecDepth 65536 in
theorem w_c3 : (Jvm.Cond.code ({ cls := "java/lang/Object", name := "<init>", desc := "()V" } : Jvm.MethodName) object_method_1_code (1 : Nat) (Option.none : Option Jvm.ClassFile.FieldType)).before args0 about1 = true := code_word (m := ⟨0, 0⟩) (meth := k0m0) (c := k0c0) (by decide +kernel) rfl rfl rfl (by decide +kernel)
set_option maxRecDepth 65536 in
theorem w_c4 : (Jvm.Cond.code ({ cls := "com/example/fairshed/fairshed/shedding/SicByTime", name := "forget", desc := "(J)V" } : Jvm.MethodName) prog_124_method_3_code (3 : Nat) (Option.none : Option Jvm.ClassFile.FieldType)).before args0 about1 = true := code_word (m := ⟨3, 2⟩) (meth := k3m2) (c := k3c2) (by decide +kernel) rfl rfl rfl (by decide +kernel)
set_option maxRecDepth 65536 in
theorem w_c5 : (Jvm.Cond.code ({ cls := "com/example/fairshed/fairshed/shedding/SicByTime", name := "between", desc := "(JJ)D" } : Jvm.MethodName) prog_124_method_4_code (6 : Nat) (Option.some Jvm.ClassFile.FieldType.double)).before args0 about1 = true := code_word (m := ⟨3, 3⟩) (meth := k3m3) (c := k3c3) (by decide +kernel) rfl rfl rfl (by decide +kernel)
set_option maxRecDepth 65536 in
theorem w_c6 : (Jvm.Cond.code ({ cls := "com/example/fairshed/fairshed/shedding/SicByTime", name := "firstAfter", desc := "(J)I" } : Jvm.MethodName) prog_124_method_7_code (4 : Nat) (Option.some Jvm.ClassFile.FieldType.int)).before args0 about1 = true := code_word (m := ⟨3, 5⟩) (meth := k3m5) (c := k3c5) (by decide +kernel) rfl rfl rfl (by decide +kernel)
set_option maxRecDepth 65536 in
theorem w_c7 : (Jvm.Cond.code ({ cls := "com/example/fairshed/fairshed/shedding/SicByTime", name := "sum", desc := "(DII)D" } : Jvm.MethodName) prog_124_method_6_code (6 : Nat) (Option.some Jvm.ClassFile.FieldType.double)).before args0 about1 = true := code_word (m := ⟨3, 4⟩) (meth := k3m4) (c := k3c4) (by decide +kernel) rfl rfl rfl (by decide +kernel)
set_option maxRecDepth 65536 in
theorem w_c8 : (Jvm.Cond.code ({ cls := "com/example/fairshed/fairshed/shedding/SicByTimeForgetPinLaw", name := "ref", desc := "(IJJJJJ)D" } : Jvm.MethodName) method_3_code (13 : Nat) (Option.some Jvm.ClassFile.FieldType.double)).before args0 about1 = true := code_word (m := ⟨1, 2⟩) (meth := k1m2) (c := k1c2) (by decide +kernel) rfl rfl rfl (by decide +kernel)
set_option maxRecDepth 65536 in
theorem w_c9 : (Jvm.Cond.code ({ cls := "com/example/fairshed/fairshed/shedding/SicByTime", name := "add", desc := "(JD)V" } : Jvm.MethodName) prog_124_method_2_code (6 : Nat) (Option.none : Option Jvm.ClassFile.FieldType)).before args0 about1 = true := code_word (m := ⟨3, 1⟩) (meth := k3m1) (c := k3c1) (by decide +kernel) rfl rfl rfl (by decide +kernel)
set_option maxRecDepth 65536 in
theorem w_c10 : (Jvm.Cond.code ({ cls := "java/util/Arrays", name := "binarySearch", desc := "([JIIJ)I" } : Jvm.MethodName) jdk_65_method_55_code (5 : Nat) (Option.some Jvm.ClassFile.FieldType.int)).before args0 about1 = true := code_word (m := ⟨5, 2⟩) (meth := k5m2) (c := k5c2) (by decide +kernel) rfl rfl rfl (by decide +kernel)
set_option maxRecDepth 65536 in
theorem w_c11 : (Jvm.Cond.code ({ cls := "java/util/Arrays", name := "rangeCheck", desc := "(III)V" } : Jvm.MethodName) jdk_65_method_30_code (3 : Nat) (Option.none : Option Jvm.ClassFile.FieldType)).before args0 about1 = true := code_word (m := ⟨5, 1⟩) (meth := k5m1) (c := k5c1) (by decide +kernel) rfl rfl rfl (by decide +kernel)
set_option maxRecDepth 65536 in
theorem w_c12 : (Jvm.Cond.code ({ cls := "java/util/Arrays", name := "binarySearch0", desc := "([JIIJ)I" } : Jvm.MethodName) jdk_65_method_56_code (10 : Nat) (Option.some Jvm.ClassFile.FieldType.int)).before args0 about1 = true := code_word (m := ⟨5, 3⟩) (meth := k5m3) (c := k5c3) (by decide +kernel) rfl rfl rfl (by decide +kernel)
def codes1 : List Jvm.Cond := [Jvm.Cond.code x code maxLocals ret, Jvm.Cond.code ({ cls := "java/lang/Math", name := "max", desc := "(JJ)J" } : Jvm.MethodName) jdk_29_method_66_code (4 : Nat) (Option.some Jvm.ClassFile.FieldType.long), Jvm.Cond.code ({ cls := "com/example/fairshed/fairshed/shedding/SicByTime", name := "<init>", desc := "()V" } : Jvm.MethodName) prog_124_method_1_code (1 : Nat) (Option.none : Option Jvm.ClassFile.FieldType), Jvm.Cond.code ({ cls := "java/lang/Object", name := "<init>", desc := "()V" } : Jvm.MethodName) object_method_1_code (1 : Nat) (Option.none : Option Jvm.ClassFile.FieldType), Jvm.Cond.code ({ cls := "com/example/fairshed/fairshed/shedding/SicByTime", name := "forget", desc := "(J)V" } : Jvm.MethodName) prog_124_method_3_code (3 : Nat) (Option.none : Option Jvm.ClassFile.FieldType), Jvm.Cond.code ({ cls := "com/example/fairshed/fairshed/shedding/SicByTime", name := "between", desc := "(JJ)D" } : Jvm.MethodName) prog_124_method_4_code (6 : Nat) (Option.some Jvm.ClassFile.FieldType.double), Jvm.Cond.code ({ cls := "com/example/fairshed/fairshed/shedding/SicByTime", name := "firstAfter", desc := "(J)I" } : Jvm.MethodName) prog_124_method_7_code (4 : Nat) (Option.some Jvm.ClassFile.FieldType.int), Jvm.Cond.code ({ cls := "com/example/fairshed/fairshed/shedding/SicByTime", name := "sum", desc := "(DII)D" } : Jvm.MethodName) prog_124_method_6_code (6 : Nat) (Option.some Jvm.ClassFile.FieldType.double), Jvm.Cond.code ({ cls := "com/example/fairshed/fairshed/shedding/SicByTimeForgetPinLaw", name := "ref", desc := "(IJJJJJ)D" } : Jvm.MethodName) method_3_code (13 : Nat) (Option.some Jvm.ClassFile.FieldType.double), Jvm.Cond.code ({ cls := "com/example/fairshed/fairshed/shedding/SicByTime", name := "add", desc := "(JD)V" } : Jvm.MethodName) prog_124_method_2_code (6 : Nat) (Option.none : Option Jvm.ClassFile.FieldType), Jvm.Cond.code ({ cls := "java/util/Arrays", name := "binarySearch", desc := "([JIIJ)I" } : Jvm.MethodName) jdk_65_method_55_code (5 : Nat) (Option.some Jvm.ClassFile.FieldType.int), Jvm.Cond.code ({ cls := "java/util/Arrays", name := "rangeCheck", desc := "(III)V" } : Jvm.MethodName) jdk_65_method_30_code (3 : Nat) (Option.none : Option Jvm.ClassFile.FieldType), Jvm.Cond.code ({ cls := "java/util/Arrays", name := "binarySearch0", desc := "([JIIJ)I" } : Jvm.MethodName) jdk_65_method_56_code (10 : Nat) (Option.some Jvm.ClassFile.FieldType.int)]
set_option maxRecDepth 65536 in
theorem codes_eq : words1.filter isCode = codes1 := rfl
theorem w_codes : ∀ c ∈ words1.filter isCode, c.before args0 about1 = true := by
  rw [codes_eq]
  intro c hc
  simp only [codes1, List.mem_cons, List.not_mem_nil, or_false] at hc
  rcases hc with rfl | rfl | rfl | rfl | rfl | rfl | rfl | rfl | rfl | rfl | rfl | rfl | rfl
  · exact w_c0
  · exact w_c1
  · exact w_c2
  · exact w_c3
  · exact w_c4
  · exact w_c5
  · exact w_c6
  · exact w_c7
  · exact w_c8
  · exact w_c9
  · exact w_c10
  · exact w_c11
  · exact w_c12
set_option maxRecDepth 65536 in
theorem w_t1 : (words1.take 24).all (fun c => isCode c || c.before args0 about1) = true := by decide +kernel
set_option maxRecDepth 65536 in
theorem w_t2 : ((words1.drop 24).take 24).all (fun c => isCode c || c.before args0 about1) = true := by decide +kernel
set_option maxRecDepth 65536 in
theorem w_t3 : (((words1.drop 24).drop 24).take 24).all (fun c => isCode c || c.before args0 about1) = true := by decide +kernel
set_option maxRecDepth 65536 in
theorem w_t4 : (((words1.drop 24).drop 24).drop 24).all (fun c => isCode c || c.before args0 about1) = true := by decide +kernel
theorem w_tables : (allAtoms (Jvm.Cond.code x code maxLocals ret :: tables_1)).before args0 about1 = true := by
  rw [allAtoms_all]
  show words1.all (fun c => c.before args0 about1) = true
  refine all_split ?_ w_codes
  rw [← List.take_append_drop 24 words1, List.all_append, w_t1, ← List.take_append_drop 24 (words1.drop 24), List.all_append, w_t2, ← List.take_append_drop 24 ((words1.drop 24).drop 24), List.all_append, w_t3, w_t4]
  rfl
set_option maxRecDepth 65536 in
theorem w_case : (Jvm.Cond.and given_1 narrow_1).before args0 about1 = true := by decide +kernel
theorem w_applies : (headSpec (Jvm.Cond.code x code maxLocals ret :: tables_1) room_1).applies x e0.platform about1 = true :=
  (Spec.applies_iff w_frames).mpr ⟨w_running, w_runnable, w_alone, w_named, w_hears, w_ripe, w_room, w_tables⟩
theorem atStart : AtStart classFile x code maxLocals ret World_1 tables_1 room_1 Calls_1 rest_1 Pre_1 launch0 p0 e0 about1 theMethod args0 below0 :=
  ⟨lists_1, trivial, launch0.admits_env _ _ _, launch0.least_env, fairChoices_fair.cas, fairChoices_fair.clock, w_frames, w_args, w_heap, w_applies, trivial, trivial, w_case⟩
end start1
theorem witness_1 : WitnessClaimed_1 := ⟨start1.p0, start1.e0, start1.about1, start1.theMethod, start1.args0, start1.below0, start1.atStart⟩
end Jvm.Pilot.@@N@@
