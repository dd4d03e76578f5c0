import JvmDerived
import JvmDerived.Pilot.@@N@@Statement
import JvmDerived.Pilot.@@N@@Code
set_option linter.unusedVariables false
set_option linter.unusedSimpArgs false
namespace Jvm.RoadKit
open Sem ClassFile Op Lib Jvm.Stand Jvm.Free Jvm.LawKit
section New
variable {p : Program} {l : Launch} {e : Env} {R : Room} {s : State} {m : MethodId} {args : Array Value} {below : List Frame} {meth : Method} {c : Code} {T : State} {locs : List Loc} {cells slots : Nat}
theorem retI (X : Stand p l e R s m args below meth c T locs cells slots) (hx : p.tables.exec = Jvm.exec) {pc : Nat} {Ls : Array Slot} {z : Int32} {rest : List Value} (hret : meth.sig.returnType = some .int) (hd : decode c.code pc = .ok (.ireturn, 1)) {fs : List Frame}
    (hl : ∀ (f : JFrame) (acts : List Action), f.method = m → f.locked = none → f.entered = [] → (doReturn e (T.setTop f) acts (some (.int z))).1 = T.setFrames fs) : Steps p.tables e below (T.setTop (mkF m pc Ls (.int z :: rest))) (T.setFrames fs) :=
  retOut X hx hret rfl (Or.inl ⟨rfl, Or.inl rfl, _, rfl⟩) hd hl
theorem own_retL (X : Stand p l e R s m args below meth c T locs cells slots) (hx : p.tables.exec = Jvm.exec) {pc : Nat} {Ls : Array Slot} {z : Int64} {rest : List Value} (hret : meth.sig.returnType = some .long) (hd : decode c.code pc = .ok (.lreturn, 1)) {fs : List Frame}
    (hl : ∀ (f : JFrame) (acts : List Action), f.method = m → f.locked = none → f.entered = [] → (doReturn e (T.setTop f) acts (some (.long z))).1 = T.setFrames fs) : Steps p.tables e below (T.setTop (mkF m pc Ls (.long z :: rest))) (T.setFrames fs) :=
  retOut X hx hret rfl (Or.inr (Or.inl ⟨rfl, rfl, _, rfl⟩)) hd hl
theorem own_retA (X : Stand p l e R s m args below meth c T locs cells slots) (hx : p.tables.exec = Jvm.exec) {pc : Nat} {Ls : Array Slot} {z : Addr} {rest : List Value} {t : FieldType} (hret : meth.sig.returnType = some t) (ht : t.isReference = true) (hd : decode c.code pc = .ok (.areturn, 1)) {fs : List Frame}
    (hl : ∀ (f : JFrame) (acts : List Action), f.method = m → f.locked = none → f.entered = [] → (doReturn e (T.setTop f) acts (some (.ref z))).1 = T.setFrames fs) : Steps p.tables e below (T.setTop (mkF m pc Ls (.ref z :: rest))) (T.setFrames fs) :=
  retOut X hx hret (by cases t <;> first | rfl | (cases ht; done)) (Or.inr (Or.inr (Or.inr (Or.inr ⟨rfl, ht, rfl⟩)))) hd hl
theorem own_lrem {g : JFrame} {target : State} (X : Stand p l e R s m args below meth c T locs cells slots) (hx : p.tables.exec = Jvm.exec) (hg : g.method = m) {x y : Int64} {rest : List Value} (hd : decode c.code g.pc = .ok (.lrem, 1)) (hs : g.stack = .long y :: .long x :: rest) (hy : y ≠ 0)
    (hr : Steps p.tables e below (T.setTop { g with pc := g.pc + 1, stack := .long (x % y) :: rest }) target) : Steps p.tables e below (T.setTop g) target :=
  XS.lrem X.here hx hg hd hs hy (by rw [lrem_mod]; exact hr)
end New
/-- one step of a walk whose end is still to be found -/
theorem own_by {tb : Tables} {e : Env} {below : List Frame} {A A' : State} {P : State → Outcome → Prop} (k : ∀ t, Steps tb e below A' t → Steps tb e below A t) (h : ∃ s₂ o, Steps tb e below A' s₂ ∧ P s₂ o) : ∃ s₂ o, Steps tb e below A s₂ ∧ P s₂ o := by
  obtain ⟨s₂, o, h1, h2⟩ := h; exact ⟨s₂, o, k _ h1, h2⟩
theorem own_stp {tb : Tables} {e : Env} {below : List Frame} {A A' t : State} (k : ∀ t, Steps tb e below A' t → Steps tb e below A t) (h : Steps tb e below A' t) : Steps tb e below A t := k _ h
/-- all roads that meet again -/
theorem own_cut {tb : Tables} {e : Env} {below : List Frame} {A : State} {P : State → Outcome → Prop} {Φ : State → Prop} (h1 : (∀ A', Φ A' → ∃ s₂ o, Steps tb e below A' s₂ ∧ P s₂ o) → ∃ s₂ o, Steps tb e below A s₂ ∧ P s₂ o) (h2 : ∀ A', Φ A' → ∃ s₂ o, Steps tb e below A' s₂ ∧ P s₂ o) : ∃ s₂ o, Steps tb e below A s₂ ∧ P s₂ o := h1 h2
/-- an array: its kind, its length, and what each place holds -/
def AF (Z : State) (h : Heap) (a : Addr) (ty : FieldType) (n : Int32) (f : Nat → Value) : Prop := ∃ c : Cell, Arr Z h a c ty ∧ c.slots.size = n.toNatClampNeg ∧ ¬ n < 0 ∧ ∀ i, i < c.slots.size → c.slots[i]? = some (f i)
section AFs
variable {Z : State} {h h' : Heap} {a b : Addr} {ty : FieldType} {n : Int32} {f f' : Nat → Value} {v : Value} {sl : Nat} {ws : List Addr}
theorem AF.lt (F : AF Z h a ty n f) : a < h.size := by obtain ⟨c, A, -⟩ := F; exact A.lt
theorem AF.ext (F : AF Z h a ty n f) (E : Ext h h') : AF Z h' a ty n f := by obtain ⟨c, A, r⟩ := F; exact ⟨c, A.ext E, r⟩
theorem AF.other (F : AF Z h b ty n f) (W : Wr h h' a sl v) (q : b ≠ a) : AF Z h' b ty n f := by obtain ⟨c, A, r⟩ := F; exact ⟨c, A.other W q, r⟩
theorem AF.keep (F : AF Z h a ty n f) (K : Keep h h' ws) (q : a ∉ ws) : AF Z h' a ty n f := by obtain ⟨c, A, r⟩ := F; exact ⟨c, ⟨K.2.1 a c A.1 q, A.2⟩, r⟩
theorem AF.to (F : AF Z h a ty n f) (q : ∀ i, i < n.toNatClampNeg → f i = f' i) : AF Z h a ty n f' := by
  obtain ⟨c, A, S, M, H⟩ := F; exact ⟨c, A, S, M, fun i hi => by rw [← q i (S ▸ hi)]; exact H i hi⟩
theorem AF.new {k : ClassId} (A : Arr Z h a (newA k ty n) ty) (q : ¬ n < 0) : AF Z h a ty n (fun _ => defaultValue ty) := ⟨_, A, sz_new _ _ _, q, fun i hi => by rw [sz_new] at hi; simp [newA, hi]⟩
theorem AF.set {c : Cell} {j : Int32} (A : Arr Z h a c ty) (S : c.slots.size = n.toNatClampNeg) (M : ¬ n < 0) (H : ∀ i, i < c.slots.size → c.slots[i]? = some (f i)) (hj : ¬ (j < 0 ∨ c.slots.size ≤ j.toNatClampNeg)) (W : Wr h h' a j.toNatClampNeg v) :
    AF Z h' a ty n (fun i => if i = j.toNatClampNeg then v else f i) := by
  refine ⟨_, A.same W, by rw [sz_set]; exact S, M, fun i hi => ?_⟩
  rw [sz_set] at hi
  have hj' : j.toNatClampNeg < c.slots.size := Nat.lt_of_not_le fun q => hj (Or.inr q)
  by_cases u : i = j.toNatClampNeg
  · subst u; simp [Cell.setSlot, hj']
  · have := H i hi; simp only [Cell.setSlot, if_neg u]
    rw [Array.getElem?_setIfInBounds_ne (Ne.symm u)]; exact this
end AFs
end Jvm.RoadKit
namespace Jvm.Pilot.@@N@@
open Jvm Jvm.ClassFile Sem Op Lib Jvm.Free Jvm.Stand Jvm.LawKit Jvm.RoadKit Bundle Jvm.Pilot.@@N@@.Jvm.D
def own_f4 (p0 : Int32) : Int32 := ((p0 * (-1640531527 : Int32)) ^^^ (((p0 * (-1640531527 : Int32)).toUInt32 >>> ((16 : Int32) &&& 31).toUInt32).toInt32))
theorem pn_0 : plainName "com/example/corollary/corollary/saturation/TermSet" = true := by first | (simp [plainName, overriddenIn]; done) | decide +kernel
theorem d4_0 : decode prog_50_method_8_code 0 = .ok (.iload_n 0, 1) := by decide +kernel
theorem d4_1 : decode prog_50_method_8_code 1 = .ok (.ldc 42, 2) := by decide +kernel
theorem d4_3 : decode prog_50_method_8_code 3 = .ok (.imul, 1) := by decide +kernel
theorem d4_4 : decode prog_50_method_8_code 4 = .ok (.istore_n 1, 1) := by decide +kernel
theorem d4_5 : decode prog_50_method_8_code 5 = .ok (.iload_n 1, 1) := by decide +kernel
theorem d4_6 : decode prog_50_method_8_code 6 = .ok (.iload_n 1, 1) := by decide +kernel
theorem d4_7 : decode prog_50_method_8_code 7 = .ok (.bipush 16, 2) := by decide +kernel
theorem d4_9 : decode prog_50_method_8_code 9 = .ok (.iushr, 1) := by decide +kernel
theorem d4_10 : decode prog_50_method_8_code 10 = .ok (.ixor, 1) := by decide +kernel
theorem d4_11 : decode prog_50_method_8_code 11 = .ok (.ireturn, 1) := by decide +kernel
theorem ef_rm4 (m : MethodId) (p0 : Int32) : entryFrame m #[(.int p0)] 2 = mkF m 0 #[.val (.int p0), .unset] [] := by first | (simp [entryFrame, mkF, argsToLocals, Value.category]; done) | rfl
def Q4 (Z : State) (p0 : Int32) (h0 : Heap) (n0 : Nat) (v : Option Value) (h : Heap) (L : List Loc) : Prop := v = some (.int (own_f4 p0)) ∧ Fr n0 L ∧ h = h0
set_option maxRecDepth 65536 in
set_option maxHeartbeats 40000000 in
theorem rm4 (l : Launch) (Z : State) (aw : Array Value) (hw : ∀ d ∈ tables_1, d.before aw Z = true) (ws : List Jvm.Cond) (p0 : Int32) (h0 : Heap) (n0 : Nat) (Z0 : n0 ≤ h0.size) :
    MetFree l (⟨"com/example/corollary/corollary/saturation/TermSet", "spread", "(I)I"⟩ : MethodName) (head1 (Jvm.Cond.code (⟨"com/example/corollary/corollary/saturation/TermSet", "spread", "(I)I"⟩ : MethodName) prog_50_method_8_code 2 (some .int) :: ws) ({ frames := 0, cells := 0, slots := 0, locals := 0 } : Room)) (fun a U => a = #[(.int p0)] ∧ Z.Warmed39 U.vm ∧ U.heap = h0) (fun _ _ _ _ _ => True) (fun _ U o U' => ∃ v L, o = .returned v ∧ Q4 Z p0 h0 n0 v U'.heap L ∧ FrameEnd U o U' L ({ frames := 0, cells := 0, slots := 0, locals := 0 } : Room).cells ({ frames := 0, cells := 0, slots := 0, locals := 0 } : Room).slots) := by
  refine MetFree.of_bodySF (plainFor_of_name pn_0) hisR ?_
  intro p e s m args below meth c s₁ Bd hml0 hP hK
  obtain ⟨rfl, hZ, hh⟩ := hP
  have hx := Bd.exec
  have hby := Bd.bytes
  have hml : c.maxLocals = 2 := hml0
  have hown : s.vm.findClass "com/example/corollary/corollary/saturation/TermSet" = some m.cls := findClass_of_methodNamed Bd.named
  have hnm := (name_of_methodNamed Bd.named Bd.method).1
  have X0 : Stand p l e ({ frames := 0, cells := 0, slots := 0, locals := 0 } : Room) s m #[(.int p0)] below meth c s₁ [] 0 0 := Stand.of_body Bd
  have e0 : s₁.heap = h0 := by rw [← hh, Bd.state]; rfl
  have N0 := Fr.nil n0
  have K0 : Keep h0 h0 [] := Keep.refl _ _
  refine own_by (A' := s₁.setTop (mkF m 0 #[.val (.int p0), .unset] [])) (fun t k => castTop (ef_rm4 m p0) k) ?_
  refine own_by (A' := s₁.setTop (mkF m 11 #[.val (.int p0), .val (.int (p0 * (-1640531527 : Int32)))] [(.int ((p0 * (-1640531527 : Int32)) ^^^ (((p0 * (-1640531527 : Int32)).toUInt32 >>> ((16 : Int32) &&& 31).toUInt32).toInt32)))])) (fun t kt => ?_) ?_
  · show Steps p.tables e below (s₁.setTop (mkF m 0 #[.val (.int p0), .unset] [])) t
    refine XS.iloadN X0.here hx rfl (hb hby d4_0) rfl ?_
    show Steps p.tables e below (s₁.setTop (mkF m 1 #[.val (.int p0), .unset] [(.int p0)])) t
    refine X0.ldcInt hx hown (mvT hZ (hw _ (List.mem_of_getElem? (i := 21) rfl))) (g := (mkF m 1 #[.val (.int p0), .unset] [(.int p0)])) rfl (hb hby d4_1) _ ?_
    show Steps p.tables e below (s₁.setTop (mkF m 3 #[.val (.int p0), .unset] [(.int (-1640531527 : Int32)), (.int p0)])) t
    refine XS.imul X0.here hx rfl (hb hby d4_3) rfl ?_
    show Steps p.tables e below (s₁.setTop (mkF m 4 #[.val (.int p0), .unset] [(.int (p0 * (-1640531527 : Int32)))])) t
    refine XS.istoreN X0.here hx rfl (hb hby d4_4) rfl (l' := #[.val (.int p0), .val (.int (p0 * (-1640531527 : Int32)))]) rfl ?_
    show Steps p.tables e below (s₁.setTop (mkF m 5 #[.val (.int p0), .val (.int (p0 * (-1640531527 : Int32)))] [])) t
    refine XS.iloadN X0.here hx rfl (hb hby d4_5) rfl ?_
    show Steps p.tables e below (s₁.setTop (mkF m 6 #[.val (.int p0), .val (.int (p0 * (-1640531527 : Int32)))] [(.int (p0 * (-1640531527 : Int32)))])) t
    refine XS.iloadN X0.here hx rfl (hb hby d4_6) rfl ?_
    show Steps p.tables e below (s₁.setTop (mkF m 7 #[.val (.int p0), .val (.int (p0 * (-1640531527 : Int32)))] [(.int (p0 * (-1640531527 : Int32))), (.int (p0 * (-1640531527 : Int32)))])) t
    refine XS.bipush X0.here hx rfl (hb hby d4_7) ?_
    show Steps p.tables e below (s₁.setTop (mkF m 9 #[.val (.int p0), .val (.int (p0 * (-1640531527 : Int32)))] [(.int (16 : Int32)), (.int (p0 * (-1640531527 : Int32))), (.int (p0 * (-1640531527 : Int32)))])) t
    refine XS.iushr X0.here hx rfl (hb hby d4_9) rfl ?_
    show Steps p.tables e below (s₁.setTop (mkF m 10 #[.val (.int p0), .val (.int (p0 * (-1640531527 : Int32)))] [(.int (((p0 * (-1640531527 : Int32)).toUInt32 >>> ((16 : Int32) &&& 31).toUInt32).toInt32)), (.int (p0 * (-1640531527 : Int32)))])) t
    refine XS.ixor X0.here hx rfl (hb hby d4_10) rfl ?_
    exact kt
  obtain ⟨fs, hr, hrun, hended, hW, hsame⟩ := X0.leave (v := some (.int ((p0 * (-1640531527 : Int32)) ^^^ (((p0 * (-1640531527 : Int32)).toUInt32 >>> ((16 : Int32) &&& 31).toUInt32).toInt32)))) (fun h => by rw [Bd.returns] at h; cases h)
  refine ⟨_, _, ?_, hrun, hended, _, _, rfl, ?_, ⟨_, rfl⟩, hW, hsame.mono (by decide) (by decide)⟩
  · exact retI X0 hx Bd.returns (hb hby d4_11) hr
  · show Q4 Z p0 h0 n0 _ s₁.heap _
    rw [e0]
    exact ⟨rfl, N0, rfl⟩
def own_home (t : Int32) : Nat := ((own_f4 t) &&& (63 : Int32)).toNatClampNeg
def own_sum (lo hi : Int64) (t : Int32) : Int64 := if (own_f4 t) < (0 : Int32) then hi else lo
def own_mask (t : Int32) : Int64 := ((1 : Int64) <<< ((((own_f4 t).toUInt32 >>> ((25 : Int32) &&& 31).toUInt32).toInt32) &&& 0x3f).toInt64)
def own_cnt (f : Nat → Int32) : Nat → Nat
  | 0 => 0
  | n + 1 => own_cnt f n + (if f n = 0 then 0 else 1)
def own_Inv (f : Nat → Int32) (lo hi : Int64) (sz : Int32) (S : List Int32) : Prop :=
  (∀ t ∈ S, ∃ d, f ((own_home t + d) % 64) = t + 1 ∧ ∀ e, e < d → f ((own_home t + e) % 64) ≠ 0) ∧
  (∀ i, i < 64 → f i = 0 ∨ ∃ t ∈ S, f i = t + 1) ∧
  own_cnt f 64 ≤ S.length ∧ (∀ t ∈ S, own_sum lo hi t &&& own_mask t ≠ 0) ∧ 0 ≤ sz.toInt ∧ sz.toInt ≤ S.length ∧ (∀ t ∈ S, t + 1 ≠ 0)
theorem own_inj {a b : Int32} (h : a + 1 = b + 1) : a = b := by
  have := congrArg (fun z => z - 1) h
  simpa using this
theorem own_cnt0 (n : Nat) : own_cnt (fun _ => 0) n = 0 := by
  induction n with
  | zero => rfl
  | succ n ih => simp [own_cnt, ih]
theorem own_zero {f : Nat → Int32} : ∀ n, own_cnt f n < n → ∃ z, z < n ∧ f z = 0 := by
  intro n
  induction n with
  | zero => intro h; exact absurd h (Nat.not_lt_zero _)
  | succ n ih =>
    intro h
    by_cases q : f n = 0
    · exact ⟨n, Nat.lt_succ_self n, q⟩
    · simp only [own_cnt, if_neg q] at h
      obtain ⟨z, h1, h2⟩ := ih (by omega)
      exact ⟨z, by omega, h2⟩
theorem own_cntset {f : Nat → Int32} {p : Nat} {v : Int32} : ∀ n, (n ≤ p → own_cnt (fun i => if i = p then v else f i) n = own_cnt f n) ∧ (p < n → own_cnt (fun i => if i = p then v else f i) n ≤ own_cnt f n + 1) := by
  intro n
  induction n with
  | zero => exact ⟨fun _ => rfl, fun h => absurd h (Nat.not_lt_zero _)⟩
  | succ n ih =>
    obtain ⟨h1, h2⟩ := ih
    constructor
    · intro h
      have : n ≠ p := by omega
      simp only [own_cnt, h1 (by omega), if_neg this]
    · intro h
      by_cases q : n = p
      · subst q
        simp only [own_cnt, h1 (Nat.le_refl _), if_pos rfl]
        split <;> split <;> omega
      · have := h2 (by omega)
        simp only [own_cnt, if_neg q]
        omega
theorem own_homelt (t : Int32) : own_home t < 64 := by
  have h := c_mask (own_f4 t) 63 6 (by decide) (by decide)
  simp only [own_home, Int32.toNatClampNeg]; omega
/-- the walk from home comes to a place that is free or holds the term -/
theorem own_stop {f : Nat → Int32} {lo hi : Int64} {sz : Int32} {S : List Int32} (I : own_Inv f lo hi sz S) (hS : S.length < 64) (t : Int32) :
    ∃ d, (f ((own_home t + d) % 64) = 0 ∨ f ((own_home t + d) % 64) = t + 1) ∧ ∀ e, e < d → f ((own_home t + e) % 64) ≠ 0 ∧ f ((own_home t + e) % 64) ≠ t + 1 := by
  obtain ⟨-, -, hc, -⟩ := I
  obtain ⟨z, hz, h0⟩ := own_zero (f := f) 64 (by omega)
  have hh := own_homelt t
  have ex : ∃ d, f ((own_home t + d) % 64) = 0 ∨ f ((own_home t + d) % 64) = t + 1 := ⟨(z + 64 - own_home t) % 64, Or.inl (by
    have : (own_home t + (z + 64 - own_home t) % 64) % 64 = z := by omega
    rw [this]; exact h0)⟩
  have key : ∀ n, (∃ d, d < n ∧ (f ((own_home t + d) % 64) = 0 ∨ f ((own_home t + d) % 64) = t + 1)) → ∃ d, (f ((own_home t + d) % 64) = 0 ∨ f ((own_home t + d) % 64) = t + 1) ∧ ∀ e, e < d → ¬ (f ((own_home t + e) % 64) = 0 ∨ f ((own_home t + e) % 64) = t + 1) := by
    intro n
    induction n with
    | zero => intro ⟨d, h, _⟩; exact absurd h (Nat.not_lt_zero _)
    | succ n ih =>
      intro ⟨d, h, q⟩
      by_cases r : ∃ d, d < n ∧ (f ((own_home t + d) % 64) = 0 ∨ f ((own_home t + d) % 64) = t + 1)
      · exact ih r
      · refine ⟨d, q, fun e he u => r ⟨e, by omega, u⟩⟩
  obtain ⟨d, q⟩ := ex
  obtain ⟨d, h1, h2⟩ := key (d + 1) ⟨d, Nat.lt_succ_self d, q⟩
  exact ⟨d, h1, fun e he => ⟨fun u => h2 e he (Or.inl u), fun u => h2 e he (Or.inr u)⟩⟩
theorem own_notin {f : Nat → Int32} {lo hi : Int64} {sz : Int32} {S : List Int32} (I : own_Inv f lo hi sz S) {t : Int32} {d : Nat} (h0 : f ((own_home t + d) % 64) = 0) (hd : ∀ e, e < d → f ((own_home t + e) % 64) ≠ 0 ∧ f ((own_home t + e) % 64) ≠ t + 1) : t ∉ S := by
  intro ht
  obtain ⟨hA, -, -, -, -, -, hN⟩ := I
  obtain ⟨d', h1, h2⟩ := hA t ht
  rcases Nat.lt_trichotomy d' d with q | q | q
  · exact (hd d' q).2 h1
  · subst q; rw [h0] at h1; exact hN t ht h1.symm
  · exact h2 d q h0
theorem own_isin {f : Nat → Int32} {lo hi : Int64} {sz : Int32} {S : List Int32} (I : own_Inv f lo hi sz S) {t : Int32} {i : Nat} (hi64 : i < 64) (h0 : f i ≠ 0) (h1 : f i = t + 1) : t ∈ S := by
  obtain ⟨-, hB, -⟩ := I
  rcases hB i hi64 with q | ⟨u, hu, q⟩
  · exact absurd q h0
  · have : u = t := own_inj (q.symm.trans h1)
    exact this ▸ hu
theorem own_nobit {f : Nat → Int32} {lo hi : Int64} {sz : Int32} {S : List Int32} (I : own_Inv f lo hi sz S) {t : Int32} (h : own_sum lo hi t &&& own_mask t = 0) : t ∉ S := fun ht => I.2.2.2.1 t ht h
theorem own_empty : own_Inv (fun _ => 0) 0 0 0 [] :=
  ⟨(by intro _ h; cases h), fun _ _ => Or.inl rfl, (by rw [own_cnt0]; exact Nat.le_refl _), (by intro _ h; cases h), by decide, by decide, (by intro _ h; cases h)⟩
theorem own_again {f : Nat → Int32} {lo hi : Int64} {sz : Int32} {S : List Int32} (I : own_Inv f lo hi sz S) {t : Int32} (ht : t ∈ S) : own_Inv f lo hi sz (t :: S) := by
  obtain ⟨hA, hB, hC, hD, hE, hF, hN⟩ := I
  have m : ∀ {u}, u ∈ t :: S → u ∈ S := fun {u} h => (List.mem_cons.mp h).elim (fun q => q ▸ ht) id
  refine ⟨fun u hu => hA u (m hu), fun i hi => (hB i hi).imp id fun ⟨u, h1, h2⟩ => ⟨u, List.mem_cons_of_mem _ h1, h2⟩, ?_, fun u hu => hD u (m hu), hE, ?_, fun u hu => hN u (m hu)⟩
  · simp only [List.length_cons]; omega
  · simp only [List.length_cons]; omega
theorem own_shl (y : Int32) : ((1 : Int64) <<< (y &&& 0x3f).toInt64) ≠ 0 := by
  intro h
  have q := c_lshl 1 y _ rfl
  rw [h] at q
  have hk : y.toBitVec.toNat % 64 < 64 := Nat.mod_lt _ (by decide)
  have h1 : 2 ^ (y.toBitVec.toNat % 64) < 2 ^ 64 := Nat.pow_lt_pow_right (by decide) hk
  have h2 : 0 < 2 ^ (y.toBitVec.toNat % 64) := Nat.pow_pos (by decide)
  rw [show (0 : Int64).toInt = 0 from by decide, show (1 : Int64).toInt = 1 from by decide] at q
  generalize 2 ^ (y.toBitVec.toNat % 64) = z at *
  have e : (2 : Nat) ^ 64 = 18446744073709551616 := by decide
  omega
theorem own_orand {a b c : Int64} (h : a &&& c ≠ 0) : (a ||| b) &&& c ≠ 0 := by
  intro q
  apply h
  apply Int64.toBitVec_inj.mp
  have q' := congrArg Int64.toBitVec q
  rw [Int64.toBitVec_and, Int64.toBitVec_or] at q'
  rw [Int64.toBitVec_and]
  apply BitVec.eq_of_getLsbD_eq
  intro i hi
  have := congrArg (fun v => BitVec.getLsbD v i) q'
  simp only [BitVec.getLsbD_and, BitVec.getLsbD_or] at this ⊢
  revert this
  cases a.toBitVec.getLsbD i <;> cases b.toBitVec.getLsbD i <;> cases c.toBitVec.getLsbD i <;> simp
theorem own_orself {a b : Int64} (h : b ≠ 0) : (a ||| b) &&& b ≠ 0 := by
  intro q
  apply h
  apply Int64.toBitVec_inj.mp
  have q' := congrArg Int64.toBitVec q
  rw [Int64.toBitVec_and, Int64.toBitVec_or] at q'
  apply BitVec.eq_of_getLsbD_eq
  intro i hi
  have := congrArg (fun v => BitVec.getLsbD v i) q'
  simp only [BitVec.getLsbD_and, BitVec.getLsbD_or] at this ⊢
  revert this
  cases a.toBitVec.getLsbD i <;> cases b.toBitVec.getLsbD i <;> simp
/-- a term put at the free place to which its walk came -/
theorem own_put {f : Nat → Int32} {lo hi lo' hi' : Int64} {sz : Int32} {S : List Int32} (I : own_Inv f lo hi sz S) (hS : S.length < 60) {t : Int32} (ht : t + 1 ≠ 0) {d : Nat} (h0 : f ((own_home t + d) % 64) = 0) (hd : ∀ e, e < d → f ((own_home t + e) % 64) ≠ 0 ∧ f ((own_home t + e) % 64) ≠ t + 1)
    (hlo : lo' = if (own_f4 t) < (0 : Int32) then lo else lo ||| own_mask t) (hhi : hi' = if (own_f4 t) < (0 : Int32) then hi ||| own_mask t else hi) :
    own_Inv (fun i => if i = (own_home t + d) % 64 then t + 1 else f i) lo' hi' (sz + 1) (t :: S) := by
  obtain ⟨hA, hB, hC, hD, hE, hF, hN⟩ := I
  have hp : (own_home t + d) % 64 < 64 := Nat.mod_lt _ (by decide)
  generalize hpp : (own_home t + d) % 64 = p at *
  refine ⟨fun u hu => ?_, fun i hi => ?_, ?_, fun u hu => ?_, ?_, ?_, fun u hu => ?_⟩
  · rcases List.mem_cons.mp hu with rfl | hu
    · refine ⟨d, by simp only [hpp, if_pos], fun e he => ?_⟩
      show (if (own_home u + e) % 64 = p then u + 1 else f ((own_home u + e) % 64)) ≠ 0
      split
      · exact ht
      · exact (hd e he).1
    · obtain ⟨d', h1, h2⟩ := hA u hu
      have n1 : (own_home u + d') % 64 ≠ p := fun q => by rw [q, h0] at h1; exact hN u hu h1.symm
      refine ⟨d', by show (if (own_home u + d') % 64 = p then t + 1 else f ((own_home u + d') % 64)) = u + 1; rw [if_neg n1]; exact h1, fun e he => ?_⟩
      show (if (own_home u + e) % 64 = p then t + 1 else f ((own_home u + e) % 64)) ≠ 0
      split
      · exact ht
      · exact h2 e he
  · show (if i = p then t + 1 else f i) = 0 ∨ ∃ u ∈ t :: S, (if i = p then t + 1 else f i) = u + 1
    split
    · exact Or.inr ⟨t, List.mem_cons_self .., rfl⟩
    · exact (hB i hi).imp id fun ⟨u, h1, h2⟩ => ⟨u, List.mem_cons_of_mem _ h1, h2⟩
  · have := (own_cntset (f := f) (p := p) (v := t + 1) 64).2 hp
    simp only [List.length_cons]; omega
  · have hm : own_mask t ≠ 0 := own_shl _
    rcases List.mem_cons.mp hu with rfl | hu
    · simp only [own_sum]
      by_cases q : (own_f4 u) < (0 : Int32)
      · rw [if_pos q]; rw [hhi, if_pos q]; exact own_orself hm
      · rw [if_neg q]; rw [hlo, if_neg q]; exact own_orself hm
    · have hb := hD u hu
      simp only [own_sum] at hb ⊢
      by_cases q : (own_f4 u) < (0 : Int32)
      · rw [if_pos q] at hb ⊢; rw [hhi]
        split
        · exact own_orand hb
        · exact hb
      · rw [if_neg q] at hb ⊢; rw [hlo]
        split
        · exact hb
        · exact own_orand hb
  · have := c_iadd sz 1; have := rng32 (sz + 1); rw [show (1 : Int32).toInt = 1 from by decide] at *; omega
  · have := c_iadd sz 1; have := rng32 (sz + 1); rw [show (1 : Int32).toInt = 1 from by decide] at *; simp only [List.length_cons]; omega
  · rcases List.mem_cons.mp hu with rfl | hu
    · exact ht
    · exact hN u hu
theorem own_nx {i : Nat} (h : i < 64) : (Int32.ofNat i + (1 : Int32)) &&& (63 : Int32) = Int32.ofNat ((i + 1) % 64) := by
  have h1 : ∀ j : Fin 64, (Int32.ofNat j.1 + (1 : Int32)) &&& (63 : Int32) = Int32.ofNat ((j.1 + 1) % 64) := by decide
  exact h1 ⟨i, h⟩
theorem own_of {i : Nat} (h : i < 64) : (Int32.ofNat i).toNatClampNeg = i ∧ ¬ Int32.ofNat i < 0 ∧ Int32.ofNat i < (64 : Int32) := by
  have h1 : ∀ j : Fin 64, (Int32.ofNat j.1).toNatClampNeg = j.1 ∧ ¬ Int32.ofNat j.1 < 0 ∧ Int32.ofNat j.1 < (64 : Int32) := by decide
  exact h1 ⟨i, h⟩
theorem own_hm (t : Int32) : (own_f4 t) &&& (63 : Int32) = Int32.ofNat (own_home t) := by
  have h := c_mask (own_f4 t) 63 6 (by decide) (by decide)
  apply Int32.toInt_inj.mp
  rw [Int32.toInt_ofNat_of_lt (by have := own_homelt t; omega)]
  simp only [own_home, Int32.toNatClampNeg]; omega

theorem d1_0 : decode prog_50_method_1_code 0 = .ok (.aload_n 0, 1) := by decide +kernel
theorem d1_1 : decode prog_50_method_1_code 1 = .ok (.invokespecial 1, 3) := by decide +kernel
theorem d1_4 : decode prog_50_method_1_code 4 = .ok (.aload_n 0, 1) := by decide +kernel
theorem d1_5 : decode prog_50_method_1_code 5 = .ok (.bipush 64, 2) := by decide +kernel
theorem d1_7 : decode prog_50_method_1_code 7 = .ok (.newarray .int, 2) := by decide +kernel
theorem d1_9 : decode prog_50_method_1_code 9 = .ok (.putfield 9, 3) := by decide +kernel
theorem d1_12 : decode prog_50_method_1_code 12 = .ok (.return_, 1) := by decide +kernel
theorem ef_rm1 (m : MethodId) (a0 : Addr) : entryFrame m #[(.ref a0)] 1 = mkF m 0 #[.val (.ref a0)] [] := by first | (simp [entryFrame, mkF, argsToLocals, Value.category]; done) | rfl
def Q1 (Z : State) (a0 : Addr) (h0 : Heap) (n0 : Nat) (v : Option Value) (h : Heap) (L : List Loc) : Prop := ∃ b : Addr, v = none ∧ Fr n0 L ∧ Keep h0 h [a0] ∧ h0.size ≤ b ∧ Exa Z h a0 "com/example/corollary/corollary/saturation/TermSet" ∧ Fld Z h a0 "com/example/corollary/corollary/saturation/TermSet" "table" "[I" (.ref b) ∧ Fld Z h a0 "com/example/corollary/corollary/saturation/TermSet" "highSummary" "J" (.long 0) ∧ Fld Z h a0 "com/example/corollary/corollary/saturation/TermSet" "lowSummary" "J" (.long 0) ∧ Fld Z h a0 "com/example/corollary/corollary/saturation/TermSet" "size" "I" (.int 0) ∧ AF Z h b .int (64 : Int32) (fun i => .int ((fun _ => (0 : Int32)) i))
set_option maxRecDepth 65536 in
set_option maxHeartbeats 40000000 in
theorem rm1 (l : Launch) (Z : State) (aw : Array Value) (hw : ∀ d ∈ tables_1, d.before aw Z = true) (ws : List Jvm.Cond) (a0 : Addr) (h0 : Heap) (n0 : Nat) (Z0 : n0 ≤ h0.size) (E_a0 : Exa Z h0 a0 "com/example/corollary/corollary/saturation/TermSet") (PF1 : Fld Z h0 a0 "com/example/corollary/corollary/saturation/TermSet" "table" "[I" .null) (PF2 : Fld Z h0 a0 "com/example/corollary/corollary/saturation/TermSet" "highSummary" "J" (.long 0)) (PF3 : Fld Z h0 a0 "com/example/corollary/corollary/saturation/TermSet" "lowSummary" "J" (.long 0)) (PF4 : Fld Z h0 a0 "com/example/corollary/corollary/saturation/TermSet" "size" "I" (.int 0)) (g_a0 : n0 ≤ a0) :
    MetFree l (⟨"com/example/corollary/corollary/saturation/TermSet", "<init>", "()V"⟩ : MethodName) (head1 (Jvm.Cond.code (⟨"com/example/corollary/corollary/saturation/TermSet", "<init>", "()V"⟩ : MethodName) prog_50_method_1_code 1 none :: ws) ({ frames := 1, cells := 1, slots := 64, locals := 12 } : Room)) (fun a U => a = #[(.ref a0)] ∧ Z.Warmed39 U.vm ∧ U.heap = h0) (fun _ _ _ _ _ => True) (fun _ U o U' => ∃ v L, o = .returned v ∧ Q1 Z a0 h0 n0 v U'.heap L ∧ FrameEnd U o U' L ({ frames := 1, cells := 1, slots := 64, locals := 12 } : Room).cells ({ frames := 1, cells := 1, slots := 64, locals := 12 } : Room).slots) := by
  refine MetFree.of_bodySF (plainFor_of_name pn_0) hisR ?_
  intro p e s m args below meth c s₁ Bd hml0 hP hK
  obtain ⟨rfl, hZ, hh⟩ := hP
  have hx := Bd.exec
  have hby := Bd.bytes
  have hml : c.maxLocals = 1 := hml0
  have hown : s.vm.findClass "com/example/corollary/corollary/saturation/TermSet" = some m.cls := findClass_of_methodNamed Bd.named
  have hnm := (name_of_methodNamed Bd.named Bd.method).1
  have X0 : Stand p l e ({ frames := 1, cells := 1, slots := 64, locals := 12 } : Room) s m #[(.ref a0)] below meth c s₁ [] 0 0 := Stand.of_body Bd
  have e0 : s₁.heap = h0 := by rw [← hh, Bd.state]; rfl
  have N0 := Fr.nil n0
  have K0 : Keep h0 h0 [a0] := Keep.refl _ _
  refine own_by (A' := s₁.setTop (mkF m 0 #[.val (.ref a0)] [])) (fun t k => castTop (ef_rm1 m a0) k) ?_
  refine own_by (A' := s₁.setTop (mkF m 1 #[.val (.ref a0)] [(.ref a0)])) (fun t kt => ?_) ?_
  · show Steps p.tables e below (s₁.setTop (mkF m 0 #[.val (.ref a0)] [])) t
    refine XS.aloadN X0.here hx rfl (hb hby d1_0) rfl rfl ?_
    exact kt
  obtain ⟨T1, X1, e1, st1⟩ := initO X0 hx hZ hown (hw _ (List.mem_of_getElem? (i := 7) rfl)) (hw _ (List.mem_of_getElem? (i := 8) rfl)) (hw _ (List.mem_of_getElem? (i := 9) rfl)) e0 (g := (mkF m 1 #[.val (.ref a0)] [(.ref a0)])) rfl (by rw [hml]; rfl) rfl (hb hby d1_1) (by decide) (W := 0) (by show 2 * 0 + _ ≤ _; exact Nat.le_of_eq rfl) (by decide)
  refine own_by (A' := T1.setTop (mkF m 4 #[.val (.ref a0)] [])) (fun t kt => st1 t kt) ?_
  refine own_by (A' := T1.setTop (mkF m 7 #[.val (.ref a0)] [(.int (64 : Int32)), (.ref a0)])) (fun t kt => ?_) ?_
  · show Steps p.tables e below (T1.setTop (mkF m 4 #[.val (.ref a0)] [])) t
    refine XS.aloadN X1.here hx rfl (hb hby d1_4) rfl rfl ?_
    show Steps p.tables e below (T1.setTop (mkF m 5 #[.val (.ref a0)] [(.ref a0)])) t
    refine XS.bipush X1.here hx rfl (hb hby d1_5) ?_
    exact kt
  obtain ⟨T2, h2, k2, X2, e2, E2, A2, st2⟩ := newP X1 hx hZ (hw _ (List.mem_of_getElem? (i := 10) rfl)) e1 (g := (mkF m 7 #[.val (.ref a0)] [(.int (64 : Int32)), (.ref a0)])) rfl (hb hby d1_7) rfl (by decide) (cap := 64) (by decide) (by decide) (by decide) (by decide)
  obtain ⟨b2, g2⟩ : ∃ z, z = h0.size := ⟨_, rfl⟩
  rw [← g2] at A2 st2
  have sz_b2 : h0.size ≤ b2 := Nat.le_trans K0.1 (Nat.le_of_eq g2.symm)
  have g_b2 : n0 ≤ b2 := Nat.le_trans Z0 sz_b2
  have K2 : Keep h0 h2 [a0] := K0.ext E2
  have V2 : AF Z h2 b2 .int (64 : Int32) (fun _ => .int (0 : Int32)) := AF.new A2 (by decide)
  refine own_by (A' := T2.setTop (mkF m 9 #[.val (.ref a0)] [(.ref b2), (.ref a0)])) (fun t kt => st2 t kt) ?_
  obtain ⟨T3, h3, X3, e3, W3, st3⟩ := putF X2 hx hZ hown (host := "") (Or.inl (hw _ (List.mem_of_getElem? (i := 11) rfl))) Via.refl e2 (PF1.ext E2) (E_a0.ext E2) (Or.inl (hw _ (List.mem_of_getElem? (i := 12) rfl))) (hw _ (List.mem_of_getElem? (i := 2) rfl)) (ty := (.array .int)) (by decide) rfl rfl (g := (mkF m 9 #[.val (.ref a0)] [(.ref b2), (.ref a0)])) rfl rfl (hb hby d1_9)
  have F3 := Fld.same W3 (PF1.ext E2)
  have N3 := Fr.snoc X3 N0 g_a0
  have K3 : Keep h0 h3 [a0] := K2.wr W3 (Or.inl (List.mem_of_getElem? (i := 0) rfl))
  refine own_by (A' := T3.setTop (mkF m 12 #[.val (.ref a0)] [])) (fun t kt => st3 t kt) ?_
  obtain ⟨fs, hr, hrun, hended, hW, hsame⟩ := X3.leave (v := none) (fun _ => rfl)
  refine ⟨_, _, ?_, hrun, hended, _, _, rfl, ?_, ⟨_, rfl⟩, hW, hsame.mono (by decide) (by decide)⟩
  · exact X3.returnOut hx Bd.returns (hb hby d1_12) hr
  · show Q1 Z a0 h0 n0 _ T3.heap _
    rw [e3]
    exact ⟨_, rfl, N3, K3, sz_b2, ((E_a0.ext E2).wr W3), F3, ((PF2.ext E2).other W3 (Or.inr (slot_ne (Or.inl (hw _ (List.mem_of_getElem? (i := 23) rfl))) (Or.inl (hw _ (List.mem_of_getElem? (i := 12) rfl))) (by decide) (t := .long) (t' := (.array .int)) (by decide) (by decide)))), ((PF3.ext E2).other W3 (Or.inr (slot_ne (Or.inl (hw _ (List.mem_of_getElem? (i := 29) rfl))) (Or.inl (hw _ (List.mem_of_getElem? (i := 12) rfl))) (by decide) (t := .long) (t' := (.array .int)) (by decide) (by decide)))), ((PF4.ext E2).other W3 (Or.inr (slot_ne (Or.inl (hw _ (List.mem_of_getElem? (i := 36) rfl))) (Or.inl (hw _ (List.mem_of_getElem? (i := 12) rfl))) (by decide) (t := .int) (t' := (.array .int)) (by decide) (by decide)))), (V2.other W3 (Ne.symm (Nat.ne_of_lt (Nat.lt_of_lt_of_le (E_a0).lt (Nat.le_of_eq g2.symm)))))⟩
theorem d3_65 : decode prog_50_method_3_code 65 = .ok (.iload 8, 2) := by decide +kernel
theorem d3_67 : decode prog_50_method_3_code 67 = .ok (.ifCond .eq 33, 3) := by decide +kernel
theorem d3_70 : decode prog_50_method_3_code 70 = .ok (.iload 8, 2) := by decide +kernel
theorem d3_72 : decode prog_50_method_3_code 72 = .ok (.iload 7, 2) := by decide +kernel
theorem d3_74 : decode prog_50_method_3_code 74 = .ok (.if_icmp .ne 5, 3) := by decide +kernel
theorem d3_79 : decode prog_50_method_3_code 79 = .ok (.iload 6, 2) := by decide +kernel
theorem d3_81 : decode prog_50_method_3_code 81 = .ok (.iconst 1, 1) := by decide +kernel
theorem d3_82 : decode prog_50_method_3_code 82 = .ok (.iadd, 1) := by decide +kernel
theorem d3_83 : decode prog_50_method_3_code 83 = .ok (.iload 5, 2) := by decide +kernel
theorem d3_85 : decode prog_50_method_3_code 85 = .ok (.iand, 1) := by decide +kernel
theorem d3_86 : decode prog_50_method_3_code 86 = .ok (.istore 6, 2) := by decide +kernel
theorem d3_88 : decode prog_50_method_3_code 88 = .ok (.aload_n 0, 1) := by decide +kernel
theorem d3_89 : decode prog_50_method_3_code 89 = .ok (.getfield 9, 3) := by decide +kernel
theorem d3_92 : decode prog_50_method_3_code 92 = .ok (.iload 6, 2) := by decide +kernel
theorem d3_94 : decode prog_50_method_3_code 94 = .ok (.iaload, 1) := by decide +kernel
theorem d3_95 : decode prog_50_method_3_code 95 = .ok (.istore 8, 2) := by decide +kernel
theorem d3_97 : decode prog_50_method_3_code 97 = .ok (.goto (-32), 3) := by decide +kernel
set_option maxRecDepth 65536 in
set_option maxHeartbeats 40000000 in
theorem own_turnC1 {p : Program} {l : Launch} {e : Env} {R : Room} {s : State} {m : MethodId} {args : Array Value} {below : List Frame} {meth : Method} {c : Code} {T0 : State} {locs : List Loc} {cells slots : Nat} {Z : State} {aw : Array Value} {h0 : Heap} {P : State → Outcome → Prop} (a0 : Addr) (b : Addr) (f : Nat → Int32) (p1 : Int32) (p2 : Int32) (q3 : Int64) (i : Nat)
    (X0 : Stand p l e R s m args below meth c T0 locs cells slots) (hx : p.tables.exec = Jvm.exec) (hZ : Z.Warmed39 s.vm) (hw : ∀ d ∈ tables_1, d.before aw Z = true) (hby : c.code = prog_50_method_3_code) (hml : c.maxLocals = 9) (hown : s.vm.findClass "com/example/corollary/corollary/saturation/TermSet" = some m.cls) (e0 : T0.heap = h0) (PF1 : Fld Z h0 a0 "com/example/corollary/corollary/saturation/TermSet" "table" "[I" (.ref b)) (V_b : AF Z h0 b .int (64 : Int32) (fun i => .int (f i))) (hi64 : i < 64) (hn0 : ¬ (f i = 0)) (hn1 : ¬ (f i = (p1 + (1 : Int32)))) (k : ∀ T', Stand p l e R s m args below meth c T' locs cells slots → T'.heap = h0 → ∃ s₂ o, Steps p.tables e below (T'.setTop (mkF m 65 #[.val (.ref a0), .val (.int p1), .val (.int p2), .val (.long q3), .second, .val (.int (63 : Int32)), .val (.int (Int32.ofNat ((i + 1) % 64))), .val (.int (p1 + (1 : Int32))), .val (.int (f ((i + 1) % 64)))] [])) s₂ ∧ P s₂ o) :
    ∃ s₂ o, Steps p.tables e below (T0.setTop (mkF m 65 #[.val (.ref a0), .val (.int p1), .val (.int p2), .val (.long q3), .second, .val (.int (63 : Int32)), .val (.int (Int32.ofNat i)), .val (.int (p1 + (1 : Int32))), .val (.int (f i))] [])) s₂ ∧ P s₂ o := by
  refine own_by (A' := T0.setTop (mkF m 67 #[.val (.ref a0), .val (.int p1), .val (.int p2), .val (.long q3), .second, .val (.int (63 : Int32)), .val (.int (Int32.ofNat i)), .val (.int (p1 + (1 : Int32))), .val (.int (f i))] [(.int (f i))])) (fun t kt => ?_) ?_
  · show Steps p.tables e below (T0.setTop (mkF m 65 #[.val (.ref a0), .val (.int p1), .val (.int p2), .val (.long q3), .second, .val (.int (63 : Int32)), .val (.int (Int32.ofNat i)), .val (.int (p1 + (1 : Int32))), .val (.int (f i))] [])) t
    refine XS.iload X0.here hx rfl (hb hby d3_65) rfl ?_
    exact kt
  have hc67_1 : ¬ ((f i) = (0 : Int32)) := hn0
  refine own_by (A' := T0.setTop (mkF m 74 #[.val (.ref a0), .val (.int p1), .val (.int p2), .val (.long q3), .second, .val (.int (63 : Int32)), .val (.int (Int32.ofNat i)), .val (.int (p1 + (1 : Int32))), .val (.int (f i))] [(.int (p1 + (1 : Int32))), (.int (f i))])) (fun t kt => ?_) ?_
  · show Steps p.tables e below (T0.setTop (mkF m 67 #[.val (.ref a0), .val (.int p1), .val (.int p2), .val (.long q3), .second, .val (.int (63 : Int32)), .val (.int (Int32.ofNat i)), .val (.int (p1 + (1 : Int32))), .val (.int (f i))] [(.int (f i))])) t
    refine XS.ifNo X0.here hx rfl (hb hby d3_67) rfl ((if0 _ _).trans (feq hc67_1).1) ?_
    show Steps p.tables e below (T0.setTop (mkF m 70 #[.val (.ref a0), .val (.int p1), .val (.int p2), .val (.long q3), .second, .val (.int (63 : Int32)), .val (.int (Int32.ofNat i)), .val (.int (p1 + (1 : Int32))), .val (.int (f i))] [])) t
    refine XS.iload X0.here hx rfl (hb hby d3_70) rfl ?_
    show Steps p.tables e below (T0.setTop (mkF m 72 #[.val (.ref a0), .val (.int p1), .val (.int p2), .val (.long q3), .second, .val (.int (63 : Int32)), .val (.int (Int32.ofNat i)), .val (.int (p1 + (1 : Int32))), .val (.int (f i))] [(.int (f i))])) t
    refine XS.iload X0.here hx rfl (hb hby d3_72) rfl ?_
    exact kt
  have hc74_2 : ¬ ((f i) = (p1 + (1 : Int32))) := hn1
  refine own_by (A' := T0.setTop (mkF m 88 #[.val (.ref a0), .val (.int p1), .val (.int p2), .val (.long q3), .second, .val (.int (63 : Int32)), .val (.int (((Int32.ofNat i) + (1 : Int32)) &&& (63 : Int32))), .val (.int (p1 + (1 : Int32))), .val (.int (f i))] [])) (fun t kt => ?_) ?_
  · show Steps p.tables e below (T0.setTop (mkF m 74 #[.val (.ref a0), .val (.int p1), .val (.int p2), .val (.long q3), .second, .val (.int (63 : Int32)), .val (.int (Int32.ofNat i)), .val (.int (p1 + (1 : Int32))), .val (.int (f i))] [(.int (p1 + (1 : Int32))), (.int (f i))])) t
    refine XS.icmpYes X0.here hx rfl (pc0 := 74) (pc' := 79) rfl (hb hby d3_74) rfl (feq hc74_2).2 (by decide) (by decide) ?_
    show Steps p.tables e below (T0.setTop (mkF m 79 #[.val (.ref a0), .val (.int p1), .val (.int p2), .val (.long q3), .second, .val (.int (63 : Int32)), .val (.int (Int32.ofNat i)), .val (.int (p1 + (1 : Int32))), .val (.int (f i))] [])) t
    refine XS.iload X0.here hx rfl (hb hby d3_79) rfl ?_
    show Steps p.tables e below (T0.setTop (mkF m 81 #[.val (.ref a0), .val (.int p1), .val (.int p2), .val (.long q3), .second, .val (.int (63 : Int32)), .val (.int (Int32.ofNat i)), .val (.int (p1 + (1 : Int32))), .val (.int (f i))] [(.int (Int32.ofNat i))])) t
    refine XS.iconst X0.here hx rfl (hb hby d3_81) ?_
    show Steps p.tables e below (T0.setTop (mkF m 82 #[.val (.ref a0), .val (.int p1), .val (.int p2), .val (.long q3), .second, .val (.int (63 : Int32)), .val (.int (Int32.ofNat i)), .val (.int (p1 + (1 : Int32))), .val (.int (f i))] [(.int (1 : Int32)), (.int (Int32.ofNat i))])) t
    refine XS.iadd X0.here hx rfl (hb hby d3_82) rfl ?_
    show Steps p.tables e below (T0.setTop (mkF m 83 #[.val (.ref a0), .val (.int p1), .val (.int p2), .val (.long q3), .second, .val (.int (63 : Int32)), .val (.int (Int32.ofNat i)), .val (.int (p1 + (1 : Int32))), .val (.int (f i))] [(.int ((Int32.ofNat i) + (1 : Int32)))])) t
    refine XS.iload X0.here hx rfl (hb hby d3_83) rfl ?_
    show Steps p.tables e below (T0.setTop (mkF m 85 #[.val (.ref a0), .val (.int p1), .val (.int p2), .val (.long q3), .second, .val (.int (63 : Int32)), .val (.int (Int32.ofNat i)), .val (.int (p1 + (1 : Int32))), .val (.int (f i))] [(.int (63 : Int32)), (.int ((Int32.ofNat i) + (1 : Int32)))])) t
    refine XS.iand X0.here hx rfl (hb hby d3_85) rfl ?_
    show Steps p.tables e below (T0.setTop (mkF m 86 #[.val (.ref a0), .val (.int p1), .val (.int p2), .val (.long q3), .second, .val (.int (63 : Int32)), .val (.int (Int32.ofNat i)), .val (.int (p1 + (1 : Int32))), .val (.int (f i))] [(.int (((Int32.ofNat i) + (1 : Int32)) &&& (63 : Int32)))])) t
    refine XS.istore X0.here hx rfl (hb hby d3_86) rfl (l' := #[.val (.ref a0), .val (.int p1), .val (.int p2), .val (.long q3), .second, .val (.int (63 : Int32)), .val (.int (((Int32.ofNat i) + (1 : Int32)) &&& (63 : Int32))), .val (.int (p1 + (1 : Int32))), .val (.int (f i))]) rfl ?_
    exact kt
  rw [own_nx hi64]
  refine own_by (A' := T0.setTop (mkF m 89 #[.val (.ref a0), .val (.int p1), .val (.int p2), .val (.long q3), .second, .val (.int (63 : Int32)), .val (.int (Int32.ofNat ((i + 1) % 64))), .val (.int (p1 + (1 : Int32))), .val (.int (f i))] [(.ref a0)])) (fun t kt => ?_) ?_
  · show Steps p.tables e below (T0.setTop (mkF m 88 #[.val (.ref a0), .val (.int p1), .val (.int p2), .val (.long q3), .second, .val (.int (63 : Int32)), .val (.int (Int32.ofNat ((i + 1) % 64))), .val (.int (p1 + (1 : Int32))), .val (.int (f i))] [])) t
    refine XS.aloadN X0.here hx rfl (hb hby d3_88) rfl rfl ?_
    exact kt
  obtain ⟨T3, X3, e3, st3⟩ := getF X0 hx hZ hown (host := "") (Or.inl (hw _ (List.mem_of_getElem? (i := 11) rfl))) Via.refl e0 PF1 (g := (mkF m 89 #[.val (.ref a0), .val (.int p1), .val (.int p2), .val (.long q3), .second, .val (.int (63 : Int32)), .val (.int (Int32.ofNat ((i + 1) % 64))), .val (.int (p1 + (1 : Int32))), .val (.int (f i))] [(.ref a0)])) rfl rfl (hb hby d3_89)
  refine own_by (A' := T3.setTop (mkF m 92 #[.val (.ref a0), .val (.int p1), .val (.int p2), .val (.long q3), .second, .val (.int (63 : Int32)), .val (.int (Int32.ofNat ((i + 1) % 64))), .val (.int (p1 + (1 : Int32))), .val (.int (f i))] [(.ref b)])) (fun t kt => st3 t kt) ?_
  refine own_by (A' := T3.setTop (mkF m 94 #[.val (.ref a0), .val (.int p1), .val (.int p2), .val (.long q3), .second, .val (.int (63 : Int32)), .val (.int (Int32.ofNat ((i + 1) % 64))), .val (.int (p1 + (1 : Int32))), .val (.int (f i))] [(.int (Int32.ofNat ((i + 1) % 64))), (.ref b)])) (fun t kt => ?_) ?_
  · show Steps p.tables e below (T3.setTop (mkF m 92 #[.val (.ref a0), .val (.int p1), .val (.int p2), .val (.long q3), .second, .val (.int (63 : Int32)), .val (.int (Int32.ofNat ((i + 1) % 64))), .val (.int (p1 + (1 : Int32))), .val (.int (f i))] [(.ref b)])) t
    refine XS.iload X3.here hx rfl (hb hby d3_92) rfl ?_
    exact kt
  obtain ⟨cl4, Ar4, Sz4, Mn4, Ha4⟩ := id V_b
  have hin4 := inb_of (j := (Int32.ofNat ((i + 1) % 64))) Sz4 ⟨(own_of (Nat.mod_lt _ (by decide))).2.1, (own_of (Nat.mod_lt _ (by decide))).2.2⟩
  have hat4 : cl4.slots[((Int32.ofNat ((i + 1) % 64))).toNatClampNeg]? = some (.int (f ((i + 1) % 64))) := (Ha4 _ (Nat.lt_of_not_le fun q => hin4 (Or.inr q))).trans (congrArg some (congrArg (fun i => Value.int (f i)) (own_of (Nat.mod_lt _ (by decide))).1))
  refine own_by (A' := T3.setTop (mkF m 65 #[.val (.ref a0), .val (.int p1), .val (.int p2), .val (.long q3), .second, .val (.int (63 : Int32)), .val (.int (Int32.ofNat ((i + 1) % 64))), .val (.int (p1 + (1 : Int32))), .val (.int (f ((i + 1) % 64)))] [])) (fun t kt => ?_) ?_
  · show Steps p.tables e below (T3.setTop (mkF m 94 #[.val (.ref a0), .val (.int p1), .val (.int p2), .val (.long q3), .second, .val (.int (63 : Int32)), .val (.int (Int32.ofNat ((i + 1) % 64))), .val (.int (p1 + (1 : Int32))), .val (.int (f i))] [(.int (Int32.ofNat ((i + 1) % 64))), (.ref b)])) t
    refine X3.iaload hx (j := (Int32.ofNat ((i + 1) % 64))) (v := (.int (f ((i + 1) % 64)))) (by rw [e3]; exact Ar4.1) (State.isArrayOf_alike hZ.alike Ar4.2.1) Ar4.2.2 hin4 hat4 (g := (mkF m 94 #[.val (.ref a0), .val (.int p1), .val (.int p2), .val (.long q3), .second, .val (.int (63 : Int32)), .val (.int (Int32.ofNat ((i + 1) % 64))), .val (.int (p1 + (1 : Int32))), .val (.int (f i))] [(.int (Int32.ofNat ((i + 1) % 64))), (.ref b)])) rfl rfl (hb hby d3_94) _ ?_
    show Steps p.tables e below (T3.setTop (mkF m 95 #[.val (.ref a0), .val (.int p1), .val (.int p2), .val (.long q3), .second, .val (.int (63 : Int32)), .val (.int (Int32.ofNat ((i + 1) % 64))), .val (.int (p1 + (1 : Int32))), .val (.int (f i))] [(.int (f ((i + 1) % 64)))])) t
    refine XS.istore X3.here hx rfl (hb hby d3_95) rfl (l' := #[.val (.ref a0), .val (.int p1), .val (.int p2), .val (.long q3), .second, .val (.int (63 : Int32)), .val (.int (Int32.ofNat ((i + 1) % 64))), .val (.int (p1 + (1 : Int32))), .val (.int (f ((i + 1) % 64)))]) rfl ?_
    show Steps p.tables e below (T3.setTop (mkF m 97 #[.val (.ref a0), .val (.int p1), .val (.int p2), .val (.long q3), .second, .val (.int (63 : Int32)), .val (.int (Int32.ofNat ((i + 1) % 64))), .val (.int (p1 + (1 : Int32))), .val (.int (f ((i + 1) % 64)))] [])) t
    refine XS.goto X3.here hx rfl (pc0 := 97) (pc' := 65) rfl (hb hby d3_97) (by decide) (by decide) ?_
    exact kt
  exact k T3 X3 e3
theorem own_turnC {p : Program} {l : Launch} {e : Env} {R : Room} {s : State} {m : MethodId} {args : Array Value} {below : List Frame} {meth : Method} {c : Code} {locs : List Loc} {cells slots : Nat} {Z : State} {aw : Array Value} {h0 : Heap} {P : State → Outcome → Prop} (a0 : Addr) (b : Addr) (f : Nat → Int32) (p1 : Int32) (p2 : Int32) (q3 : Int64)
    (hx : p.tables.exec = Jvm.exec) (hZ : Z.Warmed39 s.vm) (hw : ∀ d ∈ tables_1, d.before aw Z = true) (hby : c.code = prog_50_method_3_code) (hml : c.maxLocals = 9) (hown : s.vm.findClass "com/example/corollary/corollary/saturation/TermSet" = some m.cls) (PF1 : Fld Z h0 a0 "com/example/corollary/corollary/saturation/TermSet" "table" "[I" (.ref b)) (V_b : AF Z h0 b .int (64 : Int32) (fun i => .int (f i))) :
    ∀ (d i : Nat) (T0 : State), i < 64 → Stand p l e R s m args below meth c T0 locs cells slots → T0.heap = h0 → (∀ e, e < d → f ((i + e) % 64) ≠ 0 ∧ f ((i + e) % 64) ≠ p1 + 1) → (∀ T', Stand p l e R s m args below meth c T' locs cells slots → T'.heap = h0 → ∃ s₂ o, Steps p.tables e below (T'.setTop (mkF m 65 #[.val (.ref a0), .val (.int p1), .val (.int p2), .val (.long q3), .second, .val (.int (63 : Int32)), .val (.int (Int32.ofNat ((i + d) % 64))), .val (.int (p1 + (1 : Int32))), .val (.int (f ((i + d) % 64)))] [])) s₂ ∧ P s₂ o) → ∃ s₂ o, Steps p.tables e below (T0.setTop (mkF m 65 #[.val (.ref a0), .val (.int p1), .val (.int p2), .val (.long q3), .second, .val (.int (63 : Int32)), .val (.int (Int32.ofNat i)), .val (.int (p1 + (1 : Int32))), .val (.int (f i))] [])) s₂ ∧ P s₂ o := by
  intro d
  induction d with
  | zero =>
    intro i T0 hi X0 e0 _ k
    have q : (i + 0) % 64 = i := by omega
    rw [q] at k
    exact k T0 X0 e0
  | succ d ih =>
    intro i T0 hi X0 e0 hne k
    have q0 := hne 0 (by omega)
    rw [show (i + 0) % 64 = i from by omega] at q0
    refine own_turnC1 a0 b f p1 p2 q3 i X0 hx hZ hw hby hml hown e0 PF1 V_b hi q0.1 q0.2 (fun T' X' e' => ih ((i + 1) % 64) T' (Nat.mod_lt _ (by decide)) X' e' (fun e he => ?_) (fun T'' X'' e'' => ?_))
    · have := hne (e + 1) (by omega)
      rwa [show (i + (e + 1)) % 64 = ((i + 1) % 64 + e) % 64 from by omega] at this
    · have := k T'' X'' e''
      rwa [show (i + (d + 1)) % 64 = ((i + 1) % 64 + d) % 64 from by omega] at this
theorem d6_32 : decode prog_50_method_2_code 32 = .ok (.iload 6, 2) := by decide +kernel
theorem d6_34 : decode prog_50_method_2_code 34 = .ok (.ifCond .eq 32, 3) := by decide +kernel
theorem d6_37 : decode prog_50_method_2_code 37 = .ok (.iload 6, 2) := by decide +kernel
theorem d6_39 : decode prog_50_method_2_code 39 = .ok (.iload 5, 2) := by decide +kernel
theorem d6_41 : decode prog_50_method_2_code 41 = .ok (.if_icmp .ne 5, 3) := by decide +kernel
theorem d6_46 : decode prog_50_method_2_code 46 = .ok (.iload 4, 2) := by decide +kernel
theorem d6_48 : decode prog_50_method_2_code 48 = .ok (.iconst 1, 1) := by decide +kernel
theorem d6_49 : decode prog_50_method_2_code 49 = .ok (.iadd, 1) := by decide +kernel
theorem d6_50 : decode prog_50_method_2_code 50 = .ok (.iload_n 3, 1) := by decide +kernel
theorem d6_51 : decode prog_50_method_2_code 51 = .ok (.iand, 1) := by decide +kernel
theorem d6_52 : decode prog_50_method_2_code 52 = .ok (.istore 4, 2) := by decide +kernel
theorem d6_54 : decode prog_50_method_2_code 54 = .ok (.aload_n 0, 1) := by decide +kernel
theorem d6_55 : decode prog_50_method_2_code 55 = .ok (.getfield 9, 3) := by decide +kernel
theorem d6_58 : decode prog_50_method_2_code 58 = .ok (.iload 4, 2) := by decide +kernel
theorem d6_60 : decode prog_50_method_2_code 60 = .ok (.iaload, 1) := by decide +kernel
theorem d6_61 : decode prog_50_method_2_code 61 = .ok (.istore 6, 2) := by decide +kernel
theorem d6_63 : decode prog_50_method_2_code 63 = .ok (.goto (-31), 3) := by decide +kernel
set_option maxRecDepth 65536 in
set_option maxHeartbeats 40000000 in
theorem own_turnA1 {p : Program} {l : Launch} {e : Env} {R : Room} {s : State} {m : MethodId} {args : Array Value} {below : List Frame} {meth : Method} {c : Code} {T0 : State} {locs : List Loc} {cells slots : Nat} {Z : State} {aw : Array Value} {h0 : Heap} {P : State → Outcome → Prop} (a0 : Addr) (b : Addr) (f : Nat → Int32) (p1 : Int32) (p2 : Int32) (i : Nat)
    (X0 : Stand p l e R s m args below meth c T0 locs cells slots) (hx : p.tables.exec = Jvm.exec) (hZ : Z.Warmed39 s.vm) (hw : ∀ d ∈ tables_1, d.before aw Z = true) (hby : c.code = prog_50_method_2_code) (hml : c.maxLocals = 7) (hown : s.vm.findClass "com/example/corollary/corollary/saturation/TermSet" = some m.cls) (e0 : T0.heap = h0) (PF1 : Fld Z h0 a0 "com/example/corollary/corollary/saturation/TermSet" "table" "[I" (.ref b)) (V_b : AF Z h0 b .int (64 : Int32) (fun i => .int (f i))) (hi64 : i < 64) (hn0 : ¬ (f i = 0)) (hn1 : ¬ (f i = (p1 + (1 : Int32)))) (k : ∀ T', Stand p l e R s m args below meth c T' locs cells slots → T'.heap = h0 → ∃ s₂ o, Steps p.tables e below (T'.setTop (mkF m 32 #[.val (.ref a0), .val (.int p1), .val (.int p2), .val (.int (63 : Int32)), .val (.int (Int32.ofNat ((i + 1) % 64))), .val (.int (p1 + (1 : Int32))), .val (.int (f ((i + 1) % 64)))] [])) s₂ ∧ P s₂ o) :
    ∃ s₂ o, Steps p.tables e below (T0.setTop (mkF m 32 #[.val (.ref a0), .val (.int p1), .val (.int p2), .val (.int (63 : Int32)), .val (.int (Int32.ofNat i)), .val (.int (p1 + (1 : Int32))), .val (.int (f i))] [])) s₂ ∧ P s₂ o := by
  refine own_by (A' := T0.setTop (mkF m 34 #[.val (.ref a0), .val (.int p1), .val (.int p2), .val (.int (63 : Int32)), .val (.int (Int32.ofNat i)), .val (.int (p1 + (1 : Int32))), .val (.int (f i))] [(.int (f i))])) (fun t kt => ?_) ?_
  · show Steps p.tables e below (T0.setTop (mkF m 32 #[.val (.ref a0), .val (.int p1), .val (.int p2), .val (.int (63 : Int32)), .val (.int (Int32.ofNat i)), .val (.int (p1 + (1 : Int32))), .val (.int (f i))] [])) t
    refine XS.iload X0.here hx rfl (hb hby d6_32) rfl ?_
    exact kt
  have hc34_1 : ¬ ((f i) = (0 : Int32)) := hn0
  refine own_by (A' := T0.setTop (mkF m 41 #[.val (.ref a0), .val (.int p1), .val (.int p2), .val (.int (63 : Int32)), .val (.int (Int32.ofNat i)), .val (.int (p1 + (1 : Int32))), .val (.int (f i))] [(.int (p1 + (1 : Int32))), (.int (f i))])) (fun t kt => ?_) ?_
  · show Steps p.tables e below (T0.setTop (mkF m 34 #[.val (.ref a0), .val (.int p1), .val (.int p2), .val (.int (63 : Int32)), .val (.int (Int32.ofNat i)), .val (.int (p1 + (1 : Int32))), .val (.int (f i))] [(.int (f i))])) t
    refine XS.ifNo X0.here hx rfl (hb hby d6_34) rfl ((if0 _ _).trans (feq hc34_1).1) ?_
    show Steps p.tables e below (T0.setTop (mkF m 37 #[.val (.ref a0), .val (.int p1), .val (.int p2), .val (.int (63 : Int32)), .val (.int (Int32.ofNat i)), .val (.int (p1 + (1 : Int32))), .val (.int (f i))] [])) t
    refine XS.iload X0.here hx rfl (hb hby d6_37) rfl ?_
    show Steps p.tables e below (T0.setTop (mkF m 39 #[.val (.ref a0), .val (.int p1), .val (.int p2), .val (.int (63 : Int32)), .val (.int (Int32.ofNat i)), .val (.int (p1 + (1 : Int32))), .val (.int (f i))] [(.int (f i))])) t
    refine XS.iload X0.here hx rfl (hb hby d6_39) rfl ?_
    exact kt
  have hc41_2 : ¬ ((f i) = (p1 + (1 : Int32))) := hn1
  refine own_by (A' := T0.setTop (mkF m 54 #[.val (.ref a0), .val (.int p1), .val (.int p2), .val (.int (63 : Int32)), .val (.int (((Int32.ofNat i) + (1 : Int32)) &&& (63 : Int32))), .val (.int (p1 + (1 : Int32))), .val (.int (f i))] [])) (fun t kt => ?_) ?_
  · show Steps p.tables e below (T0.setTop (mkF m 41 #[.val (.ref a0), .val (.int p1), .val (.int p2), .val (.int (63 : Int32)), .val (.int (Int32.ofNat i)), .val (.int (p1 + (1 : Int32))), .val (.int (f i))] [(.int (p1 + (1 : Int32))), (.int (f i))])) t
    refine XS.icmpYes X0.here hx rfl (pc0 := 41) (pc' := 46) rfl (hb hby d6_41) rfl (feq hc41_2).2 (by decide) (by decide) ?_
    show Steps p.tables e below (T0.setTop (mkF m 46 #[.val (.ref a0), .val (.int p1), .val (.int p2), .val (.int (63 : Int32)), .val (.int (Int32.ofNat i)), .val (.int (p1 + (1 : Int32))), .val (.int (f i))] [])) t
    refine XS.iload X0.here hx rfl (hb hby d6_46) rfl ?_
    show Steps p.tables e below (T0.setTop (mkF m 48 #[.val (.ref a0), .val (.int p1), .val (.int p2), .val (.int (63 : Int32)), .val (.int (Int32.ofNat i)), .val (.int (p1 + (1 : Int32))), .val (.int (f i))] [(.int (Int32.ofNat i))])) t
    refine XS.iconst X0.here hx rfl (hb hby d6_48) ?_
    show Steps p.tables e below (T0.setTop (mkF m 49 #[.val (.ref a0), .val (.int p1), .val (.int p2), .val (.int (63 : Int32)), .val (.int (Int32.ofNat i)), .val (.int (p1 + (1 : Int32))), .val (.int (f i))] [(.int (1 : Int32)), (.int (Int32.ofNat i))])) t
    refine XS.iadd X0.here hx rfl (hb hby d6_49) rfl ?_
    show Steps p.tables e below (T0.setTop (mkF m 50 #[.val (.ref a0), .val (.int p1), .val (.int p2), .val (.int (63 : Int32)), .val (.int (Int32.ofNat i)), .val (.int (p1 + (1 : Int32))), .val (.int (f i))] [(.int ((Int32.ofNat i) + (1 : Int32)))])) t
    refine XS.iloadN X0.here hx rfl (hb hby d6_50) rfl ?_
    show Steps p.tables e below (T0.setTop (mkF m 51 #[.val (.ref a0), .val (.int p1), .val (.int p2), .val (.int (63 : Int32)), .val (.int (Int32.ofNat i)), .val (.int (p1 + (1 : Int32))), .val (.int (f i))] [(.int (63 : Int32)), (.int ((Int32.ofNat i) + (1 : Int32)))])) t
    refine XS.iand X0.here hx rfl (hb hby d6_51) rfl ?_
    show Steps p.tables e below (T0.setTop (mkF m 52 #[.val (.ref a0), .val (.int p1), .val (.int p2), .val (.int (63 : Int32)), .val (.int (Int32.ofNat i)), .val (.int (p1 + (1 : Int32))), .val (.int (f i))] [(.int (((Int32.ofNat i) + (1 : Int32)) &&& (63 : Int32)))])) t
    refine XS.istore X0.here hx rfl (hb hby d6_52) rfl (l' := #[.val (.ref a0), .val (.int p1), .val (.int p2), .val (.int (63 : Int32)), .val (.int (((Int32.ofNat i) + (1 : Int32)) &&& (63 : Int32))), .val (.int (p1 + (1 : Int32))), .val (.int (f i))]) rfl ?_
    exact kt
  rw [own_nx hi64]
  refine own_by (A' := T0.setTop (mkF m 55 #[.val (.ref a0), .val (.int p1), .val (.int p2), .val (.int (63 : Int32)), .val (.int (Int32.ofNat ((i + 1) % 64))), .val (.int (p1 + (1 : Int32))), .val (.int (f i))] [(.ref a0)])) (fun t kt => ?_) ?_
  · show Steps p.tables e below (T0.setTop (mkF m 54 #[.val (.ref a0), .val (.int p1), .val (.int p2), .val (.int (63 : Int32)), .val (.int (Int32.ofNat ((i + 1) % 64))), .val (.int (p1 + (1 : Int32))), .val (.int (f i))] [])) t
    refine XS.aloadN X0.here hx rfl (hb hby d6_54) rfl rfl ?_
    exact kt
  obtain ⟨T3, X3, e3, st3⟩ := getF X0 hx hZ hown (host := "") (Or.inl (hw _ (List.mem_of_getElem? (i := 11) rfl))) Via.refl e0 PF1 (g := (mkF m 55 #[.val (.ref a0), .val (.int p1), .val (.int p2), .val (.int (63 : Int32)), .val (.int (Int32.ofNat ((i + 1) % 64))), .val (.int (p1 + (1 : Int32))), .val (.int (f i))] [(.ref a0)])) rfl rfl (hb hby d6_55)
  refine own_by (A' := T3.setTop (mkF m 58 #[.val (.ref a0), .val (.int p1), .val (.int p2), .val (.int (63 : Int32)), .val (.int (Int32.ofNat ((i + 1) % 64))), .val (.int (p1 + (1 : Int32))), .val (.int (f i))] [(.ref b)])) (fun t kt => st3 t kt) ?_
  refine own_by (A' := T3.setTop (mkF m 60 #[.val (.ref a0), .val (.int p1), .val (.int p2), .val (.int (63 : Int32)), .val (.int (Int32.ofNat ((i + 1) % 64))), .val (.int (p1 + (1 : Int32))), .val (.int (f i))] [(.int (Int32.ofNat ((i + 1) % 64))), (.ref b)])) (fun t kt => ?_) ?_
  · show Steps p.tables e below (T3.setTop (mkF m 58 #[.val (.ref a0), .val (.int p1), .val (.int p2), .val (.int (63 : Int32)), .val (.int (Int32.ofNat ((i + 1) % 64))), .val (.int (p1 + (1 : Int32))), .val (.int (f i))] [(.ref b)])) t
    refine XS.iload X3.here hx rfl (hb hby d6_58) rfl ?_
    exact kt
  obtain ⟨cl4, Ar4, Sz4, Mn4, Ha4⟩ := id V_b
  have hin4 := inb_of (j := (Int32.ofNat ((i + 1) % 64))) Sz4 ⟨(own_of (Nat.mod_lt _ (by decide))).2.1, (own_of (Nat.mod_lt _ (by decide))).2.2⟩
  have hat4 : cl4.slots[((Int32.ofNat ((i + 1) % 64))).toNatClampNeg]? = some (.int (f ((i + 1) % 64))) := (Ha4 _ (Nat.lt_of_not_le fun q => hin4 (Or.inr q))).trans (congrArg some (congrArg (fun i => Value.int (f i)) (own_of (Nat.mod_lt _ (by decide))).1))
  refine own_by (A' := T3.setTop (mkF m 32 #[.val (.ref a0), .val (.int p1), .val (.int p2), .val (.int (63 : Int32)), .val (.int (Int32.ofNat ((i + 1) % 64))), .val (.int (p1 + (1 : Int32))), .val (.int (f ((i + 1) % 64)))] [])) (fun t kt => ?_) ?_
  · show Steps p.tables e below (T3.setTop (mkF m 60 #[.val (.ref a0), .val (.int p1), .val (.int p2), .val (.int (63 : Int32)), .val (.int (Int32.ofNat ((i + 1) % 64))), .val (.int (p1 + (1 : Int32))), .val (.int (f i))] [(.int (Int32.ofNat ((i + 1) % 64))), (.ref b)])) t
    refine X3.iaload hx (j := (Int32.ofNat ((i + 1) % 64))) (v := (.int (f ((i + 1) % 64)))) (by rw [e3]; exact Ar4.1) (State.isArrayOf_alike hZ.alike Ar4.2.1) Ar4.2.2 hin4 hat4 (g := (mkF m 60 #[.val (.ref a0), .val (.int p1), .val (.int p2), .val (.int (63 : Int32)), .val (.int (Int32.ofNat ((i + 1) % 64))), .val (.int (p1 + (1 : Int32))), .val (.int (f i))] [(.int (Int32.ofNat ((i + 1) % 64))), (.ref b)])) rfl rfl (hb hby d6_60) _ ?_
    show Steps p.tables e below (T3.setTop (mkF m 61 #[.val (.ref a0), .val (.int p1), .val (.int p2), .val (.int (63 : Int32)), .val (.int (Int32.ofNat ((i + 1) % 64))), .val (.int (p1 + (1 : Int32))), .val (.int (f i))] [(.int (f ((i + 1) % 64)))])) t
    refine XS.istore X3.here hx rfl (hb hby d6_61) rfl (l' := #[.val (.ref a0), .val (.int p1), .val (.int p2), .val (.int (63 : Int32)), .val (.int (Int32.ofNat ((i + 1) % 64))), .val (.int (p1 + (1 : Int32))), .val (.int (f ((i + 1) % 64)))]) rfl ?_
    show Steps p.tables e below (T3.setTop (mkF m 63 #[.val (.ref a0), .val (.int p1), .val (.int p2), .val (.int (63 : Int32)), .val (.int (Int32.ofNat ((i + 1) % 64))), .val (.int (p1 + (1 : Int32))), .val (.int (f ((i + 1) % 64)))] [])) t
    refine XS.goto X3.here hx rfl (pc0 := 63) (pc' := 32) rfl (hb hby d6_63) (by decide) (by decide) ?_
    exact kt
  exact k T3 X3 e3
theorem own_turnA {p : Program} {l : Launch} {e : Env} {R : Room} {s : State} {m : MethodId} {args : Array Value} {below : List Frame} {meth : Method} {c : Code} {locs : List Loc} {cells slots : Nat} {Z : State} {aw : Array Value} {h0 : Heap} {P : State → Outcome → Prop} (a0 : Addr) (b : Addr) (f : Nat → Int32) (p1 : Int32) (p2 : Int32)
    (hx : p.tables.exec = Jvm.exec) (hZ : Z.Warmed39 s.vm) (hw : ∀ d ∈ tables_1, d.before aw Z = true) (hby : c.code = prog_50_method_2_code) (hml : c.maxLocals = 7) (hown : s.vm.findClass "com/example/corollary/corollary/saturation/TermSet" = some m.cls) (PF1 : Fld Z h0 a0 "com/example/corollary/corollary/saturation/TermSet" "table" "[I" (.ref b)) (V_b : AF Z h0 b .int (64 : Int32) (fun i => .int (f i))) :
    ∀ (d i : Nat) (T0 : State), i < 64 → Stand p l e R s m args below meth c T0 locs cells slots → T0.heap = h0 → (∀ e, e < d → f ((i + e) % 64) ≠ 0 ∧ f ((i + e) % 64) ≠ p1 + 1) → (∀ T', Stand p l e R s m args below meth c T' locs cells slots → T'.heap = h0 → ∃ s₂ o, Steps p.tables e below (T'.setTop (mkF m 32 #[.val (.ref a0), .val (.int p1), .val (.int p2), .val (.int (63 : Int32)), .val (.int (Int32.ofNat ((i + d) % 64))), .val (.int (p1 + (1 : Int32))), .val (.int (f ((i + d) % 64)))] [])) s₂ ∧ P s₂ o) → ∃ s₂ o, Steps p.tables e below (T0.setTop (mkF m 32 #[.val (.ref a0), .val (.int p1), .val (.int p2), .val (.int (63 : Int32)), .val (.int (Int32.ofNat i)), .val (.int (p1 + (1 : Int32))), .val (.int (f i))] [])) s₂ ∧ P s₂ o := by
  intro d
  induction d with
  | zero =>
    intro i T0 hi X0 e0 _ k
    have q : (i + 0) % 64 = i := by omega
    rw [q] at k
    exact k T0 X0 e0
  | succ d ih =>
    intro i T0 hi X0 e0 hne k
    have q0 := hne 0 (by omega)
    rw [show (i + 0) % 64 = i from by omega] at q0
    refine own_turnA1 a0 b f p1 p2 i X0 hx hZ hw hby hml hown e0 PF1 V_b hi q0.1 q0.2 (fun T' X' e' => ih ((i + 1) % 64) T' (Nat.mod_lt _ (by decide)) X' e' (fun e he => ?_) (fun T'' X'' e'' => ?_))
    · have := hne (e + 1) (by omega)
      rwa [show (i + (e + 1)) % 64 = ((i + 1) % 64 + e) % 64 from by omega] at this
    · have := k T'' X'' e''
      rwa [show (i + (d + 1)) % 64 = ((i + 1) % 64 + d) % 64 from by omega] at this
theorem pd_1 : parseMethodDescriptor "(I)I" = some ⟨[.int], some .int⟩ := by decide +kernel
theorem d3_0 : decode prog_50_method_3_code 0 = .ok (.iload_n 1, 1) := by decide +kernel
theorem d3_1 : decode prog_50_method_3_code 1 = .ok (.invokestatic 13, 3) := by decide +kernel
theorem d3_4 : decode prog_50_method_3_code 4 = .ok (.istore_n 2, 1) := by decide +kernel
theorem d3_5 : decode prog_50_method_3_code 5 = .ok (.iload_n 2, 1) := by decide +kernel
theorem d3_6 : decode prog_50_method_3_code 6 = .ok (.ifCond .ge 10, 3) := by decide +kernel
theorem d3_9 : decode prog_50_method_3_code 9 = .ok (.aload_n 0, 1) := by decide +kernel
theorem d3_10 : decode prog_50_method_3_code 10 = .ok (.getfield 17, 3) := by decide +kernel
theorem d3_13 : decode prog_50_method_3_code 13 = .ok (.goto 7, 3) := by decide +kernel
theorem d3_16 : decode prog_50_method_3_code 16 = .ok (.aload_n 0, 1) := by decide +kernel
theorem d3_17 : decode prog_50_method_3_code 17 = .ok (.getfield 21, 3) := by decide +kernel
theorem d3_20 : decode prog_50_method_3_code 20 = .ok (.lstore_n 3, 1) := by decide +kernel
theorem d3_21 : decode prog_50_method_3_code 21 = .ok (.lload_n 3, 1) := by decide +kernel
theorem d3_22 : decode prog_50_method_3_code 22 = .ok (.lconst 1, 1) := by decide +kernel
theorem d3_23 : decode prog_50_method_3_code 23 = .ok (.iload_n 2, 1) := by decide +kernel
theorem d3_24 : decode prog_50_method_3_code 24 = .ok (.bipush 25, 2) := by decide +kernel
theorem d3_26 : decode prog_50_method_3_code 26 = .ok (.iushr, 1) := by decide +kernel
theorem d3_27 : decode prog_50_method_3_code 27 = .ok (.lshl, 1) := by decide +kernel
theorem d3_28 : decode prog_50_method_3_code 28 = .ok (.land, 1) := by decide +kernel
theorem d3_29 : decode prog_50_method_3_code 29 = .ok (.lconst 0, 1) := by decide +kernel
theorem d3_30 : decode prog_50_method_3_code 30 = .ok (.lcmp, 1) := by decide +kernel
theorem d3_31 : decode prog_50_method_3_code 31 = .ok (.ifCond .ne 5, 3) := by decide +kernel
theorem d3_34 : decode prog_50_method_3_code 34 = .ok (.iconst 0, 1) := by decide +kernel
theorem d3_35 : decode prog_50_method_3_code 35 = .ok (.ireturn, 1) := by decide +kernel
theorem d3_36 : decode prog_50_method_3_code 36 = .ok (.aload_n 0, 1) := by decide +kernel
theorem d3_37 : decode prog_50_method_3_code 37 = .ok (.getfield 9, 3) := by decide +kernel
theorem d3_40 : decode prog_50_method_3_code 40 = .ok (.arraylength, 1) := by decide +kernel
theorem d3_41 : decode prog_50_method_3_code 41 = .ok (.iconst 1, 1) := by decide +kernel
theorem d3_42 : decode prog_50_method_3_code 42 = .ok (.isub, 1) := by decide +kernel
theorem d3_43 : decode prog_50_method_3_code 43 = .ok (.istore 5, 2) := by decide +kernel
theorem d3_45 : decode prog_50_method_3_code 45 = .ok (.iload_n 2, 1) := by decide +kernel
theorem d3_46 : decode prog_50_method_3_code 46 = .ok (.iload 5, 2) := by decide +kernel
theorem d3_48 : decode prog_50_method_3_code 48 = .ok (.iand, 1) := by decide +kernel
theorem d3_49 : decode prog_50_method_3_code 49 = .ok (.istore 6, 2) := by decide +kernel
theorem d3_51 : decode prog_50_method_3_code 51 = .ok (.iload_n 1, 1) := by decide +kernel
theorem d3_52 : decode prog_50_method_3_code 52 = .ok (.iconst 1, 1) := by decide +kernel
theorem d3_53 : decode prog_50_method_3_code 53 = .ok (.iadd, 1) := by decide +kernel
theorem d3_54 : decode prog_50_method_3_code 54 = .ok (.istore 7, 2) := by decide +kernel
theorem d3_56 : decode prog_50_method_3_code 56 = .ok (.aload_n 0, 1) := by decide +kernel
theorem d3_57 : decode prog_50_method_3_code 57 = .ok (.getfield 9, 3) := by decide +kernel
theorem d3_60 : decode prog_50_method_3_code 60 = .ok (.iload 6, 2) := by decide +kernel
theorem d3_62 : decode prog_50_method_3_code 62 = .ok (.iaload, 1) := by decide +kernel
theorem d3_63 : decode prog_50_method_3_code 63 = .ok (.istore 8, 2) := by decide +kernel
theorem d3_77 : decode prog_50_method_3_code 77 = .ok (.iconst 1, 1) := by decide +kernel
theorem d3_78 : decode prog_50_method_3_code 78 = .ok (.ireturn, 1) := by decide +kernel
theorem d3_100 : decode prog_50_method_3_code 100 = .ok (.iconst 0, 1) := by decide +kernel
theorem d3_101 : decode prog_50_method_3_code 101 = .ok (.ireturn, 1) := by decide +kernel
theorem ef_rm3 (m : MethodId) (a0 : Addr) (p1 : Int32) : entryFrame m #[(.ref a0), (.int p1)] 9 = mkF m 0 #[.val (.ref a0), .val (.int p1), .unset, .unset, .unset, .unset, .unset, .unset, .unset] [] := by first | (simp [entryFrame, mkF, argsToLocals, Value.category]; done) | rfl
def Q3 (Z : State) (a0 : Addr) (p1 : Int32) (b : Addr) (f : Nat → Int32) (lo : Int64) (hi : Int64) (sz : Int32) (S : List Int32) (h0 : Heap) (n0 : Nat) (v : Option Value) (h : Heap) (L : List Loc) : Prop := v = some (.int (if p1 ∈ S then (1 : Int32) else (0 : Int32))) ∧ Fr n0 L ∧ h = h0
set_option maxRecDepth 65536 in
set_option maxHeartbeats 40000000 in
theorem rm3 (l : Launch) (Z : State) (aw : Array Value) (hw : ∀ d ∈ tables_1, d.before aw Z = true) (ws : List Jvm.Cond) (a0 : Addr) (p1 : Int32) (b : Addr) (f : Nat → Int32) (lo : Int64) (hi : Int64) (sz : Int32) (S : List Int32) (h0 : Heap) (n0 : Nat) (Z0 : n0 ≤ h0.size) (PF1 : Fld Z h0 a0 "com/example/corollary/corollary/saturation/TermSet" "table" "[I" (.ref b)) (PF2 : Fld Z h0 a0 "com/example/corollary/corollary/saturation/TermSet" "highSummary" "J" (.long hi)) (PF3 : Fld Z h0 a0 "com/example/corollary/corollary/saturation/TermSet" "lowSummary" "J" (.long lo)) (PF4 : Fld Z h0 a0 "com/example/corollary/corollary/saturation/TermSet" "size" "I" (.int sz)) (V_b : AF Z h0 b .int (64 : Int32) (fun i => .int (f i))) (I : own_Inv f lo hi sz S) (hS : S.length < 30) :
    MetFree l (⟨"com/example/corollary/corollary/saturation/TermSet", "contains", "(I)Z"⟩ : MethodName) (head1 (Jvm.Cond.code (⟨"com/example/corollary/corollary/saturation/TermSet", "contains", "(I)Z"⟩ : MethodName) prog_50_method_3_code 9 (some .boolean) :: ws) ({ frames := 1, cells := 0, slots := 0, locals := 13 } : Room)) (fun a U => a = #[(.ref a0), (.int p1)] ∧ Z.Warmed39 U.vm ∧ U.heap = h0) (fun _ _ _ _ _ => True) (fun _ U o U' => ∃ v L, o = .returned v ∧ Q3 Z a0 p1 b f lo hi sz S h0 n0 v U'.heap L ∧ FrameEnd U o U' L ({ frames := 1, cells := 0, slots := 0, locals := 13 } : Room).cells ({ frames := 1, cells := 0, slots := 0, locals := 13 } : Room).slots) := by
  refine MetFree.of_bodySF (plainFor_of_name pn_0) hisR ?_
  intro p e s m args below meth c s₁ Bd hml0 hP hK
  obtain ⟨rfl, hZ, hh⟩ := hP
  have hx := Bd.exec
  have hby := Bd.bytes
  have hml : c.maxLocals = 9 := hml0
  have hown : s.vm.findClass "com/example/corollary/corollary/saturation/TermSet" = some m.cls := findClass_of_methodNamed Bd.named
  have hnm := (name_of_methodNamed Bd.named Bd.method).1
  have X0 : Stand p l e ({ frames := 1, cells := 0, slots := 0, locals := 13 } : Room) s m #[(.ref a0), (.int p1)] below meth c s₁ [] 0 0 := Stand.of_body Bd
  have e0 : s₁.heap = h0 := by rw [← hh, Bd.state]; rfl
  have N0 := Fr.nil n0
  have K0 : Keep h0 h0 [] := Keep.refl _ _
  refine own_by (A' := s₁.setTop (mkF m 0 #[.val (.ref a0), .val (.int p1), .unset, .unset, .unset, .unset, .unset, .unset, .unset] [])) (fun t k => castTop (ef_rm3 m a0 p1) k) ?_
  refine own_by (A' := s₁.setTop (mkF m 1 #[.val (.ref a0), .val (.int p1), .unset, .unset, .unset, .unset, .unset, .unset, .unset] [(.int p1)])) (fun t kt => ?_) ?_
  · show Steps p.tables e below (s₁.setTop (mkF m 0 #[.val (.ref a0), .val (.int p1), .unset, .unset, .unset, .unset, .unset, .unset, .unset] [])) t
    refine XS.iloadN X0.here hx rfl (hb hby d3_0) rfl ?_
    exact kt
  obtain ⟨_, _, ⟨T1, L1, k1, n1⟩, -, X1, ⟨Lc1, hQ1, l1, y1, z1⟩, st1⟩ := Jvm.LawKit.callS X0 hx (y := (⟨"com/example/corollary/corollary/saturation/TermSet", "spread", "(I)I"⟩ : MethodName)) hown (mvT hZ (hw _ (List.mem_of_getElem? (i := 18) rfl))) (mvT hZ (hw _ (List.mem_of_getElem? (i := 19) rfl))) (mvT hZ (hw _ (List.mem_of_getElem? (i := 3) rfl))) (mvT hZ (hw _ (List.mem_of_getElem? (i := 20) rfl))) (by decide) (backOf (W := 0) (rm4 l Z aw hw [] p1 h0 n0 (Nat.le_trans Z0 K0.1) ) hZ (hw _ (List.mem_of_getElem? (i := 20) rfl)) (hw _ (List.mem_of_getElem? (i := 3) rfl)) (by decide) (by decide)) (g := (mkF m 1 #[.val (.ref a0), .val (.int p1), .unset, .unset, .unset, .unset, .unset, .unset, .unset] [(.int p1)])) rfl (by rw [hml]; rfl) (argsL := [(.int p1)]) (rest := []) (lenOf pd_1 rfl) rfl (by show 2 * 0 + _ ≤ _; exact Nat.le_of_eq rfl) (hb hby d3_1) (fun _ _ => ⟨rfl, e0, (by decide : 0 + 0 ≤ _), (by decide : 0 + 0 ≤ _)⟩)
  dsimp only [Pt.U, Pt.locs, Pt.cells, Pt.slots] at X1 l1 y1 z1 st1 hQ1
  subst l1 y1 z1
  obtain ⟨rfl, N1q, e1⟩ := hQ1
  have N1 := Fr.app N0 N1q
  refine own_by (A' := T1.setTop (mkF m 4 #[.val (.ref a0), .val (.int p1), .unset, .unset, .unset, .unset, .unset, .unset, .unset] [(.int (own_f4 p1))])) (fun t kt => st1 t kt) ?_
  refine own_by (A' := T1.setTop (mkF m 6 #[.val (.ref a0), .val (.int p1), .val (.int (own_f4 p1)), .unset, .unset, .unset, .unset, .unset, .unset] [(.int (own_f4 p1))])) (fun t kt => ?_) ?_
  · show Steps p.tables e below (T1.setTop (mkF m 4 #[.val (.ref a0), .val (.int p1), .unset, .unset, .unset, .unset, .unset, .unset, .unset] [(.int (own_f4 p1))])) t
    refine XS.istoreN X1.here hx rfl (hb hby d3_4) rfl (l' := #[.val (.ref a0), .val (.int p1), .val (.int (own_f4 p1)), .unset, .unset, .unset, .unset, .unset, .unset]) rfl ?_
    show Steps p.tables e below (T1.setTop (mkF m 5 #[.val (.ref a0), .val (.int p1), .val (.int (own_f4 p1)), .unset, .unset, .unset, .unset, .unset, .unset] [])) t
    refine XS.iloadN X1.here hx rfl (hb hby d3_5) rfl ?_
    exact kt
  by_cases hc6_2 : (own_f4 p1) < (0 : Int32)
  · refine own_by (A' := T1.setTop (mkF m 10 #[.val (.ref a0), .val (.int p1), .val (.int (own_f4 p1)), .unset, .unset, .unset, .unset, .unset, .unset] [(.ref a0)])) (fun t kt => ?_) ?_
    · show Steps p.tables e below (T1.setTop (mkF m 6 #[.val (.ref a0), .val (.int p1), .val (.int (own_f4 p1)), .unset, .unset, .unset, .unset, .unset, .unset] [(.int (own_f4 p1))])) t
      refine XS.ifNo X1.here hx rfl (hb hby d3_6) rfl ((if0 _ _).trans (tlt hc6_2).2.1) ?_
      show Steps p.tables e below (T1.setTop (mkF m 9 #[.val (.ref a0), .val (.int p1), .val (.int (own_f4 p1)), .unset, .unset, .unset, .unset, .unset, .unset] [])) t
      refine XS.aloadN X1.here hx rfl (hb hby d3_9) rfl rfl ?_
      exact kt
    obtain ⟨T3, X3, e3, st3⟩ := getF X1 hx hZ hown (host := "") (Or.inl (hw _ (List.mem_of_getElem? (i := 22) rfl))) Via.refl e1 PF2 (g := (mkF m 10 #[.val (.ref a0), .val (.int p1), .val (.int (own_f4 p1)), .unset, .unset, .unset, .unset, .unset, .unset] [(.ref a0)])) rfl rfl (hb hby d3_10)
    refine own_by (A' := T3.setTop (mkF m 13 #[.val (.ref a0), .val (.int p1), .val (.int (own_f4 p1)), .unset, .unset, .unset, .unset, .unset, .unset] [(.long hi)])) (fun t kt => st3 t kt) ?_
    refine own_by (A' := T3.setTop (mkF m 31 #[.val (.ref a0), .val (.int p1), .val (.int (own_f4 p1)), .val (.long hi), .second, .unset, .unset, .unset, .unset] [(.int (lcmpW (hi &&& ((1 : Int64) <<< ((((own_f4 p1).toUInt32 >>> ((25 : Int32) &&& 31).toUInt32).toInt32) &&& 0x3f).toInt64)) (0 : Int64)))])) (fun t kt => ?_) ?_
    · show Steps p.tables e below (T3.setTop (mkF m 13 #[.val (.ref a0), .val (.int p1), .val (.int (own_f4 p1)), .unset, .unset, .unset, .unset, .unset, .unset] [(.long hi)])) t
      refine XS.goto X3.here hx rfl (pc0 := 13) (pc' := 20) rfl (hb hby d3_13) (by decide) (by decide) ?_
      show Steps p.tables e below (T3.setTop (mkF m 20 #[.val (.ref a0), .val (.int p1), .val (.int (own_f4 p1)), .unset, .unset, .unset, .unset, .unset, .unset] [(.long hi)])) t
      refine XS.lstoreN X3.here hx rfl (hb hby d3_20) rfl (l' := #[.val (.ref a0), .val (.int p1), .val (.int (own_f4 p1)), .val (.long hi), .second, .unset, .unset, .unset, .unset]) rfl ?_
      show Steps p.tables e below (T3.setTop (mkF m 21 #[.val (.ref a0), .val (.int p1), .val (.int (own_f4 p1)), .val (.long hi), .second, .unset, .unset, .unset, .unset] [])) t
      refine XS.lloadN X3.here hx rfl (hb hby d3_21) rfl ?_
      show Steps p.tables e below (T3.setTop (mkF m 22 #[.val (.ref a0), .val (.int p1), .val (.int (own_f4 p1)), .val (.long hi), .second, .unset, .unset, .unset, .unset] [(.long hi)])) t
      refine XS.lconst X3.here hx rfl (hb hby d3_22) ?_
      show Steps p.tables e below (T3.setTop (mkF m 23 #[.val (.ref a0), .val (.int p1), .val (.int (own_f4 p1)), .val (.long hi), .second, .unset, .unset, .unset, .unset] [(.long (1 : Int64)), (.long hi)])) t
      refine XS.iloadN X3.here hx rfl (hb hby d3_23) rfl ?_
      show Steps p.tables e below (T3.setTop (mkF m 24 #[.val (.ref a0), .val (.int p1), .val (.int (own_f4 p1)), .val (.long hi), .second, .unset, .unset, .unset, .unset] [(.int (own_f4 p1)), (.long (1 : Int64)), (.long hi)])) t
      refine XS.bipush X3.here hx rfl (hb hby d3_24) ?_
      show Steps p.tables e below (T3.setTop (mkF m 26 #[.val (.ref a0), .val (.int p1), .val (.int (own_f4 p1)), .val (.long hi), .second, .unset, .unset, .unset, .unset] [(.int (25 : Int32)), (.int (own_f4 p1)), (.long (1 : Int64)), (.long hi)])) t
      refine XS.iushr X3.here hx rfl (hb hby d3_26) rfl ?_
      show Steps p.tables e below (T3.setTop (mkF m 27 #[.val (.ref a0), .val (.int p1), .val (.int (own_f4 p1)), .val (.long hi), .second, .unset, .unset, .unset, .unset] [(.int (((own_f4 p1).toUInt32 >>> ((25 : Int32) &&& 31).toUInt32).toInt32)), (.long (1 : Int64)), (.long hi)])) t
      refine XS.lshl X3.here hx rfl (hb hby d3_27) rfl ?_
      show Steps p.tables e below (T3.setTop (mkF m 28 #[.val (.ref a0), .val (.int p1), .val (.int (own_f4 p1)), .val (.long hi), .second, .unset, .unset, .unset, .unset] [(.long ((1 : Int64) <<< ((((own_f4 p1).toUInt32 >>> ((25 : Int32) &&& 31).toUInt32).toInt32) &&& 0x3f).toInt64)), (.long hi)])) t
      refine XS.land X3.here hx rfl (hb hby d3_28) rfl ?_
      show Steps p.tables e below (T3.setTop (mkF m 29 #[.val (.ref a0), .val (.int p1), .val (.int (own_f4 p1)), .val (.long hi), .second, .unset, .unset, .unset, .unset] [(.long (hi &&& ((1 : Int64) <<< ((((own_f4 p1).toUInt32 >>> ((25 : Int32) &&& 31).toUInt32).toInt32) &&& 0x3f).toInt64)))])) t
      refine XS.lconst X3.here hx rfl (hb hby d3_29) ?_
      show Steps p.tables e below (T3.setTop (mkF m 30 #[.val (.ref a0), .val (.int p1), .val (.int (own_f4 p1)), .val (.long hi), .second, .unset, .unset, .unset, .unset] [(.long (0 : Int64)), (.long (hi &&& ((1 : Int64) <<< ((((own_f4 p1).toUInt32 >>> ((25 : Int32) &&& 31).toUInt32).toInt32) &&& 0x3f).toInt64)))])) t
      refine XS.lcmp X3.here hx rfl (hb hby d3_30) rfl ?_
      exact kt
    by_cases hc31_4 : (hi &&& ((1 : Int64) <<< ((((own_f4 p1).toUInt32 >>> ((25 : Int32) &&& 31).toUInt32).toInt32) &&& 0x3f).toInt64)) = (0 : Int64)
    · refine own_by (A' := T3.setTop (mkF m 35 #[.val (.ref a0), .val (.int p1), .val (.int (own_f4 p1)), .val (.long hi), .second, .unset, .unset, .unset, .unset] [(.int (0 : Int32))])) (fun t kt => ?_) ?_
      · show Steps p.tables e below (T3.setTop (mkF m 31 #[.val (.ref a0), .val (.int p1), .val (.int (own_f4 p1)), .val (.long hi), .second, .unset, .unset, .unset, .unset] [(.int (lcmpW (hi &&& ((1 : Int64) <<< ((((own_f4 p1).toUInt32 >>> ((25 : Int32) &&& 31).toUInt32).toInt32) &&& 0x3f).toInt64)) (0 : Int64)))])) t
        refine XS.ifNo X3.here hx rfl (hb hby d3_31) rfl ((if0 _ _).trans (teq ((lw_eq _ _).mpr hc31_4)).2) ?_
        show Steps p.tables e below (T3.setTop (mkF m 34 #[.val (.ref a0), .val (.int p1), .val (.int (own_f4 p1)), .val (.long hi), .second, .unset, .unset, .unset, .unset] [])) t
        refine XS.iconst X3.here hx rfl (hb hby d3_34) ?_
        exact kt
      obtain ⟨fs, hr, hrun, hended, hW, hsame⟩ := X3.leave (v := some (.int (0 : Int32))) (fun h => by rw [Bd.returns] at h; cases h)
      refine ⟨_, _, ?_, hrun, hended, _, _, rfl, ?_, ⟨_, rfl⟩, hW, hsame.mono (by decide) (by decide)⟩
      · exact retN X3 hx (t := .boolean) Bd.returns (by simp) (hb hby d3_35) hr
      · show Q3 Z a0 p1 b f lo hi sz S h0 n0 _ T3.heap _
        rw [e3]
        exact ⟨congrArg (fun z => some (Value.int z)) ((if_neg (own_nobit I (by rw [own_sum, if_pos hc6_2]; exact hc31_4))).symm), N1, rfl⟩
    · refine own_by (A' := T3.setTop (mkF m 37 #[.val (.ref a0), .val (.int p1), .val (.int (own_f4 p1)), .val (.long hi), .second, .unset, .unset, .unset, .unset] [(.ref a0)])) (fun t kt => ?_) ?_
      · show Steps p.tables e below (T3.setTop (mkF m 31 #[.val (.ref a0), .val (.int p1), .val (.int (own_f4 p1)), .val (.long hi), .second, .unset, .unset, .unset, .unset] [(.int (lcmpW (hi &&& ((1 : Int64) <<< ((((own_f4 p1).toUInt32 >>> ((25 : Int32) &&& 31).toUInt32).toInt32) &&& 0x3f).toInt64)) (0 : Int64)))])) t
        refine XS.ifYes X3.here hx rfl (pc0 := 31) (pc' := 36) rfl (hb hby d3_31) rfl ((if0 _ _).trans (feq (fun q => hc31_4 ((lw_eq _ _).mp q))).2) (by decide) (by decide) ?_
        show Steps p.tables e below (T3.setTop (mkF m 36 #[.val (.ref a0), .val (.int p1), .val (.int (own_f4 p1)), .val (.long hi), .second, .unset, .unset, .unset, .unset] [])) t
        refine XS.aloadN X3.here hx rfl (hb hby d3_36) rfl rfl ?_
        exact kt
      obtain ⟨T5, X5, e5, st5⟩ := getF X3 hx hZ hown (host := "") (Or.inl (hw _ (List.mem_of_getElem? (i := 11) rfl))) Via.refl e3 PF1 (g := (mkF m 37 #[.val (.ref a0), .val (.int p1), .val (.int (own_f4 p1)), .val (.long hi), .second, .unset, .unset, .unset, .unset] [(.ref a0)])) rfl rfl (hb hby d3_37)
      refine own_by (A' := T5.setTop (mkF m 40 #[.val (.ref a0), .val (.int p1), .val (.int (own_f4 p1)), .val (.long hi), .second, .unset, .unset, .unset, .unset] [(.ref b)])) (fun t kt => st5 t kt) ?_
      obtain ⟨cl6, Ar6, Sz6, Mn6, -⟩ := id V_b
      refine own_by (A' := T5.setTop (mkF m 51 #[.val (.ref a0), .val (.int p1), .val (.int (own_f4 p1)), .val (.long hi), .second, .val (.int (63 : Int32)), .val (.int ((own_f4 p1) &&& (63 : Int32))), .unset, .unset] [])) (fun t kt => ?_) ?_
      · show Steps p.tables e below (T5.setTop (mkF m 40 #[.val (.ref a0), .val (.int p1), .val (.int (own_f4 p1)), .val (.long hi), .second, .unset, .unset, .unset, .unset] [(.ref b)])) t
        refine X5.arraylength hx (by rw [e5]; exact Ar6.1) (State.isArrayOf_alike hZ.alike Ar6.2.1) (g := (mkF m 40 #[.val (.ref a0), .val (.int p1), .val (.int (own_f4 p1)), .val (.long hi), .second, .unset, .unset, .unset, .unset] [(.ref b)])) rfl rfl (hb hby d3_40) _ ?_
        rw [len_of Sz6 Mn6]
        show Steps p.tables e below (T5.setTop (mkF m 41 #[.val (.ref a0), .val (.int p1), .val (.int (own_f4 p1)), .val (.long hi), .second, .unset, .unset, .unset, .unset] [(.int (64 : Int32))])) t
        refine XS.iconst X5.here hx rfl (hb hby d3_41) ?_
        show Steps p.tables e below (T5.setTop (mkF m 42 #[.val (.ref a0), .val (.int p1), .val (.int (own_f4 p1)), .val (.long hi), .second, .unset, .unset, .unset, .unset] [(.int (1 : Int32)), (.int (64 : Int32))])) t
        refine XS.isub X5.here hx rfl (hb hby d3_42) rfl ?_
        show Steps p.tables e below (T5.setTop (mkF m 43 #[.val (.ref a0), .val (.int p1), .val (.int (own_f4 p1)), .val (.long hi), .second, .unset, .unset, .unset, .unset] [(.int (63 : Int32))])) t
        refine XS.istore X5.here hx rfl (hb hby d3_43) rfl (l' := #[.val (.ref a0), .val (.int p1), .val (.int (own_f4 p1)), .val (.long hi), .second, .val (.int (63 : Int32)), .unset, .unset, .unset]) rfl ?_
        show Steps p.tables e below (T5.setTop (mkF m 45 #[.val (.ref a0), .val (.int p1), .val (.int (own_f4 p1)), .val (.long hi), .second, .val (.int (63 : Int32)), .unset, .unset, .unset] [])) t
        refine XS.iloadN X5.here hx rfl (hb hby d3_45) rfl ?_
        show Steps p.tables e below (T5.setTop (mkF m 46 #[.val (.ref a0), .val (.int p1), .val (.int (own_f4 p1)), .val (.long hi), .second, .val (.int (63 : Int32)), .unset, .unset, .unset] [(.int (own_f4 p1))])) t
        refine XS.iload X5.here hx rfl (hb hby d3_46) rfl ?_
        show Steps p.tables e below (T5.setTop (mkF m 48 #[.val (.ref a0), .val (.int p1), .val (.int (own_f4 p1)), .val (.long hi), .second, .val (.int (63 : Int32)), .unset, .unset, .unset] [(.int (63 : Int32)), (.int (own_f4 p1))])) t
        refine XS.iand X5.here hx rfl (hb hby d3_48) rfl ?_
        show Steps p.tables e below (T5.setTop (mkF m 49 #[.val (.ref a0), .val (.int p1), .val (.int (own_f4 p1)), .val (.long hi), .second, .val (.int (63 : Int32)), .unset, .unset, .unset] [(.int ((own_f4 p1) &&& (63 : Int32)))])) t
        refine XS.istore X5.here hx rfl (hb hby d3_49) rfl (l' := #[.val (.ref a0), .val (.int p1), .val (.int (own_f4 p1)), .val (.long hi), .second, .val (.int (63 : Int32)), .val (.int ((own_f4 p1) &&& (63 : Int32))), .unset, .unset]) rfl ?_
        exact kt
      rw [own_hm p1]
      refine own_by (A' := T5.setTop (mkF m 57 #[.val (.ref a0), .val (.int p1), .val (.int (own_f4 p1)), .val (.long hi), .second, .val (.int (63 : Int32)), .val (.int (Int32.ofNat (own_home p1))), .val (.int (p1 + (1 : Int32))), .unset] [(.ref a0)])) (fun t kt => ?_) ?_
      · show Steps p.tables e below (T5.setTop (mkF m 51 #[.val (.ref a0), .val (.int p1), .val (.int (own_f4 p1)), .val (.long hi), .second, .val (.int (63 : Int32)), .val (.int (Int32.ofNat (own_home p1))), .unset, .unset] [])) t
        refine XS.iloadN X5.here hx rfl (hb hby d3_51) rfl ?_
        show Steps p.tables e below (T5.setTop (mkF m 52 #[.val (.ref a0), .val (.int p1), .val (.int (own_f4 p1)), .val (.long hi), .second, .val (.int (63 : Int32)), .val (.int (Int32.ofNat (own_home p1))), .unset, .unset] [(.int p1)])) t
        refine XS.iconst X5.here hx rfl (hb hby d3_52) ?_
        show Steps p.tables e below (T5.setTop (mkF m 53 #[.val (.ref a0), .val (.int p1), .val (.int (own_f4 p1)), .val (.long hi), .second, .val (.int (63 : Int32)), .val (.int (Int32.ofNat (own_home p1))), .unset, .unset] [(.int (1 : Int32)), (.int p1)])) t
        refine XS.iadd X5.here hx rfl (hb hby d3_53) rfl ?_
        show Steps p.tables e below (T5.setTop (mkF m 54 #[.val (.ref a0), .val (.int p1), .val (.int (own_f4 p1)), .val (.long hi), .second, .val (.int (63 : Int32)), .val (.int (Int32.ofNat (own_home p1))), .unset, .unset] [(.int (p1 + (1 : Int32)))])) t
        refine XS.istore X5.here hx rfl (hb hby d3_54) rfl (l' := #[.val (.ref a0), .val (.int p1), .val (.int (own_f4 p1)), .val (.long hi), .second, .val (.int (63 : Int32)), .val (.int (Int32.ofNat (own_home p1))), .val (.int (p1 + (1 : Int32))), .unset]) rfl ?_
        show Steps p.tables e below (T5.setTop (mkF m 56 #[.val (.ref a0), .val (.int p1), .val (.int (own_f4 p1)), .val (.long hi), .second, .val (.int (63 : Int32)), .val (.int (Int32.ofNat (own_home p1))), .val (.int (p1 + (1 : Int32))), .unset] [])) t
        refine XS.aloadN X5.here hx rfl (hb hby d3_56) rfl rfl ?_
        exact kt
      obtain ⟨T7, X7, e7, st7⟩ := getF X5 hx hZ hown (host := "") (Or.inl (hw _ (List.mem_of_getElem? (i := 11) rfl))) Via.refl e5 PF1 (g := (mkF m 57 #[.val (.ref a0), .val (.int p1), .val (.int (own_f4 p1)), .val (.long hi), .second, .val (.int (63 : Int32)), .val (.int (Int32.ofNat (own_home p1))), .val (.int (p1 + (1 : Int32))), .unset] [(.ref a0)])) rfl rfl (hb hby d3_57)
      refine own_by (A' := T7.setTop (mkF m 60 #[.val (.ref a0), .val (.int p1), .val (.int (own_f4 p1)), .val (.long hi), .second, .val (.int (63 : Int32)), .val (.int (Int32.ofNat (own_home p1))), .val (.int (p1 + (1 : Int32))), .unset] [(.ref b)])) (fun t kt => st7 t kt) ?_
      refine own_by (A' := T7.setTop (mkF m 62 #[.val (.ref a0), .val (.int p1), .val (.int (own_f4 p1)), .val (.long hi), .second, .val (.int (63 : Int32)), .val (.int (Int32.ofNat (own_home p1))), .val (.int (p1 + (1 : Int32))), .unset] [(.int (Int32.ofNat (own_home p1))), (.ref b)])) (fun t kt => ?_) ?_
      · show Steps p.tables e below (T7.setTop (mkF m 60 #[.val (.ref a0), .val (.int p1), .val (.int (own_f4 p1)), .val (.long hi), .second, .val (.int (63 : Int32)), .val (.int (Int32.ofNat (own_home p1))), .val (.int (p1 + (1 : Int32))), .unset] [(.ref b)])) t
        refine XS.iload X7.here hx rfl (hb hby d3_60) rfl ?_
        exact kt
      obtain ⟨cl8, Ar8, Sz8, Mn8, Ha8⟩ := id V_b
      have hin8 := inb_of (j := (Int32.ofNat (own_home p1))) Sz8 ⟨(own_of (own_homelt p1)).2.1, (own_of (own_homelt p1)).2.2⟩
      have hat8 : cl8.slots[((Int32.ofNat (own_home p1))).toNatClampNeg]? = some (.int (f (own_home p1))) := (Ha8 _ (Nat.lt_of_not_le fun q => hin8 (Or.inr q))).trans (congrArg some (congrArg (fun i => Value.int (f i)) (own_of (own_homelt p1)).1))
      refine own_by (A' := T7.setTop (mkF m 65 #[.val (.ref a0), .val (.int p1), .val (.int (own_f4 p1)), .val (.long hi), .second, .val (.int (63 : Int32)), .val (.int (Int32.ofNat (own_home p1))), .val (.int (p1 + (1 : Int32))), .val (.int (f (own_home p1)))] [])) (fun t kt => ?_) ?_
      · show Steps p.tables e below (T7.setTop (mkF m 62 #[.val (.ref a0), .val (.int p1), .val (.int (own_f4 p1)), .val (.long hi), .second, .val (.int (63 : Int32)), .val (.int (Int32.ofNat (own_home p1))), .val (.int (p1 + (1 : Int32))), .unset] [(.int (Int32.ofNat (own_home p1))), (.ref b)])) t
        refine X7.iaload hx (j := (Int32.ofNat (own_home p1))) (v := (.int (f (own_home p1)))) (by rw [e7]; exact Ar8.1) (State.isArrayOf_alike hZ.alike Ar8.2.1) Ar8.2.2 hin8 hat8 (g := (mkF m 62 #[.val (.ref a0), .val (.int p1), .val (.int (own_f4 p1)), .val (.long hi), .second, .val (.int (63 : Int32)), .val (.int (Int32.ofNat (own_home p1))), .val (.int (p1 + (1 : Int32))), .unset] [(.int (Int32.ofNat (own_home p1))), (.ref b)])) rfl rfl (hb hby d3_62) _ ?_
        show Steps p.tables e below (T7.setTop (mkF m 63 #[.val (.ref a0), .val (.int p1), .val (.int (own_f4 p1)), .val (.long hi), .second, .val (.int (63 : Int32)), .val (.int (Int32.ofNat (own_home p1))), .val (.int (p1 + (1 : Int32))), .unset] [(.int (f (own_home p1)))])) t
        refine XS.istore X7.here hx rfl (hb hby d3_63) rfl (l' := #[.val (.ref a0), .val (.int p1), .val (.int (own_f4 p1)), .val (.long hi), .second, .val (.int (63 : Int32)), .val (.int (Int32.ofNat (own_home p1))), .val (.int (p1 + (1 : Int32))), .val (.int (f (own_home p1)))]) rfl ?_
        exact kt
      obtain ⟨d, hst, hlt⟩ := own_stop I (by omega) p1
      refine own_turnC a0 b f p1 (own_f4 p1) hi hx hZ hw hby hml hown PF1 V_b d (own_home p1) T7 (own_homelt p1) X7 e7 hlt (fun T9 X9 e9 => ?_)
      refine own_by (A' := T9.setTop (mkF m 67 #[.val (.ref a0), .val (.int p1), .val (.int (own_f4 p1)), .val (.long hi), .second, .val (.int (63 : Int32)), .val (.int (Int32.ofNat ((own_home p1 + d) % 64))), .val (.int (p1 + (1 : Int32))), .val (.int (f ((own_home p1 + d) % 64)))] [(.int (f ((own_home p1 + d) % 64)))])) (fun t kt => ?_) ?_
      · show Steps p.tables e below (T9.setTop (mkF m 65 #[.val (.ref a0), .val (.int p1), .val (.int (own_f4 p1)), .val (.long hi), .second, .val (.int (63 : Int32)), .val (.int (Int32.ofNat ((own_home p1 + d) % 64))), .val (.int (p1 + (1 : Int32))), .val (.int (f ((own_home p1 + d) % 64)))] [])) t
        refine XS.iload X9.here hx rfl (hb hby d3_65) rfl ?_
        exact kt
      by_cases hc67_10 : (f ((own_home p1 + d) % 64)) = (0 : Int32)
      · refine own_by (A' := T9.setTop (mkF m 101 #[.val (.ref a0), .val (.int p1), .val (.int (own_f4 p1)), .val (.long hi), .second, .val (.int (63 : Int32)), .val (.int (Int32.ofNat ((own_home p1 + d) % 64))), .val (.int (p1 + (1 : Int32))), .val (.int (f ((own_home p1 + d) % 64)))] [(.int (0 : Int32))])) (fun t kt => ?_) ?_
        · show Steps p.tables e below (T9.setTop (mkF m 67 #[.val (.ref a0), .val (.int p1), .val (.int (own_f4 p1)), .val (.long hi), .second, .val (.int (63 : Int32)), .val (.int (Int32.ofNat ((own_home p1 + d) % 64))), .val (.int (p1 + (1 : Int32))), .val (.int (f ((own_home p1 + d) % 64)))] [(.int (f ((own_home p1 + d) % 64)))])) t
          refine XS.ifYes X9.here hx rfl (pc0 := 67) (pc' := 100) rfl (hb hby d3_67) rfl ((if0 _ _).trans (teq hc67_10).1) (by decide) (by decide) ?_
          show Steps p.tables e below (T9.setTop (mkF m 100 #[.val (.ref a0), .val (.int p1), .val (.int (own_f4 p1)), .val (.long hi), .second, .val (.int (63 : Int32)), .val (.int (Int32.ofNat ((own_home p1 + d) % 64))), .val (.int (p1 + (1 : Int32))), .val (.int (f ((own_home p1 + d) % 64)))] [])) t
          refine XS.iconst X9.here hx rfl (hb hby d3_100) ?_
          exact kt
        obtain ⟨fs, hr, hrun, hended, hW, hsame⟩ := X9.leave (v := some (.int (0 : Int32))) (fun h => by rw [Bd.returns] at h; cases h)
        refine ⟨_, _, ?_, hrun, hended, _, _, rfl, ?_, ⟨_, rfl⟩, hW, hsame.mono (by decide) (by decide)⟩
        · exact retN X9 hx (t := .boolean) Bd.returns (by simp) (hb hby d3_101) hr
        · show Q3 Z a0 p1 b f lo hi sz S h0 n0 _ T9.heap _
          rw [e9]
          exact ⟨congrArg (fun z => some (Value.int z)) ((if_neg (own_notin I hc67_10 hlt)).symm), N1, rfl⟩
      · refine own_by (A' := T9.setTop (mkF m 74 #[.val (.ref a0), .val (.int p1), .val (.int (own_f4 p1)), .val (.long hi), .second, .val (.int (63 : Int32)), .val (.int (Int32.ofNat ((own_home p1 + d) % 64))), .val (.int (p1 + (1 : Int32))), .val (.int (f ((own_home p1 + d) % 64)))] [(.int (p1 + (1 : Int32))), (.int (f ((own_home p1 + d) % 64)))])) (fun t kt => ?_) ?_
        · show Steps p.tables e below (T9.setTop (mkF m 67 #[.val (.ref a0), .val (.int p1), .val (.int (own_f4 p1)), .val (.long hi), .second, .val (.int (63 : Int32)), .val (.int (Int32.ofNat ((own_home p1 + d) % 64))), .val (.int (p1 + (1 : Int32))), .val (.int (f ((own_home p1 + d) % 64)))] [(.int (f ((own_home p1 + d) % 64)))])) t
          refine XS.ifNo X9.here hx rfl (hb hby d3_67) rfl ((if0 _ _).trans (feq hc67_10).1) ?_
          show Steps p.tables e below (T9.setTop (mkF m 70 #[.val (.ref a0), .val (.int p1), .val (.int (own_f4 p1)), .val (.long hi), .second, .val (.int (63 : Int32)), .val (.int (Int32.ofNat ((own_home p1 + d) % 64))), .val (.int (p1 + (1 : Int32))), .val (.int (f ((own_home p1 + d) % 64)))] [])) t
          refine XS.iload X9.here hx rfl (hb hby d3_70) rfl ?_
          show Steps p.tables e below (T9.setTop (mkF m 72 #[.val (.ref a0), .val (.int p1), .val (.int (own_f4 p1)), .val (.long hi), .second, .val (.int (63 : Int32)), .val (.int (Int32.ofNat ((own_home p1 + d) % 64))), .val (.int (p1 + (1 : Int32))), .val (.int (f ((own_home p1 + d) % 64)))] [(.int (f ((own_home p1 + d) % 64)))])) t
          refine XS.iload X9.here hx rfl (hb hby d3_72) rfl ?_
          exact kt
        have hc74_11 : (f ((own_home p1 + d) % 64)) = (p1 + (1 : Int32)) := hst.resolve_left (by assumption)
        refine own_by (A' := T9.setTop (mkF m 78 #[.val (.ref a0), .val (.int p1), .val (.int (own_f4 p1)), .val (.long hi), .second, .val (.int (63 : Int32)), .val (.int (Int32.ofNat ((own_home p1 + d) % 64))), .val (.int (p1 + (1 : Int32))), .val (.int (f ((own_home p1 + d) % 64)))] [(.int (1 : Int32))])) (fun t kt => ?_) ?_
        · show Steps p.tables e below (T9.setTop (mkF m 74 #[.val (.ref a0), .val (.int p1), .val (.int (own_f4 p1)), .val (.long hi), .second, .val (.int (63 : Int32)), .val (.int (Int32.ofNat ((own_home p1 + d) % 64))), .val (.int (p1 + (1 : Int32))), .val (.int (f ((own_home p1 + d) % 64)))] [(.int (p1 + (1 : Int32))), (.int (f ((own_home p1 + d) % 64)))])) t
          refine XS.icmpNo X9.here hx rfl (hb hby d3_74) rfl (teq hc74_11).2 ?_
          show Steps p.tables e below (T9.setTop (mkF m 77 #[.val (.ref a0), .val (.int p1), .val (.int (own_f4 p1)), .val (.long hi), .second, .val (.int (63 : Int32)), .val (.int (Int32.ofNat ((own_home p1 + d) % 64))), .val (.int (p1 + (1 : Int32))), .val (.int (f ((own_home p1 + d) % 64)))] [])) t
          refine XS.iconst X9.here hx rfl (hb hby d3_77) ?_
          exact kt
        obtain ⟨fs, hr, hrun, hended, hW, hsame⟩ := X9.leave (v := some (.int (1 : Int32))) (fun h => by rw [Bd.returns] at h; cases h)
        refine ⟨_, _, ?_, hrun, hended, _, _, rfl, ?_, ⟨_, rfl⟩, hW, hsame.mono (by decide) (by decide)⟩
        · exact retN X9 hx (t := .boolean) Bd.returns (by simp) (hb hby d3_78) hr
        · show Q3 Z a0 p1 b f lo hi sz S h0 n0 _ T9.heap _
          rw [e9]
          exact ⟨congrArg (fun z => some (Value.int z)) ((if_pos (own_isin I (Nat.mod_lt _ (by decide)) hc67_10 (hst.resolve_left hc67_10))).symm), N1, rfl⟩
  · refine own_by (A' := T1.setTop (mkF m 17 #[.val (.ref a0), .val (.int p1), .val (.int (own_f4 p1)), .unset, .unset, .unset, .unset, .unset, .unset] [(.ref a0)])) (fun t kt => ?_) ?_
    · show Steps p.tables e below (T1.setTop (mkF m 6 #[.val (.ref a0), .val (.int p1), .val (.int (own_f4 p1)), .unset, .unset, .unset, .unset, .unset, .unset] [(.int (own_f4 p1))])) t
      refine XS.ifYes X1.here hx rfl (pc0 := 6) (pc' := 16) rfl (hb hby d3_6) rfl ((if0 _ _).trans (flt hc6_2).2.1) (by decide) (by decide) ?_
      show Steps p.tables e below (T1.setTop (mkF m 16 #[.val (.ref a0), .val (.int p1), .val (.int (own_f4 p1)), .unset, .unset, .unset, .unset, .unset, .unset] [])) t
      refine XS.aloadN X1.here hx rfl (hb hby d3_16) rfl rfl ?_
      exact kt
    obtain ⟨T12, X12, e12, st12⟩ := getF X1 hx hZ hown (host := "") (Or.inl (hw _ (List.mem_of_getElem? (i := 28) rfl))) Via.refl e1 PF3 (g := (mkF m 17 #[.val (.ref a0), .val (.int p1), .val (.int (own_f4 p1)), .unset, .unset, .unset, .unset, .unset, .unset] [(.ref a0)])) rfl rfl (hb hby d3_17)
    refine own_by (A' := T12.setTop (mkF m 20 #[.val (.ref a0), .val (.int p1), .val (.int (own_f4 p1)), .unset, .unset, .unset, .unset, .unset, .unset] [(.long lo)])) (fun t kt => st12 t kt) ?_
    refine own_by (A' := T12.setTop (mkF m 31 #[.val (.ref a0), .val (.int p1), .val (.int (own_f4 p1)), .val (.long lo), .second, .unset, .unset, .unset, .unset] [(.int (lcmpW (lo &&& ((1 : Int64) <<< ((((own_f4 p1).toUInt32 >>> ((25 : Int32) &&& 31).toUInt32).toInt32) &&& 0x3f).toInt64)) (0 : Int64)))])) (fun t kt => ?_) ?_
    · show Steps p.tables e below (T12.setTop (mkF m 20 #[.val (.ref a0), .val (.int p1), .val (.int (own_f4 p1)), .unset, .unset, .unset, .unset, .unset, .unset] [(.long lo)])) t
      refine XS.lstoreN X12.here hx rfl (hb hby d3_20) rfl (l' := #[.val (.ref a0), .val (.int p1), .val (.int (own_f4 p1)), .val (.long lo), .second, .unset, .unset, .unset, .unset]) rfl ?_
      show Steps p.tables e below (T12.setTop (mkF m 21 #[.val (.ref a0), .val (.int p1), .val (.int (own_f4 p1)), .val (.long lo), .second, .unset, .unset, .unset, .unset] [])) t
      refine XS.lloadN X12.here hx rfl (hb hby d3_21) rfl ?_
      show Steps p.tables e below (T12.setTop (mkF m 22 #[.val (.ref a0), .val (.int p1), .val (.int (own_f4 p1)), .val (.long lo), .second, .unset, .unset, .unset, .unset] [(.long lo)])) t
      refine XS.lconst X12.here hx rfl (hb hby d3_22) ?_
      show Steps p.tables e below (T12.setTop (mkF m 23 #[.val (.ref a0), .val (.int p1), .val (.int (own_f4 p1)), .val (.long lo), .second, .unset, .unset, .unset, .unset] [(.long (1 : Int64)), (.long lo)])) t
      refine XS.iloadN X12.here hx rfl (hb hby d3_23) rfl ?_
      show Steps p.tables e below (T12.setTop (mkF m 24 #[.val (.ref a0), .val (.int p1), .val (.int (own_f4 p1)), .val (.long lo), .second, .unset, .unset, .unset, .unset] [(.int (own_f4 p1)), (.long (1 : Int64)), (.long lo)])) t
      refine XS.bipush X12.here hx rfl (hb hby d3_24) ?_
      show Steps p.tables e below (T12.setTop (mkF m 26 #[.val (.ref a0), .val (.int p1), .val (.int (own_f4 p1)), .val (.long lo), .second, .unset, .unset, .unset, .unset] [(.int (25 : Int32)), (.int (own_f4 p1)), (.long (1 : Int64)), (.long lo)])) t
      refine XS.iushr X12.here hx rfl (hb hby d3_26) rfl ?_
      show Steps p.tables e below (T12.setTop (mkF m 27 #[.val (.ref a0), .val (.int p1), .val (.int (own_f4 p1)), .val (.long lo), .second, .unset, .unset, .unset, .unset] [(.int (((own_f4 p1).toUInt32 >>> ((25 : Int32) &&& 31).toUInt32).toInt32)), (.long (1 : Int64)), (.long lo)])) t
      refine XS.lshl X12.here hx rfl (hb hby d3_27) rfl ?_
      show Steps p.tables e below (T12.setTop (mkF m 28 #[.val (.ref a0), .val (.int p1), .val (.int (own_f4 p1)), .val (.long lo), .second, .unset, .unset, .unset, .unset] [(.long ((1 : Int64) <<< ((((own_f4 p1).toUInt32 >>> ((25 : Int32) &&& 31).toUInt32).toInt32) &&& 0x3f).toInt64)), (.long lo)])) t
      refine XS.land X12.here hx rfl (hb hby d3_28) rfl ?_
      show Steps p.tables e below (T12.setTop (mkF m 29 #[.val (.ref a0), .val (.int p1), .val (.int (own_f4 p1)), .val (.long lo), .second, .unset, .unset, .unset, .unset] [(.long (lo &&& ((1 : Int64) <<< ((((own_f4 p1).toUInt32 >>> ((25 : Int32) &&& 31).toUInt32).toInt32) &&& 0x3f).toInt64)))])) t
      refine XS.lconst X12.here hx rfl (hb hby d3_29) ?_
      show Steps p.tables e below (T12.setTop (mkF m 30 #[.val (.ref a0), .val (.int p1), .val (.int (own_f4 p1)), .val (.long lo), .second, .unset, .unset, .unset, .unset] [(.long (0 : Int64)), (.long (lo &&& ((1 : Int64) <<< ((((own_f4 p1).toUInt32 >>> ((25 : Int32) &&& 31).toUInt32).toInt32) &&& 0x3f).toInt64)))])) t
      refine XS.lcmp X12.here hx rfl (hb hby d3_30) rfl ?_
      exact kt
    by_cases hc31_13 : (lo &&& ((1 : Int64) <<< ((((own_f4 p1).toUInt32 >>> ((25 : Int32) &&& 31).toUInt32).toInt32) &&& 0x3f).toInt64)) = (0 : Int64)
    · refine own_by (A' := T12.setTop (mkF m 35 #[.val (.ref a0), .val (.int p1), .val (.int (own_f4 p1)), .val (.long lo), .second, .unset, .unset, .unset, .unset] [(.int (0 : Int32))])) (fun t kt => ?_) ?_
      · show Steps p.tables e below (T12.setTop (mkF m 31 #[.val (.ref a0), .val (.int p1), .val (.int (own_f4 p1)), .val (.long lo), .second, .unset, .unset, .unset, .unset] [(.int (lcmpW (lo &&& ((1 : Int64) <<< ((((own_f4 p1).toUInt32 >>> ((25 : Int32) &&& 31).toUInt32).toInt32) &&& 0x3f).toInt64)) (0 : Int64)))])) t
        refine XS.ifNo X12.here hx rfl (hb hby d3_31) rfl ((if0 _ _).trans (teq ((lw_eq _ _).mpr hc31_13)).2) ?_
        show Steps p.tables e below (T12.setTop (mkF m 34 #[.val (.ref a0), .val (.int p1), .val (.int (own_f4 p1)), .val (.long lo), .second, .unset, .unset, .unset, .unset] [])) t
        refine XS.iconst X12.here hx rfl (hb hby d3_34) ?_
        exact kt
      obtain ⟨fs, hr, hrun, hended, hW, hsame⟩ := X12.leave (v := some (.int (0 : Int32))) (fun h => by rw [Bd.returns] at h; cases h)
      refine ⟨_, _, ?_, hrun, hended, _, _, rfl, ?_, ⟨_, rfl⟩, hW, hsame.mono (by decide) (by decide)⟩
      · exact retN X12 hx (t := .boolean) Bd.returns (by simp) (hb hby d3_35) hr
      · show Q3 Z a0 p1 b f lo hi sz S h0 n0 _ T12.heap _
        rw [e12]
        exact ⟨congrArg (fun z => some (Value.int z)) ((if_neg (own_nobit I (by rw [own_sum, if_neg hc6_2]; exact hc31_13))).symm), N1, rfl⟩
    · refine own_by (A' := T12.setTop (mkF m 37 #[.val (.ref a0), .val (.int p1), .val (.int (own_f4 p1)), .val (.long lo), .second, .unset, .unset, .unset, .unset] [(.ref a0)])) (fun t kt => ?_) ?_
      · show Steps p.tables e below (T12.setTop (mkF m 31 #[.val (.ref a0), .val (.int p1), .val (.int (own_f4 p1)), .val (.long lo), .second, .unset, .unset, .unset, .unset] [(.int (lcmpW (lo &&& ((1 : Int64) <<< ((((own_f4 p1).toUInt32 >>> ((25 : Int32) &&& 31).toUInt32).toInt32) &&& 0x3f).toInt64)) (0 : Int64)))])) t
        refine XS.ifYes X12.here hx rfl (pc0 := 31) (pc' := 36) rfl (hb hby d3_31) rfl ((if0 _ _).trans (feq (fun q => hc31_13 ((lw_eq _ _).mp q))).2) (by decide) (by decide) ?_
        show Steps p.tables e below (T12.setTop (mkF m 36 #[.val (.ref a0), .val (.int p1), .val (.int (own_f4 p1)), .val (.long lo), .second, .unset, .unset, .unset, .unset] [])) t
        refine XS.aloadN X12.here hx rfl (hb hby d3_36) rfl rfl ?_
        exact kt
      obtain ⟨T14, X14, e14, st14⟩ := getF X12 hx hZ hown (host := "") (Or.inl (hw _ (List.mem_of_getElem? (i := 11) rfl))) Via.refl e12 PF1 (g := (mkF m 37 #[.val (.ref a0), .val (.int p1), .val (.int (own_f4 p1)), .val (.long lo), .second, .unset, .unset, .unset, .unset] [(.ref a0)])) rfl rfl (hb hby d3_37)
      refine own_by (A' := T14.setTop (mkF m 40 #[.val (.ref a0), .val (.int p1), .val (.int (own_f4 p1)), .val (.long lo), .second, .unset, .unset, .unset, .unset] [(.ref b)])) (fun t kt => st14 t kt) ?_
      obtain ⟨cl15, Ar15, Sz15, Mn15, -⟩ := id V_b
      refine own_by (A' := T14.setTop (mkF m 51 #[.val (.ref a0), .val (.int p1), .val (.int (own_f4 p1)), .val (.long lo), .second, .val (.int (63 : Int32)), .val (.int ((own_f4 p1) &&& (63 : Int32))), .unset, .unset] [])) (fun t kt => ?_) ?_
      · show Steps p.tables e below (T14.setTop (mkF m 40 #[.val (.ref a0), .val (.int p1), .val (.int (own_f4 p1)), .val (.long lo), .second, .unset, .unset, .unset, .unset] [(.ref b)])) t
        refine X14.arraylength hx (by rw [e14]; exact Ar15.1) (State.isArrayOf_alike hZ.alike Ar15.2.1) (g := (mkF m 40 #[.val (.ref a0), .val (.int p1), .val (.int (own_f4 p1)), .val (.long lo), .second, .unset, .unset, .unset, .unset] [(.ref b)])) rfl rfl (hb hby d3_40) _ ?_
        rw [len_of Sz15 Mn15]
        show Steps p.tables e below (T14.setTop (mkF m 41 #[.val (.ref a0), .val (.int p1), .val (.int (own_f4 p1)), .val (.long lo), .second, .unset, .unset, .unset, .unset] [(.int (64 : Int32))])) t
        refine XS.iconst X14.here hx rfl (hb hby d3_41) ?_
        show Steps p.tables e below (T14.setTop (mkF m 42 #[.val (.ref a0), .val (.int p1), .val (.int (own_f4 p1)), .val (.long lo), .second, .unset, .unset, .unset, .unset] [(.int (1 : Int32)), (.int (64 : Int32))])) t
        refine XS.isub X14.here hx rfl (hb hby d3_42) rfl ?_
        show Steps p.tables e below (T14.setTop (mkF m 43 #[.val (.ref a0), .val (.int p1), .val (.int (own_f4 p1)), .val (.long lo), .second, .unset, .unset, .unset, .unset] [(.int (63 : Int32))])) t
        refine XS.istore X14.here hx rfl (hb hby d3_43) rfl (l' := #[.val (.ref a0), .val (.int p1), .val (.int (own_f4 p1)), .val (.long lo), .second, .val (.int (63 : Int32)), .unset, .unset, .unset]) rfl ?_
        show Steps p.tables e below (T14.setTop (mkF m 45 #[.val (.ref a0), .val (.int p1), .val (.int (own_f4 p1)), .val (.long lo), .second, .val (.int (63 : Int32)), .unset, .unset, .unset] [])) t
        refine XS.iloadN X14.here hx rfl (hb hby d3_45) rfl ?_
        show Steps p.tables e below (T14.setTop (mkF m 46 #[.val (.ref a0), .val (.int p1), .val (.int (own_f4 p1)), .val (.long lo), .second, .val (.int (63 : Int32)), .unset, .unset, .unset] [(.int (own_f4 p1))])) t
        refine XS.iload X14.here hx rfl (hb hby d3_46) rfl ?_
        show Steps p.tables e below (T14.setTop (mkF m 48 #[.val (.ref a0), .val (.int p1), .val (.int (own_f4 p1)), .val (.long lo), .second, .val (.int (63 : Int32)), .unset, .unset, .unset] [(.int (63 : Int32)), (.int (own_f4 p1))])) t
        refine XS.iand X14.here hx rfl (hb hby d3_48) rfl ?_
        show Steps p.tables e below (T14.setTop (mkF m 49 #[.val (.ref a0), .val (.int p1), .val (.int (own_f4 p1)), .val (.long lo), .second, .val (.int (63 : Int32)), .unset, .unset, .unset] [(.int ((own_f4 p1) &&& (63 : Int32)))])) t
        refine XS.istore X14.here hx rfl (hb hby d3_49) rfl (l' := #[.val (.ref a0), .val (.int p1), .val (.int (own_f4 p1)), .val (.long lo), .second, .val (.int (63 : Int32)), .val (.int ((own_f4 p1) &&& (63 : Int32))), .unset, .unset]) rfl ?_
        exact kt
      rw [own_hm p1]
      refine own_by (A' := T14.setTop (mkF m 57 #[.val (.ref a0), .val (.int p1), .val (.int (own_f4 p1)), .val (.long lo), .second, .val (.int (63 : Int32)), .val (.int (Int32.ofNat (own_home p1))), .val (.int (p1 + (1 : Int32))), .unset] [(.ref a0)])) (fun t kt => ?_) ?_
      · show Steps p.tables e below (T14.setTop (mkF m 51 #[.val (.ref a0), .val (.int p1), .val (.int (own_f4 p1)), .val (.long lo), .second, .val (.int (63 : Int32)), .val (.int (Int32.ofNat (own_home p1))), .unset, .unset] [])) t
        refine XS.iloadN X14.here hx rfl (hb hby d3_51) rfl ?_
        show Steps p.tables e below (T14.setTop (mkF m 52 #[.val (.ref a0), .val (.int p1), .val (.int (own_f4 p1)), .val (.long lo), .second, .val (.int (63 : Int32)), .val (.int (Int32.ofNat (own_home p1))), .unset, .unset] [(.int p1)])) t
        refine XS.iconst X14.here hx rfl (hb hby d3_52) ?_
        show Steps p.tables e below (T14.setTop (mkF m 53 #[.val (.ref a0), .val (.int p1), .val (.int (own_f4 p1)), .val (.long lo), .second, .val (.int (63 : Int32)), .val (.int (Int32.ofNat (own_home p1))), .unset, .unset] [(.int (1 : Int32)), (.int p1)])) t
        refine XS.iadd X14.here hx rfl (hb hby d3_53) rfl ?_
        show Steps p.tables e below (T14.setTop (mkF m 54 #[.val (.ref a0), .val (.int p1), .val (.int (own_f4 p1)), .val (.long lo), .second, .val (.int (63 : Int32)), .val (.int (Int32.ofNat (own_home p1))), .unset, .unset] [(.int (p1 + (1 : Int32)))])) t
        refine XS.istore X14.here hx rfl (hb hby d3_54) rfl (l' := #[.val (.ref a0), .val (.int p1), .val (.int (own_f4 p1)), .val (.long lo), .second, .val (.int (63 : Int32)), .val (.int (Int32.ofNat (own_home p1))), .val (.int (p1 + (1 : Int32))), .unset]) rfl ?_
        show Steps p.tables e below (T14.setTop (mkF m 56 #[.val (.ref a0), .val (.int p1), .val (.int (own_f4 p1)), .val (.long lo), .second, .val (.int (63 : Int32)), .val (.int (Int32.ofNat (own_home p1))), .val (.int (p1 + (1 : Int32))), .unset] [])) t
        refine XS.aloadN X14.here hx rfl (hb hby d3_56) rfl rfl ?_
        exact kt
      obtain ⟨T16, X16, e16, st16⟩ := getF X14 hx hZ hown (host := "") (Or.inl (hw _ (List.mem_of_getElem? (i := 11) rfl))) Via.refl e14 PF1 (g := (mkF m 57 #[.val (.ref a0), .val (.int p1), .val (.int (own_f4 p1)), .val (.long lo), .second, .val (.int (63 : Int32)), .val (.int (Int32.ofNat (own_home p1))), .val (.int (p1 + (1 : Int32))), .unset] [(.ref a0)])) rfl rfl (hb hby d3_57)
      refine own_by (A' := T16.setTop (mkF m 60 #[.val (.ref a0), .val (.int p1), .val (.int (own_f4 p1)), .val (.long lo), .second, .val (.int (63 : Int32)), .val (.int (Int32.ofNat (own_home p1))), .val (.int (p1 + (1 : Int32))), .unset] [(.ref b)])) (fun t kt => st16 t kt) ?_
      refine own_by (A' := T16.setTop (mkF m 62 #[.val (.ref a0), .val (.int p1), .val (.int (own_f4 p1)), .val (.long lo), .second, .val (.int (63 : Int32)), .val (.int (Int32.ofNat (own_home p1))), .val (.int (p1 + (1 : Int32))), .unset] [(.int (Int32.ofNat (own_home p1))), (.ref b)])) (fun t kt => ?_) ?_
      · show Steps p.tables e below (T16.setTop (mkF m 60 #[.val (.ref a0), .val (.int p1), .val (.int (own_f4 p1)), .val (.long lo), .second, .val (.int (63 : Int32)), .val (.int (Int32.ofNat (own_home p1))), .val (.int (p1 + (1 : Int32))), .unset] [(.ref b)])) t
        refine XS.iload X16.here hx rfl (hb hby d3_60) rfl ?_
        exact kt
      obtain ⟨cl17, Ar17, Sz17, Mn17, Ha17⟩ := id V_b
      have hin17 := inb_of (j := (Int32.ofNat (own_home p1))) Sz17 ⟨(own_of (own_homelt p1)).2.1, (own_of (own_homelt p1)).2.2⟩
      have hat17 : cl17.slots[((Int32.ofNat (own_home p1))).toNatClampNeg]? = some (.int (f (own_home p1))) := (Ha17 _ (Nat.lt_of_not_le fun q => hin17 (Or.inr q))).trans (congrArg some (congrArg (fun i => Value.int (f i)) (own_of (own_homelt p1)).1))
      refine own_by (A' := T16.setTop (mkF m 65 #[.val (.ref a0), .val (.int p1), .val (.int (own_f4 p1)), .val (.long lo), .second, .val (.int (63 : Int32)), .val (.int (Int32.ofNat (own_home p1))), .val (.int (p1 + (1 : Int32))), .val (.int (f (own_home p1)))] [])) (fun t kt => ?_) ?_
      · show Steps p.tables e below (T16.setTop (mkF m 62 #[.val (.ref a0), .val (.int p1), .val (.int (own_f4 p1)), .val (.long lo), .second, .val (.int (63 : Int32)), .val (.int (Int32.ofNat (own_home p1))), .val (.int (p1 + (1 : Int32))), .unset] [(.int (Int32.ofNat (own_home p1))), (.ref b)])) t
        refine X16.iaload hx (j := (Int32.ofNat (own_home p1))) (v := (.int (f (own_home p1)))) (by rw [e16]; exact Ar17.1) (State.isArrayOf_alike hZ.alike Ar17.2.1) Ar17.2.2 hin17 hat17 (g := (mkF m 62 #[.val (.ref a0), .val (.int p1), .val (.int (own_f4 p1)), .val (.long lo), .second, .val (.int (63 : Int32)), .val (.int (Int32.ofNat (own_home p1))), .val (.int (p1 + (1 : Int32))), .unset] [(.int (Int32.ofNat (own_home p1))), (.ref b)])) rfl rfl (hb hby d3_62) _ ?_
        show Steps p.tables e below (T16.setTop (mkF m 63 #[.val (.ref a0), .val (.int p1), .val (.int (own_f4 p1)), .val (.long lo), .second, .val (.int (63 : Int32)), .val (.int (Int32.ofNat (own_home p1))), .val (.int (p1 + (1 : Int32))), .unset] [(.int (f (own_home p1)))])) t
        refine XS.istore X16.here hx rfl (hb hby d3_63) rfl (l' := #[.val (.ref a0), .val (.int p1), .val (.int (own_f4 p1)), .val (.long lo), .second, .val (.int (63 : Int32)), .val (.int (Int32.ofNat (own_home p1))), .val (.int (p1 + (1 : Int32))), .val (.int (f (own_home p1)))]) rfl ?_
        exact kt
      obtain ⟨d, hst, hlt⟩ := own_stop I (by omega) p1
      refine own_turnC a0 b f p1 (own_f4 p1) lo hx hZ hw hby hml hown PF1 V_b d (own_home p1) T16 (own_homelt p1) X16 e16 hlt (fun T18 X18 e18 => ?_)
      refine own_by (A' := T18.setTop (mkF m 67 #[.val (.ref a0), .val (.int p1), .val (.int (own_f4 p1)), .val (.long lo), .second, .val (.int (63 : Int32)), .val (.int (Int32.ofNat ((own_home p1 + d) % 64))), .val (.int (p1 + (1 : Int32))), .val (.int (f ((own_home p1 + d) % 64)))] [(.int (f ((own_home p1 + d) % 64)))])) (fun t kt => ?_) ?_
      · show Steps p.tables e below (T18.setTop (mkF m 65 #[.val (.ref a0), .val (.int p1), .val (.int (own_f4 p1)), .val (.long lo), .second, .val (.int (63 : Int32)), .val (.int (Int32.ofNat ((own_home p1 + d) % 64))), .val (.int (p1 + (1 : Int32))), .val (.int (f ((own_home p1 + d) % 64)))] [])) t
        refine XS.iload X18.here hx rfl (hb hby d3_65) rfl ?_
        exact kt
      by_cases hc67_19 : (f ((own_home p1 + d) % 64)) = (0 : Int32)
      · refine own_by (A' := T18.setTop (mkF m 101 #[.val (.ref a0), .val (.int p1), .val (.int (own_f4 p1)), .val (.long lo), .second, .val (.int (63 : Int32)), .val (.int (Int32.ofNat ((own_home p1 + d) % 64))), .val (.int (p1 + (1 : Int32))), .val (.int (f ((own_home p1 + d) % 64)))] [(.int (0 : Int32))])) (fun t kt => ?_) ?_
        · show Steps p.tables e below (T18.setTop (mkF m 67 #[.val (.ref a0), .val (.int p1), .val (.int (own_f4 p1)), .val (.long lo), .second, .val (.int (63 : Int32)), .val (.int (Int32.ofNat ((own_home p1 + d) % 64))), .val (.int (p1 + (1 : Int32))), .val (.int (f ((own_home p1 + d) % 64)))] [(.int (f ((own_home p1 + d) % 64)))])) t
          refine XS.ifYes X18.here hx rfl (pc0 := 67) (pc' := 100) rfl (hb hby d3_67) rfl ((if0 _ _).trans (teq hc67_19).1) (by decide) (by decide) ?_
          show Steps p.tables e below (T18.setTop (mkF m 100 #[.val (.ref a0), .val (.int p1), .val (.int (own_f4 p1)), .val (.long lo), .second, .val (.int (63 : Int32)), .val (.int (Int32.ofNat ((own_home p1 + d) % 64))), .val (.int (p1 + (1 : Int32))), .val (.int (f ((own_home p1 + d) % 64)))] [])) t
          refine XS.iconst X18.here hx rfl (hb hby d3_100) ?_
          exact kt
        obtain ⟨fs, hr, hrun, hended, hW, hsame⟩ := X18.leave (v := some (.int (0 : Int32))) (fun h => by rw [Bd.returns] at h; cases h)
        refine ⟨_, _, ?_, hrun, hended, _, _, rfl, ?_, ⟨_, rfl⟩, hW, hsame.mono (by decide) (by decide)⟩
        · exact retN X18 hx (t := .boolean) Bd.returns (by simp) (hb hby d3_101) hr
        · show Q3 Z a0 p1 b f lo hi sz S h0 n0 _ T18.heap _
          rw [e18]
          exact ⟨congrArg (fun z => some (Value.int z)) ((if_neg (own_notin I hc67_19 hlt)).symm), N1, rfl⟩
      · refine own_by (A' := T18.setTop (mkF m 74 #[.val (.ref a0), .val (.int p1), .val (.int (own_f4 p1)), .val (.long lo), .second, .val (.int (63 : Int32)), .val (.int (Int32.ofNat ((own_home p1 + d) % 64))), .val (.int (p1 + (1 : Int32))), .val (.int (f ((own_home p1 + d) % 64)))] [(.int (p1 + (1 : Int32))), (.int (f ((own_home p1 + d) % 64)))])) (fun t kt => ?_) ?_
        · show Steps p.tables e below (T18.setTop (mkF m 67 #[.val (.ref a0), .val (.int p1), .val (.int (own_f4 p1)), .val (.long lo), .second, .val (.int (63 : Int32)), .val (.int (Int32.ofNat ((own_home p1 + d) % 64))), .val (.int (p1 + (1 : Int32))), .val (.int (f ((own_home p1 + d) % 64)))] [(.int (f ((own_home p1 + d) % 64)))])) t
          refine XS.ifNo X18.here hx rfl (hb hby d3_67) rfl ((if0 _ _).trans (feq hc67_19).1) ?_
          show Steps p.tables e below (T18.setTop (mkF m 70 #[.val (.ref a0), .val (.int p1), .val (.int (own_f4 p1)), .val (.long lo), .second, .val (.int (63 : Int32)), .val (.int (Int32.ofNat ((own_home p1 + d) % 64))), .val (.int (p1 + (1 : Int32))), .val (.int (f ((own_home p1 + d) % 64)))] [])) t
          refine XS.iload X18.here hx rfl (hb hby d3_70) rfl ?_
          show Steps p.tables e below (T18.setTop (mkF m 72 #[.val (.ref a0), .val (.int p1), .val (.int (own_f4 p1)), .val (.long lo), .second, .val (.int (63 : Int32)), .val (.int (Int32.ofNat ((own_home p1 + d) % 64))), .val (.int (p1 + (1 : Int32))), .val (.int (f ((own_home p1 + d) % 64)))] [(.int (f ((own_home p1 + d) % 64)))])) t
          refine XS.iload X18.here hx rfl (hb hby d3_72) rfl ?_
          exact kt
        have hc74_20 : (f ((own_home p1 + d) % 64)) = (p1 + (1 : Int32)) := hst.resolve_left (by assumption)
        refine own_by (A' := T18.setTop (mkF m 78 #[.val (.ref a0), .val (.int p1), .val (.int (own_f4 p1)), .val (.long lo), .second, .val (.int (63 : Int32)), .val (.int (Int32.ofNat ((own_home p1 + d) % 64))), .val (.int (p1 + (1 : Int32))), .val (.int (f ((own_home p1 + d) % 64)))] [(.int (1 : Int32))])) (fun t kt => ?_) ?_
        · show Steps p.tables e below (T18.setTop (mkF m 74 #[.val (.ref a0), .val (.int p1), .val (.int (own_f4 p1)), .val (.long lo), .second, .val (.int (63 : Int32)), .val (.int (Int32.ofNat ((own_home p1 + d) % 64))), .val (.int (p1 + (1 : Int32))), .val (.int (f ((own_home p1 + d) % 64)))] [(.int (p1 + (1 : Int32))), (.int (f ((own_home p1 + d) % 64)))])) t
          refine XS.icmpNo X18.here hx rfl (hb hby d3_74) rfl (teq hc74_20).2 ?_
          show Steps p.tables e below (T18.setTop (mkF m 77 #[.val (.ref a0), .val (.int p1), .val (.int (own_f4 p1)), .val (.long lo), .second, .val (.int (63 : Int32)), .val (.int (Int32.ofNat ((own_home p1 + d) % 64))), .val (.int (p1 + (1 : Int32))), .val (.int (f ((own_home p1 + d) % 64)))] [])) t
          refine XS.iconst X18.here hx rfl (hb hby d3_77) ?_
          exact kt
        obtain ⟨fs, hr, hrun, hended, hW, hsame⟩ := X18.leave (v := some (.int (1 : Int32))) (fun h => by rw [Bd.returns] at h; cases h)
        refine ⟨_, _, ?_, hrun, hended, _, _, rfl, ?_, ⟨_, rfl⟩, hW, hsame.mono (by decide) (by decide)⟩
        · exact retN X18 hx (t := .boolean) Bd.returns (by simp) (hb hby d3_78) hr
        · show Q3 Z a0 p1 b f lo hi sz S h0 n0 _ T18.heap _
          rw [e18]
          exact ⟨congrArg (fun z => some (Value.int z)) ((if_pos (own_isin I (Nat.mod_lt _ (by decide)) hc67_19 (hst.resolve_left hc67_19))).symm), N1, rfl⟩
theorem own_grow {f : Nat → Int32} {lo hi : Int64} {sz : Int32} {S : List Int32} (I : own_Inv f lo hi sz S) (hS : S.length < 31) : ¬ ((64 : Int32) < ((2 : Int32) * (sz + (1 : Int32)))) := by
  obtain ⟨-, -, -, -, h1, h2, -⟩ := I
  have := c_iadd sz 1; have := rng32 (sz + 1); have := c_imul 2 (sz + 1); have := rng32 (2 * (sz + 1))
  rw [Int32.lt_iff_toInt_lt]
  simp only [show (1 : Int32).toInt = 1 from by decide, show (2 : Int32).toInt = 2 from by decide, show (64 : Int32).toInt = 64 from by decide] at *
  omega
theorem d6_0 : decode prog_50_method_2_code 0 = .ok (.iload_n 1, 1) := by decide +kernel
theorem d6_1 : decode prog_50_method_2_code 1 = .ok (.invokestatic 13, 3) := by decide +kernel
theorem d6_4 : decode prog_50_method_2_code 4 = .ok (.istore_n 2, 1) := by decide +kernel
theorem d6_5 : decode prog_50_method_2_code 5 = .ok (.aload_n 0, 1) := by decide +kernel
theorem d6_6 : decode prog_50_method_2_code 6 = .ok (.getfield 9, 3) := by decide +kernel
theorem d6_9 : decode prog_50_method_2_code 9 = .ok (.arraylength, 1) := by decide +kernel
theorem d6_10 : decode prog_50_method_2_code 10 = .ok (.iconst 1, 1) := by decide +kernel
theorem d6_11 : decode prog_50_method_2_code 11 = .ok (.isub, 1) := by decide +kernel
theorem d6_12 : decode prog_50_method_2_code 12 = .ok (.istore_n 3, 1) := by decide +kernel
theorem d6_13 : decode prog_50_method_2_code 13 = .ok (.iload_n 2, 1) := by decide +kernel
theorem d6_14 : decode prog_50_method_2_code 14 = .ok (.iload_n 3, 1) := by decide +kernel
theorem d6_15 : decode prog_50_method_2_code 15 = .ok (.iand, 1) := by decide +kernel
theorem d6_16 : decode prog_50_method_2_code 16 = .ok (.istore 4, 2) := by decide +kernel
theorem d6_18 : decode prog_50_method_2_code 18 = .ok (.iload_n 1, 1) := by decide +kernel
theorem d6_19 : decode prog_50_method_2_code 19 = .ok (.iconst 1, 1) := by decide +kernel
theorem d6_20 : decode prog_50_method_2_code 20 = .ok (.iadd, 1) := by decide +kernel
theorem d6_21 : decode prog_50_method_2_code 21 = .ok (.istore 5, 2) := by decide +kernel
theorem d6_23 : decode prog_50_method_2_code 23 = .ok (.aload_n 0, 1) := by decide +kernel
theorem d6_24 : decode prog_50_method_2_code 24 = .ok (.getfield 9, 3) := by decide +kernel
theorem d6_27 : decode prog_50_method_2_code 27 = .ok (.iload 4, 2) := by decide +kernel
theorem d6_29 : decode prog_50_method_2_code 29 = .ok (.iaload, 1) := by decide +kernel
theorem d6_30 : decode prog_50_method_2_code 30 = .ok (.istore 6, 2) := by decide +kernel
theorem d6_44 : decode prog_50_method_2_code 44 = .ok (.iconst 0, 1) := by decide +kernel
theorem d6_45 : decode prog_50_method_2_code 45 = .ok (.ireturn, 1) := by decide +kernel
theorem d6_66 : decode prog_50_method_2_code 66 = .ok (.aload_n 0, 1) := by decide +kernel
theorem d6_67 : decode prog_50_method_2_code 67 = .ok (.getfield 9, 3) := by decide +kernel
theorem d6_70 : decode prog_50_method_2_code 70 = .ok (.iload 4, 2) := by decide +kernel
theorem d6_72 : decode prog_50_method_2_code 72 = .ok (.iload 5, 2) := by decide +kernel
theorem d6_74 : decode prog_50_method_2_code 74 = .ok (.iastore, 1) := by decide +kernel
theorem d6_75 : decode prog_50_method_2_code 75 = .ok (.iload_n 2, 1) := by decide +kernel
theorem d6_76 : decode prog_50_method_2_code 76 = .ok (.ifCond .ge 21, 3) := by decide +kernel
theorem d6_79 : decode prog_50_method_2_code 79 = .ok (.aload_n 0, 1) := by decide +kernel
theorem d6_80 : decode prog_50_method_2_code 80 = .ok (.dup, 1) := by decide +kernel
theorem d6_81 : decode prog_50_method_2_code 81 = .ok (.getfield 17, 3) := by decide +kernel
theorem d6_84 : decode prog_50_method_2_code 84 = .ok (.lconst 1, 1) := by decide +kernel
theorem d6_85 : decode prog_50_method_2_code 85 = .ok (.iload_n 2, 1) := by decide +kernel
theorem d6_86 : decode prog_50_method_2_code 86 = .ok (.bipush 25, 2) := by decide +kernel
theorem d6_88 : decode prog_50_method_2_code 88 = .ok (.iushr, 1) := by decide +kernel
theorem d6_89 : decode prog_50_method_2_code 89 = .ok (.lshl, 1) := by decide +kernel
theorem d6_90 : decode prog_50_method_2_code 90 = .ok (.lor, 1) := by decide +kernel
theorem d6_91 : decode prog_50_method_2_code 91 = .ok (.putfield 17, 3) := by decide +kernel
theorem d6_94 : decode prog_50_method_2_code 94 = .ok (.goto 18, 3) := by decide +kernel
theorem d6_97 : decode prog_50_method_2_code 97 = .ok (.aload_n 0, 1) := by decide +kernel
theorem d6_98 : decode prog_50_method_2_code 98 = .ok (.dup, 1) := by decide +kernel
theorem d6_99 : decode prog_50_method_2_code 99 = .ok (.getfield 21, 3) := by decide +kernel
theorem d6_102 : decode prog_50_method_2_code 102 = .ok (.lconst 1, 1) := by decide +kernel
theorem d6_103 : decode prog_50_method_2_code 103 = .ok (.iload_n 2, 1) := by decide +kernel
theorem d6_104 : decode prog_50_method_2_code 104 = .ok (.bipush 25, 2) := by decide +kernel
theorem d6_106 : decode prog_50_method_2_code 106 = .ok (.iushr, 1) := by decide +kernel
theorem d6_107 : decode prog_50_method_2_code 107 = .ok (.lshl, 1) := by decide +kernel
theorem d6_108 : decode prog_50_method_2_code 108 = .ok (.lor, 1) := by decide +kernel
theorem d6_109 : decode prog_50_method_2_code 109 = .ok (.putfield 21, 3) := by decide +kernel
theorem d6_112 : decode prog_50_method_2_code 112 = .ok (.iconst 2, 1) := by decide +kernel
theorem d6_113 : decode prog_50_method_2_code 113 = .ok (.aload_n 0, 1) := by decide +kernel
theorem d6_114 : decode prog_50_method_2_code 114 = .ok (.dup, 1) := by decide +kernel
theorem d6_115 : decode prog_50_method_2_code 115 = .ok (.getfield 24, 3) := by decide +kernel
theorem d6_118 : decode prog_50_method_2_code 118 = .ok (.iconst 1, 1) := by decide +kernel
theorem d6_119 : decode prog_50_method_2_code 119 = .ok (.iadd, 1) := by decide +kernel
theorem d6_120 : decode prog_50_method_2_code 120 = .ok (.dup_x1, 1) := by decide +kernel
theorem d6_121 : decode prog_50_method_2_code 121 = .ok (.putfield 24, 3) := by decide +kernel
theorem d6_124 : decode prog_50_method_2_code 124 = .ok (.imul, 1) := by decide +kernel
theorem d6_125 : decode prog_50_method_2_code 125 = .ok (.aload_n 0, 1) := by decide +kernel
theorem d6_126 : decode prog_50_method_2_code 126 = .ok (.getfield 9, 3) := by decide +kernel
theorem d6_129 : decode prog_50_method_2_code 129 = .ok (.arraylength, 1) := by decide +kernel
theorem d6_130 : decode prog_50_method_2_code 130 = .ok (.if_icmp .le 7, 3) := by decide +kernel
theorem d6_137 : decode prog_50_method_2_code 137 = .ok (.iconst 1, 1) := by decide +kernel
theorem d6_138 : decode prog_50_method_2_code 138 = .ok (.ireturn, 1) := by decide +kernel
theorem ef_rm6 (m : MethodId) (a0 : Addr) (p1 : Int32) : entryFrame m #[(.ref a0), (.int p1)] 7 = mkF m 0 #[.val (.ref a0), .val (.int p1), .unset, .unset, .unset, .unset, .unset] [] := by first | (simp [entryFrame, mkF, argsToLocals, Value.category]; done) | rfl
def Q6 (Z : State) (a0 : Addr) (p1 : Int32) (b : Addr) (f : Nat → Int32) (lo : Int64) (hi : Int64) (sz : Int32) (S : List Int32) (h0 : Heap) (n0 : Nat) (v : Option Value) (h : Heap) (L : List Loc) : Prop := ∃ (f1 : Nat → Int32) (lo1 hi1 : Int64) (sz1 : Int32), v = some (.int (if p1 ∈ S then (0 : Int32) else (1 : Int32))) ∧ Fr n0 L ∧ Keep h0 h [a0, b] ∧ Exa Z h a0 "com/example/corollary/corollary/saturation/TermSet" ∧ Fld Z h a0 "com/example/corollary/corollary/saturation/TermSet" "table" "[I" (.ref b) ∧ Fld Z h a0 "com/example/corollary/corollary/saturation/TermSet" "highSummary" "J" (.long hi1) ∧ Fld Z h a0 "com/example/corollary/corollary/saturation/TermSet" "lowSummary" "J" (.long lo1) ∧ Fld Z h a0 "com/example/corollary/corollary/saturation/TermSet" "size" "I" (.int sz1) ∧ AF Z h b .int (64 : Int32) (fun i => .int (f1 i)) ∧ own_Inv f1 lo1 hi1 sz1 (p1 :: S) ∧ sz1 = (if p1 ∈ S then sz else sz + 1)
set_option maxRecDepth 65536 in
set_option maxHeartbeats 40000000 in
theorem rm6 (l : Launch) (Z : State) (aw : Array Value) (hw : ∀ d ∈ tables_1, d.before aw Z = true) (ws : List Jvm.Cond) (a0 : Addr) (p1 : Int32) (b : Addr) (f : Nat → Int32) (lo : Int64) (hi : Int64) (sz : Int32) (S : List Int32) (h0 : Heap) (n0 : Nat) (Z0 : n0 ≤ h0.size) (E_a0 : Exa Z h0 a0 "com/example/corollary/corollary/saturation/TermSet") (PF1 : Fld Z h0 a0 "com/example/corollary/corollary/saturation/TermSet" "table" "[I" (.ref b)) (PF2 : Fld Z h0 a0 "com/example/corollary/corollary/saturation/TermSet" "highSummary" "J" (.long hi)) (PF3 : Fld Z h0 a0 "com/example/corollary/corollary/saturation/TermSet" "lowSummary" "J" (.long lo)) (PF4 : Fld Z h0 a0 "com/example/corollary/corollary/saturation/TermSet" "size" "I" (.int sz)) (V_b : AF Z h0 b .int (64 : Int32) (fun i => .int (f i))) (I : own_Inv f lo hi sz S) (hS : S.length < 30) (g_a0 : n0 ≤ a0) (g_b : n0 ≤ b) (hab : a0 ≠ b) (ht : p1 + 1 ≠ 0) :
    MetFree l (⟨"com/example/corollary/corollary/saturation/TermSet", "add", "(I)Z"⟩ : MethodName) (head1 (Jvm.Cond.code (⟨"com/example/corollary/corollary/saturation/TermSet", "add", "(I)Z"⟩ : MethodName) prog_50_method_2_code 7 (some .boolean) :: ws) ({ frames := 1, cells := 0, slots := 0, locals := 13 } : Room)) (fun a U => a = #[(.ref a0), (.int p1)] ∧ Z.Warmed39 U.vm ∧ U.heap = h0) (fun _ _ _ _ _ => True) (fun _ U o U' => ∃ v L, o = .returned v ∧ Q6 Z a0 p1 b f lo hi sz S h0 n0 v U'.heap L ∧ FrameEnd U o U' L ({ frames := 1, cells := 0, slots := 0, locals := 13 } : Room).cells ({ frames := 1, cells := 0, slots := 0, locals := 13 } : Room).slots) := by
  refine MetFree.of_bodySF (plainFor_of_name pn_0) hisR ?_
  intro p e s m args below meth c s₁ Bd hml0 hP hK
  obtain ⟨rfl, hZ, hh⟩ := hP
  have hx := Bd.exec
  have hby := Bd.bytes
  have hml : c.maxLocals = 7 := hml0
  have hown : s.vm.findClass "com/example/corollary/corollary/saturation/TermSet" = some m.cls := findClass_of_methodNamed Bd.named
  have hnm := (name_of_methodNamed Bd.named Bd.method).1
  have X0 : Stand p l e ({ frames := 1, cells := 0, slots := 0, locals := 13 } : Room) s m #[(.ref a0), (.int p1)] below meth c s₁ [] 0 0 := Stand.of_body Bd
  have e0 : s₁.heap = h0 := by rw [← hh, Bd.state]; rfl
  have N0 := Fr.nil n0
  have K0 : Keep h0 h0 [a0, b] := Keep.refl _ _
  refine own_by (A' := s₁.setTop (mkF m 0 #[.val (.ref a0), .val (.int p1), .unset, .unset, .unset, .unset, .unset] [])) (fun t k => castTop (ef_rm6 m a0 p1) k) ?_
  refine own_by (A' := s₁.setTop (mkF m 1 #[.val (.ref a0), .val (.int p1), .unset, .unset, .unset, .unset, .unset] [(.int p1)])) (fun t kt => ?_) ?_
  · show Steps p.tables e below (s₁.setTop (mkF m 0 #[.val (.ref a0), .val (.int p1), .unset, .unset, .unset, .unset, .unset] [])) t
    refine XS.iloadN X0.here hx rfl (hb hby d6_0) rfl ?_
    exact kt
  obtain ⟨_, _, ⟨T1, L1, k1, n1⟩, -, X1, ⟨Lc1, hQ1, l1, y1, z1⟩, st1⟩ := Jvm.LawKit.callS X0 hx (y := (⟨"com/example/corollary/corollary/saturation/TermSet", "spread", "(I)I"⟩ : MethodName)) hown (mvT hZ (hw _ (List.mem_of_getElem? (i := 18) rfl))) (mvT hZ (hw _ (List.mem_of_getElem? (i := 19) rfl))) (mvT hZ (hw _ (List.mem_of_getElem? (i := 3) rfl))) (mvT hZ (hw _ (List.mem_of_getElem? (i := 20) rfl))) (by decide) (backOf (W := 0) (rm4 l Z aw hw [] p1 h0 n0 (Nat.le_trans Z0 K0.1) ) hZ (hw _ (List.mem_of_getElem? (i := 20) rfl)) (hw _ (List.mem_of_getElem? (i := 3) rfl)) (by decide) (by decide)) (g := (mkF m 1 #[.val (.ref a0), .val (.int p1), .unset, .unset, .unset, .unset, .unset] [(.int p1)])) rfl (by rw [hml]; rfl) (argsL := [(.int p1)]) (rest := []) (lenOf pd_1 rfl) rfl (by show 2 * 0 + _ ≤ _; exact Nat.le_of_eq rfl) (hb hby d6_1) (fun _ _ => ⟨rfl, e0, (by decide : 0 + 0 ≤ _), (by decide : 0 + 0 ≤ _)⟩)
  dsimp only [Pt.U, Pt.locs, Pt.cells, Pt.slots] at X1 l1 y1 z1 st1 hQ1
  subst l1 y1 z1
  obtain ⟨rfl, N1q, e1⟩ := hQ1
  have N1 := Fr.app N0 N1q
  refine own_by (A' := T1.setTop (mkF m 4 #[.val (.ref a0), .val (.int p1), .unset, .unset, .unset, .unset, .unset] [(.int (own_f4 p1))])) (fun t kt => st1 t kt) ?_
  refine own_by (A' := T1.setTop (mkF m 6 #[.val (.ref a0), .val (.int p1), .val (.int (own_f4 p1)), .unset, .unset, .unset, .unset] [(.ref a0)])) (fun t kt => ?_) ?_
  · show Steps p.tables e below (T1.setTop (mkF m 4 #[.val (.ref a0), .val (.int p1), .unset, .unset, .unset, .unset, .unset] [(.int (own_f4 p1))])) t
    refine XS.istoreN X1.here hx rfl (hb hby d6_4) rfl (l' := #[.val (.ref a0), .val (.int p1), .val (.int (own_f4 p1)), .unset, .unset, .unset, .unset]) rfl ?_
    show Steps p.tables e below (T1.setTop (mkF m 5 #[.val (.ref a0), .val (.int p1), .val (.int (own_f4 p1)), .unset, .unset, .unset, .unset] [])) t
    refine XS.aloadN X1.here hx rfl (hb hby d6_5) rfl rfl ?_
    exact kt
  obtain ⟨T2, X2, e2, st2⟩ := getF X1 hx hZ hown (host := "") (Or.inl (hw _ (List.mem_of_getElem? (i := 11) rfl))) Via.refl e1 PF1 (g := (mkF m 6 #[.val (.ref a0), .val (.int p1), .val (.int (own_f4 p1)), .unset, .unset, .unset, .unset] [(.ref a0)])) rfl rfl (hb hby d6_6)
  refine own_by (A' := T2.setTop (mkF m 9 #[.val (.ref a0), .val (.int p1), .val (.int (own_f4 p1)), .unset, .unset, .unset, .unset] [(.ref b)])) (fun t kt => st2 t kt) ?_
  obtain ⟨cl3, Ar3, Sz3, Mn3, -⟩ := id V_b
  refine own_by (A' := T2.setTop (mkF m 18 #[.val (.ref a0), .val (.int p1), .val (.int (own_f4 p1)), .val (.int (63 : Int32)), .val (.int ((own_f4 p1) &&& (63 : Int32))), .unset, .unset] [])) (fun t kt => ?_) ?_
  · show Steps p.tables e below (T2.setTop (mkF m 9 #[.val (.ref a0), .val (.int p1), .val (.int (own_f4 p1)), .unset, .unset, .unset, .unset] [(.ref b)])) t
    refine X2.arraylength hx (by rw [e2]; exact Ar3.1) (State.isArrayOf_alike hZ.alike Ar3.2.1) (g := (mkF m 9 #[.val (.ref a0), .val (.int p1), .val (.int (own_f4 p1)), .unset, .unset, .unset, .unset] [(.ref b)])) rfl rfl (hb hby d6_9) _ ?_
    rw [len_of Sz3 Mn3]
    show Steps p.tables e below (T2.setTop (mkF m 10 #[.val (.ref a0), .val (.int p1), .val (.int (own_f4 p1)), .unset, .unset, .unset, .unset] [(.int (64 : Int32))])) t
    refine XS.iconst X2.here hx rfl (hb hby d6_10) ?_
    show Steps p.tables e below (T2.setTop (mkF m 11 #[.val (.ref a0), .val (.int p1), .val (.int (own_f4 p1)), .unset, .unset, .unset, .unset] [(.int (1 : Int32)), (.int (64 : Int32))])) t
    refine XS.isub X2.here hx rfl (hb hby d6_11) rfl ?_
    show Steps p.tables e below (T2.setTop (mkF m 12 #[.val (.ref a0), .val (.int p1), .val (.int (own_f4 p1)), .unset, .unset, .unset, .unset] [(.int (63 : Int32))])) t
    refine XS.istoreN X2.here hx rfl (hb hby d6_12) rfl (l' := #[.val (.ref a0), .val (.int p1), .val (.int (own_f4 p1)), .val (.int (63 : Int32)), .unset, .unset, .unset]) rfl ?_
    show Steps p.tables e below (T2.setTop (mkF m 13 #[.val (.ref a0), .val (.int p1), .val (.int (own_f4 p1)), .val (.int (63 : Int32)), .unset, .unset, .unset] [])) t
    refine XS.iloadN X2.here hx rfl (hb hby d6_13) rfl ?_
    show Steps p.tables e below (T2.setTop (mkF m 14 #[.val (.ref a0), .val (.int p1), .val (.int (own_f4 p1)), .val (.int (63 : Int32)), .unset, .unset, .unset] [(.int (own_f4 p1))])) t
    refine XS.iloadN X2.here hx rfl (hb hby d6_14) rfl ?_
    show Steps p.tables e below (T2.setTop (mkF m 15 #[.val (.ref a0), .val (.int p1), .val (.int (own_f4 p1)), .val (.int (63 : Int32)), .unset, .unset, .unset] [(.int (63 : Int32)), (.int (own_f4 p1))])) t
    refine XS.iand X2.here hx rfl (hb hby d6_15) rfl ?_
    show Steps p.tables e below (T2.setTop (mkF m 16 #[.val (.ref a0), .val (.int p1), .val (.int (own_f4 p1)), .val (.int (63 : Int32)), .unset, .unset, .unset] [(.int ((own_f4 p1) &&& (63 : Int32)))])) t
    refine XS.istore X2.here hx rfl (hb hby d6_16) rfl (l' := #[.val (.ref a0), .val (.int p1), .val (.int (own_f4 p1)), .val (.int (63 : Int32)), .val (.int ((own_f4 p1) &&& (63 : Int32))), .unset, .unset]) rfl ?_
    exact kt
  rw [own_hm p1]
  refine own_by (A' := T2.setTop (mkF m 24 #[.val (.ref a0), .val (.int p1), .val (.int (own_f4 p1)), .val (.int (63 : Int32)), .val (.int (Int32.ofNat (own_home p1))), .val (.int (p1 + (1 : Int32))), .unset] [(.ref a0)])) (fun t kt => ?_) ?_
  · show Steps p.tables e below (T2.setTop (mkF m 18 #[.val (.ref a0), .val (.int p1), .val (.int (own_f4 p1)), .val (.int (63 : Int32)), .val (.int (Int32.ofNat (own_home p1))), .unset, .unset] [])) t
    refine XS.iloadN X2.here hx rfl (hb hby d6_18) rfl ?_
    show Steps p.tables e below (T2.setTop (mkF m 19 #[.val (.ref a0), .val (.int p1), .val (.int (own_f4 p1)), .val (.int (63 : Int32)), .val (.int (Int32.ofNat (own_home p1))), .unset, .unset] [(.int p1)])) t
    refine XS.iconst X2.here hx rfl (hb hby d6_19) ?_
    show Steps p.tables e below (T2.setTop (mkF m 20 #[.val (.ref a0), .val (.int p1), .val (.int (own_f4 p1)), .val (.int (63 : Int32)), .val (.int (Int32.ofNat (own_home p1))), .unset, .unset] [(.int (1 : Int32)), (.int p1)])) t
    refine XS.iadd X2.here hx rfl (hb hby d6_20) rfl ?_
    show Steps p.tables e below (T2.setTop (mkF m 21 #[.val (.ref a0), .val (.int p1), .val (.int (own_f4 p1)), .val (.int (63 : Int32)), .val (.int (Int32.ofNat (own_home p1))), .unset, .unset] [(.int (p1 + (1 : Int32)))])) t
    refine XS.istore X2.here hx rfl (hb hby d6_21) rfl (l' := #[.val (.ref a0), .val (.int p1), .val (.int (own_f4 p1)), .val (.int (63 : Int32)), .val (.int (Int32.ofNat (own_home p1))), .val (.int (p1 + (1 : Int32))), .unset]) rfl ?_
    show Steps p.tables e below (T2.setTop (mkF m 23 #[.val (.ref a0), .val (.int p1), .val (.int (own_f4 p1)), .val (.int (63 : Int32)), .val (.int (Int32.ofNat (own_home p1))), .val (.int (p1 + (1 : Int32))), .unset] [])) t
    refine XS.aloadN X2.here hx rfl (hb hby d6_23) rfl rfl ?_
    exact kt
  obtain ⟨T4, X4, e4, st4⟩ := getF X2 hx hZ hown (host := "") (Or.inl (hw _ (List.mem_of_getElem? (i := 11) rfl))) Via.refl e2 PF1 (g := (mkF m 24 #[.val (.ref a0), .val (.int p1), .val (.int (own_f4 p1)), .val (.int (63 : Int32)), .val (.int (Int32.ofNat (own_home p1))), .val (.int (p1 + (1 : Int32))), .unset] [(.ref a0)])) rfl rfl (hb hby d6_24)
  refine own_by (A' := T4.setTop (mkF m 27 #[.val (.ref a0), .val (.int p1), .val (.int (own_f4 p1)), .val (.int (63 : Int32)), .val (.int (Int32.ofNat (own_home p1))), .val (.int (p1 + (1 : Int32))), .unset] [(.ref b)])) (fun t kt => st4 t kt) ?_
  refine own_by (A' := T4.setTop (mkF m 29 #[.val (.ref a0), .val (.int p1), .val (.int (own_f4 p1)), .val (.int (63 : Int32)), .val (.int (Int32.ofNat (own_home p1))), .val (.int (p1 + (1 : Int32))), .unset] [(.int (Int32.ofNat (own_home p1))), (.ref b)])) (fun t kt => ?_) ?_
  · show Steps p.tables e below (T4.setTop (mkF m 27 #[.val (.ref a0), .val (.int p1), .val (.int (own_f4 p1)), .val (.int (63 : Int32)), .val (.int (Int32.ofNat (own_home p1))), .val (.int (p1 + (1 : Int32))), .unset] [(.ref b)])) t
    refine XS.iload X4.here hx rfl (hb hby d6_27) rfl ?_
    exact kt
  obtain ⟨cl5, Ar5, Sz5, Mn5, Ha5⟩ := id V_b
  have hin5 := inb_of (j := (Int32.ofNat (own_home p1))) Sz5 ⟨(own_of (own_homelt p1)).2.1, (own_of (own_homelt p1)).2.2⟩
  have hat5 : cl5.slots[((Int32.ofNat (own_home p1))).toNatClampNeg]? = some (.int (f (own_home p1))) := (Ha5 _ (Nat.lt_of_not_le fun q => hin5 (Or.inr q))).trans (congrArg some (congrArg (fun i => Value.int (f i)) (own_of (own_homelt p1)).1))
  refine own_by (A' := T4.setTop (mkF m 32 #[.val (.ref a0), .val (.int p1), .val (.int (own_f4 p1)), .val (.int (63 : Int32)), .val (.int (Int32.ofNat (own_home p1))), .val (.int (p1 + (1 : Int32))), .val (.int (f (own_home p1)))] [])) (fun t kt => ?_) ?_
  · show Steps p.tables e below (T4.setTop (mkF m 29 #[.val (.ref a0), .val (.int p1), .val (.int (own_f4 p1)), .val (.int (63 : Int32)), .val (.int (Int32.ofNat (own_home p1))), .val (.int (p1 + (1 : Int32))), .unset] [(.int (Int32.ofNat (own_home p1))), (.ref b)])) t
    refine X4.iaload hx (j := (Int32.ofNat (own_home p1))) (v := (.int (f (own_home p1)))) (by rw [e4]; exact Ar5.1) (State.isArrayOf_alike hZ.alike Ar5.2.1) Ar5.2.2 hin5 hat5 (g := (mkF m 29 #[.val (.ref a0), .val (.int p1), .val (.int (own_f4 p1)), .val (.int (63 : Int32)), .val (.int (Int32.ofNat (own_home p1))), .val (.int (p1 + (1 : Int32))), .unset] [(.int (Int32.ofNat (own_home p1))), (.ref b)])) rfl rfl (hb hby d6_29) _ ?_
    show Steps p.tables e below (T4.setTop (mkF m 30 #[.val (.ref a0), .val (.int p1), .val (.int (own_f4 p1)), .val (.int (63 : Int32)), .val (.int (Int32.ofNat (own_home p1))), .val (.int (p1 + (1 : Int32))), .unset] [(.int (f (own_home p1)))])) t
    refine XS.istore X4.here hx rfl (hb hby d6_30) rfl (l' := #[.val (.ref a0), .val (.int p1), .val (.int (own_f4 p1)), .val (.int (63 : Int32)), .val (.int (Int32.ofNat (own_home p1))), .val (.int (p1 + (1 : Int32))), .val (.int (f (own_home p1)))]) rfl ?_
    exact kt
  obtain ⟨d, hst, hlt⟩ := own_stop I (by omega) p1
  refine own_turnA a0 b f p1 (own_f4 p1) hx hZ hw hby hml hown PF1 V_b d (own_home p1) T4 (own_homelt p1) X4 e4 hlt (fun T6 X6 e6 => ?_)
  refine own_by (A' := T6.setTop (mkF m 34 #[.val (.ref a0), .val (.int p1), .val (.int (own_f4 p1)), .val (.int (63 : Int32)), .val (.int (Int32.ofNat ((own_home p1 + d) % 64))), .val (.int (p1 + (1 : Int32))), .val (.int (f ((own_home p1 + d) % 64)))] [(.int (f ((own_home p1 + d) % 64)))])) (fun t kt => ?_) ?_
  · show Steps p.tables e below (T6.setTop (mkF m 32 #[.val (.ref a0), .val (.int p1), .val (.int (own_f4 p1)), .val (.int (63 : Int32)), .val (.int (Int32.ofNat ((own_home p1 + d) % 64))), .val (.int (p1 + (1 : Int32))), .val (.int (f ((own_home p1 + d) % 64)))] [])) t
    refine XS.iload X6.here hx rfl (hb hby d6_32) rfl ?_
    exact kt
  by_cases hc34_7 : (f ((own_home p1 + d) % 64)) = (0 : Int32)
  · refine own_by (A' := T6.setTop (mkF m 67 #[.val (.ref a0), .val (.int p1), .val (.int (own_f4 p1)), .val (.int (63 : Int32)), .val (.int (Int32.ofNat ((own_home p1 + d) % 64))), .val (.int (p1 + (1 : Int32))), .val (.int (f ((own_home p1 + d) % 64)))] [(.ref a0)])) (fun t kt => ?_) ?_
    · show Steps p.tables e below (T6.setTop (mkF m 34 #[.val (.ref a0), .val (.int p1), .val (.int (own_f4 p1)), .val (.int (63 : Int32)), .val (.int (Int32.ofNat ((own_home p1 + d) % 64))), .val (.int (p1 + (1 : Int32))), .val (.int (f ((own_home p1 + d) % 64)))] [(.int (f ((own_home p1 + d) % 64)))])) t
      refine XS.ifYes X6.here hx rfl (pc0 := 34) (pc' := 66) rfl (hb hby d6_34) rfl ((if0 _ _).trans (teq hc34_7).1) (by decide) (by decide) ?_
      show Steps p.tables e below (T6.setTop (mkF m 66 #[.val (.ref a0), .val (.int p1), .val (.int (own_f4 p1)), .val (.int (63 : Int32)), .val (.int (Int32.ofNat ((own_home p1 + d) % 64))), .val (.int (p1 + (1 : Int32))), .val (.int (f ((own_home p1 + d) % 64)))] [])) t
      refine XS.aloadN X6.here hx rfl (hb hby d6_66) rfl rfl ?_
      exact kt
    obtain ⟨T8, X8, e8, st8⟩ := getF X6 hx hZ hown (host := "") (Or.inl (hw _ (List.mem_of_getElem? (i := 11) rfl))) Via.refl e6 PF1 (g := (mkF m 67 #[.val (.ref a0), .val (.int p1), .val (.int (own_f4 p1)), .val (.int (63 : Int32)), .val (.int (Int32.ofNat ((own_home p1 + d) % 64))), .val (.int (p1 + (1 : Int32))), .val (.int (f ((own_home p1 + d) % 64)))] [(.ref a0)])) rfl rfl (hb hby d6_67)
    refine own_by (A' := T8.setTop (mkF m 70 #[.val (.ref a0), .val (.int p1), .val (.int (own_f4 p1)), .val (.int (63 : Int32)), .val (.int (Int32.ofNat ((own_home p1 + d) % 64))), .val (.int (p1 + (1 : Int32))), .val (.int (f ((own_home p1 + d) % 64)))] [(.ref b)])) (fun t kt => st8 t kt) ?_
    refine own_by (A' := T8.setTop (mkF m 74 #[.val (.ref a0), .val (.int p1), .val (.int (own_f4 p1)), .val (.int (63 : Int32)), .val (.int (Int32.ofNat ((own_home p1 + d) % 64))), .val (.int (p1 + (1 : Int32))), .val (.int (f ((own_home p1 + d) % 64)))] [(.int (p1 + (1 : Int32))), (.int (Int32.ofNat ((own_home p1 + d) % 64))), (.ref b)])) (fun t kt => ?_) ?_
    · show Steps p.tables e below (T8.setTop (mkF m 70 #[.val (.ref a0), .val (.int p1), .val (.int (own_f4 p1)), .val (.int (63 : Int32)), .val (.int (Int32.ofNat ((own_home p1 + d) % 64))), .val (.int (p1 + (1 : Int32))), .val (.int (f ((own_home p1 + d) % 64)))] [(.ref b)])) t
      refine XS.iload X8.here hx rfl (hb hby d6_70) rfl ?_
      show Steps p.tables e below (T8.setTop (mkF m 72 #[.val (.ref a0), .val (.int p1), .val (.int (own_f4 p1)), .val (.int (63 : Int32)), .val (.int (Int32.ofNat ((own_home p1 + d) % 64))), .val (.int (p1 + (1 : Int32))), .val (.int (f ((own_home p1 + d) % 64)))] [(.int (Int32.ofNat ((own_home p1 + d) % 64))), (.ref b)])) t
      refine XS.iload X8.here hx rfl (hb hby d6_72) rfl ?_
      exact kt
    obtain ⟨cl9, Ar9, Sz9, Mn9, Ha9⟩ := id V_b
    have hin9 := inb_of (j := (Int32.ofNat ((own_home p1 + d) % 64))) Sz9 ⟨(own_of (Nat.mod_lt _ (by decide))).2.1, (own_of (Nat.mod_lt _ (by decide))).2.2⟩
    obtain ⟨T9, h9, X9, e9, W9, st9⟩ := stI X8 hx hZ e8 Ar9 (j := (Int32.ofNat ((own_home p1 + d) % 64))) hin9 (g := (mkF m 74 #[.val (.ref a0), .val (.int p1), .val (.int (own_f4 p1)), .val (.int (63 : Int32)), .val (.int (Int32.ofNat ((own_home p1 + d) % 64))), .val (.int (p1 + (1 : Int32))), .val (.int (f ((own_home p1 + d) % 64)))] [(.int (p1 + (1 : Int32))), (.int (Int32.ofNat ((own_home p1 + d) % 64))), (.ref b)])) rfl rfl (hb hby d6_74)
    have V9 : AF Z h9 b .int (64 : Int32) (fun i => if i = ((Int32.ofNat ((own_home p1 + d) % 64))).toNatClampNeg then (.int (p1 + (1 : Int32))) else .int (f i)) := AF.set Ar9 Sz9 Mn9 Ha9 hin9 W9
    have N9 := Fr.snoc X9 N1 g_b
    have K9 : Keep h0 h9 [a0, b] := K0.wr W9 (Or.inl (List.mem_of_getElem? (i := 1) rfl))
    refine own_by (A' := T9.setTop (mkF m 75 #[.val (.ref a0), .val (.int p1), .val (.int (own_f4 p1)), .val (.int (63 : Int32)), .val (.int (Int32.ofNat ((own_home p1 + d) % 64))), .val (.int (p1 + (1 : Int32))), .val (.int (f ((own_home p1 + d) % 64)))] [])) (fun t kt => st9 t kt) ?_
    have VE : AF Z h9 b .int (64 : Int32) (fun i => .int (if i = (own_home p1 + d) % 64 then p1 + 1 else f i)) := AF.to V9 (fun i _ => by rw [(own_of (Nat.mod_lt _ (by decide))).1]; split <;> rfl)
    refine own_by (A' := T9.setTop (mkF m 76 #[.val (.ref a0), .val (.int p1), .val (.int (own_f4 p1)), .val (.int (63 : Int32)), .val (.int (Int32.ofNat ((own_home p1 + d) % 64))), .val (.int (p1 + (1 : Int32))), .val (.int (f ((own_home p1 + d) % 64)))] [(.int (own_f4 p1))])) (fun t kt => ?_) ?_
    · show Steps p.tables e below (T9.setTop (mkF m 75 #[.val (.ref a0), .val (.int p1), .val (.int (own_f4 p1)), .val (.int (63 : Int32)), .val (.int (Int32.ofNat ((own_home p1 + d) % 64))), .val (.int (p1 + (1 : Int32))), .val (.int (f ((own_home p1 + d) % 64)))] [])) t
      refine XS.iloadN X9.here hx rfl (hb hby d6_75) rfl ?_
      exact kt
    by_cases hc76_10 : (own_f4 p1) < (0 : Int32)
    · refine own_by (A' := T9.setTop (mkF m 81 #[.val (.ref a0), .val (.int p1), .val (.int (own_f4 p1)), .val (.int (63 : Int32)), .val (.int (Int32.ofNat ((own_home p1 + d) % 64))), .val (.int (p1 + (1 : Int32))), .val (.int (f ((own_home p1 + d) % 64)))] [(.ref a0), (.ref a0)])) (fun t kt => ?_) ?_
      · show Steps p.tables e below (T9.setTop (mkF m 76 #[.val (.ref a0), .val (.int p1), .val (.int (own_f4 p1)), .val (.int (63 : Int32)), .val (.int (Int32.ofNat ((own_home p1 + d) % 64))), .val (.int (p1 + (1 : Int32))), .val (.int (f ((own_home p1 + d) % 64)))] [(.int (own_f4 p1))])) t
        refine XS.ifNo X9.here hx rfl (hb hby d6_76) rfl ((if0 _ _).trans (tlt hc76_10).2.1) ?_
        show Steps p.tables e below (T9.setTop (mkF m 79 #[.val (.ref a0), .val (.int p1), .val (.int (own_f4 p1)), .val (.int (63 : Int32)), .val (.int (Int32.ofNat ((own_home p1 + d) % 64))), .val (.int (p1 + (1 : Int32))), .val (.int (f ((own_home p1 + d) % 64)))] [])) t
        refine XS.aloadN X9.here hx rfl (hb hby d6_79) rfl rfl ?_
        show Steps p.tables e below (T9.setTop (mkF m 80 #[.val (.ref a0), .val (.int p1), .val (.int (own_f4 p1)), .val (.int (63 : Int32)), .val (.int (Int32.ofNat ((own_home p1 + d) % 64))), .val (.int (p1 + (1 : Int32))), .val (.int (f ((own_home p1 + d) % 64)))] [(.ref a0)])) t
        refine XS.dup X9.here hx rfl (hb hby d6_80) rfl rfl ?_
        exact kt
      obtain ⟨T11, X11, e11, st11⟩ := getF X9 hx hZ hown (host := "") (Or.inl (hw _ (List.mem_of_getElem? (i := 22) rfl))) Via.refl e9 (PF2.other W9 (Or.inl hab)) (g := (mkF m 81 #[.val (.ref a0), .val (.int p1), .val (.int (own_f4 p1)), .val (.int (63 : Int32)), .val (.int (Int32.ofNat ((own_home p1 + d) % 64))), .val (.int (p1 + (1 : Int32))), .val (.int (f ((own_home p1 + d) % 64)))] [(.ref a0), (.ref a0)])) rfl rfl (hb hby d6_81)
      refine own_by (A' := T11.setTop (mkF m 84 #[.val (.ref a0), .val (.int p1), .val (.int (own_f4 p1)), .val (.int (63 : Int32)), .val (.int (Int32.ofNat ((own_home p1 + d) % 64))), .val (.int (p1 + (1 : Int32))), .val (.int (f ((own_home p1 + d) % 64)))] [(.long hi), (.ref a0)])) (fun t kt => st11 t kt) ?_
      refine own_by (A' := T11.setTop (mkF m 91 #[.val (.ref a0), .val (.int p1), .val (.int (own_f4 p1)), .val (.int (63 : Int32)), .val (.int (Int32.ofNat ((own_home p1 + d) % 64))), .val (.int (p1 + (1 : Int32))), .val (.int (f ((own_home p1 + d) % 64)))] [(.long (hi ||| ((1 : Int64) <<< ((((own_f4 p1).toUInt32 >>> ((25 : Int32) &&& 31).toUInt32).toInt32) &&& 0x3f).toInt64))), (.ref a0)])) (fun t kt => ?_) ?_
      · show Steps p.tables e below (T11.setTop (mkF m 84 #[.val (.ref a0), .val (.int p1), .val (.int (own_f4 p1)), .val (.int (63 : Int32)), .val (.int (Int32.ofNat ((own_home p1 + d) % 64))), .val (.int (p1 + (1 : Int32))), .val (.int (f ((own_home p1 + d) % 64)))] [(.long hi), (.ref a0)])) t
        refine XS.lconst X11.here hx rfl (hb hby d6_84) ?_
        show Steps p.tables e below (T11.setTop (mkF m 85 #[.val (.ref a0), .val (.int p1), .val (.int (own_f4 p1)), .val (.int (63 : Int32)), .val (.int (Int32.ofNat ((own_home p1 + d) % 64))), .val (.int (p1 + (1 : Int32))), .val (.int (f ((own_home p1 + d) % 64)))] [(.long (1 : Int64)), (.long hi), (.ref a0)])) t
        refine XS.iloadN X11.here hx rfl (hb hby d6_85) rfl ?_
        show Steps p.tables e below (T11.setTop (mkF m 86 #[.val (.ref a0), .val (.int p1), .val (.int (own_f4 p1)), .val (.int (63 : Int32)), .val (.int (Int32.ofNat ((own_home p1 + d) % 64))), .val (.int (p1 + (1 : Int32))), .val (.int (f ((own_home p1 + d) % 64)))] [(.int (own_f4 p1)), (.long (1 : Int64)), (.long hi), (.ref a0)])) t
        refine XS.bipush X11.here hx rfl (hb hby d6_86) ?_
        show Steps p.tables e below (T11.setTop (mkF m 88 #[.val (.ref a0), .val (.int p1), .val (.int (own_f4 p1)), .val (.int (63 : Int32)), .val (.int (Int32.ofNat ((own_home p1 + d) % 64))), .val (.int (p1 + (1 : Int32))), .val (.int (f ((own_home p1 + d) % 64)))] [(.int (25 : Int32)), (.int (own_f4 p1)), (.long (1 : Int64)), (.long hi), (.ref a0)])) t
        refine XS.iushr X11.here hx rfl (hb hby d6_88) rfl ?_
        show Steps p.tables e below (T11.setTop (mkF m 89 #[.val (.ref a0), .val (.int p1), .val (.int (own_f4 p1)), .val (.int (63 : Int32)), .val (.int (Int32.ofNat ((own_home p1 + d) % 64))), .val (.int (p1 + (1 : Int32))), .val (.int (f ((own_home p1 + d) % 64)))] [(.int (((own_f4 p1).toUInt32 >>> ((25 : Int32) &&& 31).toUInt32).toInt32)), (.long (1 : Int64)), (.long hi), (.ref a0)])) t
        refine XS.lshl X11.here hx rfl (hb hby d6_89) rfl ?_
        show Steps p.tables e below (T11.setTop (mkF m 90 #[.val (.ref a0), .val (.int p1), .val (.int (own_f4 p1)), .val (.int (63 : Int32)), .val (.int (Int32.ofNat ((own_home p1 + d) % 64))), .val (.int (p1 + (1 : Int32))), .val (.int (f ((own_home p1 + d) % 64)))] [(.long ((1 : Int64) <<< ((((own_f4 p1).toUInt32 >>> ((25 : Int32) &&& 31).toUInt32).toInt32) &&& 0x3f).toInt64)), (.long hi), (.ref a0)])) t
        refine XS.lor X11.here hx rfl (hb hby d6_90) rfl ?_
        exact kt
      obtain ⟨T12, h12, X12, e12, W12, st12⟩ := putF X11 hx hZ hown (host := "") (Or.inl (hw _ (List.mem_of_getElem? (i := 22) rfl))) Via.refl e11 (PF2.other W9 (Or.inl hab)) (E_a0.wr W9) (Or.inl (hw _ (List.mem_of_getElem? (i := 23) rfl))) (hw _ (List.mem_of_getElem? (i := 2) rfl)) (ty := .long) (by decide) rfl rfl (g := (mkF m 91 #[.val (.ref a0), .val (.int p1), .val (.int (own_f4 p1)), .val (.int (63 : Int32)), .val (.int (Int32.ofNat ((own_home p1 + d) % 64))), .val (.int (p1 + (1 : Int32))), .val (.int (f ((own_home p1 + d) % 64)))] [(.long (hi ||| ((1 : Int64) <<< ((((own_f4 p1).toUInt32 >>> ((25 : Int32) &&& 31).toUInt32).toInt32) &&& 0x3f).toInt64))), (.ref a0)])) rfl rfl (hb hby d6_91)
      have F12 := Fld.same W12 (PF2.other W9 (Or.inl hab))
      have N12 := Fr.snoc X12 N9 g_a0
      have K12 : Keep h0 h12 [a0, b] := K9.wr W12 (Or.inl (List.mem_of_getElem? (i := 0) rfl))
      refine own_by (A' := T12.setTop (mkF m 94 #[.val (.ref a0), .val (.int p1), .val (.int (own_f4 p1)), .val (.int (63 : Int32)), .val (.int (Int32.ofNat ((own_home p1 + d) % 64))), .val (.int (p1 + (1 : Int32))), .val (.int (f ((own_home p1 + d) % 64)))] [])) (fun t kt => st12 t kt) ?_
      refine own_by (A' := T12.setTop (mkF m 115 #[.val (.ref a0), .val (.int p1), .val (.int (own_f4 p1)), .val (.int (63 : Int32)), .val (.int (Int32.ofNat ((own_home p1 + d) % 64))), .val (.int (p1 + (1 : Int32))), .val (.int (f ((own_home p1 + d) % 64)))] [(.ref a0), (.ref a0), (.int (2 : Int32))])) (fun t kt => ?_) ?_
      · show Steps p.tables e below (T12.setTop (mkF m 94 #[.val (.ref a0), .val (.int p1), .val (.int (own_f4 p1)), .val (.int (63 : Int32)), .val (.int (Int32.ofNat ((own_home p1 + d) % 64))), .val (.int (p1 + (1 : Int32))), .val (.int (f ((own_home p1 + d) % 64)))] [])) t
        refine XS.goto X12.here hx rfl (pc0 := 94) (pc' := 112) rfl (hb hby d6_94) (by decide) (by decide) ?_
        show Steps p.tables e below (T12.setTop (mkF m 112 #[.val (.ref a0), .val (.int p1), .val (.int (own_f4 p1)), .val (.int (63 : Int32)), .val (.int (Int32.ofNat ((own_home p1 + d) % 64))), .val (.int (p1 + (1 : Int32))), .val (.int (f ((own_home p1 + d) % 64)))] [])) t
        refine XS.iconst X12.here hx rfl (hb hby d6_112) ?_
        show Steps p.tables e below (T12.setTop (mkF m 113 #[.val (.ref a0), .val (.int p1), .val (.int (own_f4 p1)), .val (.int (63 : Int32)), .val (.int (Int32.ofNat ((own_home p1 + d) % 64))), .val (.int (p1 + (1 : Int32))), .val (.int (f ((own_home p1 + d) % 64)))] [(.int (2 : Int32))])) t
        refine XS.aloadN X12.here hx rfl (hb hby d6_113) rfl rfl ?_
        show Steps p.tables e below (T12.setTop (mkF m 114 #[.val (.ref a0), .val (.int p1), .val (.int (own_f4 p1)), .val (.int (63 : Int32)), .val (.int (Int32.ofNat ((own_home p1 + d) % 64))), .val (.int (p1 + (1 : Int32))), .val (.int (f ((own_home p1 + d) % 64)))] [(.ref a0), (.int (2 : Int32))])) t
        refine XS.dup X12.here hx rfl (hb hby d6_114) rfl rfl ?_
        exact kt
      obtain ⟨T13, X13, e13, st13⟩ := getF X12 hx hZ hown (host := "") (Or.inl (hw _ (List.mem_of_getElem? (i := 35) rfl))) Via.refl e12 ((PF4.other W9 (Or.inl hab)).other W12 (Or.inr (slot_ne (Or.inl (hw _ (List.mem_of_getElem? (i := 36) rfl))) (Or.inl (hw _ (List.mem_of_getElem? (i := 23) rfl))) (by decide) (t := .int) (t' := .long) (by decide) (by decide)))) (g := (mkF m 115 #[.val (.ref a0), .val (.int p1), .val (.int (own_f4 p1)), .val (.int (63 : Int32)), .val (.int (Int32.ofNat ((own_home p1 + d) % 64))), .val (.int (p1 + (1 : Int32))), .val (.int (f ((own_home p1 + d) % 64)))] [(.ref a0), (.ref a0), (.int (2 : Int32))])) rfl rfl (hb hby d6_115)
      refine own_by (A' := T13.setTop (mkF m 118 #[.val (.ref a0), .val (.int p1), .val (.int (own_f4 p1)), .val (.int (63 : Int32)), .val (.int (Int32.ofNat ((own_home p1 + d) % 64))), .val (.int (p1 + (1 : Int32))), .val (.int (f ((own_home p1 + d) % 64)))] [(.int sz), (.ref a0), (.int (2 : Int32))])) (fun t kt => st13 t kt) ?_
      refine own_by (A' := T13.setTop (mkF m 121 #[.val (.ref a0), .val (.int p1), .val (.int (own_f4 p1)), .val (.int (63 : Int32)), .val (.int (Int32.ofNat ((own_home p1 + d) % 64))), .val (.int (p1 + (1 : Int32))), .val (.int (f ((own_home p1 + d) % 64)))] [(.int (sz + (1 : Int32))), (.ref a0), (.int (sz + (1 : Int32))), (.int (2 : Int32))])) (fun t kt => ?_) ?_
      · show Steps p.tables e below (T13.setTop (mkF m 118 #[.val (.ref a0), .val (.int p1), .val (.int (own_f4 p1)), .val (.int (63 : Int32)), .val (.int (Int32.ofNat ((own_home p1 + d) % 64))), .val (.int (p1 + (1 : Int32))), .val (.int (f ((own_home p1 + d) % 64)))] [(.int sz), (.ref a0), (.int (2 : Int32))])) t
        refine XS.iconst X13.here hx rfl (hb hby d6_118) ?_
        show Steps p.tables e below (T13.setTop (mkF m 119 #[.val (.ref a0), .val (.int p1), .val (.int (own_f4 p1)), .val (.int (63 : Int32)), .val (.int (Int32.ofNat ((own_home p1 + d) % 64))), .val (.int (p1 + (1 : Int32))), .val (.int (f ((own_home p1 + d) % 64)))] [(.int (1 : Int32)), (.int sz), (.ref a0), (.int (2 : Int32))])) t
        refine XS.iadd X13.here hx rfl (hb hby d6_119) rfl ?_
        show Steps p.tables e below (T13.setTop (mkF m 120 #[.val (.ref a0), .val (.int p1), .val (.int (own_f4 p1)), .val (.int (63 : Int32)), .val (.int (Int32.ofNat ((own_home p1 + d) % 64))), .val (.int (p1 + (1 : Int32))), .val (.int (f ((own_home p1 + d) % 64)))] [(.int (sz + (1 : Int32))), (.ref a0), (.int (2 : Int32))])) t
        refine XS.dupX1 X13.here hx rfl (hb hby d6_120) rfl rfl rfl ?_
        exact kt
      obtain ⟨T14, h14, X14, e14, W14, st14⟩ := putF X13 hx hZ hown (host := "") (Or.inl (hw _ (List.mem_of_getElem? (i := 35) rfl))) Via.refl e13 ((PF4.other W9 (Or.inl hab)).other W12 (Or.inr (slot_ne (Or.inl (hw _ (List.mem_of_getElem? (i := 36) rfl))) (Or.inl (hw _ (List.mem_of_getElem? (i := 23) rfl))) (by decide) (t := .int) (t' := .long) (by decide) (by decide)))) ((E_a0.wr W9).wr W12) (Or.inl (hw _ (List.mem_of_getElem? (i := 36) rfl))) (hw _ (List.mem_of_getElem? (i := 2) rfl)) (ty := .int) (by decide) rfl rfl (g := (mkF m 121 #[.val (.ref a0), .val (.int p1), .val (.int (own_f4 p1)), .val (.int (63 : Int32)), .val (.int (Int32.ofNat ((own_home p1 + d) % 64))), .val (.int (p1 + (1 : Int32))), .val (.int (f ((own_home p1 + d) % 64)))] [(.int (sz + (1 : Int32))), (.ref a0), (.int (sz + (1 : Int32))), (.int (2 : Int32))])) rfl rfl (hb hby d6_121)
      have F14 := Fld.same W14 ((PF4.other W9 (Or.inl hab)).other W12 (Or.inr (slot_ne (Or.inl (hw _ (List.mem_of_getElem? (i := 36) rfl))) (Or.inl (hw _ (List.mem_of_getElem? (i := 23) rfl))) (by decide) (t := .int) (t' := .long) (by decide) (by decide))))
      have N14 := Fr.snoc X14 N12 g_a0
      have K14 : Keep h0 h14 [a0, b] := K12.wr W14 (Or.inl (List.mem_of_getElem? (i := 0) rfl))
      refine own_by (A' := T14.setTop (mkF m 124 #[.val (.ref a0), .val (.int p1), .val (.int (own_f4 p1)), .val (.int (63 : Int32)), .val (.int (Int32.ofNat ((own_home p1 + d) % 64))), .val (.int (p1 + (1 : Int32))), .val (.int (f ((own_home p1 + d) % 64)))] [(.int (sz + (1 : Int32))), (.int (2 : Int32))])) (fun t kt => st14 t kt) ?_
      refine own_by (A' := T14.setTop (mkF m 126 #[.val (.ref a0), .val (.int p1), .val (.int (own_f4 p1)), .val (.int (63 : Int32)), .val (.int (Int32.ofNat ((own_home p1 + d) % 64))), .val (.int (p1 + (1 : Int32))), .val (.int (f ((own_home p1 + d) % 64)))] [(.ref a0), (.int ((2 : Int32) * (sz + (1 : Int32))))])) (fun t kt => ?_) ?_
      · show Steps p.tables e below (T14.setTop (mkF m 124 #[.val (.ref a0), .val (.int p1), .val (.int (own_f4 p1)), .val (.int (63 : Int32)), .val (.int (Int32.ofNat ((own_home p1 + d) % 64))), .val (.int (p1 + (1 : Int32))), .val (.int (f ((own_home p1 + d) % 64)))] [(.int (sz + (1 : Int32))), (.int (2 : Int32))])) t
        refine XS.imul X14.here hx rfl (hb hby d6_124) rfl ?_
        show Steps p.tables e below (T14.setTop (mkF m 125 #[.val (.ref a0), .val (.int p1), .val (.int (own_f4 p1)), .val (.int (63 : Int32)), .val (.int (Int32.ofNat ((own_home p1 + d) % 64))), .val (.int (p1 + (1 : Int32))), .val (.int (f ((own_home p1 + d) % 64)))] [(.int ((2 : Int32) * (sz + (1 : Int32))))])) t
        refine XS.aloadN X14.here hx rfl (hb hby d6_125) rfl rfl ?_
        exact kt
      obtain ⟨T15, X15, e15, st15⟩ := getF X14 hx hZ hown (host := "") (Or.inl (hw _ (List.mem_of_getElem? (i := 11) rfl))) Via.refl e14 (((PF1.other W9 (Or.inl hab)).other W12 (Or.inr (slot_ne (Or.inl (hw _ (List.mem_of_getElem? (i := 12) rfl))) (Or.inl (hw _ (List.mem_of_getElem? (i := 23) rfl))) (by decide) (t := (.array .int)) (t' := .long) (by decide) (by decide)))).other W14 (Or.inr (slot_ne (Or.inl (hw _ (List.mem_of_getElem? (i := 12) rfl))) (Or.inl (hw _ (List.mem_of_getElem? (i := 36) rfl))) (by decide) (t := (.array .int)) (t' := .int) (by decide) (by decide)))) (g := (mkF m 126 #[.val (.ref a0), .val (.int p1), .val (.int (own_f4 p1)), .val (.int (63 : Int32)), .val (.int (Int32.ofNat ((own_home p1 + d) % 64))), .val (.int (p1 + (1 : Int32))), .val (.int (f ((own_home p1 + d) % 64)))] [(.ref a0), (.int ((2 : Int32) * (sz + (1 : Int32))))])) rfl rfl (hb hby d6_126)
      refine own_by (A' := T15.setTop (mkF m 129 #[.val (.ref a0), .val (.int p1), .val (.int (own_f4 p1)), .val (.int (63 : Int32)), .val (.int (Int32.ofNat ((own_home p1 + d) % 64))), .val (.int (p1 + (1 : Int32))), .val (.int (f ((own_home p1 + d) % 64)))] [(.ref b), (.int ((2 : Int32) * (sz + (1 : Int32))))])) (fun t kt => st15 t kt) ?_
      obtain ⟨cl16, Ar16, Sz16, Mn16, -⟩ := id ((VE.other W12 (Ne.symm hab)).other W14 (Ne.symm hab))
      refine own_by (A' := T15.setTop (mkF m 130 #[.val (.ref a0), .val (.int p1), .val (.int (own_f4 p1)), .val (.int (63 : Int32)), .val (.int (Int32.ofNat ((own_home p1 + d) % 64))), .val (.int (p1 + (1 : Int32))), .val (.int (f ((own_home p1 + d) % 64)))] [(.int (64 : Int32)), (.int ((2 : Int32) * (sz + (1 : Int32))))])) (fun t kt => ?_) ?_
      · show Steps p.tables e below (T15.setTop (mkF m 129 #[.val (.ref a0), .val (.int p1), .val (.int (own_f4 p1)), .val (.int (63 : Int32)), .val (.int (Int32.ofNat ((own_home p1 + d) % 64))), .val (.int (p1 + (1 : Int32))), .val (.int (f ((own_home p1 + d) % 64)))] [(.ref b), (.int ((2 : Int32) * (sz + (1 : Int32))))])) t
        refine X15.arraylength hx (by rw [e15]; exact Ar16.1) (State.isArrayOf_alike hZ.alike Ar16.2.1) (g := (mkF m 129 #[.val (.ref a0), .val (.int p1), .val (.int (own_f4 p1)), .val (.int (63 : Int32)), .val (.int (Int32.ofNat ((own_home p1 + d) % 64))), .val (.int (p1 + (1 : Int32))), .val (.int (f ((own_home p1 + d) % 64)))] [(.ref b), (.int ((2 : Int32) * (sz + (1 : Int32))))])) rfl rfl (hb hby d6_129) _ ?_
        rw [len_of Sz16 Mn16]
        exact kt
      have hc130_17 : ¬ ((64 : Int32) < ((2 : Int32) * (sz + (1 : Int32)))) := own_grow I (by omega)
      refine own_by (A' := T15.setTop (mkF m 138 #[.val (.ref a0), .val (.int p1), .val (.int (own_f4 p1)), .val (.int (63 : Int32)), .val (.int (Int32.ofNat ((own_home p1 + d) % 64))), .val (.int (p1 + (1 : Int32))), .val (.int (f ((own_home p1 + d) % 64)))] [(.int (1 : Int32))])) (fun t kt => ?_) ?_
      · show Steps p.tables e below (T15.setTop (mkF m 130 #[.val (.ref a0), .val (.int p1), .val (.int (own_f4 p1)), .val (.int (63 : Int32)), .val (.int (Int32.ofNat ((own_home p1 + d) % 64))), .val (.int (p1 + (1 : Int32))), .val (.int (f ((own_home p1 + d) % 64)))] [(.int (64 : Int32)), (.int ((2 : Int32) * (sz + (1 : Int32))))])) t
        refine XS.icmpYes X15.here hx rfl (pc0 := 130) (pc' := 137) rfl (hb hby d6_130) rfl (flt hc130_17).2.2.2 (by decide) (by decide) ?_
        show Steps p.tables e below (T15.setTop (mkF m 137 #[.val (.ref a0), .val (.int p1), .val (.int (own_f4 p1)), .val (.int (63 : Int32)), .val (.int (Int32.ofNat ((own_home p1 + d) % 64))), .val (.int (p1 + (1 : Int32))), .val (.int (f ((own_home p1 + d) % 64)))] [])) t
        refine XS.iconst X15.here hx rfl (hb hby d6_137) ?_
        exact kt
      obtain ⟨fs, hr, hrun, hended, hW, hsame⟩ := X15.leave (v := some (.int (1 : Int32))) (fun h => by rw [Bd.returns] at h; cases h)
      refine ⟨_, _, ?_, hrun, hended, _, _, rfl, ?_, ⟨_, rfl⟩, hW, hsame.mono (by decide) (by decide)⟩
      · exact retN X15 hx (t := .boolean) Bd.returns (by simp) (hb hby d6_138) hr
      · show Q6 Z a0 p1 b f lo hi sz S h0 n0 _ T15.heap _
        rw [e15]
        exact ⟨fun i => if i = (own_home p1 + d) % 64 then p1 + 1 else f i, _, _, sz + 1, congrArg (fun z => some (Value.int z)) (if_neg (own_notin I hc34_7 hlt)).symm, N14, K14, (((E_a0.wr W9).wr W12).wr W14), (((PF1.other W9 (Or.inl hab)).other W12 (Or.inr (slot_ne (Or.inl (hw _ (List.mem_of_getElem? (i := 12) rfl))) (Or.inl (hw _ (List.mem_of_getElem? (i := 23) rfl))) (by decide) (t := (.array .int)) (t' := .long) (by decide) (by decide)))).other W14 (Or.inr (slot_ne (Or.inl (hw _ (List.mem_of_getElem? (i := 12) rfl))) (Or.inl (hw _ (List.mem_of_getElem? (i := 36) rfl))) (by decide) (t := (.array .int)) (t' := .int) (by decide) (by decide)))), (F12.other W14 (Or.inr (slot_ne (Or.inl (hw _ (List.mem_of_getElem? (i := 23) rfl))) (Or.inl (hw _ (List.mem_of_getElem? (i := 36) rfl))) (by decide) (t := .long) (t' := .int) (by decide) (by decide)))), (((PF3.other W9 (Or.inl hab)).other W12 (Or.inr (slot_ne (Or.inl (hw _ (List.mem_of_getElem? (i := 29) rfl))) (Or.inl (hw _ (List.mem_of_getElem? (i := 23) rfl))) (by decide) (t := .long) (t' := .long) (by decide) (by decide)))).other W14 (Or.inr (slot_ne (Or.inl (hw _ (List.mem_of_getElem? (i := 29) rfl))) (Or.inl (hw _ (List.mem_of_getElem? (i := 36) rfl))) (by decide) (t := .long) (t' := .int) (by decide) (by decide)))), F14, ((VE.other W12 (Ne.symm hab)).other W14 (Ne.symm hab)), own_put I (by omega) ht hc34_7 hlt (if_pos hc76_10).symm (if_pos hc76_10).symm, (if_neg (own_notin I hc34_7 hlt)).symm⟩
    · refine own_by (A' := T9.setTop (mkF m 99 #[.val (.ref a0), .val (.int p1), .val (.int (own_f4 p1)), .val (.int (63 : Int32)), .val (.int (Int32.ofNat ((own_home p1 + d) % 64))), .val (.int (p1 + (1 : Int32))), .val (.int (f ((own_home p1 + d) % 64)))] [(.ref a0), (.ref a0)])) (fun t kt => ?_) ?_
      · show Steps p.tables e below (T9.setTop (mkF m 76 #[.val (.ref a0), .val (.int p1), .val (.int (own_f4 p1)), .val (.int (63 : Int32)), .val (.int (Int32.ofNat ((own_home p1 + d) % 64))), .val (.int (p1 + (1 : Int32))), .val (.int (f ((own_home p1 + d) % 64)))] [(.int (own_f4 p1))])) t
        refine XS.ifYes X9.here hx rfl (pc0 := 76) (pc' := 97) rfl (hb hby d6_76) rfl ((if0 _ _).trans (flt hc76_10).2.1) (by decide) (by decide) ?_
        show Steps p.tables e below (T9.setTop (mkF m 97 #[.val (.ref a0), .val (.int p1), .val (.int (own_f4 p1)), .val (.int (63 : Int32)), .val (.int (Int32.ofNat ((own_home p1 + d) % 64))), .val (.int (p1 + (1 : Int32))), .val (.int (f ((own_home p1 + d) % 64)))] [])) t
        refine XS.aloadN X9.here hx rfl (hb hby d6_97) rfl rfl ?_
        show Steps p.tables e below (T9.setTop (mkF m 98 #[.val (.ref a0), .val (.int p1), .val (.int (own_f4 p1)), .val (.int (63 : Int32)), .val (.int (Int32.ofNat ((own_home p1 + d) % 64))), .val (.int (p1 + (1 : Int32))), .val (.int (f ((own_home p1 + d) % 64)))] [(.ref a0)])) t
        refine XS.dup X9.here hx rfl (hb hby d6_98) rfl rfl ?_
        exact kt
      obtain ⟨T18, X18, e18, st18⟩ := getF X9 hx hZ hown (host := "") (Or.inl (hw _ (List.mem_of_getElem? (i := 28) rfl))) Via.refl e9 (PF3.other W9 (Or.inl hab)) (g := (mkF m 99 #[.val (.ref a0), .val (.int p1), .val (.int (own_f4 p1)), .val (.int (63 : Int32)), .val (.int (Int32.ofNat ((own_home p1 + d) % 64))), .val (.int (p1 + (1 : Int32))), .val (.int (f ((own_home p1 + d) % 64)))] [(.ref a0), (.ref a0)])) rfl rfl (hb hby d6_99)
      refine own_by (A' := T18.setTop (mkF m 102 #[.val (.ref a0), .val (.int p1), .val (.int (own_f4 p1)), .val (.int (63 : Int32)), .val (.int (Int32.ofNat ((own_home p1 + d) % 64))), .val (.int (p1 + (1 : Int32))), .val (.int (f ((own_home p1 + d) % 64)))] [(.long lo), (.ref a0)])) (fun t kt => st18 t kt) ?_
      refine own_by (A' := T18.setTop (mkF m 109 #[.val (.ref a0), .val (.int p1), .val (.int (own_f4 p1)), .val (.int (63 : Int32)), .val (.int (Int32.ofNat ((own_home p1 + d) % 64))), .val (.int (p1 + (1 : Int32))), .val (.int (f ((own_home p1 + d) % 64)))] [(.long (lo ||| ((1 : Int64) <<< ((((own_f4 p1).toUInt32 >>> ((25 : Int32) &&& 31).toUInt32).toInt32) &&& 0x3f).toInt64))), (.ref a0)])) (fun t kt => ?_) ?_
      · show Steps p.tables e below (T18.setTop (mkF m 102 #[.val (.ref a0), .val (.int p1), .val (.int (own_f4 p1)), .val (.int (63 : Int32)), .val (.int (Int32.ofNat ((own_home p1 + d) % 64))), .val (.int (p1 + (1 : Int32))), .val (.int (f ((own_home p1 + d) % 64)))] [(.long lo), (.ref a0)])) t
        refine XS.lconst X18.here hx rfl (hb hby d6_102) ?_
        show Steps p.tables e below (T18.setTop (mkF m 103 #[.val (.ref a0), .val (.int p1), .val (.int (own_f4 p1)), .val (.int (63 : Int32)), .val (.int (Int32.ofNat ((own_home p1 + d) % 64))), .val (.int (p1 + (1 : Int32))), .val (.int (f ((own_home p1 + d) % 64)))] [(.long (1 : Int64)), (.long lo), (.ref a0)])) t
        refine XS.iloadN X18.here hx rfl (hb hby d6_103) rfl ?_
        show Steps p.tables e below (T18.setTop (mkF m 104 #[.val (.ref a0), .val (.int p1), .val (.int (own_f4 p1)), .val (.int (63 : Int32)), .val (.int (Int32.ofNat ((own_home p1 + d) % 64))), .val (.int (p1 + (1 : Int32))), .val (.int (f ((own_home p1 + d) % 64)))] [(.int (own_f4 p1)), (.long (1 : Int64)), (.long lo), (.ref a0)])) t
        refine XS.bipush X18.here hx rfl (hb hby d6_104) ?_
        show Steps p.tables e below (T18.setTop (mkF m 106 #[.val (.ref a0), .val (.int p1), .val (.int (own_f4 p1)), .val (.int (63 : Int32)), .val (.int (Int32.ofNat ((own_home p1 + d) % 64))), .val (.int (p1 + (1 : Int32))), .val (.int (f ((own_home p1 + d) % 64)))] [(.int (25 : Int32)), (.int (own_f4 p1)), (.long (1 : Int64)), (.long lo), (.ref a0)])) t
        refine XS.iushr X18.here hx rfl (hb hby d6_106) rfl ?_
        show Steps p.tables e below (T18.setTop (mkF m 107 #[.val (.ref a0), .val (.int p1), .val (.int (own_f4 p1)), .val (.int (63 : Int32)), .val (.int (Int32.ofNat ((own_home p1 + d) % 64))), .val (.int (p1 + (1 : Int32))), .val (.int (f ((own_home p1 + d) % 64)))] [(.int (((own_f4 p1).toUInt32 >>> ((25 : Int32) &&& 31).toUInt32).toInt32)), (.long (1 : Int64)), (.long lo), (.ref a0)])) t
        refine XS.lshl X18.here hx rfl (hb hby d6_107) rfl ?_
        show Steps p.tables e below (T18.setTop (mkF m 108 #[.val (.ref a0), .val (.int p1), .val (.int (own_f4 p1)), .val (.int (63 : Int32)), .val (.int (Int32.ofNat ((own_home p1 + d) % 64))), .val (.int (p1 + (1 : Int32))), .val (.int (f ((own_home p1 + d) % 64)))] [(.long ((1 : Int64) <<< ((((own_f4 p1).toUInt32 >>> ((25 : Int32) &&& 31).toUInt32).toInt32) &&& 0x3f).toInt64)), (.long lo), (.ref a0)])) t
        refine XS.lor X18.here hx rfl (hb hby d6_108) rfl ?_
        exact kt
      obtain ⟨T19, h19, X19, e19, W19, st19⟩ := putF X18 hx hZ hown (host := "") (Or.inl (hw _ (List.mem_of_getElem? (i := 28) rfl))) Via.refl e18 (PF3.other W9 (Or.inl hab)) (E_a0.wr W9) (Or.inl (hw _ (List.mem_of_getElem? (i := 29) rfl))) (hw _ (List.mem_of_getElem? (i := 2) rfl)) (ty := .long) (by decide) rfl rfl (g := (mkF m 109 #[.val (.ref a0), .val (.int p1), .val (.int (own_f4 p1)), .val (.int (63 : Int32)), .val (.int (Int32.ofNat ((own_home p1 + d) % 64))), .val (.int (p1 + (1 : Int32))), .val (.int (f ((own_home p1 + d) % 64)))] [(.long (lo ||| ((1 : Int64) <<< ((((own_f4 p1).toUInt32 >>> ((25 : Int32) &&& 31).toUInt32).toInt32) &&& 0x3f).toInt64))), (.ref a0)])) rfl rfl (hb hby d6_109)
      have F19 := Fld.same W19 (PF3.other W9 (Or.inl hab))
      have N19 := Fr.snoc X19 N9 g_a0
      have K19 : Keep h0 h19 [a0, b] := K9.wr W19 (Or.inl (List.mem_of_getElem? (i := 0) rfl))
      refine own_by (A' := T19.setTop (mkF m 112 #[.val (.ref a0), .val (.int p1), .val (.int (own_f4 p1)), .val (.int (63 : Int32)), .val (.int (Int32.ofNat ((own_home p1 + d) % 64))), .val (.int (p1 + (1 : Int32))), .val (.int (f ((own_home p1 + d) % 64)))] [])) (fun t kt => st19 t kt) ?_
      refine own_by (A' := T19.setTop (mkF m 115 #[.val (.ref a0), .val (.int p1), .val (.int (own_f4 p1)), .val (.int (63 : Int32)), .val (.int (Int32.ofNat ((own_home p1 + d) % 64))), .val (.int (p1 + (1 : Int32))), .val (.int (f ((own_home p1 + d) % 64)))] [(.ref a0), (.ref a0), (.int (2 : Int32))])) (fun t kt => ?_) ?_
      · show Steps p.tables e below (T19.setTop (mkF m 112 #[.val (.ref a0), .val (.int p1), .val (.int (own_f4 p1)), .val (.int (63 : Int32)), .val (.int (Int32.ofNat ((own_home p1 + d) % 64))), .val (.int (p1 + (1 : Int32))), .val (.int (f ((own_home p1 + d) % 64)))] [])) t
        refine XS.iconst X19.here hx rfl (hb hby d6_112) ?_
        show Steps p.tables e below (T19.setTop (mkF m 113 #[.val (.ref a0), .val (.int p1), .val (.int (own_f4 p1)), .val (.int (63 : Int32)), .val (.int (Int32.ofNat ((own_home p1 + d) % 64))), .val (.int (p1 + (1 : Int32))), .val (.int (f ((own_home p1 + d) % 64)))] [(.int (2 : Int32))])) t
        refine XS.aloadN X19.here hx rfl (hb hby d6_113) rfl rfl ?_
        show Steps p.tables e below (T19.setTop (mkF m 114 #[.val (.ref a0), .val (.int p1), .val (.int (own_f4 p1)), .val (.int (63 : Int32)), .val (.int (Int32.ofNat ((own_home p1 + d) % 64))), .val (.int (p1 + (1 : Int32))), .val (.int (f ((own_home p1 + d) % 64)))] [(.ref a0), (.int (2 : Int32))])) t
        refine XS.dup X19.here hx rfl (hb hby d6_114) rfl rfl ?_
        exact kt
      obtain ⟨T20, X20, e20, st20⟩ := getF X19 hx hZ hown (host := "") (Or.inl (hw _ (List.mem_of_getElem? (i := 35) rfl))) Via.refl e19 ((PF4.other W9 (Or.inl hab)).other W19 (Or.inr (slot_ne (Or.inl (hw _ (List.mem_of_getElem? (i := 36) rfl))) (Or.inl (hw _ (List.mem_of_getElem? (i := 29) rfl))) (by decide) (t := .int) (t' := .long) (by decide) (by decide)))) (g := (mkF m 115 #[.val (.ref a0), .val (.int p1), .val (.int (own_f4 p1)), .val (.int (63 : Int32)), .val (.int (Int32.ofNat ((own_home p1 + d) % 64))), .val (.int (p1 + (1 : Int32))), .val (.int (f ((own_home p1 + d) % 64)))] [(.ref a0), (.ref a0), (.int (2 : Int32))])) rfl rfl (hb hby d6_115)
      refine own_by (A' := T20.setTop (mkF m 118 #[.val (.ref a0), .val (.int p1), .val (.int (own_f4 p1)), .val (.int (63 : Int32)), .val (.int (Int32.ofNat ((own_home p1 + d) % 64))), .val (.int (p1 + (1 : Int32))), .val (.int (f ((own_home p1 + d) % 64)))] [(.int sz), (.ref a0), (.int (2 : Int32))])) (fun t kt => st20 t kt) ?_
      refine own_by (A' := T20.setTop (mkF m 121 #[.val (.ref a0), .val (.int p1), .val (.int (own_f4 p1)), .val (.int (63 : Int32)), .val (.int (Int32.ofNat ((own_home p1 + d) % 64))), .val (.int (p1 + (1 : Int32))), .val (.int (f ((own_home p1 + d) % 64)))] [(.int (sz + (1 : Int32))), (.ref a0), (.int (sz + (1 : Int32))), (.int (2 : Int32))])) (fun t kt => ?_) ?_
      · show Steps p.tables e below (T20.setTop (mkF m 118 #[.val (.ref a0), .val (.int p1), .val (.int (own_f4 p1)), .val (.int (63 : Int32)), .val (.int (Int32.ofNat ((own_home p1 + d) % 64))), .val (.int (p1 + (1 : Int32))), .val (.int (f ((own_home p1 + d) % 64)))] [(.int sz), (.ref a0), (.int (2 : Int32))])) t
        refine XS.iconst X20.here hx rfl (hb hby d6_118) ?_
        show Steps p.tables e below (T20.setTop (mkF m 119 #[.val (.ref a0), .val (.int p1), .val (.int (own_f4 p1)), .val (.int (63 : Int32)), .val (.int (Int32.ofNat ((own_home p1 + d) % 64))), .val (.int (p1 + (1 : Int32))), .val (.int (f ((own_home p1 + d) % 64)))] [(.int (1 : Int32)), (.int sz), (.ref a0), (.int (2 : Int32))])) t
        refine XS.iadd X20.here hx rfl (hb hby d6_119) rfl ?_
        show Steps p.tables e below (T20.setTop (mkF m 120 #[.val (.ref a0), .val (.int p1), .val (.int (own_f4 p1)), .val (.int (63 : Int32)), .val (.int (Int32.ofNat ((own_home p1 + d) % 64))), .val (.int (p1 + (1 : Int32))), .val (.int (f ((own_home p1 + d) % 64)))] [(.int (sz + (1 : Int32))), (.ref a0), (.int (2 : Int32))])) t
        refine XS.dupX1 X20.here hx rfl (hb hby d6_120) rfl rfl rfl ?_
        exact kt
      obtain ⟨T21, h21, X21, e21, W21, st21⟩ := putF X20 hx hZ hown (host := "") (Or.inl (hw _ (List.mem_of_getElem? (i := 35) rfl))) Via.refl e20 ((PF4.other W9 (Or.inl hab)).other W19 (Or.inr (slot_ne (Or.inl (hw _ (List.mem_of_getElem? (i := 36) rfl))) (Or.inl (hw _ (List.mem_of_getElem? (i := 29) rfl))) (by decide) (t := .int) (t' := .long) (by decide) (by decide)))) ((E_a0.wr W9).wr W19) (Or.inl (hw _ (List.mem_of_getElem? (i := 36) rfl))) (hw _ (List.mem_of_getElem? (i := 2) rfl)) (ty := .int) (by decide) rfl rfl (g := (mkF m 121 #[.val (.ref a0), .val (.int p1), .val (.int (own_f4 p1)), .val (.int (63 : Int32)), .val (.int (Int32.ofNat ((own_home p1 + d) % 64))), .val (.int (p1 + (1 : Int32))), .val (.int (f ((own_home p1 + d) % 64)))] [(.int (sz + (1 : Int32))), (.ref a0), (.int (sz + (1 : Int32))), (.int (2 : Int32))])) rfl rfl (hb hby d6_121)
      have F21 := Fld.same W21 ((PF4.other W9 (Or.inl hab)).other W19 (Or.inr (slot_ne (Or.inl (hw _ (List.mem_of_getElem? (i := 36) rfl))) (Or.inl (hw _ (List.mem_of_getElem? (i := 29) rfl))) (by decide) (t := .int) (t' := .long) (by decide) (by decide))))
      have N21 := Fr.snoc X21 N19 g_a0
      have K21 : Keep h0 h21 [a0, b] := K19.wr W21 (Or.inl (List.mem_of_getElem? (i := 0) rfl))
      refine own_by (A' := T21.setTop (mkF m 124 #[.val (.ref a0), .val (.int p1), .val (.int (own_f4 p1)), .val (.int (63 : Int32)), .val (.int (Int32.ofNat ((own_home p1 + d) % 64))), .val (.int (p1 + (1 : Int32))), .val (.int (f ((own_home p1 + d) % 64)))] [(.int (sz + (1 : Int32))), (.int (2 : Int32))])) (fun t kt => st21 t kt) ?_
      refine own_by (A' := T21.setTop (mkF m 126 #[.val (.ref a0), .val (.int p1), .val (.int (own_f4 p1)), .val (.int (63 : Int32)), .val (.int (Int32.ofNat ((own_home p1 + d) % 64))), .val (.int (p1 + (1 : Int32))), .val (.int (f ((own_home p1 + d) % 64)))] [(.ref a0), (.int ((2 : Int32) * (sz + (1 : Int32))))])) (fun t kt => ?_) ?_
      · show Steps p.tables e below (T21.setTop (mkF m 124 #[.val (.ref a0), .val (.int p1), .val (.int (own_f4 p1)), .val (.int (63 : Int32)), .val (.int (Int32.ofNat ((own_home p1 + d) % 64))), .val (.int (p1 + (1 : Int32))), .val (.int (f ((own_home p1 + d) % 64)))] [(.int (sz + (1 : Int32))), (.int (2 : Int32))])) t
        refine XS.imul X21.here hx rfl (hb hby d6_124) rfl ?_
        show Steps p.tables e below (T21.setTop (mkF m 125 #[.val (.ref a0), .val (.int p1), .val (.int (own_f4 p1)), .val (.int (63 : Int32)), .val (.int (Int32.ofNat ((own_home p1 + d) % 64))), .val (.int (p1 + (1 : Int32))), .val (.int (f ((own_home p1 + d) % 64)))] [(.int ((2 : Int32) * (sz + (1 : Int32))))])) t
        refine XS.aloadN X21.here hx rfl (hb hby d6_125) rfl rfl ?_
        exact kt
      obtain ⟨T22, X22, e22, st22⟩ := getF X21 hx hZ hown (host := "") (Or.inl (hw _ (List.mem_of_getElem? (i := 11) rfl))) Via.refl e21 (((PF1.other W9 (Or.inl hab)).other W19 (Or.inr (slot_ne (Or.inl (hw _ (List.mem_of_getElem? (i := 12) rfl))) (Or.inl (hw _ (List.mem_of_getElem? (i := 29) rfl))) (by decide) (t := (.array .int)) (t' := .long) (by decide) (by decide)))).other W21 (Or.inr (slot_ne (Or.inl (hw _ (List.mem_of_getElem? (i := 12) rfl))) (Or.inl (hw _ (List.mem_of_getElem? (i := 36) rfl))) (by decide) (t := (.array .int)) (t' := .int) (by decide) (by decide)))) (g := (mkF m 126 #[.val (.ref a0), .val (.int p1), .val (.int (own_f4 p1)), .val (.int (63 : Int32)), .val (.int (Int32.ofNat ((own_home p1 + d) % 64))), .val (.int (p1 + (1 : Int32))), .val (.int (f ((own_home p1 + d) % 64)))] [(.ref a0), (.int ((2 : Int32) * (sz + (1 : Int32))))])) rfl rfl (hb hby d6_126)
      refine own_by (A' := T22.setTop (mkF m 129 #[.val (.ref a0), .val (.int p1), .val (.int (own_f4 p1)), .val (.int (63 : Int32)), .val (.int (Int32.ofNat ((own_home p1 + d) % 64))), .val (.int (p1 + (1 : Int32))), .val (.int (f ((own_home p1 + d) % 64)))] [(.ref b), (.int ((2 : Int32) * (sz + (1 : Int32))))])) (fun t kt => st22 t kt) ?_
      obtain ⟨cl23, Ar23, Sz23, Mn23, -⟩ := id ((VE.other W19 (Ne.symm hab)).other W21 (Ne.symm hab))
      refine own_by (A' := T22.setTop (mkF m 130 #[.val (.ref a0), .val (.int p1), .val (.int (own_f4 p1)), .val (.int (63 : Int32)), .val (.int (Int32.ofNat ((own_home p1 + d) % 64))), .val (.int (p1 + (1 : Int32))), .val (.int (f ((own_home p1 + d) % 64)))] [(.int (64 : Int32)), (.int ((2 : Int32) * (sz + (1 : Int32))))])) (fun t kt => ?_) ?_
      · show Steps p.tables e below (T22.setTop (mkF m 129 #[.val (.ref a0), .val (.int p1), .val (.int (own_f4 p1)), .val (.int (63 : Int32)), .val (.int (Int32.ofNat ((own_home p1 + d) % 64))), .val (.int (p1 + (1 : Int32))), .val (.int (f ((own_home p1 + d) % 64)))] [(.ref b), (.int ((2 : Int32) * (sz + (1 : Int32))))])) t
        refine X22.arraylength hx (by rw [e22]; exact Ar23.1) (State.isArrayOf_alike hZ.alike Ar23.2.1) (g := (mkF m 129 #[.val (.ref a0), .val (.int p1), .val (.int (own_f4 p1)), .val (.int (63 : Int32)), .val (.int (Int32.ofNat ((own_home p1 + d) % 64))), .val (.int (p1 + (1 : Int32))), .val (.int (f ((own_home p1 + d) % 64)))] [(.ref b), (.int ((2 : Int32) * (sz + (1 : Int32))))])) rfl rfl (hb hby d6_129) _ ?_
        rw [len_of Sz23 Mn23]
        exact kt
      have hc130_24 : ¬ ((64 : Int32) < ((2 : Int32) * (sz + (1 : Int32)))) := own_grow I (by omega)
      refine own_by (A' := T22.setTop (mkF m 138 #[.val (.ref a0), .val (.int p1), .val (.int (own_f4 p1)), .val (.int (63 : Int32)), .val (.int (Int32.ofNat ((own_home p1 + d) % 64))), .val (.int (p1 + (1 : Int32))), .val (.int (f ((own_home p1 + d) % 64)))] [(.int (1 : Int32))])) (fun t kt => ?_) ?_
      · show Steps p.tables e below (T22.setTop (mkF m 130 #[.val (.ref a0), .val (.int p1), .val (.int (own_f4 p1)), .val (.int (63 : Int32)), .val (.int (Int32.ofNat ((own_home p1 + d) % 64))), .val (.int (p1 + (1 : Int32))), .val (.int (f ((own_home p1 + d) % 64)))] [(.int (64 : Int32)), (.int ((2 : Int32) * (sz + (1 : Int32))))])) t
        refine XS.icmpYes X22.here hx rfl (pc0 := 130) (pc' := 137) rfl (hb hby d6_130) rfl (flt hc130_24).2.2.2 (by decide) (by decide) ?_
        show Steps p.tables e below (T22.setTop (mkF m 137 #[.val (.ref a0), .val (.int p1), .val (.int (own_f4 p1)), .val (.int (63 : Int32)), .val (.int (Int32.ofNat ((own_home p1 + d) % 64))), .val (.int (p1 + (1 : Int32))), .val (.int (f ((own_home p1 + d) % 64)))] [])) t
        refine XS.iconst X22.here hx rfl (hb hby d6_137) ?_
        exact kt
      obtain ⟨fs, hr, hrun, hended, hW, hsame⟩ := X22.leave (v := some (.int (1 : Int32))) (fun h => by rw [Bd.returns] at h; cases h)
      refine ⟨_, _, ?_, hrun, hended, _, _, rfl, ?_, ⟨_, rfl⟩, hW, hsame.mono (by decide) (by decide)⟩
      · exact retN X22 hx (t := .boolean) Bd.returns (by simp) (hb hby d6_138) hr
      · show Q6 Z a0 p1 b f lo hi sz S h0 n0 _ T22.heap _
        rw [e22]
        exact ⟨fun i => if i = (own_home p1 + d) % 64 then p1 + 1 else f i, _, _, sz + 1, congrArg (fun z => some (Value.int z)) (if_neg (own_notin I hc34_7 hlt)).symm, N21, K21, (((E_a0.wr W9).wr W19).wr W21), (((PF1.other W9 (Or.inl hab)).other W19 (Or.inr (slot_ne (Or.inl (hw _ (List.mem_of_getElem? (i := 12) rfl))) (Or.inl (hw _ (List.mem_of_getElem? (i := 29) rfl))) (by decide) (t := (.array .int)) (t' := .long) (by decide) (by decide)))).other W21 (Or.inr (slot_ne (Or.inl (hw _ (List.mem_of_getElem? (i := 12) rfl))) (Or.inl (hw _ (List.mem_of_getElem? (i := 36) rfl))) (by decide) (t := (.array .int)) (t' := .int) (by decide) (by decide)))), (((PF2.other W9 (Or.inl hab)).other W19 (Or.inr (slot_ne (Or.inl (hw _ (List.mem_of_getElem? (i := 23) rfl))) (Or.inl (hw _ (List.mem_of_getElem? (i := 29) rfl))) (by decide) (t := .long) (t' := .long) (by decide) (by decide)))).other W21 (Or.inr (slot_ne (Or.inl (hw _ (List.mem_of_getElem? (i := 23) rfl))) (Or.inl (hw _ (List.mem_of_getElem? (i := 36) rfl))) (by decide) (t := .long) (t' := .int) (by decide) (by decide)))), (F19.other W21 (Or.inr (slot_ne (Or.inl (hw _ (List.mem_of_getElem? (i := 29) rfl))) (Or.inl (hw _ (List.mem_of_getElem? (i := 36) rfl))) (by decide) (t := .long) (t' := .int) (by decide) (by decide)))), F21, ((VE.other W19 (Ne.symm hab)).other W21 (Ne.symm hab)), own_put I (by omega) ht hc34_7 hlt (if_neg hc76_10).symm (if_neg hc76_10).symm, (if_neg (own_notin I hc34_7 hlt)).symm⟩
  · refine own_by (A' := T6.setTop (mkF m 41 #[.val (.ref a0), .val (.int p1), .val (.int (own_f4 p1)), .val (.int (63 : Int32)), .val (.int (Int32.ofNat ((own_home p1 + d) % 64))), .val (.int (p1 + (1 : Int32))), .val (.int (f ((own_home p1 + d) % 64)))] [(.int (p1 + (1 : Int32))), (.int (f ((own_home p1 + d) % 64)))])) (fun t kt => ?_) ?_
    · show Steps p.tables e below (T6.setTop (mkF m 34 #[.val (.ref a0), .val (.int p1), .val (.int (own_f4 p1)), .val (.int (63 : Int32)), .val (.int (Int32.ofNat ((own_home p1 + d) % 64))), .val (.int (p1 + (1 : Int32))), .val (.int (f ((own_home p1 + d) % 64)))] [(.int (f ((own_home p1 + d) % 64)))])) t
      refine XS.ifNo X6.here hx rfl (hb hby d6_34) rfl ((if0 _ _).trans (feq hc34_7).1) ?_
      show Steps p.tables e below (T6.setTop (mkF m 37 #[.val (.ref a0), .val (.int p1), .val (.int (own_f4 p1)), .val (.int (63 : Int32)), .val (.int (Int32.ofNat ((own_home p1 + d) % 64))), .val (.int (p1 + (1 : Int32))), .val (.int (f ((own_home p1 + d) % 64)))] [])) t
      refine XS.iload X6.here hx rfl (hb hby d6_37) rfl ?_
      show Steps p.tables e below (T6.setTop (mkF m 39 #[.val (.ref a0), .val (.int p1), .val (.int (own_f4 p1)), .val (.int (63 : Int32)), .val (.int (Int32.ofNat ((own_home p1 + d) % 64))), .val (.int (p1 + (1 : Int32))), .val (.int (f ((own_home p1 + d) % 64)))] [(.int (f ((own_home p1 + d) % 64)))])) t
      refine XS.iload X6.here hx rfl (hb hby d6_39) rfl ?_
      exact kt
    have hc41_25 : (f ((own_home p1 + d) % 64)) = (p1 + (1 : Int32)) := hst.resolve_left (by assumption)
    refine own_by (A' := T6.setTop (mkF m 45 #[.val (.ref a0), .val (.int p1), .val (.int (own_f4 p1)), .val (.int (63 : Int32)), .val (.int (Int32.ofNat ((own_home p1 + d) % 64))), .val (.int (p1 + (1 : Int32))), .val (.int (f ((own_home p1 + d) % 64)))] [(.int (0 : Int32))])) (fun t kt => ?_) ?_
    · show Steps p.tables e below (T6.setTop (mkF m 41 #[.val (.ref a0), .val (.int p1), .val (.int (own_f4 p1)), .val (.int (63 : Int32)), .val (.int (Int32.ofNat ((own_home p1 + d) % 64))), .val (.int (p1 + (1 : Int32))), .val (.int (f ((own_home p1 + d) % 64)))] [(.int (p1 + (1 : Int32))), (.int (f ((own_home p1 + d) % 64)))])) t
      refine XS.icmpNo X6.here hx rfl (hb hby d6_41) rfl (teq hc41_25).2 ?_
      show Steps p.tables e below (T6.setTop (mkF m 44 #[.val (.ref a0), .val (.int p1), .val (.int (own_f4 p1)), .val (.int (63 : Int32)), .val (.int (Int32.ofNat ((own_home p1 + d) % 64))), .val (.int (p1 + (1 : Int32))), .val (.int (f ((own_home p1 + d) % 64)))] [])) t
      refine XS.iconst X6.here hx rfl (hb hby d6_44) ?_
      exact kt
    obtain ⟨fs, hr, hrun, hended, hW, hsame⟩ := X6.leave (v := some (.int (0 : Int32))) (fun h => by rw [Bd.returns] at h; cases h)
    refine ⟨_, _, ?_, hrun, hended, _, _, rfl, ?_, ⟨_, rfl⟩, hW, hsame.mono (by decide) (by decide)⟩
    · exact retN X6 hx (t := .boolean) Bd.returns (by simp) (hb hby d6_45) hr
    · show Q6 Z a0 p1 b f lo hi sz S h0 n0 _ T6.heap _
      rw [e6]
      exact ⟨f, lo, hi, sz, congrArg (fun z => some (Value.int z)) (if_pos (own_isin I (Nat.mod_lt _ (by decide)) hc34_7 (hst.resolve_left hc34_7))).symm, N1, K0, E_a0, PF1, PF2, PF3, PF4, V_b, own_again I (own_isin I (Nat.mod_lt _ (by decide)) hc34_7 (hst.resolve_left hc34_7)), (if_pos (own_isin I (Nat.mod_lt _ (by decide)) hc34_7 (hst.resolve_left hc34_7))).symm⟩
def own_f5 (p0 : Int32) (p1 : Int32) (p2 : Int32) (p3 : Int32) (p4 : Int32) (p5 : Int32) : Int32 := (if (0 : Int32) < p1 then (if p0 = p2 then (1 : Int32) else (if (1 : Int32) < p1 then (if p0 = p3 then (1 : Int32) else (if (2 : Int32) < p1 then (if p0 = p4 then (1 : Int32) else (if (3 : Int32) < p1 then (if p0 = p5 then (1 : Int32) else (0 : Int32)) else (0 : Int32))) else (if (3 : Int32) < p1 then (if p0 = p5 then (1 : Int32) else (0 : Int32)) else (0 : Int32)))) else (if (2 : Int32) < p1 then (if p0 = p4 then (1 : Int32) else (if (3 : Int32) < p1 then (if p0 = p5 then (1 : Int32) else (0 : Int32)) else (0 : Int32))) else (if (3 : Int32) < p1 then (if p0 = p5 then (1 : Int32) else (0 : Int32)) else (0 : Int32))))) else (if (1 : Int32) < p1 then (if p0 = p3 then (1 : Int32) else (if (2 : Int32) < p1 then (if p0 = p4 then (1 : Int32) else (if (3 : Int32) < p1 then (if p0 = p5 then (1 : Int32) else (0 : Int32)) else (0 : Int32))) else (if (3 : Int32) < p1 then (if p0 = p5 then (1 : Int32) else (0 : Int32)) else (0 : Int32)))) else (if (2 : Int32) < p1 then (if p0 = p4 then (1 : Int32) else (if (3 : Int32) < p1 then (if p0 = p5 then (1 : Int32) else (0 : Int32)) else (0 : Int32))) else (if (3 : Int32) < p1 then (if p0 = p5 then (1 : Int32) else (0 : Int32)) else (0 : Int32)))))
theorem pn_2 : plainName "com/example/corollary/corollary/saturation/TermSetContainsPinLaw" = true := by first | (simp [plainName, overriddenIn]; done) | decide +kernel
theorem d5_0 : decode method_2_code 0 = .ok (.iload_n 1, 1) := by decide +kernel
theorem d5_1 : decode method_2_code 1 = .ok (.ifCond .le 10, 3) := by decide +kernel
theorem d5_4 : decode method_2_code 4 = .ok (.iload_n 0, 1) := by decide +kernel
theorem d5_5 : decode method_2_code 5 = .ok (.iload_n 2, 1) := by decide +kernel
theorem d5_6 : decode method_2_code 6 = .ok (.if_icmp .ne 5, 3) := by decide +kernel
theorem d5_9 : decode method_2_code 9 = .ok (.iconst 1, 1) := by decide +kernel
theorem d5_10 : decode method_2_code 10 = .ok (.ireturn, 1) := by decide +kernel
theorem d5_11 : decode method_2_code 11 = .ok (.iload_n 1, 1) := by decide +kernel
theorem d5_12 : decode method_2_code 12 = .ok (.iconst 1, 1) := by decide +kernel
theorem d5_13 : decode method_2_code 13 = .ok (.if_icmp .le 10, 3) := by decide +kernel
theorem d5_16 : decode method_2_code 16 = .ok (.iload_n 0, 1) := by decide +kernel
theorem d5_17 : decode method_2_code 17 = .ok (.iload_n 3, 1) := by decide +kernel
theorem d5_18 : decode method_2_code 18 = .ok (.if_icmp .ne 5, 3) := by decide +kernel
theorem d5_21 : decode method_2_code 21 = .ok (.iconst 1, 1) := by decide +kernel
theorem d5_22 : decode method_2_code 22 = .ok (.ireturn, 1) := by decide +kernel
theorem d5_23 : decode method_2_code 23 = .ok (.iload_n 1, 1) := by decide +kernel
theorem d5_24 : decode method_2_code 24 = .ok (.iconst 2, 1) := by decide +kernel
theorem d5_25 : decode method_2_code 25 = .ok (.if_icmp .le 11, 3) := by decide +kernel
theorem d5_28 : decode method_2_code 28 = .ok (.iload_n 0, 1) := by decide +kernel
theorem d5_29 : decode method_2_code 29 = .ok (.iload 4, 2) := by decide +kernel
theorem d5_31 : decode method_2_code 31 = .ok (.if_icmp .ne 5, 3) := by decide +kernel
theorem d5_34 : decode method_2_code 34 = .ok (.iconst 1, 1) := by decide +kernel
theorem d5_35 : decode method_2_code 35 = .ok (.ireturn, 1) := by decide +kernel
theorem d5_36 : decode method_2_code 36 = .ok (.iload_n 1, 1) := by decide +kernel
theorem d5_37 : decode method_2_code 37 = .ok (.iconst 3, 1) := by decide +kernel
theorem d5_38 : decode method_2_code 38 = .ok (.if_icmp .le 13, 3) := by decide +kernel
theorem d5_41 : decode method_2_code 41 = .ok (.iload_n 0, 1) := by decide +kernel
theorem d5_42 : decode method_2_code 42 = .ok (.iload 5, 2) := by decide +kernel
theorem d5_44 : decode method_2_code 44 = .ok (.if_icmp .ne 7, 3) := by decide +kernel
theorem d5_47 : decode method_2_code 47 = .ok (.iconst 1, 1) := by decide +kernel
theorem d5_48 : decode method_2_code 48 = .ok (.goto 4, 3) := by decide +kernel
theorem d5_51 : decode method_2_code 51 = .ok (.iconst 0, 1) := by decide +kernel
theorem d5_52 : decode method_2_code 52 = .ok (.ireturn, 1) := by decide +kernel
theorem ef_rm5 (m : MethodId) (p0 : Int32) (p1 : Int32) (p2 : Int32) (p3 : Int32) (p4 : Int32) (p5 : Int32) : entryFrame m #[(.int p0), (.int p1), (.int p2), (.int p3), (.int p4), (.int p5)] 6 = mkF m 0 #[.val (.int p0), .val (.int p1), .val (.int p2), .val (.int p3), .val (.int p4), .val (.int p5)] [] := by first | (simp [entryFrame, mkF, argsToLocals, Value.category]; done) | rfl
def Q5 (Z : State) (p0 : Int32) (p1 : Int32) (p2 : Int32) (p3 : Int32) (p4 : Int32) (p5 : Int32) (h0 : Heap) (n0 : Nat) (v : Option Value) (h : Heap) (L : List Loc) : Prop := v = some (.int (own_f5 p0 p1 p2 p3 p4 p5)) ∧ Fr n0 L ∧ h = h0
set_option maxRecDepth 65536 in
set_option maxHeartbeats 40000000 in
theorem rm5 (l : Launch) (Z : State) (aw : Array Value) (hw : ∀ d ∈ tables_1, d.before aw Z = true) (ws : List Jvm.Cond) (p0 : Int32) (p1 : Int32) (p2 : Int32) (p3 : Int32) (p4 : Int32) (p5 : Int32) (h0 : Heap) (n0 : Nat) (Z0 : n0 ≤ h0.size) :
    MetFree l (⟨"com/example/corollary/corollary/saturation/TermSetContainsPinLaw", "member", "(IIIIII)Z"⟩ : MethodName) (head1 (Jvm.Cond.code (⟨"com/example/corollary/corollary/saturation/TermSetContainsPinLaw", "member", "(IIIIII)Z"⟩ : MethodName) method_2_code 6 (some .boolean) :: ws) ({ frames := 0, cells := 0, slots := 0, locals := 0 } : Room)) (fun a U => a = #[(.int p0), (.int p1), (.int p2), (.int p3), (.int p4), (.int p5)] ∧ Z.Warmed39 U.vm ∧ U.heap = h0) (fun _ _ _ _ _ => True) (fun _ U o U' => ∃ v L, o = .returned v ∧ Q5 Z p0 p1 p2 p3 p4 p5 h0 n0 v U'.heap L ∧ FrameEnd U o U' L ({ frames := 0, cells := 0, slots := 0, locals := 0 } : Room).cells ({ frames := 0, cells := 0, slots := 0, locals := 0 } : Room).slots) := by
  refine MetFree.of_bodySF (plainFor_of_name pn_2) hisR ?_
  intro p e s m args below meth c s₁ Bd hml0 hP hK
  obtain ⟨rfl, hZ, hh⟩ := hP
  have hx := Bd.exec
  have hby := Bd.bytes
  have hml : c.maxLocals = 6 := hml0
  have hown : s.vm.findClass "com/example/corollary/corollary/saturation/TermSetContainsPinLaw" = some m.cls := findClass_of_methodNamed Bd.named
  have hnm := (name_of_methodNamed Bd.named Bd.method).1
  have X0 : Stand p l e ({ frames := 0, cells := 0, slots := 0, locals := 0 } : Room) s m #[(.int p0), (.int p1), (.int p2), (.int p3), (.int p4), (.int p5)] below meth c s₁ [] 0 0 := Stand.of_body Bd
  have e0 : s₁.heap = h0 := by rw [← hh, Bd.state]; rfl
  have N0 := Fr.nil n0
  have K0 : Keep h0 h0 [] := Keep.refl _ _
  refine own_by (A' := s₁.setTop (mkF m 0 #[.val (.int p0), .val (.int p1), .val (.int p2), .val (.int p3), .val (.int p4), .val (.int p5)] [])) (fun t k => castTop (ef_rm5 m p0 p1 p2 p3 p4 p5) k) ?_
  refine own_by (A' := s₁.setTop (mkF m 1 #[.val (.int p0), .val (.int p1), .val (.int p2), .val (.int p3), .val (.int p4), .val (.int p5)] [(.int p1)])) (fun t kt => ?_) ?_
  · show Steps p.tables e below (s₁.setTop (mkF m 0 #[.val (.int p0), .val (.int p1), .val (.int p2), .val (.int p3), .val (.int p4), .val (.int p5)] [])) t
    refine XS.iloadN X0.here hx rfl (hb hby d5_0) rfl ?_
    exact kt
  by_cases hc1_1 : (0 : Int32) < p1
  · refine own_by (A' := s₁.setTop (mkF m 6 #[.val (.int p0), .val (.int p1), .val (.int p2), .val (.int p3), .val (.int p4), .val (.int p5)] [(.int p2), (.int p0)])) (fun t kt => ?_) ?_
    · show Steps p.tables e below (s₁.setTop (mkF m 1 #[.val (.int p0), .val (.int p1), .val (.int p2), .val (.int p3), .val (.int p4), .val (.int p5)] [(.int p1)])) t
      refine XS.ifNo X0.here hx rfl (hb hby d5_1) rfl ((if0 _ _).trans (tlt hc1_1).2.2.2) ?_
      show Steps p.tables e below (s₁.setTop (mkF m 4 #[.val (.int p0), .val (.int p1), .val (.int p2), .val (.int p3), .val (.int p4), .val (.int p5)] [])) t
      refine XS.iloadN X0.here hx rfl (hb hby d5_4) rfl ?_
      show Steps p.tables e below (s₁.setTop (mkF m 5 #[.val (.int p0), .val (.int p1), .val (.int p2), .val (.int p3), .val (.int p4), .val (.int p5)] [(.int p0)])) t
      refine XS.iloadN X0.here hx rfl (hb hby d5_5) rfl ?_
      exact kt
    by_cases hc6_2 : p0 = p2
    · refine own_by (A' := s₁.setTop (mkF m 10 #[.val (.int p0), .val (.int p1), .val (.int p2), .val (.int p3), .val (.int p4), .val (.int p5)] [(.int (1 : Int32))])) (fun t kt => ?_) ?_
      · show Steps p.tables e below (s₁.setTop (mkF m 6 #[.val (.int p0), .val (.int p1), .val (.int p2), .val (.int p3), .val (.int p4), .val (.int p5)] [(.int p2), (.int p0)])) t
        refine XS.icmpNo X0.here hx rfl (hb hby d5_6) rfl (teq hc6_2).2 ?_
        show Steps p.tables e below (s₁.setTop (mkF m 9 #[.val (.int p0), .val (.int p1), .val (.int p2), .val (.int p3), .val (.int p4), .val (.int p5)] [])) t
        refine XS.iconst X0.here hx rfl (hb hby d5_9) ?_
        exact kt
      obtain ⟨fs, hr, hrun, hended, hW, hsame⟩ := X0.leave (v := some (.int (1 : Int32))) (fun h => by rw [Bd.returns] at h; cases h)
      refine ⟨_, _, ?_, hrun, hended, _, _, rfl, ?_, ⟨_, rfl⟩, hW, hsame.mono (by decide) (by decide)⟩
      · exact retN X0 hx (t := .boolean) Bd.returns (by simp) (hb hby d5_10) hr
      · show Q5 Z p0 p1 p2 p3 p4 p5 h0 n0 _ s₁.heap _
        rw [e0]
        exact ⟨(by rw [own_f5, if_pos hc1_1, if_pos hc6_2]), N0, rfl⟩
    · refine own_by (A' := s₁.setTop (mkF m 13 #[.val (.int p0), .val (.int p1), .val (.int p2), .val (.int p3), .val (.int p4), .val (.int p5)] [(.int (1 : Int32)), (.int p1)])) (fun t kt => ?_) ?_
      · show Steps p.tables e below (s₁.setTop (mkF m 6 #[.val (.int p0), .val (.int p1), .val (.int p2), .val (.int p3), .val (.int p4), .val (.int p5)] [(.int p2), (.int p0)])) t
        refine XS.icmpYes X0.here hx rfl (pc0 := 6) (pc' := 11) rfl (hb hby d5_6) rfl (feq hc6_2).2 (by decide) (by decide) ?_
        show Steps p.tables e below (s₁.setTop (mkF m 11 #[.val (.int p0), .val (.int p1), .val (.int p2), .val (.int p3), .val (.int p4), .val (.int p5)] [])) t
        refine XS.iloadN X0.here hx rfl (hb hby d5_11) rfl ?_
        show Steps p.tables e below (s₁.setTop (mkF m 12 #[.val (.int p0), .val (.int p1), .val (.int p2), .val (.int p3), .val (.int p4), .val (.int p5)] [(.int p1)])) t
        refine XS.iconst X0.here hx rfl (hb hby d5_12) ?_
        exact kt
      by_cases hc13_3 : (1 : Int32) < p1
      · refine own_by (A' := s₁.setTop (mkF m 18 #[.val (.int p0), .val (.int p1), .val (.int p2), .val (.int p3), .val (.int p4), .val (.int p5)] [(.int p3), (.int p0)])) (fun t kt => ?_) ?_
        · show Steps p.tables e below (s₁.setTop (mkF m 13 #[.val (.int p0), .val (.int p1), .val (.int p2), .val (.int p3), .val (.int p4), .val (.int p5)] [(.int (1 : Int32)), (.int p1)])) t
          refine XS.icmpNo X0.here hx rfl (hb hby d5_13) rfl (tlt hc13_3).2.2.2 ?_
          show Steps p.tables e below (s₁.setTop (mkF m 16 #[.val (.int p0), .val (.int p1), .val (.int p2), .val (.int p3), .val (.int p4), .val (.int p5)] [])) t
          refine XS.iloadN X0.here hx rfl (hb hby d5_16) rfl ?_
          show Steps p.tables e below (s₁.setTop (mkF m 17 #[.val (.int p0), .val (.int p1), .val (.int p2), .val (.int p3), .val (.int p4), .val (.int p5)] [(.int p0)])) t
          refine XS.iloadN X0.here hx rfl (hb hby d5_17) rfl ?_
          exact kt
        by_cases hc18_4 : p0 = p3
        · refine own_by (A' := s₁.setTop (mkF m 22 #[.val (.int p0), .val (.int p1), .val (.int p2), .val (.int p3), .val (.int p4), .val (.int p5)] [(.int (1 : Int32))])) (fun t kt => ?_) ?_
          · show Steps p.tables e below (s₁.setTop (mkF m 18 #[.val (.int p0), .val (.int p1), .val (.int p2), .val (.int p3), .val (.int p4), .val (.int p5)] [(.int p3), (.int p0)])) t
            refine XS.icmpNo X0.here hx rfl (hb hby d5_18) rfl (teq hc18_4).2 ?_
            show Steps p.tables e below (s₁.setTop (mkF m 21 #[.val (.int p0), .val (.int p1), .val (.int p2), .val (.int p3), .val (.int p4), .val (.int p5)] [])) t
            refine XS.iconst X0.here hx rfl (hb hby d5_21) ?_
            exact kt
          obtain ⟨fs, hr, hrun, hended, hW, hsame⟩ := X0.leave (v := some (.int (1 : Int32))) (fun h => by rw [Bd.returns] at h; cases h)
          refine ⟨_, _, ?_, hrun, hended, _, _, rfl, ?_, ⟨_, rfl⟩, hW, hsame.mono (by decide) (by decide)⟩
          · exact retN X0 hx (t := .boolean) Bd.returns (by simp) (hb hby d5_22) hr
          · show Q5 Z p0 p1 p2 p3 p4 p5 h0 n0 _ s₁.heap _
            rw [e0]
            exact ⟨(by rw [own_f5, if_pos hc1_1, if_neg hc6_2, if_pos hc13_3, if_pos hc18_4]), N0, rfl⟩
        · refine own_by (A' := s₁.setTop (mkF m 25 #[.val (.int p0), .val (.int p1), .val (.int p2), .val (.int p3), .val (.int p4), .val (.int p5)] [(.int (2 : Int32)), (.int p1)])) (fun t kt => ?_) ?_
          · show Steps p.tables e below (s₁.setTop (mkF m 18 #[.val (.int p0), .val (.int p1), .val (.int p2), .val (.int p3), .val (.int p4), .val (.int p5)] [(.int p3), (.int p0)])) t
            refine XS.icmpYes X0.here hx rfl (pc0 := 18) (pc' := 23) rfl (hb hby d5_18) rfl (feq hc18_4).2 (by decide) (by decide) ?_
            show Steps p.tables e below (s₁.setTop (mkF m 23 #[.val (.int p0), .val (.int p1), .val (.int p2), .val (.int p3), .val (.int p4), .val (.int p5)] [])) t
            refine XS.iloadN X0.here hx rfl (hb hby d5_23) rfl ?_
            show Steps p.tables e below (s₁.setTop (mkF m 24 #[.val (.int p0), .val (.int p1), .val (.int p2), .val (.int p3), .val (.int p4), .val (.int p5)] [(.int p1)])) t
            refine XS.iconst X0.here hx rfl (hb hby d5_24) ?_
            exact kt
          by_cases hc25_5 : (2 : Int32) < p1
          · refine own_by (A' := s₁.setTop (mkF m 31 #[.val (.int p0), .val (.int p1), .val (.int p2), .val (.int p3), .val (.int p4), .val (.int p5)] [(.int p4), (.int p0)])) (fun t kt => ?_) ?_
            · show Steps p.tables e below (s₁.setTop (mkF m 25 #[.val (.int p0), .val (.int p1), .val (.int p2), .val (.int p3), .val (.int p4), .val (.int p5)] [(.int (2 : Int32)), (.int p1)])) t
              refine XS.icmpNo X0.here hx rfl (hb hby d5_25) rfl (tlt hc25_5).2.2.2 ?_
              show Steps p.tables e below (s₁.setTop (mkF m 28 #[.val (.int p0), .val (.int p1), .val (.int p2), .val (.int p3), .val (.int p4), .val (.int p5)] [])) t
              refine XS.iloadN X0.here hx rfl (hb hby d5_28) rfl ?_
              show Steps p.tables e below (s₁.setTop (mkF m 29 #[.val (.int p0), .val (.int p1), .val (.int p2), .val (.int p3), .val (.int p4), .val (.int p5)] [(.int p0)])) t
              refine XS.iload X0.here hx rfl (hb hby d5_29) rfl ?_
              exact kt
            by_cases hc31_6 : p0 = p4
            · refine own_by (A' := s₁.setTop (mkF m 35 #[.val (.int p0), .val (.int p1), .val (.int p2), .val (.int p3), .val (.int p4), .val (.int p5)] [(.int (1 : Int32))])) (fun t kt => ?_) ?_
              · show Steps p.tables e below (s₁.setTop (mkF m 31 #[.val (.int p0), .val (.int p1), .val (.int p2), .val (.int p3), .val (.int p4), .val (.int p5)] [(.int p4), (.int p0)])) t
                refine XS.icmpNo X0.here hx rfl (hb hby d5_31) rfl (teq hc31_6).2 ?_
                show Steps p.tables e below (s₁.setTop (mkF m 34 #[.val (.int p0), .val (.int p1), .val (.int p2), .val (.int p3), .val (.int p4), .val (.int p5)] [])) t
                refine XS.iconst X0.here hx rfl (hb hby d5_34) ?_
                exact kt
              obtain ⟨fs, hr, hrun, hended, hW, hsame⟩ := X0.leave (v := some (.int (1 : Int32))) (fun h => by rw [Bd.returns] at h; cases h)
              refine ⟨_, _, ?_, hrun, hended, _, _, rfl, ?_, ⟨_, rfl⟩, hW, hsame.mono (by decide) (by decide)⟩
              · exact retN X0 hx (t := .boolean) Bd.returns (by simp) (hb hby d5_35) hr
              · show Q5 Z p0 p1 p2 p3 p4 p5 h0 n0 _ s₁.heap _
                rw [e0]
                exact ⟨(by rw [own_f5, if_pos hc1_1, if_neg hc6_2, if_pos hc13_3, if_neg hc18_4, if_pos hc25_5, if_pos hc31_6]), N0, rfl⟩
            · refine own_by (A' := s₁.setTop (mkF m 38 #[.val (.int p0), .val (.int p1), .val (.int p2), .val (.int p3), .val (.int p4), .val (.int p5)] [(.int (3 : Int32)), (.int p1)])) (fun t kt => ?_) ?_
              · show Steps p.tables e below (s₁.setTop (mkF m 31 #[.val (.int p0), .val (.int p1), .val (.int p2), .val (.int p3), .val (.int p4), .val (.int p5)] [(.int p4), (.int p0)])) t
                refine XS.icmpYes X0.here hx rfl (pc0 := 31) (pc' := 36) rfl (hb hby d5_31) rfl (feq hc31_6).2 (by decide) (by decide) ?_
                show Steps p.tables e below (s₁.setTop (mkF m 36 #[.val (.int p0), .val (.int p1), .val (.int p2), .val (.int p3), .val (.int p4), .val (.int p5)] [])) t
                refine XS.iloadN X0.here hx rfl (hb hby d5_36) rfl ?_
                show Steps p.tables e below (s₁.setTop (mkF m 37 #[.val (.int p0), .val (.int p1), .val (.int p2), .val (.int p3), .val (.int p4), .val (.int p5)] [(.int p1)])) t
                refine XS.iconst X0.here hx rfl (hb hby d5_37) ?_
                exact kt
              by_cases hc38_7 : (3 : Int32) < p1
              · refine own_by (A' := s₁.setTop (mkF m 44 #[.val (.int p0), .val (.int p1), .val (.int p2), .val (.int p3), .val (.int p4), .val (.int p5)] [(.int p5), (.int p0)])) (fun t kt => ?_) ?_
                · show Steps p.tables e below (s₁.setTop (mkF m 38 #[.val (.int p0), .val (.int p1), .val (.int p2), .val (.int p3), .val (.int p4), .val (.int p5)] [(.int (3 : Int32)), (.int p1)])) t
                  refine XS.icmpNo X0.here hx rfl (hb hby d5_38) rfl (tlt hc38_7).2.2.2 ?_
                  show Steps p.tables e below (s₁.setTop (mkF m 41 #[.val (.int p0), .val (.int p1), .val (.int p2), .val (.int p3), .val (.int p4), .val (.int p5)] [])) t
                  refine XS.iloadN X0.here hx rfl (hb hby d5_41) rfl ?_
                  show Steps p.tables e below (s₁.setTop (mkF m 42 #[.val (.int p0), .val (.int p1), .val (.int p2), .val (.int p3), .val (.int p4), .val (.int p5)] [(.int p0)])) t
                  refine XS.iload X0.here hx rfl (hb hby d5_42) rfl ?_
                  exact kt
                by_cases hc44_8 : p0 = p5
                · refine own_by (A' := s₁.setTop (mkF m 52 #[.val (.int p0), .val (.int p1), .val (.int p2), .val (.int p3), .val (.int p4), .val (.int p5)] [(.int (1 : Int32))])) (fun t kt => ?_) ?_
                  · show Steps p.tables e below (s₁.setTop (mkF m 44 #[.val (.int p0), .val (.int p1), .val (.int p2), .val (.int p3), .val (.int p4), .val (.int p5)] [(.int p5), (.int p0)])) t
                    refine XS.icmpNo X0.here hx rfl (hb hby d5_44) rfl (teq hc44_8).2 ?_
                    show Steps p.tables e below (s₁.setTop (mkF m 47 #[.val (.int p0), .val (.int p1), .val (.int p2), .val (.int p3), .val (.int p4), .val (.int p5)] [])) t
                    refine XS.iconst X0.here hx rfl (hb hby d5_47) ?_
                    show Steps p.tables e below (s₁.setTop (mkF m 48 #[.val (.int p0), .val (.int p1), .val (.int p2), .val (.int p3), .val (.int p4), .val (.int p5)] [(.int (1 : Int32))])) t
                    refine XS.goto X0.here hx rfl (pc0 := 48) (pc' := 52) rfl (hb hby d5_48) (by decide) (by decide) ?_
                    exact kt
                  obtain ⟨fs, hr, hrun, hended, hW, hsame⟩ := X0.leave (v := some (.int (1 : Int32))) (fun h => by rw [Bd.returns] at h; cases h)
                  refine ⟨_, _, ?_, hrun, hended, _, _, rfl, ?_, ⟨_, rfl⟩, hW, hsame.mono (by decide) (by decide)⟩
                  · exact retN X0 hx (t := .boolean) Bd.returns (by simp) (hb hby d5_52) hr
                  · show Q5 Z p0 p1 p2 p3 p4 p5 h0 n0 _ s₁.heap _
                    rw [e0]
                    exact ⟨(by rw [own_f5, if_pos hc1_1, if_neg hc6_2, if_pos hc13_3, if_neg hc18_4, if_pos hc25_5, if_neg hc31_6, if_pos hc38_7, if_pos hc44_8]), N0, rfl⟩
                · refine own_by (A' := s₁.setTop (mkF m 52 #[.val (.int p0), .val (.int p1), .val (.int p2), .val (.int p3), .val (.int p4), .val (.int p5)] [(.int (0 : Int32))])) (fun t kt => ?_) ?_
                  · show Steps p.tables e below (s₁.setTop (mkF m 44 #[.val (.int p0), .val (.int p1), .val (.int p2), .val (.int p3), .val (.int p4), .val (.int p5)] [(.int p5), (.int p0)])) t
                    refine XS.icmpYes X0.here hx rfl (pc0 := 44) (pc' := 51) rfl (hb hby d5_44) rfl (feq hc44_8).2 (by decide) (by decide) ?_
                    show Steps p.tables e below (s₁.setTop (mkF m 51 #[.val (.int p0), .val (.int p1), .val (.int p2), .val (.int p3), .val (.int p4), .val (.int p5)] [])) t
                    refine XS.iconst X0.here hx rfl (hb hby d5_51) ?_
                    exact kt
                  obtain ⟨fs, hr, hrun, hended, hW, hsame⟩ := X0.leave (v := some (.int (0 : Int32))) (fun h => by rw [Bd.returns] at h; cases h)
                  refine ⟨_, _, ?_, hrun, hended, _, _, rfl, ?_, ⟨_, rfl⟩, hW, hsame.mono (by decide) (by decide)⟩
                  · exact retN X0 hx (t := .boolean) Bd.returns (by simp) (hb hby d5_52) hr
                  · show Q5 Z p0 p1 p2 p3 p4 p5 h0 n0 _ s₁.heap _
                    rw [e0]
                    exact ⟨(by rw [own_f5, if_pos hc1_1, if_neg hc6_2, if_pos hc13_3, if_neg hc18_4, if_pos hc25_5, if_neg hc31_6, if_pos hc38_7, if_neg hc44_8]), N0, rfl⟩
              · refine own_by (A' := s₁.setTop (mkF m 52 #[.val (.int p0), .val (.int p1), .val (.int p2), .val (.int p3), .val (.int p4), .val (.int p5)] [(.int (0 : Int32))])) (fun t kt => ?_) ?_
                · show Steps p.tables e below (s₁.setTop (mkF m 38 #[.val (.int p0), .val (.int p1), .val (.int p2), .val (.int p3), .val (.int p4), .val (.int p5)] [(.int (3 : Int32)), (.int p1)])) t
                  refine XS.icmpYes X0.here hx rfl (pc0 := 38) (pc' := 51) rfl (hb hby d5_38) rfl (flt hc38_7).2.2.2 (by decide) (by decide) ?_
                  show Steps p.tables e below (s₁.setTop (mkF m 51 #[.val (.int p0), .val (.int p1), .val (.int p2), .val (.int p3), .val (.int p4), .val (.int p5)] [])) t
                  refine XS.iconst X0.here hx rfl (hb hby d5_51) ?_
                  exact kt
                obtain ⟨fs, hr, hrun, hended, hW, hsame⟩ := X0.leave (v := some (.int (0 : Int32))) (fun h => by rw [Bd.returns] at h; cases h)
                refine ⟨_, _, ?_, hrun, hended, _, _, rfl, ?_, ⟨_, rfl⟩, hW, hsame.mono (by decide) (by decide)⟩
                · exact retN X0 hx (t := .boolean) Bd.returns (by simp) (hb hby d5_52) hr
                · show Q5 Z p0 p1 p2 p3 p4 p5 h0 n0 _ s₁.heap _
                  rw [e0]
                  exact ⟨(by rw [own_f5, if_pos hc1_1, if_neg hc6_2, if_pos hc13_3, if_neg hc18_4, if_pos hc25_5, if_neg hc31_6, if_neg hc38_7]), N0, rfl⟩
          · refine own_by (A' := s₁.setTop (mkF m 38 #[.val (.int p0), .val (.int p1), .val (.int p2), .val (.int p3), .val (.int p4), .val (.int p5)] [(.int (3 : Int32)), (.int p1)])) (fun t kt => ?_) ?_
            · show Steps p.tables e below (s₁.setTop (mkF m 25 #[.val (.int p0), .val (.int p1), .val (.int p2), .val (.int p3), .val (.int p4), .val (.int p5)] [(.int (2 : Int32)), (.int p1)])) t
              refine XS.icmpYes X0.here hx rfl (pc0 := 25) (pc' := 36) rfl (hb hby d5_25) rfl (flt hc25_5).2.2.2 (by decide) (by decide) ?_
              show Steps p.tables e below (s₁.setTop (mkF m 36 #[.val (.int p0), .val (.int p1), .val (.int p2), .val (.int p3), .val (.int p4), .val (.int p5)] [])) t
              refine XS.iloadN X0.here hx rfl (hb hby d5_36) rfl ?_
              show Steps p.tables e below (s₁.setTop (mkF m 37 #[.val (.int p0), .val (.int p1), .val (.int p2), .val (.int p3), .val (.int p4), .val (.int p5)] [(.int p1)])) t
              refine XS.iconst X0.here hx rfl (hb hby d5_37) ?_
              exact kt
            by_cases hc38_9 : (3 : Int32) < p1
            · refine own_by (A' := s₁.setTop (mkF m 44 #[.val (.int p0), .val (.int p1), .val (.int p2), .val (.int p3), .val (.int p4), .val (.int p5)] [(.int p5), (.int p0)])) (fun t kt => ?_) ?_
              · show Steps p.tables e below (s₁.setTop (mkF m 38 #[.val (.int p0), .val (.int p1), .val (.int p2), .val (.int p3), .val (.int p4), .val (.int p5)] [(.int (3 : Int32)), (.int p1)])) t
                refine XS.icmpNo X0.here hx rfl (hb hby d5_38) rfl (tlt hc38_9).2.2.2 ?_
                show Steps p.tables e below (s₁.setTop (mkF m 41 #[.val (.int p0), .val (.int p1), .val (.int p2), .val (.int p3), .val (.int p4), .val (.int p5)] [])) t
                refine XS.iloadN X0.here hx rfl (hb hby d5_41) rfl ?_
                show Steps p.tables e below (s₁.setTop (mkF m 42 #[.val (.int p0), .val (.int p1), .val (.int p2), .val (.int p3), .val (.int p4), .val (.int p5)] [(.int p0)])) t
                refine XS.iload X0.here hx rfl (hb hby d5_42) rfl ?_
                exact kt
              by_cases hc44_10 : p0 = p5
              · refine own_by (A' := s₁.setTop (mkF m 52 #[.val (.int p0), .val (.int p1), .val (.int p2), .val (.int p3), .val (.int p4), .val (.int p5)] [(.int (1 : Int32))])) (fun t kt => ?_) ?_
                · show Steps p.tables e below (s₁.setTop (mkF m 44 #[.val (.int p0), .val (.int p1), .val (.int p2), .val (.int p3), .val (.int p4), .val (.int p5)] [(.int p5), (.int p0)])) t
                  refine XS.icmpNo X0.here hx rfl (hb hby d5_44) rfl (teq hc44_10).2 ?_
                  show Steps p.tables e below (s₁.setTop (mkF m 47 #[.val (.int p0), .val (.int p1), .val (.int p2), .val (.int p3), .val (.int p4), .val (.int p5)] [])) t
                  refine XS.iconst X0.here hx rfl (hb hby d5_47) ?_
                  show Steps p.tables e below (s₁.setTop (mkF m 48 #[.val (.int p0), .val (.int p1), .val (.int p2), .val (.int p3), .val (.int p4), .val (.int p5)] [(.int (1 : Int32))])) t
                  refine XS.goto X0.here hx rfl (pc0 := 48) (pc' := 52) rfl (hb hby d5_48) (by decide) (by decide) ?_
                  exact kt
                obtain ⟨fs, hr, hrun, hended, hW, hsame⟩ := X0.leave (v := some (.int (1 : Int32))) (fun h => by rw [Bd.returns] at h; cases h)
                refine ⟨_, _, ?_, hrun, hended, _, _, rfl, ?_, ⟨_, rfl⟩, hW, hsame.mono (by decide) (by decide)⟩
                · exact retN X0 hx (t := .boolean) Bd.returns (by simp) (hb hby d5_52) hr
                · show Q5 Z p0 p1 p2 p3 p4 p5 h0 n0 _ s₁.heap _
                  rw [e0]
                  exact ⟨(by rw [own_f5, if_pos hc1_1, if_neg hc6_2, if_pos hc13_3, if_neg hc18_4, if_neg hc25_5, if_pos hc38_9, if_pos hc44_10]), N0, rfl⟩
              · refine own_by (A' := s₁.setTop (mkF m 52 #[.val (.int p0), .val (.int p1), .val (.int p2), .val (.int p3), .val (.int p4), .val (.int p5)] [(.int (0 : Int32))])) (fun t kt => ?_) ?_
                · show Steps p.tables e below (s₁.setTop (mkF m 44 #[.val (.int p0), .val (.int p1), .val (.int p2), .val (.int p3), .val (.int p4), .val (.int p5)] [(.int p5), (.int p0)])) t
                  refine XS.icmpYes X0.here hx rfl (pc0 := 44) (pc' := 51) rfl (hb hby d5_44) rfl (feq hc44_10).2 (by decide) (by decide) ?_
                  show Steps p.tables e below (s₁.setTop (mkF m 51 #[.val (.int p0), .val (.int p1), .val (.int p2), .val (.int p3), .val (.int p4), .val (.int p5)] [])) t
                  refine XS.iconst X0.here hx rfl (hb hby d5_51) ?_
                  exact kt
                obtain ⟨fs, hr, hrun, hended, hW, hsame⟩ := X0.leave (v := some (.int (0 : Int32))) (fun h => by rw [Bd.returns] at h; cases h)
                refine ⟨_, _, ?_, hrun, hended, _, _, rfl, ?_, ⟨_, rfl⟩, hW, hsame.mono (by decide) (by decide)⟩
                · exact retN X0 hx (t := .boolean) Bd.returns (by simp) (hb hby d5_52) hr
                · show Q5 Z p0 p1 p2 p3 p4 p5 h0 n0 _ s₁.heap _
                  rw [e0]
                  exact ⟨(by rw [own_f5, if_pos hc1_1, if_neg hc6_2, if_pos hc13_3, if_neg hc18_4, if_neg hc25_5, if_pos hc38_9, if_neg hc44_10]), N0, rfl⟩
            · refine own_by (A' := s₁.setTop (mkF m 52 #[.val (.int p0), .val (.int p1), .val (.int p2), .val (.int p3), .val (.int p4), .val (.int p5)] [(.int (0 : Int32))])) (fun t kt => ?_) ?_
              · show Steps p.tables e below (s₁.setTop (mkF m 38 #[.val (.int p0), .val (.int p1), .val (.int p2), .val (.int p3), .val (.int p4), .val (.int p5)] [(.int (3 : Int32)), (.int p1)])) t
                refine XS.icmpYes X0.here hx rfl (pc0 := 38) (pc' := 51) rfl (hb hby d5_38) rfl (flt hc38_9).2.2.2 (by decide) (by decide) ?_
                show Steps p.tables e below (s₁.setTop (mkF m 51 #[.val (.int p0), .val (.int p1), .val (.int p2), .val (.int p3), .val (.int p4), .val (.int p5)] [])) t
                refine XS.iconst X0.here hx rfl (hb hby d5_51) ?_
                exact kt
              obtain ⟨fs, hr, hrun, hended, hW, hsame⟩ := X0.leave (v := some (.int (0 : Int32))) (fun h => by rw [Bd.returns] at h; cases h)
              refine ⟨_, _, ?_, hrun, hended, _, _, rfl, ?_, ⟨_, rfl⟩, hW, hsame.mono (by decide) (by decide)⟩
              · exact retN X0 hx (t := .boolean) Bd.returns (by simp) (hb hby d5_52) hr
              · show Q5 Z p0 p1 p2 p3 p4 p5 h0 n0 _ s₁.heap _
                rw [e0]
                exact ⟨(by rw [own_f5, if_pos hc1_1, if_neg hc6_2, if_pos hc13_3, if_neg hc18_4, if_neg hc25_5, if_neg hc38_9]), N0, rfl⟩
      · refine own_by (A' := s₁.setTop (mkF m 25 #[.val (.int p0), .val (.int p1), .val (.int p2), .val (.int p3), .val (.int p4), .val (.int p5)] [(.int (2 : Int32)), (.int p1)])) (fun t kt => ?_) ?_
        · show Steps p.tables e below (s₁.setTop (mkF m 13 #[.val (.int p0), .val (.int p1), .val (.int p2), .val (.int p3), .val (.int p4), .val (.int p5)] [(.int (1 : Int32)), (.int p1)])) t
          refine XS.icmpYes X0.here hx rfl (pc0 := 13) (pc' := 23) rfl (hb hby d5_13) rfl (flt hc13_3).2.2.2 (by decide) (by decide) ?_
          show Steps p.tables e below (s₁.setTop (mkF m 23 #[.val (.int p0), .val (.int p1), .val (.int p2), .val (.int p3), .val (.int p4), .val (.int p5)] [])) t
          refine XS.iloadN X0.here hx rfl (hb hby d5_23) rfl ?_
          show Steps p.tables e below (s₁.setTop (mkF m 24 #[.val (.int p0), .val (.int p1), .val (.int p2), .val (.int p3), .val (.int p4), .val (.int p5)] [(.int p1)])) t
          refine XS.iconst X0.here hx rfl (hb hby d5_24) ?_
          exact kt
        by_cases hc25_11 : (2 : Int32) < p1
        · refine own_by (A' := s₁.setTop (mkF m 31 #[.val (.int p0), .val (.int p1), .val (.int p2), .val (.int p3), .val (.int p4), .val (.int p5)] [(.int p4), (.int p0)])) (fun t kt => ?_) ?_
          · show Steps p.tables e below (s₁.setTop (mkF m 25 #[.val (.int p0), .val (.int p1), .val (.int p2), .val (.int p3), .val (.int p4), .val (.int p5)] [(.int (2 : Int32)), (.int p1)])) t
            refine XS.icmpNo X0.here hx rfl (hb hby d5_25) rfl (tlt hc25_11).2.2.2 ?_
            show Steps p.tables e below (s₁.setTop (mkF m 28 #[.val (.int p0), .val (.int p1), .val (.int p2), .val (.int p3), .val (.int p4), .val (.int p5)] [])) t
            refine XS.iloadN X0.here hx rfl (hb hby d5_28) rfl ?_
            show Steps p.tables e below (s₁.setTop (mkF m 29 #[.val (.int p0), .val (.int p1), .val (.int p2), .val (.int p3), .val (.int p4), .val (.int p5)] [(.int p0)])) t
            refine XS.iload X0.here hx rfl (hb hby d5_29) rfl ?_
            exact kt
          by_cases hc31_12 : p0 = p4
          · refine own_by (A' := s₁.setTop (mkF m 35 #[.val (.int p0), .val (.int p1), .val (.int p2), .val (.int p3), .val (.int p4), .val (.int p5)] [(.int (1 : Int32))])) (fun t kt => ?_) ?_
            · show Steps p.tables e below (s₁.setTop (mkF m 31 #[.val (.int p0), .val (.int p1), .val (.int p2), .val (.int p3), .val (.int p4), .val (.int p5)] [(.int p4), (.int p0)])) t
              refine XS.icmpNo X0.here hx rfl (hb hby d5_31) rfl (teq hc31_12).2 ?_
              show Steps p.tables e below (s₁.setTop (mkF m 34 #[.val (.int p0), .val (.int p1), .val (.int p2), .val (.int p3), .val (.int p4), .val (.int p5)] [])) t
              refine XS.iconst X0.here hx rfl (hb hby d5_34) ?_
              exact kt
            obtain ⟨fs, hr, hrun, hended, hW, hsame⟩ := X0.leave (v := some (.int (1 : Int32))) (fun h => by rw [Bd.returns] at h; cases h)
            refine ⟨_, _, ?_, hrun, hended, _, _, rfl, ?_, ⟨_, rfl⟩, hW, hsame.mono (by decide) (by decide)⟩
            · exact retN X0 hx (t := .boolean) Bd.returns (by simp) (hb hby d5_35) hr
            · show Q5 Z p0 p1 p2 p3 p4 p5 h0 n0 _ s₁.heap _
              rw [e0]
              exact ⟨(by rw [own_f5, if_pos hc1_1, if_neg hc6_2, if_neg hc13_3, if_pos hc25_11, if_pos hc31_12]), N0, rfl⟩
          · refine own_by (A' := s₁.setTop (mkF m 38 #[.val (.int p0), .val (.int p1), .val (.int p2), .val (.int p3), .val (.int p4), .val (.int p5)] [(.int (3 : Int32)), (.int p1)])) (fun t kt => ?_) ?_
            · show Steps p.tables e below (s₁.setTop (mkF m 31 #[.val (.int p0), .val (.int p1), .val (.int p2), .val (.int p3), .val (.int p4), .val (.int p5)] [(.int p4), (.int p0)])) t
              refine XS.icmpYes X0.here hx rfl (pc0 := 31) (pc' := 36) rfl (hb hby d5_31) rfl (feq hc31_12).2 (by decide) (by decide) ?_
              show Steps p.tables e below (s₁.setTop (mkF m 36 #[.val (.int p0), .val (.int p1), .val (.int p2), .val (.int p3), .val (.int p4), .val (.int p5)] [])) t
              refine XS.iloadN X0.here hx rfl (hb hby d5_36) rfl ?_
              show Steps p.tables e below (s₁.setTop (mkF m 37 #[.val (.int p0), .val (.int p1), .val (.int p2), .val (.int p3), .val (.int p4), .val (.int p5)] [(.int p1)])) t
              refine XS.iconst X0.here hx rfl (hb hby d5_37) ?_
              exact kt
            by_cases hc38_13 : (3 : Int32) < p1
            · refine own_by (A' := s₁.setTop (mkF m 44 #[.val (.int p0), .val (.int p1), .val (.int p2), .val (.int p3), .val (.int p4), .val (.int p5)] [(.int p5), (.int p0)])) (fun t kt => ?_) ?_
              · show Steps p.tables e below (s₁.setTop (mkF m 38 #[.val (.int p0), .val (.int p1), .val (.int p2), .val (.int p3), .val (.int p4), .val (.int p5)] [(.int (3 : Int32)), (.int p1)])) t
                refine XS.icmpNo X0.here hx rfl (hb hby d5_38) rfl (tlt hc38_13).2.2.2 ?_
                show Steps p.tables e below (s₁.setTop (mkF m 41 #[.val (.int p0), .val (.int p1), .val (.int p2), .val (.int p3), .val (.int p4), .val (.int p5)] [])) t
                refine XS.iloadN X0.here hx rfl (hb hby d5_41) rfl ?_
                show Steps p.tables e below (s₁.setTop (mkF m 42 #[.val (.int p0), .val (.int p1), .val (.int p2), .val (.int p3), .val (.int p4), .val (.int p5)] [(.int p0)])) t
                refine XS.iload X0.here hx rfl (hb hby d5_42) rfl ?_
                exact kt
              by_cases hc44_14 : p0 = p5
              · refine own_by (A' := s₁.setTop (mkF m 52 #[.val (.int p0), .val (.int p1), .val (.int p2), .val (.int p3), .val (.int p4), .val (.int p5)] [(.int (1 : Int32))])) (fun t kt => ?_) ?_
                · show Steps p.tables e below (s₁.setTop (mkF m 44 #[.val (.int p0), .val (.int p1), .val (.int p2), .val (.int p3), .val (.int p4), .val (.int p5)] [(.int p5), (.int p0)])) t
                  refine XS.icmpNo X0.here hx rfl (hb hby d5_44) rfl (teq hc44_14).2 ?_
                  show Steps p.tables e below (s₁.setTop (mkF m 47 #[.val (.int p0), .val (.int p1), .val (.int p2), .val (.int p3), .val (.int p4), .val (.int p5)] [])) t
                  refine XS.iconst X0.here hx rfl (hb hby d5_47) ?_
                  show Steps p.tables e below (s₁.setTop (mkF m 48 #[.val (.int p0), .val (.int p1), .val (.int p2), .val (.int p3), .val (.int p4), .val (.int p5)] [(.int (1 : Int32))])) t
                  refine XS.goto X0.here hx rfl (pc0 := 48) (pc' := 52) rfl (hb hby d5_48) (by decide) (by decide) ?_
                  exact kt
                obtain ⟨fs, hr, hrun, hended, hW, hsame⟩ := X0.leave (v := some (.int (1 : Int32))) (fun h => by rw [Bd.returns] at h; cases h)
                refine ⟨_, _, ?_, hrun, hended, _, _, rfl, ?_, ⟨_, rfl⟩, hW, hsame.mono (by decide) (by decide)⟩
                · exact retN X0 hx (t := .boolean) Bd.returns (by simp) (hb hby d5_52) hr
                · show Q5 Z p0 p1 p2 p3 p4 p5 h0 n0 _ s₁.heap _
                  rw [e0]
                  exact ⟨(by rw [own_f5, if_pos hc1_1, if_neg hc6_2, if_neg hc13_3, if_pos hc25_11, if_neg hc31_12, if_pos hc38_13, if_pos hc44_14]), N0, rfl⟩
              · refine own_by (A' := s₁.setTop (mkF m 52 #[.val (.int p0), .val (.int p1), .val (.int p2), .val (.int p3), .val (.int p4), .val (.int p5)] [(.int (0 : Int32))])) (fun t kt => ?_) ?_
                · show Steps p.tables e below (s₁.setTop (mkF m 44 #[.val (.int p0), .val (.int p1), .val (.int p2), .val (.int p3), .val (.int p4), .val (.int p5)] [(.int p5), (.int p0)])) t
                  refine XS.icmpYes X0.here hx rfl (pc0 := 44) (pc' := 51) rfl (hb hby d5_44) rfl (feq hc44_14).2 (by decide) (by decide) ?_
                  show Steps p.tables e below (s₁.setTop (mkF m 51 #[.val (.int p0), .val (.int p1), .val (.int p2), .val (.int p3), .val (.int p4), .val (.int p5)] [])) t
                  refine XS.iconst X0.here hx rfl (hb hby d5_51) ?_
                  exact kt
                obtain ⟨fs, hr, hrun, hended, hW, hsame⟩ := X0.leave (v := some (.int (0 : Int32))) (fun h => by rw [Bd.returns] at h; cases h)
                refine ⟨_, _, ?_, hrun, hended, _, _, rfl, ?_, ⟨_, rfl⟩, hW, hsame.mono (by decide) (by decide)⟩
                · exact retN X0 hx (t := .boolean) Bd.returns (by simp) (hb hby d5_52) hr
                · show Q5 Z p0 p1 p2 p3 p4 p5 h0 n0 _ s₁.heap _
                  rw [e0]
                  exact ⟨(by rw [own_f5, if_pos hc1_1, if_neg hc6_2, if_neg hc13_3, if_pos hc25_11, if_neg hc31_12, if_pos hc38_13, if_neg hc44_14]), N0, rfl⟩
            · refine own_by (A' := s₁.setTop (mkF m 52 #[.val (.int p0), .val (.int p1), .val (.int p2), .val (.int p3), .val (.int p4), .val (.int p5)] [(.int (0 : Int32))])) (fun t kt => ?_) ?_
              · show Steps p.tables e below (s₁.setTop (mkF m 38 #[.val (.int p0), .val (.int p1), .val (.int p2), .val (.int p3), .val (.int p4), .val (.int p5)] [(.int (3 : Int32)), (.int p1)])) t
                refine XS.icmpYes X0.here hx rfl (pc0 := 38) (pc' := 51) rfl (hb hby d5_38) rfl (flt hc38_13).2.2.2 (by decide) (by decide) ?_
                show Steps p.tables e below (s₁.setTop (mkF m 51 #[.val (.int p0), .val (.int p1), .val (.int p2), .val (.int p3), .val (.int p4), .val (.int p5)] [])) t
                refine XS.iconst X0.here hx rfl (hb hby d5_51) ?_
                exact kt
              obtain ⟨fs, hr, hrun, hended, hW, hsame⟩ := X0.leave (v := some (.int (0 : Int32))) (fun h => by rw [Bd.returns] at h; cases h)
              refine ⟨_, _, ?_, hrun, hended, _, _, rfl, ?_, ⟨_, rfl⟩, hW, hsame.mono (by decide) (by decide)⟩
              · exact retN X0 hx (t := .boolean) Bd.returns (by simp) (hb hby d5_52) hr
              · show Q5 Z p0 p1 p2 p3 p4 p5 h0 n0 _ s₁.heap _
                rw [e0]
                exact ⟨(by rw [own_f5, if_pos hc1_1, if_neg hc6_2, if_neg hc13_3, if_pos hc25_11, if_neg hc31_12, if_neg hc38_13]), N0, rfl⟩
        · refine own_by (A' := s₁.setTop (mkF m 38 #[.val (.int p0), .val (.int p1), .val (.int p2), .val (.int p3), .val (.int p4), .val (.int p5)] [(.int (3 : Int32)), (.int p1)])) (fun t kt => ?_) ?_
          · show Steps p.tables e below (s₁.setTop (mkF m 25 #[.val (.int p0), .val (.int p1), .val (.int p2), .val (.int p3), .val (.int p4), .val (.int p5)] [(.int (2 : Int32)), (.int p1)])) t
            refine XS.icmpYes X0.here hx rfl (pc0 := 25) (pc' := 36) rfl (hb hby d5_25) rfl (flt hc25_11).2.2.2 (by decide) (by decide) ?_
            show Steps p.tables e below (s₁.setTop (mkF m 36 #[.val (.int p0), .val (.int p1), .val (.int p2), .val (.int p3), .val (.int p4), .val (.int p5)] [])) t
            refine XS.iloadN X0.here hx rfl (hb hby d5_36) rfl ?_
            show Steps p.tables e below (s₁.setTop (mkF m 37 #[.val (.int p0), .val (.int p1), .val (.int p2), .val (.int p3), .val (.int p4), .val (.int p5)] [(.int p1)])) t
            refine XS.iconst X0.here hx rfl (hb hby d5_37) ?_
            exact kt
          by_cases hc38_15 : (3 : Int32) < p1
          · refine own_by (A' := s₁.setTop (mkF m 44 #[.val (.int p0), .val (.int p1), .val (.int p2), .val (.int p3), .val (.int p4), .val (.int p5)] [(.int p5), (.int p0)])) (fun t kt => ?_) ?_
            · show Steps p.tables e below (s₁.setTop (mkF m 38 #[.val (.int p0), .val (.int p1), .val (.int p2), .val (.int p3), .val (.int p4), .val (.int p5)] [(.int (3 : Int32)), (.int p1)])) t
              refine XS.icmpNo X0.here hx rfl (hb hby d5_38) rfl (tlt hc38_15).2.2.2 ?_
              show Steps p.tables e below (s₁.setTop (mkF m 41 #[.val (.int p0), .val (.int p1), .val (.int p2), .val (.int p3), .val (.int p4), .val (.int p5)] [])) t
              refine XS.iloadN X0.here hx rfl (hb hby d5_41) rfl ?_
              show Steps p.tables e below (s₁.setTop (mkF m 42 #[.val (.int p0), .val (.int p1), .val (.int p2), .val (.int p3), .val (.int p4), .val (.int p5)] [(.int p0)])) t
              refine XS.iload X0.here hx rfl (hb hby d5_42) rfl ?_
              exact kt
            by_cases hc44_16 : p0 = p5
            · refine own_by (A' := s₁.setTop (mkF m 52 #[.val (.int p0), .val (.int p1), .val (.int p2), .val (.int p3), .val (.int p4), .val (.int p5)] [(.int (1 : Int32))])) (fun t kt => ?_) ?_
              · show Steps p.tables e below (s₁.setTop (mkF m 44 #[.val (.int p0), .val (.int p1), .val (.int p2), .val (.int p3), .val (.int p4), .val (.int p5)] [(.int p5), (.int p0)])) t
                refine XS.icmpNo X0.here hx rfl (hb hby d5_44) rfl (teq hc44_16).2 ?_
                show Steps p.tables e below (s₁.setTop (mkF m 47 #[.val (.int p0), .val (.int p1), .val (.int p2), .val (.int p3), .val (.int p4), .val (.int p5)] [])) t
                refine XS.iconst X0.here hx rfl (hb hby d5_47) ?_
                show Steps p.tables e below (s₁.setTop (mkF m 48 #[.val (.int p0), .val (.int p1), .val (.int p2), .val (.int p3), .val (.int p4), .val (.int p5)] [(.int (1 : Int32))])) t
                refine XS.goto X0.here hx rfl (pc0 := 48) (pc' := 52) rfl (hb hby d5_48) (by decide) (by decide) ?_
                exact kt
              obtain ⟨fs, hr, hrun, hended, hW, hsame⟩ := X0.leave (v := some (.int (1 : Int32))) (fun h => by rw [Bd.returns] at h; cases h)
              refine ⟨_, _, ?_, hrun, hended, _, _, rfl, ?_, ⟨_, rfl⟩, hW, hsame.mono (by decide) (by decide)⟩
              · exact retN X0 hx (t := .boolean) Bd.returns (by simp) (hb hby d5_52) hr
              · show Q5 Z p0 p1 p2 p3 p4 p5 h0 n0 _ s₁.heap _
                rw [e0]
                exact ⟨(by rw [own_f5, if_pos hc1_1, if_neg hc6_2, if_neg hc13_3, if_neg hc25_11, if_pos hc38_15, if_pos hc44_16]), N0, rfl⟩
            · refine own_by (A' := s₁.setTop (mkF m 52 #[.val (.int p0), .val (.int p1), .val (.int p2), .val (.int p3), .val (.int p4), .val (.int p5)] [(.int (0 : Int32))])) (fun t kt => ?_) ?_
              · show Steps p.tables e below (s₁.setTop (mkF m 44 #[.val (.int p0), .val (.int p1), .val (.int p2), .val (.int p3), .val (.int p4), .val (.int p5)] [(.int p5), (.int p0)])) t
                refine XS.icmpYes X0.here hx rfl (pc0 := 44) (pc' := 51) rfl (hb hby d5_44) rfl (feq hc44_16).2 (by decide) (by decide) ?_
                show Steps p.tables e below (s₁.setTop (mkF m 51 #[.val (.int p0), .val (.int p1), .val (.int p2), .val (.int p3), .val (.int p4), .val (.int p5)] [])) t
                refine XS.iconst X0.here hx rfl (hb hby d5_51) ?_
                exact kt
              obtain ⟨fs, hr, hrun, hended, hW, hsame⟩ := X0.leave (v := some (.int (0 : Int32))) (fun h => by rw [Bd.returns] at h; cases h)
              refine ⟨_, _, ?_, hrun, hended, _, _, rfl, ?_, ⟨_, rfl⟩, hW, hsame.mono (by decide) (by decide)⟩
              · exact retN X0 hx (t := .boolean) Bd.returns (by simp) (hb hby d5_52) hr
              · show Q5 Z p0 p1 p2 p3 p4 p5 h0 n0 _ s₁.heap _
                rw [e0]
                exact ⟨(by rw [own_f5, if_pos hc1_1, if_neg hc6_2, if_neg hc13_3, if_neg hc25_11, if_pos hc38_15, if_neg hc44_16]), N0, rfl⟩
          · refine own_by (A' := s₁.setTop (mkF m 52 #[.val (.int p0), .val (.int p1), .val (.int p2), .val (.int p3), .val (.int p4), .val (.int p5)] [(.int (0 : Int32))])) (fun t kt => ?_) ?_
            · show Steps p.tables e below (s₁.setTop (mkF m 38 #[.val (.int p0), .val (.int p1), .val (.int p2), .val (.int p3), .val (.int p4), .val (.int p5)] [(.int (3 : Int32)), (.int p1)])) t
              refine XS.icmpYes X0.here hx rfl (pc0 := 38) (pc' := 51) rfl (hb hby d5_38) rfl (flt hc38_15).2.2.2 (by decide) (by decide) ?_
              show Steps p.tables e below (s₁.setTop (mkF m 51 #[.val (.int p0), .val (.int p1), .val (.int p2), .val (.int p3), .val (.int p4), .val (.int p5)] [])) t
              refine XS.iconst X0.here hx rfl (hb hby d5_51) ?_
              exact kt
            obtain ⟨fs, hr, hrun, hended, hW, hsame⟩ := X0.leave (v := some (.int (0 : Int32))) (fun h => by rw [Bd.returns] at h; cases h)
            refine ⟨_, _, ?_, hrun, hended, _, _, rfl, ?_, ⟨_, rfl⟩, hW, hsame.mono (by decide) (by decide)⟩
            · exact retN X0 hx (t := .boolean) Bd.returns (by simp) (hb hby d5_52) hr
            · show Q5 Z p0 p1 p2 p3 p4 p5 h0 n0 _ s₁.heap _
              rw [e0]
              exact ⟨(by rw [own_f5, if_pos hc1_1, if_neg hc6_2, if_neg hc13_3, if_neg hc25_11, if_neg hc38_15]), N0, rfl⟩
  · refine own_by (A' := s₁.setTop (mkF m 13 #[.val (.int p0), .val (.int p1), .val (.int p2), .val (.int p3), .val (.int p4), .val (.int p5)] [(.int (1 : Int32)), (.int p1)])) (fun t kt => ?_) ?_
    · show Steps p.tables e below (s₁.setTop (mkF m 1 #[.val (.int p0), .val (.int p1), .val (.int p2), .val (.int p3), .val (.int p4), .val (.int p5)] [(.int p1)])) t
      refine XS.ifYes X0.here hx rfl (pc0 := 1) (pc' := 11) rfl (hb hby d5_1) rfl ((if0 _ _).trans (flt hc1_1).2.2.2) (by decide) (by decide) ?_
      show Steps p.tables e below (s₁.setTop (mkF m 11 #[.val (.int p0), .val (.int p1), .val (.int p2), .val (.int p3), .val (.int p4), .val (.int p5)] [])) t
      refine XS.iloadN X0.here hx rfl (hb hby d5_11) rfl ?_
      show Steps p.tables e below (s₁.setTop (mkF m 12 #[.val (.int p0), .val (.int p1), .val (.int p2), .val (.int p3), .val (.int p4), .val (.int p5)] [(.int p1)])) t
      refine XS.iconst X0.here hx rfl (hb hby d5_12) ?_
      exact kt
    by_cases hc13_17 : (1 : Int32) < p1
    · refine own_by (A' := s₁.setTop (mkF m 18 #[.val (.int p0), .val (.int p1), .val (.int p2), .val (.int p3), .val (.int p4), .val (.int p5)] [(.int p3), (.int p0)])) (fun t kt => ?_) ?_
      · show Steps p.tables e below (s₁.setTop (mkF m 13 #[.val (.int p0), .val (.int p1), .val (.int p2), .val (.int p3), .val (.int p4), .val (.int p5)] [(.int (1 : Int32)), (.int p1)])) t
        refine XS.icmpNo X0.here hx rfl (hb hby d5_13) rfl (tlt hc13_17).2.2.2 ?_
        show Steps p.tables e below (s₁.setTop (mkF m 16 #[.val (.int p0), .val (.int p1), .val (.int p2), .val (.int p3), .val (.int p4), .val (.int p5)] [])) t
        refine XS.iloadN X0.here hx rfl (hb hby d5_16) rfl ?_
        show Steps p.tables e below (s₁.setTop (mkF m 17 #[.val (.int p0), .val (.int p1), .val (.int p2), .val (.int p3), .val (.int p4), .val (.int p5)] [(.int p0)])) t
        refine XS.iloadN X0.here hx rfl (hb hby d5_17) rfl ?_
        exact kt
      by_cases hc18_18 : p0 = p3
      · refine own_by (A' := s₁.setTop (mkF m 22 #[.val (.int p0), .val (.int p1), .val (.int p2), .val (.int p3), .val (.int p4), .val (.int p5)] [(.int (1 : Int32))])) (fun t kt => ?_) ?_
        · show Steps p.tables e below (s₁.setTop (mkF m 18 #[.val (.int p0), .val (.int p1), .val (.int p2), .val (.int p3), .val (.int p4), .val (.int p5)] [(.int p3), (.int p0)])) t
          refine XS.icmpNo X0.here hx rfl (hb hby d5_18) rfl (teq hc18_18).2 ?_
          show Steps p.tables e below (s₁.setTop (mkF m 21 #[.val (.int p0), .val (.int p1), .val (.int p2), .val (.int p3), .val (.int p4), .val (.int p5)] [])) t
          refine XS.iconst X0.here hx rfl (hb hby d5_21) ?_
          exact kt
        obtain ⟨fs, hr, hrun, hended, hW, hsame⟩ := X0.leave (v := some (.int (1 : Int32))) (fun h => by rw [Bd.returns] at h; cases h)
        refine ⟨_, _, ?_, hrun, hended, _, _, rfl, ?_, ⟨_, rfl⟩, hW, hsame.mono (by decide) (by decide)⟩
        · exact retN X0 hx (t := .boolean) Bd.returns (by simp) (hb hby d5_22) hr
        · show Q5 Z p0 p1 p2 p3 p4 p5 h0 n0 _ s₁.heap _
          rw [e0]
          exact ⟨(by rw [own_f5, if_neg hc1_1, if_pos hc13_17, if_pos hc18_18]), N0, rfl⟩
      · refine own_by (A' := s₁.setTop (mkF m 25 #[.val (.int p0), .val (.int p1), .val (.int p2), .val (.int p3), .val (.int p4), .val (.int p5)] [(.int (2 : Int32)), (.int p1)])) (fun t kt => ?_) ?_
        · show Steps p.tables e below (s₁.setTop (mkF m 18 #[.val (.int p0), .val (.int p1), .val (.int p2), .val (.int p3), .val (.int p4), .val (.int p5)] [(.int p3), (.int p0)])) t
          refine XS.icmpYes X0.here hx rfl (pc0 := 18) (pc' := 23) rfl (hb hby d5_18) rfl (feq hc18_18).2 (by decide) (by decide) ?_
          show Steps p.tables e below (s₁.setTop (mkF m 23 #[.val (.int p0), .val (.int p1), .val (.int p2), .val (.int p3), .val (.int p4), .val (.int p5)] [])) t
          refine XS.iloadN X0.here hx rfl (hb hby d5_23) rfl ?_
          show Steps p.tables e below (s₁.setTop (mkF m 24 #[.val (.int p0), .val (.int p1), .val (.int p2), .val (.int p3), .val (.int p4), .val (.int p5)] [(.int p1)])) t
          refine XS.iconst X0.here hx rfl (hb hby d5_24) ?_
          exact kt
        by_cases hc25_19 : (2 : Int32) < p1
        · refine own_by (A' := s₁.setTop (mkF m 31 #[.val (.int p0), .val (.int p1), .val (.int p2), .val (.int p3), .val (.int p4), .val (.int p5)] [(.int p4), (.int p0)])) (fun t kt => ?_) ?_
          · show Steps p.tables e below (s₁.setTop (mkF m 25 #[.val (.int p0), .val (.int p1), .val (.int p2), .val (.int p3), .val (.int p4), .val (.int p5)] [(.int (2 : Int32)), (.int p1)])) t
            refine XS.icmpNo X0.here hx rfl (hb hby d5_25) rfl (tlt hc25_19).2.2.2 ?_
            show Steps p.tables e below (s₁.setTop (mkF m 28 #[.val (.int p0), .val (.int p1), .val (.int p2), .val (.int p3), .val (.int p4), .val (.int p5)] [])) t
            refine XS.iloadN X0.here hx rfl (hb hby d5_28) rfl ?_
            show Steps p.tables e below (s₁.setTop (mkF m 29 #[.val (.int p0), .val (.int p1), .val (.int p2), .val (.int p3), .val (.int p4), .val (.int p5)] [(.int p0)])) t
            refine XS.iload X0.here hx rfl (hb hby d5_29) rfl ?_
            exact kt
          by_cases hc31_20 : p0 = p4
          · refine own_by (A' := s₁.setTop (mkF m 35 #[.val (.int p0), .val (.int p1), .val (.int p2), .val (.int p3), .val (.int p4), .val (.int p5)] [(.int (1 : Int32))])) (fun t kt => ?_) ?_
            · show Steps p.tables e below (s₁.setTop (mkF m 31 #[.val (.int p0), .val (.int p1), .val (.int p2), .val (.int p3), .val (.int p4), .val (.int p5)] [(.int p4), (.int p0)])) t
              refine XS.icmpNo X0.here hx rfl (hb hby d5_31) rfl (teq hc31_20).2 ?_
              show Steps p.tables e below (s₁.setTop (mkF m 34 #[.val (.int p0), .val (.int p1), .val (.int p2), .val (.int p3), .val (.int p4), .val (.int p5)] [])) t
              refine XS.iconst X0.here hx rfl (hb hby d5_34) ?_
              exact kt
            obtain ⟨fs, hr, hrun, hended, hW, hsame⟩ := X0.leave (v := some (.int (1 : Int32))) (fun h => by rw [Bd.returns] at h; cases h)
            refine ⟨_, _, ?_, hrun, hended, _, _, rfl, ?_, ⟨_, rfl⟩, hW, hsame.mono (by decide) (by decide)⟩
            · exact retN X0 hx (t := .boolean) Bd.returns (by simp) (hb hby d5_35) hr
            · show Q5 Z p0 p1 p2 p3 p4 p5 h0 n0 _ s₁.heap _
              rw [e0]
              exact ⟨(by rw [own_f5, if_neg hc1_1, if_pos hc13_17, if_neg hc18_18, if_pos hc25_19, if_pos hc31_20]), N0, rfl⟩
          · refine own_by (A' := s₁.setTop (mkF m 38 #[.val (.int p0), .val (.int p1), .val (.int p2), .val (.int p3), .val (.int p4), .val (.int p5)] [(.int (3 : Int32)), (.int p1)])) (fun t kt => ?_) ?_
            · show Steps p.tables e below (s₁.setTop (mkF m 31 #[.val (.int p0), .val (.int p1), .val (.int p2), .val (.int p3), .val (.int p4), .val (.int p5)] [(.int p4), (.int p0)])) t
              refine XS.icmpYes X0.here hx rfl (pc0 := 31) (pc' := 36) rfl (hb hby d5_31) rfl (feq hc31_20).2 (by decide) (by decide) ?_
              show Steps p.tables e below (s₁.setTop (mkF m 36 #[.val (.int p0), .val (.int p1), .val (.int p2), .val (.int p3), .val (.int p4), .val (.int p5)] [])) t
              refine XS.iloadN X0.here hx rfl (hb hby d5_36) rfl ?_
              show Steps p.tables e below (s₁.setTop (mkF m 37 #[.val (.int p0), .val (.int p1), .val (.int p2), .val (.int p3), .val (.int p4), .val (.int p5)] [(.int p1)])) t
              refine XS.iconst X0.here hx rfl (hb hby d5_37) ?_
              exact kt
            by_cases hc38_21 : (3 : Int32) < p1
            · refine own_by (A' := s₁.setTop (mkF m 44 #[.val (.int p0), .val (.int p1), .val (.int p2), .val (.int p3), .val (.int p4), .val (.int p5)] [(.int p5), (.int p0)])) (fun t kt => ?_) ?_
              · show Steps p.tables e below (s₁.setTop (mkF m 38 #[.val (.int p0), .val (.int p1), .val (.int p2), .val (.int p3), .val (.int p4), .val (.int p5)] [(.int (3 : Int32)), (.int p1)])) t
                refine XS.icmpNo X0.here hx rfl (hb hby d5_38) rfl (tlt hc38_21).2.2.2 ?_
                show Steps p.tables e below (s₁.setTop (mkF m 41 #[.val (.int p0), .val (.int p1), .val (.int p2), .val (.int p3), .val (.int p4), .val (.int p5)] [])) t
                refine XS.iloadN X0.here hx rfl (hb hby d5_41) rfl ?_
                show Steps p.tables e below (s₁.setTop (mkF m 42 #[.val (.int p0), .val (.int p1), .val (.int p2), .val (.int p3), .val (.int p4), .val (.int p5)] [(.int p0)])) t
                refine XS.iload X0.here hx rfl (hb hby d5_42) rfl ?_
                exact kt
              by_cases hc44_22 : p0 = p5
              · refine own_by (A' := s₁.setTop (mkF m 52 #[.val (.int p0), .val (.int p1), .val (.int p2), .val (.int p3), .val (.int p4), .val (.int p5)] [(.int (1 : Int32))])) (fun t kt => ?_) ?_
                · show Steps p.tables e below (s₁.setTop (mkF m 44 #[.val (.int p0), .val (.int p1), .val (.int p2), .val (.int p3), .val (.int p4), .val (.int p5)] [(.int p5), (.int p0)])) t
                  refine XS.icmpNo X0.here hx rfl (hb hby d5_44) rfl (teq hc44_22).2 ?_
                  show Steps p.tables e below (s₁.setTop (mkF m 47 #[.val (.int p0), .val (.int p1), .val (.int p2), .val (.int p3), .val (.int p4), .val (.int p5)] [])) t
                  refine XS.iconst X0.here hx rfl (hb hby d5_47) ?_
                  show Steps p.tables e below (s₁.setTop (mkF m 48 #[.val (.int p0), .val (.int p1), .val (.int p2), .val (.int p3), .val (.int p4), .val (.int p5)] [(.int (1 : Int32))])) t
                  refine XS.goto X0.here hx rfl (pc0 := 48) (pc' := 52) rfl (hb hby d5_48) (by decide) (by decide) ?_
                  exact kt
                obtain ⟨fs, hr, hrun, hended, hW, hsame⟩ := X0.leave (v := some (.int (1 : Int32))) (fun h => by rw [Bd.returns] at h; cases h)
                refine ⟨_, _, ?_, hrun, hended, _, _, rfl, ?_, ⟨_, rfl⟩, hW, hsame.mono (by decide) (by decide)⟩
                · exact retN X0 hx (t := .boolean) Bd.returns (by simp) (hb hby d5_52) hr
                · show Q5 Z p0 p1 p2 p3 p4 p5 h0 n0 _ s₁.heap _
                  rw [e0]
                  exact ⟨(by rw [own_f5, if_neg hc1_1, if_pos hc13_17, if_neg hc18_18, if_pos hc25_19, if_neg hc31_20, if_pos hc38_21, if_pos hc44_22]), N0, rfl⟩
              · refine own_by (A' := s₁.setTop (mkF m 52 #[.val (.int p0), .val (.int p1), .val (.int p2), .val (.int p3), .val (.int p4), .val (.int p5)] [(.int (0 : Int32))])) (fun t kt => ?_) ?_
                · show Steps p.tables e below (s₁.setTop (mkF m 44 #[.val (.int p0), .val (.int p1), .val (.int p2), .val (.int p3), .val (.int p4), .val (.int p5)] [(.int p5), (.int p0)])) t
                  refine XS.icmpYes X0.here hx rfl (pc0 := 44) (pc' := 51) rfl (hb hby d5_44) rfl (feq hc44_22).2 (by decide) (by decide) ?_
                  show Steps p.tables e below (s₁.setTop (mkF m 51 #[.val (.int p0), .val (.int p1), .val (.int p2), .val (.int p3), .val (.int p4), .val (.int p5)] [])) t
                  refine XS.iconst X0.here hx rfl (hb hby d5_51) ?_
                  exact kt
                obtain ⟨fs, hr, hrun, hended, hW, hsame⟩ := X0.leave (v := some (.int (0 : Int32))) (fun h => by rw [Bd.returns] at h; cases h)
                refine ⟨_, _, ?_, hrun, hended, _, _, rfl, ?_, ⟨_, rfl⟩, hW, hsame.mono (by decide) (by decide)⟩
                · exact retN X0 hx (t := .boolean) Bd.returns (by simp) (hb hby d5_52) hr
                · show Q5 Z p0 p1 p2 p3 p4 p5 h0 n0 _ s₁.heap _
                  rw [e0]
                  exact ⟨(by rw [own_f5, if_neg hc1_1, if_pos hc13_17, if_neg hc18_18, if_pos hc25_19, if_neg hc31_20, if_pos hc38_21, if_neg hc44_22]), N0, rfl⟩
            · refine own_by (A' := s₁.setTop (mkF m 52 #[.val (.int p0), .val (.int p1), .val (.int p2), .val (.int p3), .val (.int p4), .val (.int p5)] [(.int (0 : Int32))])) (fun t kt => ?_) ?_
              · show Steps p.tables e below (s₁.setTop (mkF m 38 #[.val (.int p0), .val (.int p1), .val (.int p2), .val (.int p3), .val (.int p4), .val (.int p5)] [(.int (3 : Int32)), (.int p1)])) t
                refine XS.icmpYes X0.here hx rfl (pc0 := 38) (pc' := 51) rfl (hb hby d5_38) rfl (flt hc38_21).2.2.2 (by decide) (by decide) ?_
                show Steps p.tables e below (s₁.setTop (mkF m 51 #[.val (.int p0), .val (.int p1), .val (.int p2), .val (.int p3), .val (.int p4), .val (.int p5)] [])) t
                refine XS.iconst X0.here hx rfl (hb hby d5_51) ?_
                exact kt
              obtain ⟨fs, hr, hrun, hended, hW, hsame⟩ := X0.leave (v := some (.int (0 : Int32))) (fun h => by rw [Bd.returns] at h; cases h)
              refine ⟨_, _, ?_, hrun, hended, _, _, rfl, ?_, ⟨_, rfl⟩, hW, hsame.mono (by decide) (by decide)⟩
              · exact retN X0 hx (t := .boolean) Bd.returns (by simp) (hb hby d5_52) hr
              · show Q5 Z p0 p1 p2 p3 p4 p5 h0 n0 _ s₁.heap _
                rw [e0]
                exact ⟨(by rw [own_f5, if_neg hc1_1, if_pos hc13_17, if_neg hc18_18, if_pos hc25_19, if_neg hc31_20, if_neg hc38_21]), N0, rfl⟩
        · refine own_by (A' := s₁.setTop (mkF m 38 #[.val (.int p0), .val (.int p1), .val (.int p2), .val (.int p3), .val (.int p4), .val (.int p5)] [(.int (3 : Int32)), (.int p1)])) (fun t kt => ?_) ?_
          · show Steps p.tables e below (s₁.setTop (mkF m 25 #[.val (.int p0), .val (.int p1), .val (.int p2), .val (.int p3), .val (.int p4), .val (.int p5)] [(.int (2 : Int32)), (.int p1)])) t
            refine XS.icmpYes X0.here hx rfl (pc0 := 25) (pc' := 36) rfl (hb hby d5_25) rfl (flt hc25_19).2.2.2 (by decide) (by decide) ?_
            show Steps p.tables e below (s₁.setTop (mkF m 36 #[.val (.int p0), .val (.int p1), .val (.int p2), .val (.int p3), .val (.int p4), .val (.int p5)] [])) t
            refine XS.iloadN X0.here hx rfl (hb hby d5_36) rfl ?_
            show Steps p.tables e below (s₁.setTop (mkF m 37 #[.val (.int p0), .val (.int p1), .val (.int p2), .val (.int p3), .val (.int p4), .val (.int p5)] [(.int p1)])) t
            refine XS.iconst X0.here hx rfl (hb hby d5_37) ?_
            exact kt
          by_cases hc38_23 : (3 : Int32) < p1
          · refine own_by (A' := s₁.setTop (mkF m 44 #[.val (.int p0), .val (.int p1), .val (.int p2), .val (.int p3), .val (.int p4), .val (.int p5)] [(.int p5), (.int p0)])) (fun t kt => ?_) ?_
            · show Steps p.tables e below (s₁.setTop (mkF m 38 #[.val (.int p0), .val (.int p1), .val (.int p2), .val (.int p3), .val (.int p4), .val (.int p5)] [(.int (3 : Int32)), (.int p1)])) t
              refine XS.icmpNo X0.here hx rfl (hb hby d5_38) rfl (tlt hc38_23).2.2.2 ?_
              show Steps p.tables e below (s₁.setTop (mkF m 41 #[.val (.int p0), .val (.int p1), .val (.int p2), .val (.int p3), .val (.int p4), .val (.int p5)] [])) t
              refine XS.iloadN X0.here hx rfl (hb hby d5_41) rfl ?_
              show Steps p.tables e below (s₁.setTop (mkF m 42 #[.val (.int p0), .val (.int p1), .val (.int p2), .val (.int p3), .val (.int p4), .val (.int p5)] [(.int p0)])) t
              refine XS.iload X0.here hx rfl (hb hby d5_42) rfl ?_
              exact kt
            by_cases hc44_24 : p0 = p5
            · refine own_by (A' := s₁.setTop (mkF m 52 #[.val (.int p0), .val (.int p1), .val (.int p2), .val (.int p3), .val (.int p4), .val (.int p5)] [(.int (1 : Int32))])) (fun t kt => ?_) ?_
              · show Steps p.tables e below (s₁.setTop (mkF m 44 #[.val (.int p0), .val (.int p1), .val (.int p2), .val (.int p3), .val (.int p4), .val (.int p5)] [(.int p5), (.int p0)])) t
                refine XS.icmpNo X0.here hx rfl (hb hby d5_44) rfl (teq hc44_24).2 ?_
                show Steps p.tables e below (s₁.setTop (mkF m 47 #[.val (.int p0), .val (.int p1), .val (.int p2), .val (.int p3), .val (.int p4), .val (.int p5)] [])) t
                refine XS.iconst X0.here hx rfl (hb hby d5_47) ?_
                show Steps p.tables e below (s₁.setTop (mkF m 48 #[.val (.int p0), .val (.int p1), .val (.int p2), .val (.int p3), .val (.int p4), .val (.int p5)] [(.int (1 : Int32))])) t
                refine XS.goto X0.here hx rfl (pc0 := 48) (pc' := 52) rfl (hb hby d5_48) (by decide) (by decide) ?_
                exact kt
              obtain ⟨fs, hr, hrun, hended, hW, hsame⟩ := X0.leave (v := some (.int (1 : Int32))) (fun h => by rw [Bd.returns] at h; cases h)
              refine ⟨_, _, ?_, hrun, hended, _, _, rfl, ?_, ⟨_, rfl⟩, hW, hsame.mono (by decide) (by decide)⟩
              · exact retN X0 hx (t := .boolean) Bd.returns (by simp) (hb hby d5_52) hr
              · show Q5 Z p0 p1 p2 p3 p4 p5 h0 n0 _ s₁.heap _
                rw [e0]
                exact ⟨(by rw [own_f5, if_neg hc1_1, if_pos hc13_17, if_neg hc18_18, if_neg hc25_19, if_pos hc38_23, if_pos hc44_24]), N0, rfl⟩
            · refine own_by (A' := s₁.setTop (mkF m 52 #[.val (.int p0), .val (.int p1), .val (.int p2), .val (.int p3), .val (.int p4), .val (.int p5)] [(.int (0 : Int32))])) (fun t kt => ?_) ?_
              · show Steps p.tables e below (s₁.setTop (mkF m 44 #[.val (.int p0), .val (.int p1), .val (.int p2), .val (.int p3), .val (.int p4), .val (.int p5)] [(.int p5), (.int p0)])) t
                refine XS.icmpYes X0.here hx rfl (pc0 := 44) (pc' := 51) rfl (hb hby d5_44) rfl (feq hc44_24).2 (by decide) (by decide) ?_
                show Steps p.tables e below (s₁.setTop (mkF m 51 #[.val (.int p0), .val (.int p1), .val (.int p2), .val (.int p3), .val (.int p4), .val (.int p5)] [])) t
                refine XS.iconst X0.here hx rfl (hb hby d5_51) ?_
                exact kt
              obtain ⟨fs, hr, hrun, hended, hW, hsame⟩ := X0.leave (v := some (.int (0 : Int32))) (fun h => by rw [Bd.returns] at h; cases h)
              refine ⟨_, _, ?_, hrun, hended, _, _, rfl, ?_, ⟨_, rfl⟩, hW, hsame.mono (by decide) (by decide)⟩
              · exact retN X0 hx (t := .boolean) Bd.returns (by simp) (hb hby d5_52) hr
              · show Q5 Z p0 p1 p2 p3 p4 p5 h0 n0 _ s₁.heap _
                rw [e0]
                exact ⟨(by rw [own_f5, if_neg hc1_1, if_pos hc13_17, if_neg hc18_18, if_neg hc25_19, if_pos hc38_23, if_neg hc44_24]), N0, rfl⟩
          · refine own_by (A' := s₁.setTop (mkF m 52 #[.val (.int p0), .val (.int p1), .val (.int p2), .val (.int p3), .val (.int p4), .val (.int p5)] [(.int (0 : Int32))])) (fun t kt => ?_) ?_
            · show Steps p.tables e below (s₁.setTop (mkF m 38 #[.val (.int p0), .val (.int p1), .val (.int p2), .val (.int p3), .val (.int p4), .val (.int p5)] [(.int (3 : Int32)), (.int p1)])) t
              refine XS.icmpYes X0.here hx rfl (pc0 := 38) (pc' := 51) rfl (hb hby d5_38) rfl (flt hc38_23).2.2.2 (by decide) (by decide) ?_
              show Steps p.tables e below (s₁.setTop (mkF m 51 #[.val (.int p0), .val (.int p1), .val (.int p2), .val (.int p3), .val (.int p4), .val (.int p5)] [])) t
              refine XS.iconst X0.here hx rfl (hb hby d5_51) ?_
              exact kt
            obtain ⟨fs, hr, hrun, hended, hW, hsame⟩ := X0.leave (v := some (.int (0 : Int32))) (fun h => by rw [Bd.returns] at h; cases h)
            refine ⟨_, _, ?_, hrun, hended, _, _, rfl, ?_, ⟨_, rfl⟩, hW, hsame.mono (by decide) (by decide)⟩
            · exact retN X0 hx (t := .boolean) Bd.returns (by simp) (hb hby d5_52) hr
            · show Q5 Z p0 p1 p2 p3 p4 p5 h0 n0 _ s₁.heap _
              rw [e0]
              exact ⟨(by rw [own_f5, if_neg hc1_1, if_pos hc13_17, if_neg hc18_18, if_neg hc25_19, if_neg hc38_23]), N0, rfl⟩
    · refine own_by (A' := s₁.setTop (mkF m 25 #[.val (.int p0), .val (.int p1), .val (.int p2), .val (.int p3), .val (.int p4), .val (.int p5)] [(.int (2 : Int32)), (.int p1)])) (fun t kt => ?_) ?_
      · show Steps p.tables e below (s₁.setTop (mkF m 13 #[.val (.int p0), .val (.int p1), .val (.int p2), .val (.int p3), .val (.int p4), .val (.int p5)] [(.int (1 : Int32)), (.int p1)])) t
        refine XS.icmpYes X0.here hx rfl (pc0 := 13) (pc' := 23) rfl (hb hby d5_13) rfl (flt hc13_17).2.2.2 (by decide) (by decide) ?_
        show Steps p.tables e below (s₁.setTop (mkF m 23 #[.val (.int p0), .val (.int p1), .val (.int p2), .val (.int p3), .val (.int p4), .val (.int p5)] [])) t
        refine XS.iloadN X0.here hx rfl (hb hby d5_23) rfl ?_
        show Steps p.tables e below (s₁.setTop (mkF m 24 #[.val (.int p0), .val (.int p1), .val (.int p2), .val (.int p3), .val (.int p4), .val (.int p5)] [(.int p1)])) t
        refine XS.iconst X0.here hx rfl (hb hby d5_24) ?_
        exact kt
      by_cases hc25_25 : (2 : Int32) < p1
      · refine own_by (A' := s₁.setTop (mkF m 31 #[.val (.int p0), .val (.int p1), .val (.int p2), .val (.int p3), .val (.int p4), .val (.int p5)] [(.int p4), (.int p0)])) (fun t kt => ?_) ?_
        · show Steps p.tables e below (s₁.setTop (mkF m 25 #[.val (.int p0), .val (.int p1), .val (.int p2), .val (.int p3), .val (.int p4), .val (.int p5)] [(.int (2 : Int32)), (.int p1)])) t
          refine XS.icmpNo X0.here hx rfl (hb hby d5_25) rfl (tlt hc25_25).2.2.2 ?_
          show Steps p.tables e below (s₁.setTop (mkF m 28 #[.val (.int p0), .val (.int p1), .val (.int p2), .val (.int p3), .val (.int p4), .val (.int p5)] [])) t
          refine XS.iloadN X0.here hx rfl (hb hby d5_28) rfl ?_
          show Steps p.tables e below (s₁.setTop (mkF m 29 #[.val (.int p0), .val (.int p1), .val (.int p2), .val (.int p3), .val (.int p4), .val (.int p5)] [(.int p0)])) t
          refine XS.iload X0.here hx rfl (hb hby d5_29) rfl ?_
          exact kt
        by_cases hc31_26 : p0 = p4
        · refine own_by (A' := s₁.setTop (mkF m 35 #[.val (.int p0), .val (.int p1), .val (.int p2), .val (.int p3), .val (.int p4), .val (.int p5)] [(.int (1 : Int32))])) (fun t kt => ?_) ?_
          · show Steps p.tables e below (s₁.setTop (mkF m 31 #[.val (.int p0), .val (.int p1), .val (.int p2), .val (.int p3), .val (.int p4), .val (.int p5)] [(.int p4), (.int p0)])) t
            refine XS.icmpNo X0.here hx rfl (hb hby d5_31) rfl (teq hc31_26).2 ?_
            show Steps p.tables e below (s₁.setTop (mkF m 34 #[.val (.int p0), .val (.int p1), .val (.int p2), .val (.int p3), .val (.int p4), .val (.int p5)] [])) t
            refine XS.iconst X0.here hx rfl (hb hby d5_34) ?_
            exact kt
          obtain ⟨fs, hr, hrun, hended, hW, hsame⟩ := X0.leave (v := some (.int (1 : Int32))) (fun h => by rw [Bd.returns] at h; cases h)
          refine ⟨_, _, ?_, hrun, hended, _, _, rfl, ?_, ⟨_, rfl⟩, hW, hsame.mono (by decide) (by decide)⟩
          · exact retN X0 hx (t := .boolean) Bd.returns (by simp) (hb hby d5_35) hr
          · show Q5 Z p0 p1 p2 p3 p4 p5 h0 n0 _ s₁.heap _
            rw [e0]
            exact ⟨(by rw [own_f5, if_neg hc1_1, if_neg hc13_17, if_pos hc25_25, if_pos hc31_26]), N0, rfl⟩
        · refine own_by (A' := s₁.setTop (mkF m 38 #[.val (.int p0), .val (.int p1), .val (.int p2), .val (.int p3), .val (.int p4), .val (.int p5)] [(.int (3 : Int32)), (.int p1)])) (fun t kt => ?_) ?_
          · show Steps p.tables e below (s₁.setTop (mkF m 31 #[.val (.int p0), .val (.int p1), .val (.int p2), .val (.int p3), .val (.int p4), .val (.int p5)] [(.int p4), (.int p0)])) t
            refine XS.icmpYes X0.here hx rfl (pc0 := 31) (pc' := 36) rfl (hb hby d5_31) rfl (feq hc31_26).2 (by decide) (by decide) ?_
            show Steps p.tables e below (s₁.setTop (mkF m 36 #[.val (.int p0), .val (.int p1), .val (.int p2), .val (.int p3), .val (.int p4), .val (.int p5)] [])) t
            refine XS.iloadN X0.here hx rfl (hb hby d5_36) rfl ?_
            show Steps p.tables e below (s₁.setTop (mkF m 37 #[.val (.int p0), .val (.int p1), .val (.int p2), .val (.int p3), .val (.int p4), .val (.int p5)] [(.int p1)])) t
            refine XS.iconst X0.here hx rfl (hb hby d5_37) ?_
            exact kt
          by_cases hc38_27 : (3 : Int32) < p1
          · refine own_by (A' := s₁.setTop (mkF m 44 #[.val (.int p0), .val (.int p1), .val (.int p2), .val (.int p3), .val (.int p4), .val (.int p5)] [(.int p5), (.int p0)])) (fun t kt => ?_) ?_
            · show Steps p.tables e below (s₁.setTop (mkF m 38 #[.val (.int p0), .val (.int p1), .val (.int p2), .val (.int p3), .val (.int p4), .val (.int p5)] [(.int (3 : Int32)), (.int p1)])) t
              refine XS.icmpNo X0.here hx rfl (hb hby d5_38) rfl (tlt hc38_27).2.2.2 ?_
              show Steps p.tables e below (s₁.setTop (mkF m 41 #[.val (.int p0), .val (.int p1), .val (.int p2), .val (.int p3), .val (.int p4), .val (.int p5)] [])) t
              refine XS.iloadN X0.here hx rfl (hb hby d5_41) rfl ?_
              show Steps p.tables e below (s₁.setTop (mkF m 42 #[.val (.int p0), .val (.int p1), .val (.int p2), .val (.int p3), .val (.int p4), .val (.int p5)] [(.int p0)])) t
              refine XS.iload X0.here hx rfl (hb hby d5_42) rfl ?_
              exact kt
            by_cases hc44_28 : p0 = p5
            · refine own_by (A' := s₁.setTop (mkF m 52 #[.val (.int p0), .val (.int p1), .val (.int p2), .val (.int p3), .val (.int p4), .val (.int p5)] [(.int (1 : Int32))])) (fun t kt => ?_) ?_
              · show Steps p.tables e below (s₁.setTop (mkF m 44 #[.val (.int p0), .val (.int p1), .val (.int p2), .val (.int p3), .val (.int p4), .val (.int p5)] [(.int p5), (.int p0)])) t
                refine XS.icmpNo X0.here hx rfl (hb hby d5_44) rfl (teq hc44_28).2 ?_
                show Steps p.tables e below (s₁.setTop (mkF m 47 #[.val (.int p0), .val (.int p1), .val (.int p2), .val (.int p3), .val (.int p4), .val (.int p5)] [])) t
                refine XS.iconst X0.here hx rfl (hb hby d5_47) ?_
                show Steps p.tables e below (s₁.setTop (mkF m 48 #[.val (.int p0), .val (.int p1), .val (.int p2), .val (.int p3), .val (.int p4), .val (.int p5)] [(.int (1 : Int32))])) t
                refine XS.goto X0.here hx rfl (pc0 := 48) (pc' := 52) rfl (hb hby d5_48) (by decide) (by decide) ?_
                exact kt
              obtain ⟨fs, hr, hrun, hended, hW, hsame⟩ := X0.leave (v := some (.int (1 : Int32))) (fun h => by rw [Bd.returns] at h; cases h)
              refine ⟨_, _, ?_, hrun, hended, _, _, rfl, ?_, ⟨_, rfl⟩, hW, hsame.mono (by decide) (by decide)⟩
              · exact retN X0 hx (t := .boolean) Bd.returns (by simp) (hb hby d5_52) hr
              · show Q5 Z p0 p1 p2 p3 p4 p5 h0 n0 _ s₁.heap _
                rw [e0]
                exact ⟨(by rw [own_f5, if_neg hc1_1, if_neg hc13_17, if_pos hc25_25, if_neg hc31_26, if_pos hc38_27, if_pos hc44_28]), N0, rfl⟩
            · refine own_by (A' := s₁.setTop (mkF m 52 #[.val (.int p0), .val (.int p1), .val (.int p2), .val (.int p3), .val (.int p4), .val (.int p5)] [(.int (0 : Int32))])) (fun t kt => ?_) ?_
              · show Steps p.tables e below (s₁.setTop (mkF m 44 #[.val (.int p0), .val (.int p1), .val (.int p2), .val (.int p3), .val (.int p4), .val (.int p5)] [(.int p5), (.int p0)])) t
                refine XS.icmpYes X0.here hx rfl (pc0 := 44) (pc' := 51) rfl (hb hby d5_44) rfl (feq hc44_28).2 (by decide) (by decide) ?_
                show Steps p.tables e below (s₁.setTop (mkF m 51 #[.val (.int p0), .val (.int p1), .val (.int p2), .val (.int p3), .val (.int p4), .val (.int p5)] [])) t
                refine XS.iconst X0.here hx rfl (hb hby d5_51) ?_
                exact kt
              obtain ⟨fs, hr, hrun, hended, hW, hsame⟩ := X0.leave (v := some (.int (0 : Int32))) (fun h => by rw [Bd.returns] at h; cases h)
              refine ⟨_, _, ?_, hrun, hended, _, _, rfl, ?_, ⟨_, rfl⟩, hW, hsame.mono (by decide) (by decide)⟩
              · exact retN X0 hx (t := .boolean) Bd.returns (by simp) (hb hby d5_52) hr
              · show Q5 Z p0 p1 p2 p3 p4 p5 h0 n0 _ s₁.heap _
                rw [e0]
                exact ⟨(by rw [own_f5, if_neg hc1_1, if_neg hc13_17, if_pos hc25_25, if_neg hc31_26, if_pos hc38_27, if_neg hc44_28]), N0, rfl⟩
          · refine own_by (A' := s₁.setTop (mkF m 52 #[.val (.int p0), .val (.int p1), .val (.int p2), .val (.int p3), .val (.int p4), .val (.int p5)] [(.int (0 : Int32))])) (fun t kt => ?_) ?_
            · show Steps p.tables e below (s₁.setTop (mkF m 38 #[.val (.int p0), .val (.int p1), .val (.int p2), .val (.int p3), .val (.int p4), .val (.int p5)] [(.int (3 : Int32)), (.int p1)])) t
              refine XS.icmpYes X0.here hx rfl (pc0 := 38) (pc' := 51) rfl (hb hby d5_38) rfl (flt hc38_27).2.2.2 (by decide) (by decide) ?_
              show Steps p.tables e below (s₁.setTop (mkF m 51 #[.val (.int p0), .val (.int p1), .val (.int p2), .val (.int p3), .val (.int p4), .val (.int p5)] [])) t
              refine XS.iconst X0.here hx rfl (hb hby d5_51) ?_
              exact kt
            obtain ⟨fs, hr, hrun, hended, hW, hsame⟩ := X0.leave (v := some (.int (0 : Int32))) (fun h => by rw [Bd.returns] at h; cases h)
            refine ⟨_, _, ?_, hrun, hended, _, _, rfl, ?_, ⟨_, rfl⟩, hW, hsame.mono (by decide) (by decide)⟩
            · exact retN X0 hx (t := .boolean) Bd.returns (by simp) (hb hby d5_52) hr
            · show Q5 Z p0 p1 p2 p3 p4 p5 h0 n0 _ s₁.heap _
              rw [e0]
              exact ⟨(by rw [own_f5, if_neg hc1_1, if_neg hc13_17, if_pos hc25_25, if_neg hc31_26, if_neg hc38_27]), N0, rfl⟩
      · refine own_by (A' := s₁.setTop (mkF m 38 #[.val (.int p0), .val (.int p1), .val (.int p2), .val (.int p3), .val (.int p4), .val (.int p5)] [(.int (3 : Int32)), (.int p1)])) (fun t kt => ?_) ?_
        · show Steps p.tables e below (s₁.setTop (mkF m 25 #[.val (.int p0), .val (.int p1), .val (.int p2), .val (.int p3), .val (.int p4), .val (.int p5)] [(.int (2 : Int32)), (.int p1)])) t
          refine XS.icmpYes X0.here hx rfl (pc0 := 25) (pc' := 36) rfl (hb hby d5_25) rfl (flt hc25_25).2.2.2 (by decide) (by decide) ?_
          show Steps p.tables e below (s₁.setTop (mkF m 36 #[.val (.int p0), .val (.int p1), .val (.int p2), .val (.int p3), .val (.int p4), .val (.int p5)] [])) t
          refine XS.iloadN X0.here hx rfl (hb hby d5_36) rfl ?_
          show Steps p.tables e below (s₁.setTop (mkF m 37 #[.val (.int p0), .val (.int p1), .val (.int p2), .val (.int p3), .val (.int p4), .val (.int p5)] [(.int p1)])) t
          refine XS.iconst X0.here hx rfl (hb hby d5_37) ?_
          exact kt
        by_cases hc38_29 : (3 : Int32) < p1
        · refine own_by (A' := s₁.setTop (mkF m 44 #[.val (.int p0), .val (.int p1), .val (.int p2), .val (.int p3), .val (.int p4), .val (.int p5)] [(.int p5), (.int p0)])) (fun t kt => ?_) ?_
          · show Steps p.tables e below (s₁.setTop (mkF m 38 #[.val (.int p0), .val (.int p1), .val (.int p2), .val (.int p3), .val (.int p4), .val (.int p5)] [(.int (3 : Int32)), (.int p1)])) t
            refine XS.icmpNo X0.here hx rfl (hb hby d5_38) rfl (tlt hc38_29).2.2.2 ?_
            show Steps p.tables e below (s₁.setTop (mkF m 41 #[.val (.int p0), .val (.int p1), .val (.int p2), .val (.int p3), .val (.int p4), .val (.int p5)] [])) t
            refine XS.iloadN X0.here hx rfl (hb hby d5_41) rfl ?_
            show Steps p.tables e below (s₁.setTop (mkF m 42 #[.val (.int p0), .val (.int p1), .val (.int p2), .val (.int p3), .val (.int p4), .val (.int p5)] [(.int p0)])) t
            refine XS.iload X0.here hx rfl (hb hby d5_42) rfl ?_
            exact kt
          by_cases hc44_30 : p0 = p5
          · refine own_by (A' := s₁.setTop (mkF m 52 #[.val (.int p0), .val (.int p1), .val (.int p2), .val (.int p3), .val (.int p4), .val (.int p5)] [(.int (1 : Int32))])) (fun t kt => ?_) ?_
            · show Steps p.tables e below (s₁.setTop (mkF m 44 #[.val (.int p0), .val (.int p1), .val (.int p2), .val (.int p3), .val (.int p4), .val (.int p5)] [(.int p5), (.int p0)])) t
              refine XS.icmpNo X0.here hx rfl (hb hby d5_44) rfl (teq hc44_30).2 ?_
              show Steps p.tables e below (s₁.setTop (mkF m 47 #[.val (.int p0), .val (.int p1), .val (.int p2), .val (.int p3), .val (.int p4), .val (.int p5)] [])) t
              refine XS.iconst X0.here hx rfl (hb hby d5_47) ?_
              show Steps p.tables e below (s₁.setTop (mkF m 48 #[.val (.int p0), .val (.int p1), .val (.int p2), .val (.int p3), .val (.int p4), .val (.int p5)] [(.int (1 : Int32))])) t
              refine XS.goto X0.here hx rfl (pc0 := 48) (pc' := 52) rfl (hb hby d5_48) (by decide) (by decide) ?_
              exact kt
            obtain ⟨fs, hr, hrun, hended, hW, hsame⟩ := X0.leave (v := some (.int (1 : Int32))) (fun h => by rw [Bd.returns] at h; cases h)
            refine ⟨_, _, ?_, hrun, hended, _, _, rfl, ?_, ⟨_, rfl⟩, hW, hsame.mono (by decide) (by decide)⟩
            · exact retN X0 hx (t := .boolean) Bd.returns (by simp) (hb hby d5_52) hr
            · show Q5 Z p0 p1 p2 p3 p4 p5 h0 n0 _ s₁.heap _
              rw [e0]
              exact ⟨(by rw [own_f5, if_neg hc1_1, if_neg hc13_17, if_neg hc25_25, if_pos hc38_29, if_pos hc44_30]), N0, rfl⟩
          · refine own_by (A' := s₁.setTop (mkF m 52 #[.val (.int p0), .val (.int p1), .val (.int p2), .val (.int p3), .val (.int p4), .val (.int p5)] [(.int (0 : Int32))])) (fun t kt => ?_) ?_
            · show Steps p.tables e below (s₁.setTop (mkF m 44 #[.val (.int p0), .val (.int p1), .val (.int p2), .val (.int p3), .val (.int p4), .val (.int p5)] [(.int p5), (.int p0)])) t
              refine XS.icmpYes X0.here hx rfl (pc0 := 44) (pc' := 51) rfl (hb hby d5_44) rfl (feq hc44_30).2 (by decide) (by decide) ?_
              show Steps p.tables e below (s₁.setTop (mkF m 51 #[.val (.int p0), .val (.int p1), .val (.int p2), .val (.int p3), .val (.int p4), .val (.int p5)] [])) t
              refine XS.iconst X0.here hx rfl (hb hby d5_51) ?_
              exact kt
            obtain ⟨fs, hr, hrun, hended, hW, hsame⟩ := X0.leave (v := some (.int (0 : Int32))) (fun h => by rw [Bd.returns] at h; cases h)
            refine ⟨_, _, ?_, hrun, hended, _, _, rfl, ?_, ⟨_, rfl⟩, hW, hsame.mono (by decide) (by decide)⟩
            · exact retN X0 hx (t := .boolean) Bd.returns (by simp) (hb hby d5_52) hr
            · show Q5 Z p0 p1 p2 p3 p4 p5 h0 n0 _ s₁.heap _
              rw [e0]
              exact ⟨(by rw [own_f5, if_neg hc1_1, if_neg hc13_17, if_neg hc25_25, if_pos hc38_29, if_neg hc44_30]), N0, rfl⟩
        · refine own_by (A' := s₁.setTop (mkF m 52 #[.val (.int p0), .val (.int p1), .val (.int p2), .val (.int p3), .val (.int p4), .val (.int p5)] [(.int (0 : Int32))])) (fun t kt => ?_) ?_
          · show Steps p.tables e below (s₁.setTop (mkF m 38 #[.val (.int p0), .val (.int p1), .val (.int p2), .val (.int p3), .val (.int p4), .val (.int p5)] [(.int (3 : Int32)), (.int p1)])) t
            refine XS.icmpYes X0.here hx rfl (pc0 := 38) (pc' := 51) rfl (hb hby d5_38) rfl (flt hc38_29).2.2.2 (by decide) (by decide) ?_
            show Steps p.tables e below (s₁.setTop (mkF m 51 #[.val (.int p0), .val (.int p1), .val (.int p2), .val (.int p3), .val (.int p4), .val (.int p5)] [])) t
            refine XS.iconst X0.here hx rfl (hb hby d5_51) ?_
            exact kt
          obtain ⟨fs, hr, hrun, hended, hW, hsame⟩ := X0.leave (v := some (.int (0 : Int32))) (fun h => by rw [Bd.returns] at h; cases h)
          refine ⟨_, _, ?_, hrun, hended, _, _, rfl, ?_, ⟨_, rfl⟩, hW, hsame.mono (by decide) (by decide)⟩
          · exact retN X0 hx (t := .boolean) Bd.returns (by simp) (hb hby d5_52) hr
          · show Q5 Z p0 p1 p2 p3 p4 p5 h0 n0 _ s₁.heap _
            rw [e0]
            exact ⟨(by rw [own_f5, if_neg hc1_1, if_neg hc13_17, if_neg hc25_25, if_neg hc38_29]), N0, rfl⟩
theorem own_pos (x : Int32) : (x &&& (2147483647 : Int32)) + 1 ≠ 0 := fun q => by
  have h := c_mask x 2147483647 31 (by decide) (by decide)
  have h1 := c_iadd (x &&& (2147483647 : Int32)) 1
  rw [q, show (0 : Int32).toInt = 0 from by decide, show (1 : Int32).toInt = 1 from by decide] at h1
  omega
theorem pd_3 : parseMethodDescriptor "()V" = some ⟨[], none⟩ := by decide +kernel
theorem pd_4 : parseMethodDescriptor "(I)Z" = some ⟨[.int], some .boolean⟩ := by decide +kernel
theorem pd_5 : parseMethodDescriptor "(IIIIII)Z" = some ⟨[.int, .int, .int, .int, .int, .int], some .boolean⟩ := by decide +kernel
theorem ef_rm0 (m : MethodId) (p0 : Int32) (p1 : Int32) (p2 : Int32) (p3 : Int32) (p4 : Int32) (p5 : Int32) : entryFrame m #[(.int p0), (.int p1), (.int p2), (.int p3), (.int p4), (.int p5)] maxLocals = mkF m 0 #[.val (.int p0), .val (.int p1), .val (.int p2), .val (.int p3), .val (.int p4), .val (.int p5), .unset, .unset, .unset, .unset, .unset, .unset, .unset, .unset, .unset, .unset, .unset] [] := by first | (simp [entryFrame, mkF, argsToLocals, Value.category, maxLocals]; done) | rfl
def Q0 (Z : State) (p0 : Int32) (p1 : Int32) (p2 : Int32) (p3 : Int32) (p4 : Int32) (p5 : Int32) (h0 : Heap) (n0 : Nat) (v : Option Value) (h : Heap) (L : List Loc) : Prop := v = some (.int 1) ∧ Fr n0 L
set_option maxRecDepth 65536 in
set_option maxHeartbeats 40000000 in
theorem rm0 (l : Launch) (Z : State) (aw : Array Value) (hw : ∀ d ∈ tables_1, d.before aw Z = true) (ws : List Jvm.Cond) (p0 : Int32) (p1 : Int32) (p2 : Int32) (p3 : Int32) (p4 : Int32) (p5 : Int32) (h0 : Heap) (n0 : Nat) (Z0 : n0 ≤ h0.size) :
    MetFree l x (head1 (Jvm.Cond.code x code maxLocals ret :: ws) room_1) (fun a U => a = #[(.int p0), (.int p1), (.int p2), (.int p3), (.int p4), (.int p5)] ∧ Z.Warmed39 U.vm ∧ U.heap = h0) (fun _ _ _ _ _ => True) (fun _ U o U' => ∃ v L, o = .returned v ∧ Q0 Z p0 p1 p2 p3 p4 p5 h0 n0 v U'.heap L ∧ FrameEnd U o U' L 2 68) := by
  refine MetFree.of_bodySF (plainFor_of_name pn_2) hisR ?_
  intro p e s m args below meth c s₁ Bd hml0 hP hK
  obtain ⟨rfl, hZ, hh⟩ := hP
  have hx := Bd.exec
  have hby := Bd.bytes
  have hml : c.maxLocals = 17 := hml0
  have hown : s.vm.findClass "com/example/corollary/corollary/saturation/TermSetContainsPinLaw" = some m.cls := findClass_of_methodNamed Bd.named
  have hnm := (name_of_methodNamed Bd.named Bd.method).1
  have X0 : Stand p l e room_1 s m #[(.int p0), (.int p1), (.int p2), (.int p3), (.int p4), (.int p5)] below meth c s₁ [] 0 0 := Stand.of_body Bd
  have e0 : s₁.heap = h0 := by rw [← hh, Bd.state]; rfl
  have N0 := Fr.nil n0
  have K0 : Keep h0 h0 [] := Keep.refl _ _
  refine own_by (A' := s₁.setTop (mkF m 0 #[.val (.int p0), .val (.int p1), .val (.int p2), .val (.int p3), .val (.int p4), .val (.int p5), .unset, .unset, .unset, .unset, .unset, .unset, .unset, .unset, .unset, .unset, .unset] [])) (fun t k => castTop (ef_rm0 m p0 p1 p2 p3 p4 p5) k) ?_
  refine own_by (A' := s₁.setTop (mkF m 6 #[.val (.int p0), .val (.int p1), .val (.int p2), .val (.int p3), .val (.int p4), .val (.int p5), .val (.int (p0 &&& (2147483647 : Int32))), .unset, .unset, .unset, .unset, .unset, .unset, .unset, .unset, .unset, .unset] [])) (fun t kt => ?_) ?_
  · show Steps p.tables e below (s₁.setTop (mkF m 0 #[.val (.int p0), .val (.int p1), .val (.int p2), .val (.int p3), .val (.int p4), .val (.int p5), .unset, .unset, .unset, .unset, .unset, .unset, .unset, .unset, .unset, .unset, .unset] [])) t
    refine XS.iloadN X0.here hx rfl (hb hby at_0) rfl ?_
    show Steps p.tables e below (s₁.setTop (mkF m 1 #[.val (.int p0), .val (.int p1), .val (.int p2), .val (.int p3), .val (.int p4), .val (.int p5), .unset, .unset, .unset, .unset, .unset, .unset, .unset, .unset, .unset, .unset, .unset] [(.int p0)])) t
    refine X0.ldcInt hx hown (mvT hZ (hw _ (List.mem_of_getElem? (i := 0) rfl))) (g := (mkF m 1 #[.val (.int p0), .val (.int p1), .val (.int p2), .val (.int p3), .val (.int p4), .val (.int p5), .unset, .unset, .unset, .unset, .unset, .unset, .unset, .unset, .unset, .unset, .unset] [(.int p0)])) rfl (hb hby at_1) _ ?_
    show Steps p.tables e below (s₁.setTop (mkF m 3 #[.val (.int p0), .val (.int p1), .val (.int p2), .val (.int p3), .val (.int p4), .val (.int p5), .unset, .unset, .unset, .unset, .unset, .unset, .unset, .unset, .unset, .unset, .unset] [(.int (2147483647 : Int32)), (.int p0)])) t
    refine XS.iand X0.here hx rfl (hb hby at_3) rfl ?_
    show Steps p.tables e below (s₁.setTop (mkF m 4 #[.val (.int p0), .val (.int p1), .val (.int p2), .val (.int p3), .val (.int p4), .val (.int p5), .unset, .unset, .unset, .unset, .unset, .unset, .unset, .unset, .unset, .unset, .unset] [(.int (p0 &&& (2147483647 : Int32)))])) t
    refine XS.istore X0.here hx rfl (hb hby at_4) rfl (l' := #[.val (.int p0), .val (.int p1), .val (.int p2), .val (.int p3), .val (.int p4), .val (.int p5), .val (.int (p0 &&& (2147483647 : Int32))), .unset, .unset, .unset, .unset, .unset, .unset, .unset, .unset, .unset, .unset]) rfl ?_
    exact kt
  generalize h_t0 : (p0 &&& (2147483647 : Int32)) = t0
  have ht0 := own_pos p0
  rw [h_t0] at ht0
  refine own_by (A' := s₁.setTop (mkF m 12 #[.val (.int p0), .val (.int p1), .val (.int p2), .val (.int p3), .val (.int p4), .val (.int p5), .val (.int t0), .val (.int (p1 &&& (2147483647 : Int32))), .unset, .unset, .unset, .unset, .unset, .unset, .unset, .unset, .unset] [])) (fun t kt => ?_) ?_
  · show Steps p.tables e below (s₁.setTop (mkF m 6 #[.val (.int p0), .val (.int p1), .val (.int p2), .val (.int p3), .val (.int p4), .val (.int p5), .val (.int t0), .unset, .unset, .unset, .unset, .unset, .unset, .unset, .unset, .unset, .unset] [])) t
    refine XS.iloadN X0.here hx rfl (hb hby at_6) rfl ?_
    show Steps p.tables e below (s₁.setTop (mkF m 7 #[.val (.int p0), .val (.int p1), .val (.int p2), .val (.int p3), .val (.int p4), .val (.int p5), .val (.int t0), .unset, .unset, .unset, .unset, .unset, .unset, .unset, .unset, .unset, .unset] [(.int p1)])) t
    refine X0.ldcInt hx hown (mvT hZ (hw _ (List.mem_of_getElem? (i := 0) rfl))) (g := (mkF m 7 #[.val (.int p0), .val (.int p1), .val (.int p2), .val (.int p3), .val (.int p4), .val (.int p5), .val (.int t0), .unset, .unset, .unset, .unset, .unset, .unset, .unset, .unset, .unset, .unset] [(.int p1)])) rfl (hb hby at_7) _ ?_
    show Steps p.tables e below (s₁.setTop (mkF m 9 #[.val (.int p0), .val (.int p1), .val (.int p2), .val (.int p3), .val (.int p4), .val (.int p5), .val (.int t0), .unset, .unset, .unset, .unset, .unset, .unset, .unset, .unset, .unset, .unset] [(.int (2147483647 : Int32)), (.int p1)])) t
    refine XS.iand X0.here hx rfl (hb hby at_9) rfl ?_
    show Steps p.tables e below (s₁.setTop (mkF m 10 #[.val (.int p0), .val (.int p1), .val (.int p2), .val (.int p3), .val (.int p4), .val (.int p5), .val (.int t0), .unset, .unset, .unset, .unset, .unset, .unset, .unset, .unset, .unset, .unset] [(.int (p1 &&& (2147483647 : Int32)))])) t
    refine XS.istore X0.here hx rfl (hb hby at_10) rfl (l' := #[.val (.int p0), .val (.int p1), .val (.int p2), .val (.int p3), .val (.int p4), .val (.int p5), .val (.int t0), .val (.int (p1 &&& (2147483647 : Int32))), .unset, .unset, .unset, .unset, .unset, .unset, .unset, .unset, .unset]) rfl ?_
    exact kt
  generalize h_t1 : (p1 &&& (2147483647 : Int32)) = t1
  have ht1 := own_pos p1
  rw [h_t1] at ht1
  refine own_by (A' := s₁.setTop (mkF m 18 #[.val (.int p0), .val (.int p1), .val (.int p2), .val (.int p3), .val (.int p4), .val (.int p5), .val (.int t0), .val (.int t1), .val (.int (p2 &&& (2147483647 : Int32))), .unset, .unset, .unset, .unset, .unset, .unset, .unset, .unset] [])) (fun t kt => ?_) ?_
  · show Steps p.tables e below (s₁.setTop (mkF m 12 #[.val (.int p0), .val (.int p1), .val (.int p2), .val (.int p3), .val (.int p4), .val (.int p5), .val (.int t0), .val (.int t1), .unset, .unset, .unset, .unset, .unset, .unset, .unset, .unset, .unset] [])) t
    refine XS.iloadN X0.here hx rfl (hb hby at_12) rfl ?_
    show Steps p.tables e below (s₁.setTop (mkF m 13 #[.val (.int p0), .val (.int p1), .val (.int p2), .val (.int p3), .val (.int p4), .val (.int p5), .val (.int t0), .val (.int t1), .unset, .unset, .unset, .unset, .unset, .unset, .unset, .unset, .unset] [(.int p2)])) t
    refine X0.ldcInt hx hown (mvT hZ (hw _ (List.mem_of_getElem? (i := 0) rfl))) (g := (mkF m 13 #[.val (.int p0), .val (.int p1), .val (.int p2), .val (.int p3), .val (.int p4), .val (.int p5), .val (.int t0), .val (.int t1), .unset, .unset, .unset, .unset, .unset, .unset, .unset, .unset, .unset] [(.int p2)])) rfl (hb hby at_13) _ ?_
    show Steps p.tables e below (s₁.setTop (mkF m 15 #[.val (.int p0), .val (.int p1), .val (.int p2), .val (.int p3), .val (.int p4), .val (.int p5), .val (.int t0), .val (.int t1), .unset, .unset, .unset, .unset, .unset, .unset, .unset, .unset, .unset] [(.int (2147483647 : Int32)), (.int p2)])) t
    refine XS.iand X0.here hx rfl (hb hby at_15) rfl ?_
    show Steps p.tables e below (s₁.setTop (mkF m 16 #[.val (.int p0), .val (.int p1), .val (.int p2), .val (.int p3), .val (.int p4), .val (.int p5), .val (.int t0), .val (.int t1), .unset, .unset, .unset, .unset, .unset, .unset, .unset, .unset, .unset] [(.int (p2 &&& (2147483647 : Int32)))])) t
    refine XS.istore X0.here hx rfl (hb hby at_16) rfl (l' := #[.val (.int p0), .val (.int p1), .val (.int p2), .val (.int p3), .val (.int p4), .val (.int p5), .val (.int t0), .val (.int t1), .val (.int (p2 &&& (2147483647 : Int32))), .unset, .unset, .unset, .unset, .unset, .unset, .unset, .unset]) rfl ?_
    exact kt
  generalize h_t2 : (p2 &&& (2147483647 : Int32)) = t2
  have ht2 := own_pos p2
  rw [h_t2] at ht2
  refine own_by (A' := s₁.setTop (mkF m 24 #[.val (.int p0), .val (.int p1), .val (.int p2), .val (.int p3), .val (.int p4), .val (.int p5), .val (.int t0), .val (.int t1), .val (.int t2), .val (.int (p3 &&& (2147483647 : Int32))), .unset, .unset, .unset, .unset, .unset, .unset, .unset] [])) (fun t kt => ?_) ?_
  · show Steps p.tables e below (s₁.setTop (mkF m 18 #[.val (.int p0), .val (.int p1), .val (.int p2), .val (.int p3), .val (.int p4), .val (.int p5), .val (.int t0), .val (.int t1), .val (.int t2), .unset, .unset, .unset, .unset, .unset, .unset, .unset, .unset] [])) t
    refine XS.iloadN X0.here hx rfl (hb hby at_18) rfl ?_
    show Steps p.tables e below (s₁.setTop (mkF m 19 #[.val (.int p0), .val (.int p1), .val (.int p2), .val (.int p3), .val (.int p4), .val (.int p5), .val (.int t0), .val (.int t1), .val (.int t2), .unset, .unset, .unset, .unset, .unset, .unset, .unset, .unset] [(.int p3)])) t
    refine X0.ldcInt hx hown (mvT hZ (hw _ (List.mem_of_getElem? (i := 0) rfl))) (g := (mkF m 19 #[.val (.int p0), .val (.int p1), .val (.int p2), .val (.int p3), .val (.int p4), .val (.int p5), .val (.int t0), .val (.int t1), .val (.int t2), .unset, .unset, .unset, .unset, .unset, .unset, .unset, .unset] [(.int p3)])) rfl (hb hby at_19) _ ?_
    show Steps p.tables e below (s₁.setTop (mkF m 21 #[.val (.int p0), .val (.int p1), .val (.int p2), .val (.int p3), .val (.int p4), .val (.int p5), .val (.int t0), .val (.int t1), .val (.int t2), .unset, .unset, .unset, .unset, .unset, .unset, .unset, .unset] [(.int (2147483647 : Int32)), (.int p3)])) t
    refine XS.iand X0.here hx rfl (hb hby at_21) rfl ?_
    show Steps p.tables e below (s₁.setTop (mkF m 22 #[.val (.int p0), .val (.int p1), .val (.int p2), .val (.int p3), .val (.int p4), .val (.int p5), .val (.int t0), .val (.int t1), .val (.int t2), .unset, .unset, .unset, .unset, .unset, .unset, .unset, .unset] [(.int (p3 &&& (2147483647 : Int32)))])) t
    refine XS.istore X0.here hx rfl (hb hby at_22) rfl (l' := #[.val (.int p0), .val (.int p1), .val (.int p2), .val (.int p3), .val (.int p4), .val (.int p5), .val (.int t0), .val (.int t1), .val (.int t2), .val (.int (p3 &&& (2147483647 : Int32))), .unset, .unset, .unset, .unset, .unset, .unset, .unset]) rfl ?_
    exact kt
  generalize h_t3 : (p3 &&& (2147483647 : Int32)) = t3
  have ht3 := own_pos p3
  rw [h_t3] at ht3
  refine own_by (A' := s₁.setTop (mkF m 31 #[.val (.int p0), .val (.int p1), .val (.int p2), .val (.int p3), .val (.int p4), .val (.int p5), .val (.int t0), .val (.int t1), .val (.int t2), .val (.int t3), .val (.int (p4 &&& (2147483647 : Int32))), .unset, .unset, .unset, .unset, .unset, .unset] [])) (fun t kt => ?_) ?_
  · show Steps p.tables e below (s₁.setTop (mkF m 24 #[.val (.int p0), .val (.int p1), .val (.int p2), .val (.int p3), .val (.int p4), .val (.int p5), .val (.int t0), .val (.int t1), .val (.int t2), .val (.int t3), .unset, .unset, .unset, .unset, .unset, .unset, .unset] [])) t
    refine XS.iload X0.here hx rfl (hb hby at_24) rfl ?_
    show Steps p.tables e below (s₁.setTop (mkF m 26 #[.val (.int p0), .val (.int p1), .val (.int p2), .val (.int p3), .val (.int p4), .val (.int p5), .val (.int t0), .val (.int t1), .val (.int t2), .val (.int t3), .unset, .unset, .unset, .unset, .unset, .unset, .unset] [(.int p4)])) t
    refine X0.ldcInt hx hown (mvT hZ (hw _ (List.mem_of_getElem? (i := 0) rfl))) (g := (mkF m 26 #[.val (.int p0), .val (.int p1), .val (.int p2), .val (.int p3), .val (.int p4), .val (.int p5), .val (.int t0), .val (.int t1), .val (.int t2), .val (.int t3), .unset, .unset, .unset, .unset, .unset, .unset, .unset] [(.int p4)])) rfl (hb hby at_26) _ ?_
    show Steps p.tables e below (s₁.setTop (mkF m 28 #[.val (.int p0), .val (.int p1), .val (.int p2), .val (.int p3), .val (.int p4), .val (.int p5), .val (.int t0), .val (.int t1), .val (.int t2), .val (.int t3), .unset, .unset, .unset, .unset, .unset, .unset, .unset] [(.int (2147483647 : Int32)), (.int p4)])) t
    refine XS.iand X0.here hx rfl (hb hby at_28) rfl ?_
    show Steps p.tables e below (s₁.setTop (mkF m 29 #[.val (.int p0), .val (.int p1), .val (.int p2), .val (.int p3), .val (.int p4), .val (.int p5), .val (.int t0), .val (.int t1), .val (.int t2), .val (.int t3), .unset, .unset, .unset, .unset, .unset, .unset, .unset] [(.int (p4 &&& (2147483647 : Int32)))])) t
    refine XS.istore X0.here hx rfl (hb hby at_29) rfl (l' := #[.val (.int p0), .val (.int p1), .val (.int p2), .val (.int p3), .val (.int p4), .val (.int p5), .val (.int t0), .val (.int t1), .val (.int t2), .val (.int t3), .val (.int (p4 &&& (2147483647 : Int32))), .unset, .unset, .unset, .unset, .unset, .unset]) rfl ?_
    exact kt
  generalize h_tq : (p4 &&& (2147483647 : Int32)) = tq
  have htq := own_pos p4
  rw [h_tq] at htq
  refine own_by (A' := s₁.setTop (mkF m 42 #[.val (.int p0), .val (.int p1), .val (.int p2), .val (.int p3), .val (.int p4), .val (.int p5), .val (.int t0), .val (.int t1), .val (.int t2), .val (.int t3), .val (.int tq), .val (.int ((((p5.toUInt32 >>> ((3 : Int32) &&& 31).toUInt32).toInt32) &&& (7 : Int32)) % (5 : Int32))), .unset, .unset, .unset, .unset, .unset] [])) (fun t kt => ?_) ?_
  · show Steps p.tables e below (s₁.setTop (mkF m 31 #[.val (.int p0), .val (.int p1), .val (.int p2), .val (.int p3), .val (.int p4), .val (.int p5), .val (.int t0), .val (.int t1), .val (.int t2), .val (.int t3), .val (.int tq), .unset, .unset, .unset, .unset, .unset, .unset] [])) t
    refine XS.iload X0.here hx rfl (hb hby at_31) rfl ?_
    show Steps p.tables e below (s₁.setTop (mkF m 33 #[.val (.int p0), .val (.int p1), .val (.int p2), .val (.int p3), .val (.int p4), .val (.int p5), .val (.int t0), .val (.int t1), .val (.int t2), .val (.int t3), .val (.int tq), .unset, .unset, .unset, .unset, .unset, .unset] [(.int p5)])) t
    refine XS.iconst X0.here hx rfl (hb hby at_33) ?_
    show Steps p.tables e below (s₁.setTop (mkF m 34 #[.val (.int p0), .val (.int p1), .val (.int p2), .val (.int p3), .val (.int p4), .val (.int p5), .val (.int t0), .val (.int t1), .val (.int t2), .val (.int t3), .val (.int tq), .unset, .unset, .unset, .unset, .unset, .unset] [(.int (3 : Int32)), (.int p5)])) t
    refine XS.iushr X0.here hx rfl (hb hby at_34) rfl ?_
    show Steps p.tables e below (s₁.setTop (mkF m 35 #[.val (.int p0), .val (.int p1), .val (.int p2), .val (.int p3), .val (.int p4), .val (.int p5), .val (.int t0), .val (.int t1), .val (.int t2), .val (.int t3), .val (.int tq), .unset, .unset, .unset, .unset, .unset, .unset] [(.int ((p5.toUInt32 >>> ((3 : Int32) &&& 31).toUInt32).toInt32))])) t
    refine XS.bipush X0.here hx rfl (hb hby at_35) ?_
    show Steps p.tables e below (s₁.setTop (mkF m 37 #[.val (.int p0), .val (.int p1), .val (.int p2), .val (.int p3), .val (.int p4), .val (.int p5), .val (.int t0), .val (.int t1), .val (.int t2), .val (.int t3), .val (.int tq), .unset, .unset, .unset, .unset, .unset, .unset] [(.int (7 : Int32)), (.int ((p5.toUInt32 >>> ((3 : Int32) &&& 31).toUInt32).toInt32))])) t
    refine XS.iand X0.here hx rfl (hb hby at_37) rfl ?_
    show Steps p.tables e below (s₁.setTop (mkF m 38 #[.val (.int p0), .val (.int p1), .val (.int p2), .val (.int p3), .val (.int p4), .val (.int p5), .val (.int t0), .val (.int t1), .val (.int t2), .val (.int t3), .val (.int tq), .unset, .unset, .unset, .unset, .unset, .unset] [(.int (((p5.toUInt32 >>> ((3 : Int32) &&& 31).toUInt32).toInt32) &&& (7 : Int32)))])) t
    refine XS.iconst X0.here hx rfl (hb hby at_38) ?_
    show Steps p.tables e below (s₁.setTop (mkF m 39 #[.val (.int p0), .val (.int p1), .val (.int p2), .val (.int p3), .val (.int p4), .val (.int p5), .val (.int t0), .val (.int t1), .val (.int t2), .val (.int t3), .val (.int tq), .unset, .unset, .unset, .unset, .unset, .unset] [(.int (5 : Int32)), (.int (((p5.toUInt32 >>> ((3 : Int32) &&& 31).toUInt32).toInt32) &&& (7 : Int32)))])) t
    refine iremM X0 hx rfl (hb hby at_39) rfl (by decide) ?_
    show Steps p.tables e below (s₁.setTop (mkF m 40 #[.val (.int p0), .val (.int p1), .val (.int p2), .val (.int p3), .val (.int p4), .val (.int p5), .val (.int t0), .val (.int t1), .val (.int t2), .val (.int t3), .val (.int tq), .unset, .unset, .unset, .unset, .unset, .unset] [(.int ((((p5.toUInt32 >>> ((3 : Int32) &&& 31).toUInt32).toInt32) &&& (7 : Int32)) % (5 : Int32)))])) t
    refine XS.istore X0.here hx rfl (hb hby at_40) rfl (l' := #[.val (.int p0), .val (.int p1), .val (.int p2), .val (.int p3), .val (.int p4), .val (.int p5), .val (.int t0), .val (.int t1), .val (.int t2), .val (.int t3), .val (.int tq), .val (.int ((((p5.toUInt32 >>> ((3 : Int32) &&& 31).toUInt32).toInt32) &&& (7 : Int32)) % (5 : Int32))), .unset, .unset, .unset, .unset, .unset]) rfl ?_
    exact kt
  generalize h_vc : ((((p5.toUInt32 >>> ((3 : Int32) &&& 31).toUInt32).toInt32) &&& (7 : Int32)) % (5 : Int32)) = vc
  obtain ⟨T1, h1, X1, e1, E1, A1, D1, -, st1⟩ := newO X0 hx hZ hown (hw _ (List.mem_of_getElem? (i := 1) rfl)) (hw _ (List.mem_of_getElem? (i := 2) rfl)) (hw _ (List.mem_of_getElem? (i := 3) rfl)) e0 (g := (mkF m 42 #[.val (.int p0), .val (.int p1), .val (.int p2), .val (.int p3), .val (.int p4), .val (.int p5), .val (.int t0), .val (.int t1), .val (.int t2), .val (.int t3), .val (.int tq), .val (.int vc), .unset, .unset, .unset, .unset, .unset] [])) rfl (hb hby at_42) (by decide) (by decide)
  obtain ⟨b1, g1⟩ : ∃ z, z = h0.size := ⟨_, rfl⟩
  rw [← g1] at A1 D1 st1
  have sz_b1 : h0.size ≤ b1 := Nat.le_trans K0.1 (Nat.le_of_eq g1.symm)
  have g_b1 : n0 ≤ b1 := Nat.le_trans Z0 sz_b1
  have K1 : Keep h0 h1 [] := K0.ext E1
  have F_table_b1 : Fld Z h1 b1 "com/example/corollary/corollary/saturation/TermSet" "table" "[I" .null := D1 (Or.inl (hw _ (List.mem_of_getElem? (i := 12) rfl))) (ty := (.array .int)) (by decide)
  have F_highSummary_b1 : Fld Z h1 b1 "com/example/corollary/corollary/saturation/TermSet" "highSummary" "J" (.long (0 : Int64)) := D1 (Or.inl (hw _ (List.mem_of_getElem? (i := 23) rfl))) (ty := .long) (by decide)
  have F_lowSummary_b1 : Fld Z h1 b1 "com/example/corollary/corollary/saturation/TermSet" "lowSummary" "J" (.long (0 : Int64)) := D1 (Or.inl (hw _ (List.mem_of_getElem? (i := 29) rfl))) (ty := .long) (by decide)
  have F_size_b1 : Fld Z h1 b1 "com/example/corollary/corollary/saturation/TermSet" "size" "I" (.int (0 : Int32)) := D1 (Or.inl (hw _ (List.mem_of_getElem? (i := 36) rfl))) (ty := .int) (by decide)
  refine own_by (A' := T1.setTop (mkF m 45 #[.val (.int p0), .val (.int p1), .val (.int p2), .val (.int p3), .val (.int p4), .val (.int p5), .val (.int t0), .val (.int t1), .val (.int t2), .val (.int t3), .val (.int tq), .val (.int vc), .unset, .unset, .unset, .unset, .unset] [(.ref b1)])) (fun t kt => st1 t kt) ?_
  refine own_by (A' := T1.setTop (mkF m 46 #[.val (.int p0), .val (.int p1), .val (.int p2), .val (.int p3), .val (.int p4), .val (.int p5), .val (.int t0), .val (.int t1), .val (.int t2), .val (.int t3), .val (.int tq), .val (.int vc), .unset, .unset, .unset, .unset, .unset] [(.ref b1), (.ref b1)])) (fun t kt => ?_) ?_
  · show Steps p.tables e below (T1.setTop (mkF m 45 #[.val (.int p0), .val (.int p1), .val (.int p2), .val (.int p3), .val (.int p4), .val (.int p5), .val (.int t0), .val (.int t1), .val (.int t2), .val (.int t3), .val (.int tq), .val (.int vc), .unset, .unset, .unset, .unset, .unset] [(.ref b1)])) t
    refine XS.dup X1.here hx rfl (hb hby at_45) rfl rfl ?_
    exact kt
  obtain ⟨_, _, ⟨T2, L2, k2, n2⟩, -, X2, ⟨Lc2, hQ2, l2, y2, z2⟩, st2⟩ := X1.specialBack hx (y := (⟨"com/example/corollary/corollary/saturation/TermSet", "<init>", "()V"⟩ : MethodName)) rfl hown (mvT hZ (hw _ (List.mem_of_getElem? (i := 4) rfl))) (mvT hZ (hw _ (List.mem_of_getElem? (i := 5) rfl))) (mvT hZ (hw _ (List.mem_of_getElem? (i := 6) rfl))) (by decide) (backOf (W := 1) (rm1 l Z aw hw [] b1 h1 n0 (Nat.le_trans Z0 K1.1) A1 F_table_b1 F_highSummary_b1 F_lowSummary_b1 F_size_b1 g_b1) hZ (hw _ (List.mem_of_getElem? (i := 6) rfl)) (hw _ (List.mem_of_getElem? (i := 3) rfl)) (by decide) (by decide)) (g := (mkF m 46 #[.val (.int p0), .val (.int p1), .val (.int p2), .val (.int p3), .val (.int p4), .val (.int p5), .val (.int t0), .val (.int t1), .val (.int t2), .val (.int t3), .val (.int tq), .val (.int vc), .unset, .unset, .unset, .unset, .unset] [(.ref b1), (.ref b1)])) rfl (by rw [hml]; rfl) (Steps.refl _) (a := b1) (argsL := []) (rest := [(.ref b1)]) (lenOf pd_3 rfl) rfl (by show 2 * 0 + _ ≤ _; exact Nat.le_of_eq rfl) (hb hby at_46) (fun _ _ => ⟨rfl, e1, (by decide : 1 + 1 ≤ _), (by decide : 4 + 64 ≤ _)⟩)
  dsimp only [Pt.U, Pt.locs, Pt.cells, Pt.slots] at X2 l2 y2 z2 st2 hQ2
  subst l2 y2 z2
  obtain ⟨b2, rfl, N2q, Kq2, le2, GE2, G12, G22, G32, G42, V2⟩ := hQ2
  have N2 := Fr.app N0 N2q
  have sz_b2 : h0.size ≤ b2 := Nat.le_trans K1.1 le2
  have g_b2 : n0 ≤ b2 := Nat.le_trans Z0 sz_b2
  have K2 : Keep h0 T2.heap [] := K1.trans Kq2 (allS (Or.inr sz_b1) all0)
  refine own_by (A' := T2.setTop (mkF m 49 #[.val (.int p0), .val (.int p1), .val (.int p2), .val (.int p3), .val (.int p4), .val (.int p5), .val (.int t0), .val (.int t1), .val (.int t2), .val (.int t3), .val (.int tq), .val (.int vc), .unset, .unset, .unset, .unset, .unset] [(.ref b1)])) (fun t kt => st2.trans kt) ?_
  refine own_by (A' := T2.setTop (mkF m 53 #[.val (.int p0), .val (.int p1), .val (.int p2), .val (.int p3), .val (.int p4), .val (.int p5), .val (.int t0), .val (.int t1), .val (.int t2), .val (.int t3), .val (.int tq), .val (.int vc), .val (.ref b1), .unset, .unset, .unset, .unset] [(.int vc)])) (fun t kt => ?_) ?_
  · show Steps p.tables e below (T2.setTop (mkF m 49 #[.val (.int p0), .val (.int p1), .val (.int p2), .val (.int p3), .val (.int p4), .val (.int p5), .val (.int t0), .val (.int t1), .val (.int t2), .val (.int t3), .val (.int tq), .val (.int vc), .unset, .unset, .unset, .unset, .unset] [(.ref b1)])) t
    refine XS.astore X2.here hx rfl (hb hby at_49) rfl rfl (l' := #[.val (.int p0), .val (.int p1), .val (.int p2), .val (.int p3), .val (.int p4), .val (.int p5), .val (.int t0), .val (.int t1), .val (.int t2), .val (.int t3), .val (.int tq), .val (.int vc), .val (.ref b1), .unset, .unset, .unset, .unset]) rfl ?_
    show Steps p.tables e below (T2.setTop (mkF m 51 #[.val (.int p0), .val (.int p1), .val (.int p2), .val (.int p3), .val (.int p4), .val (.int p5), .val (.int t0), .val (.int t1), .val (.int t2), .val (.int t3), .val (.int tq), .val (.int vc), .val (.ref b1), .unset, .unset, .unset, .unset] [])) t
    refine XS.iload X2.here hx rfl (hb hby at_51) rfl ?_
    exact kt
  by_cases hc53_3 : (0 : Int32) < vc
  · refine own_by (A' := T2.setTop (mkF m 60 #[.val (.int p0), .val (.int p1), .val (.int p2), .val (.int p3), .val (.int p4), .val (.int p5), .val (.int t0), .val (.int t1), .val (.int t2), .val (.int t3), .val (.int tq), .val (.int vc), .val (.ref b1), .unset, .unset, .unset, .unset] [(.int t0), (.ref b1)])) (fun t kt => ?_) ?_
    · show Steps p.tables e below (T2.setTop (mkF m 53 #[.val (.int p0), .val (.int p1), .val (.int p2), .val (.int p3), .val (.int p4), .val (.int p5), .val (.int t0), .val (.int t1), .val (.int t2), .val (.int t3), .val (.int tq), .val (.int vc), .val (.ref b1), .unset, .unset, .unset, .unset] [(.int vc)])) t
      refine XS.ifNo X2.here hx rfl (hb hby at_53) rfl ((if0 _ _).trans (tlt hc53_3).2.2.2) ?_
      show Steps p.tables e below (T2.setTop (mkF m 56 #[.val (.int p0), .val (.int p1), .val (.int p2), .val (.int p3), .val (.int p4), .val (.int p5), .val (.int t0), .val (.int t1), .val (.int t2), .val (.int t3), .val (.int tq), .val (.int vc), .val (.ref b1), .unset, .unset, .unset, .unset] [])) t
      refine XS.aload X2.here hx rfl (hb hby at_56) rfl rfl ?_
      show Steps p.tables e below (T2.setTop (mkF m 58 #[.val (.int p0), .val (.int p1), .val (.int p2), .val (.int p3), .val (.int p4), .val (.int p5), .val (.int t0), .val (.int t1), .val (.int t2), .val (.int t3), .val (.int tq), .val (.int vc), .val (.ref b1), .unset, .unset, .unset, .unset] [(.ref b1)])) t
      refine XS.iload X2.here hx rfl (hb hby at_58) rfl ?_
      exact kt
    obtain ⟨cq4, kq4, q4a, q4b, q4c⟩ := isOf hZ rfl GE2
    obtain ⟨_, _, ⟨T4, L4, k4, n4⟩, -, X4, ⟨Lc4, hQ4, l4, y4, z4⟩, st4⟩ := X2.virtualBack hx (y := (⟨"com/example/corollary/corollary/saturation/TermSet", "add", "(I)Z"⟩ : MethodName)) (z := (⟨"com/example/corollary/corollary/saturation/TermSet", "add", "(I)Z"⟩ : MethodName)) hown (mvT hZ (hw _ (List.mem_of_getElem? (i := 30) rfl))) (mvT hZ (hw _ (List.mem_of_getElem? (i := 31) rfl))) (notFace_of_selects (args := #[]) (mvT hZ (hw _ (List.mem_of_getElem? (i := 33) rfl)))) (mvT hZ (hw _ (List.mem_of_getElem? (i := 33) rfl))) (mvT hZ (hw _ (List.mem_of_getElem? (i := 32) rfl))) (by decide) (backOf (W := 0) (rm6 l Z aw hw [] b1 t0 b2 (fun _ => (0 : Int32)) (0 : Int64) (0 : Int64) (0 : Int32) [] T2.heap n0 (Nat.le_trans Z0 K2.1) GE2 G12 G22 G32 G42 V2 own_empty (Nat.le_of_ble_eq_true rfl) g_b1 g_b2 (Nat.ne_of_lt (Nat.lt_of_lt_of_le (A1).lt le2)) ht0) hZ (hw _ (List.mem_of_getElem? (i := 34) rfl)) (hw _ (List.mem_of_getElem? (i := 3) rfl)) (by decide) (by decide)) q4a q4c (g := (mkF m 60 #[.val (.int p0), .val (.int p1), .val (.int p2), .val (.int p3), .val (.int p4), .val (.int p5), .val (.int t0), .val (.int t1), .val (.int t2), .val (.int t3), .val (.int tq), .val (.int vc), .val (.ref b1), .unset, .unset, .unset, .unset] [(.int t0), (.ref b1)])) rfl (by rw [hml]; rfl) (Steps.refl _) (argsL := [(.int t0)]) (rest := []) (lenOf pd_4 rfl) rfl (by show 2 * 0 + _ ≤ _; exact Nat.le_of_eq rfl) (hb hby at_60) (fun _ _ => ⟨rfl, rfl, (by decide : 2 + 0 ≤ _), (by decide : 68 + 0 ≤ _)⟩)
    dsimp only [Pt.U, Pt.locs, Pt.cells, Pt.slots] at X4 l4 y4 z4 st4 hQ4
    subst l4 y4 z4
    obtain ⟨f4, lo4, hi4, sz4, rfl, N4q, Kq4, GE4, G14, G24, G34, G44, V4, I4, hsz4⟩ := hQ4
    have N4 := Fr.app N2 N4q
    have K4 : Keep h0 T4.heap [] := K2.trans Kq4 (allS (Or.inr sz_b1) (allS (Or.inr sz_b2) all0))
    refine own_by (A' := T4.setTop (mkF m 63 #[.val (.int p0), .val (.int p1), .val (.int p2), .val (.int p3), .val (.int p4), .val (.int p5), .val (.int t0), .val (.int t1), .val (.int t2), .val (.int t3), .val (.int tq), .val (.int vc), .val (.ref b1), .unset, .unset, .unset, .unset] [(.int (if t0 ∈ ([] : List Int32) then (0 : Int32) else (1 : Int32)))])) (fun t kt => st4.trans kt) ?_
    refine own_by (A' := T4.setTop (mkF m 67 #[.val (.int p0), .val (.int p1), .val (.int p2), .val (.int p3), .val (.int p4), .val (.int p5), .val (.int t0), .val (.int t1), .val (.int t2), .val (.int t3), .val (.int tq), .val (.int vc), .val (.ref b1), .unset, .unset, .unset, .unset] [(.int (1 : Int32)), (.int vc)])) (fun t kt => ?_) ?_
    · show Steps p.tables e below (T4.setTop (mkF m 63 #[.val (.int p0), .val (.int p1), .val (.int p2), .val (.int p3), .val (.int p4), .val (.int p5), .val (.int t0), .val (.int t1), .val (.int t2), .val (.int t3), .val (.int tq), .val (.int vc), .val (.ref b1), .unset, .unset, .unset, .unset] [(.int (if t0 ∈ ([] : List Int32) then (0 : Int32) else (1 : Int32)))])) t
      refine XS.pop X4.here hx rfl (hb hby at_63) rfl rfl ?_
      show Steps p.tables e below (T4.setTop (mkF m 64 #[.val (.int p0), .val (.int p1), .val (.int p2), .val (.int p3), .val (.int p4), .val (.int p5), .val (.int t0), .val (.int t1), .val (.int t2), .val (.int t3), .val (.int tq), .val (.int vc), .val (.ref b1), .unset, .unset, .unset, .unset] [])) t
      refine XS.iload X4.here hx rfl (hb hby at_64) rfl ?_
      show Steps p.tables e below (T4.setTop (mkF m 66 #[.val (.int p0), .val (.int p1), .val (.int p2), .val (.int p3), .val (.int p4), .val (.int p5), .val (.int t0), .val (.int t1), .val (.int t2), .val (.int t3), .val (.int tq), .val (.int vc), .val (.ref b1), .unset, .unset, .unset, .unset] [(.int vc)])) t
      refine XS.iconst X4.here hx rfl (hb hby at_66) ?_
      exact kt
    by_cases hc67_5 : (1 : Int32) < vc
    · refine own_by (A' := T4.setTop (mkF m 74 #[.val (.int p0), .val (.int p1), .val (.int p2), .val (.int p3), .val (.int p4), .val (.int p5), .val (.int t0), .val (.int t1), .val (.int t2), .val (.int t3), .val (.int tq), .val (.int vc), .val (.ref b1), .unset, .unset, .unset, .unset] [(.int t1), (.ref b1)])) (fun t kt => ?_) ?_
      · show Steps p.tables e below (T4.setTop (mkF m 67 #[.val (.int p0), .val (.int p1), .val (.int p2), .val (.int p3), .val (.int p4), .val (.int p5), .val (.int t0), .val (.int t1), .val (.int t2), .val (.int t3), .val (.int tq), .val (.int vc), .val (.ref b1), .unset, .unset, .unset, .unset] [(.int (1 : Int32)), (.int vc)])) t
        refine XS.icmpNo X4.here hx rfl (hb hby at_67) rfl (tlt hc67_5).2.2.2 ?_
        show Steps p.tables e below (T4.setTop (mkF m 70 #[.val (.int p0), .val (.int p1), .val (.int p2), .val (.int p3), .val (.int p4), .val (.int p5), .val (.int t0), .val (.int t1), .val (.int t2), .val (.int t3), .val (.int tq), .val (.int vc), .val (.ref b1), .unset, .unset, .unset, .unset] [])) t
        refine XS.aload X4.here hx rfl (hb hby at_70) rfl rfl ?_
        show Steps p.tables e below (T4.setTop (mkF m 72 #[.val (.int p0), .val (.int p1), .val (.int p2), .val (.int p3), .val (.int p4), .val (.int p5), .val (.int t0), .val (.int t1), .val (.int t2), .val (.int t3), .val (.int tq), .val (.int vc), .val (.ref b1), .unset, .unset, .unset, .unset] [(.ref b1)])) t
        refine XS.iload X4.here hx rfl (hb hby at_72) rfl ?_
        exact kt
      obtain ⟨cq6, kq6, q6a, q6b, q6c⟩ := isOf hZ rfl GE4
      obtain ⟨_, _, ⟨T6, L6, k6, n6⟩, -, X6, ⟨Lc6, hQ6, l6, y6, z6⟩, st6⟩ := X4.virtualBack hx (y := (⟨"com/example/corollary/corollary/saturation/TermSet", "add", "(I)Z"⟩ : MethodName)) (z := (⟨"com/example/corollary/corollary/saturation/TermSet", "add", "(I)Z"⟩ : MethodName)) hown (mvT hZ (hw _ (List.mem_of_getElem? (i := 30) rfl))) (mvT hZ (hw _ (List.mem_of_getElem? (i := 31) rfl))) (notFace_of_selects (args := #[]) (mvT hZ (hw _ (List.mem_of_getElem? (i := 33) rfl)))) (mvT hZ (hw _ (List.mem_of_getElem? (i := 33) rfl))) (mvT hZ (hw _ (List.mem_of_getElem? (i := 32) rfl))) (by decide) (backOf (W := 0) (rm6 l Z aw hw [] b1 t1 b2 f4 lo4 hi4 sz4 (t0 :: []) T4.heap n0 (Nat.le_trans Z0 K4.1) GE4 G14 G24 G34 G44 V4 I4 (Nat.le_of_ble_eq_true rfl) g_b1 g_b2 (Nat.ne_of_lt (Nat.lt_of_lt_of_le (A1).lt le2)) ht1) hZ (hw _ (List.mem_of_getElem? (i := 34) rfl)) (hw _ (List.mem_of_getElem? (i := 3) rfl)) (by decide) (by decide)) q6a q6c (g := (mkF m 74 #[.val (.int p0), .val (.int p1), .val (.int p2), .val (.int p3), .val (.int p4), .val (.int p5), .val (.int t0), .val (.int t1), .val (.int t2), .val (.int t3), .val (.int tq), .val (.int vc), .val (.ref b1), .unset, .unset, .unset, .unset] [(.int t1), (.ref b1)])) rfl (by rw [hml]; rfl) (Steps.refl _) (argsL := [(.int t1)]) (rest := []) (lenOf pd_4 rfl) rfl (by show 2 * 0 + _ ≤ _; exact Nat.le_of_eq rfl) (hb hby at_74) (fun _ _ => ⟨rfl, rfl, (by decide : 2 + 0 ≤ _), (by decide : 68 + 0 ≤ _)⟩)
      dsimp only [Pt.U, Pt.locs, Pt.cells, Pt.slots] at X6 l6 y6 z6 st6 hQ6
      subst l6 y6 z6
      obtain ⟨f6, lo6, hi6, sz6, rfl, N6q, Kq6, GE6, G16, G26, G36, G46, V6, I6, hsz6⟩ := hQ6
      have N6 := Fr.app N4 N6q
      have K6 : Keep h0 T6.heap [] := K4.trans Kq6 (allS (Or.inr sz_b1) (allS (Or.inr sz_b2) all0))
      refine own_by (A' := T6.setTop (mkF m 77 #[.val (.int p0), .val (.int p1), .val (.int p2), .val (.int p3), .val (.int p4), .val (.int p5), .val (.int t0), .val (.int t1), .val (.int t2), .val (.int t3), .val (.int tq), .val (.int vc), .val (.ref b1), .unset, .unset, .unset, .unset] [(.int (if t1 ∈ ((t0 :: []) : List Int32) then (0 : Int32) else (1 : Int32)))])) (fun t kt => st6.trans kt) ?_
      refine own_by (A' := T6.setTop (mkF m 81 #[.val (.int p0), .val (.int p1), .val (.int p2), .val (.int p3), .val (.int p4), .val (.int p5), .val (.int t0), .val (.int t1), .val (.int t2), .val (.int t3), .val (.int tq), .val (.int vc), .val (.ref b1), .unset, .unset, .unset, .unset] [(.int (2 : Int32)), (.int vc)])) (fun t kt => ?_) ?_
      · show Steps p.tables e below (T6.setTop (mkF m 77 #[.val (.int p0), .val (.int p1), .val (.int p2), .val (.int p3), .val (.int p4), .val (.int p5), .val (.int t0), .val (.int t1), .val (.int t2), .val (.int t3), .val (.int tq), .val (.int vc), .val (.ref b1), .unset, .unset, .unset, .unset] [(.int (if t1 ∈ ((t0 :: []) : List Int32) then (0 : Int32) else (1 : Int32)))])) t
        refine XS.pop X6.here hx rfl (hb hby at_77) rfl rfl ?_
        show Steps p.tables e below (T6.setTop (mkF m 78 #[.val (.int p0), .val (.int p1), .val (.int p2), .val (.int p3), .val (.int p4), .val (.int p5), .val (.int t0), .val (.int t1), .val (.int t2), .val (.int t3), .val (.int tq), .val (.int vc), .val (.ref b1), .unset, .unset, .unset, .unset] [])) t
        refine XS.iload X6.here hx rfl (hb hby at_78) rfl ?_
        show Steps p.tables e below (T6.setTop (mkF m 80 #[.val (.int p0), .val (.int p1), .val (.int p2), .val (.int p3), .val (.int p4), .val (.int p5), .val (.int t0), .val (.int t1), .val (.int t2), .val (.int t3), .val (.int tq), .val (.int vc), .val (.ref b1), .unset, .unset, .unset, .unset] [(.int vc)])) t
        refine XS.iconst X6.here hx rfl (hb hby at_80) ?_
        exact kt
      by_cases hc81_7 : (2 : Int32) < vc
      · refine own_by (A' := T6.setTop (mkF m 88 #[.val (.int p0), .val (.int p1), .val (.int p2), .val (.int p3), .val (.int p4), .val (.int p5), .val (.int t0), .val (.int t1), .val (.int t2), .val (.int t3), .val (.int tq), .val (.int vc), .val (.ref b1), .unset, .unset, .unset, .unset] [(.int t2), (.ref b1)])) (fun t kt => ?_) ?_
        · show Steps p.tables e below (T6.setTop (mkF m 81 #[.val (.int p0), .val (.int p1), .val (.int p2), .val (.int p3), .val (.int p4), .val (.int p5), .val (.int t0), .val (.int t1), .val (.int t2), .val (.int t3), .val (.int tq), .val (.int vc), .val (.ref b1), .unset, .unset, .unset, .unset] [(.int (2 : Int32)), (.int vc)])) t
          refine XS.icmpNo X6.here hx rfl (hb hby at_81) rfl (tlt hc81_7).2.2.2 ?_
          show Steps p.tables e below (T6.setTop (mkF m 84 #[.val (.int p0), .val (.int p1), .val (.int p2), .val (.int p3), .val (.int p4), .val (.int p5), .val (.int t0), .val (.int t1), .val (.int t2), .val (.int t3), .val (.int tq), .val (.int vc), .val (.ref b1), .unset, .unset, .unset, .unset] [])) t
          refine XS.aload X6.here hx rfl (hb hby at_84) rfl rfl ?_
          show Steps p.tables e below (T6.setTop (mkF m 86 #[.val (.int p0), .val (.int p1), .val (.int p2), .val (.int p3), .val (.int p4), .val (.int p5), .val (.int t0), .val (.int t1), .val (.int t2), .val (.int t3), .val (.int tq), .val (.int vc), .val (.ref b1), .unset, .unset, .unset, .unset] [(.ref b1)])) t
          refine XS.iload X6.here hx rfl (hb hby at_86) rfl ?_
          exact kt
        obtain ⟨cq8, kq8, q8a, q8b, q8c⟩ := isOf hZ rfl GE6
        obtain ⟨_, _, ⟨T8, L8, k8, n8⟩, -, X8, ⟨Lc8, hQ8, l8, y8, z8⟩, st8⟩ := X6.virtualBack hx (y := (⟨"com/example/corollary/corollary/saturation/TermSet", "add", "(I)Z"⟩ : MethodName)) (z := (⟨"com/example/corollary/corollary/saturation/TermSet", "add", "(I)Z"⟩ : MethodName)) hown (mvT hZ (hw _ (List.mem_of_getElem? (i := 30) rfl))) (mvT hZ (hw _ (List.mem_of_getElem? (i := 31) rfl))) (notFace_of_selects (args := #[]) (mvT hZ (hw _ (List.mem_of_getElem? (i := 33) rfl)))) (mvT hZ (hw _ (List.mem_of_getElem? (i := 33) rfl))) (mvT hZ (hw _ (List.mem_of_getElem? (i := 32) rfl))) (by decide) (backOf (W := 0) (rm6 l Z aw hw [] b1 t2 b2 f6 lo6 hi6 sz6 (t1 :: (t0 :: [])) T6.heap n0 (Nat.le_trans Z0 K6.1) GE6 G16 G26 G36 G46 V6 I6 (Nat.le_of_ble_eq_true rfl) g_b1 g_b2 (Nat.ne_of_lt (Nat.lt_of_lt_of_le (A1).lt le2)) ht2) hZ (hw _ (List.mem_of_getElem? (i := 34) rfl)) (hw _ (List.mem_of_getElem? (i := 3) rfl)) (by decide) (by decide)) q8a q8c (g := (mkF m 88 #[.val (.int p0), .val (.int p1), .val (.int p2), .val (.int p3), .val (.int p4), .val (.int p5), .val (.int t0), .val (.int t1), .val (.int t2), .val (.int t3), .val (.int tq), .val (.int vc), .val (.ref b1), .unset, .unset, .unset, .unset] [(.int t2), (.ref b1)])) rfl (by rw [hml]; rfl) (Steps.refl _) (argsL := [(.int t2)]) (rest := []) (lenOf pd_4 rfl) rfl (by show 2 * 0 + _ ≤ _; exact Nat.le_of_eq rfl) (hb hby at_88) (fun _ _ => ⟨rfl, rfl, (by decide : 2 + 0 ≤ _), (by decide : 68 + 0 ≤ _)⟩)
        dsimp only [Pt.U, Pt.locs, Pt.cells, Pt.slots] at X8 l8 y8 z8 st8 hQ8
        subst l8 y8 z8
        obtain ⟨f8, lo8, hi8, sz8, rfl, N8q, Kq8, GE8, G18, G28, G38, G48, V8, I8, hsz8⟩ := hQ8
        have N8 := Fr.app N6 N8q
        have K8 : Keep h0 T8.heap [] := K6.trans Kq8 (allS (Or.inr sz_b1) (allS (Or.inr sz_b2) all0))
        refine own_by (A' := T8.setTop (mkF m 91 #[.val (.int p0), .val (.int p1), .val (.int p2), .val (.int p3), .val (.int p4), .val (.int p5), .val (.int t0), .val (.int t1), .val (.int t2), .val (.int t3), .val (.int tq), .val (.int vc), .val (.ref b1), .unset, .unset, .unset, .unset] [(.int (if t2 ∈ ((t1 :: (t0 :: [])) : List Int32) then (0 : Int32) else (1 : Int32)))])) (fun t kt => st8.trans kt) ?_
        refine own_by (A' := T8.setTop (mkF m 95 #[.val (.int p0), .val (.int p1), .val (.int p2), .val (.int p3), .val (.int p4), .val (.int p5), .val (.int t0), .val (.int t1), .val (.int t2), .val (.int t3), .val (.int tq), .val (.int vc), .val (.ref b1), .unset, .unset, .unset, .unset] [(.int (3 : Int32)), (.int vc)])) (fun t kt => ?_) ?_
        · show Steps p.tables e below (T8.setTop (mkF m 91 #[.val (.int p0), .val (.int p1), .val (.int p2), .val (.int p3), .val (.int p4), .val (.int p5), .val (.int t0), .val (.int t1), .val (.int t2), .val (.int t3), .val (.int tq), .val (.int vc), .val (.ref b1), .unset, .unset, .unset, .unset] [(.int (if t2 ∈ ((t1 :: (t0 :: [])) : List Int32) then (0 : Int32) else (1 : Int32)))])) t
          refine XS.pop X8.here hx rfl (hb hby at_91) rfl rfl ?_
          show Steps p.tables e below (T8.setTop (mkF m 92 #[.val (.int p0), .val (.int p1), .val (.int p2), .val (.int p3), .val (.int p4), .val (.int p5), .val (.int t0), .val (.int t1), .val (.int t2), .val (.int t3), .val (.int tq), .val (.int vc), .val (.ref b1), .unset, .unset, .unset, .unset] [])) t
          refine XS.iload X8.here hx rfl (hb hby at_92) rfl ?_
          show Steps p.tables e below (T8.setTop (mkF m 94 #[.val (.int p0), .val (.int p1), .val (.int p2), .val (.int p3), .val (.int p4), .val (.int p5), .val (.int t0), .val (.int t1), .val (.int t2), .val (.int t3), .val (.int tq), .val (.int vc), .val (.ref b1), .unset, .unset, .unset, .unset] [(.int vc)])) t
          refine XS.iconst X8.here hx rfl (hb hby at_94) ?_
          exact kt
        by_cases hc95_9 : (3 : Int32) < vc
        · refine own_by (A' := T8.setTop (mkF m 102 #[.val (.int p0), .val (.int p1), .val (.int p2), .val (.int p3), .val (.int p4), .val (.int p5), .val (.int t0), .val (.int t1), .val (.int t2), .val (.int t3), .val (.int tq), .val (.int vc), .val (.ref b1), .unset, .unset, .unset, .unset] [(.int t3), (.ref b1)])) (fun t kt => ?_) ?_
          · show Steps p.tables e below (T8.setTop (mkF m 95 #[.val (.int p0), .val (.int p1), .val (.int p2), .val (.int p3), .val (.int p4), .val (.int p5), .val (.int t0), .val (.int t1), .val (.int t2), .val (.int t3), .val (.int tq), .val (.int vc), .val (.ref b1), .unset, .unset, .unset, .unset] [(.int (3 : Int32)), (.int vc)])) t
            refine XS.icmpNo X8.here hx rfl (hb hby at_95) rfl (tlt hc95_9).2.2.2 ?_
            show Steps p.tables e below (T8.setTop (mkF m 98 #[.val (.int p0), .val (.int p1), .val (.int p2), .val (.int p3), .val (.int p4), .val (.int p5), .val (.int t0), .val (.int t1), .val (.int t2), .val (.int t3), .val (.int tq), .val (.int vc), .val (.ref b1), .unset, .unset, .unset, .unset] [])) t
            refine XS.aload X8.here hx rfl (hb hby at_98) rfl rfl ?_
            show Steps p.tables e below (T8.setTop (mkF m 100 #[.val (.int p0), .val (.int p1), .val (.int p2), .val (.int p3), .val (.int p4), .val (.int p5), .val (.int t0), .val (.int t1), .val (.int t2), .val (.int t3), .val (.int tq), .val (.int vc), .val (.ref b1), .unset, .unset, .unset, .unset] [(.ref b1)])) t
            refine XS.iload X8.here hx rfl (hb hby at_100) rfl ?_
            exact kt
          obtain ⟨cq10, kq10, q10a, q10b, q10c⟩ := isOf hZ rfl GE8
          obtain ⟨_, _, ⟨T10, L10, k10, n10⟩, -, X10, ⟨Lc10, hQ10, l10, y10, z10⟩, st10⟩ := X8.virtualBack hx (y := (⟨"com/example/corollary/corollary/saturation/TermSet", "add", "(I)Z"⟩ : MethodName)) (z := (⟨"com/example/corollary/corollary/saturation/TermSet", "add", "(I)Z"⟩ : MethodName)) hown (mvT hZ (hw _ (List.mem_of_getElem? (i := 30) rfl))) (mvT hZ (hw _ (List.mem_of_getElem? (i := 31) rfl))) (notFace_of_selects (args := #[]) (mvT hZ (hw _ (List.mem_of_getElem? (i := 33) rfl)))) (mvT hZ (hw _ (List.mem_of_getElem? (i := 33) rfl))) (mvT hZ (hw _ (List.mem_of_getElem? (i := 32) rfl))) (by decide) (backOf (W := 0) (rm6 l Z aw hw [] b1 t3 b2 f8 lo8 hi8 sz8 (t2 :: (t1 :: (t0 :: []))) T8.heap n0 (Nat.le_trans Z0 K8.1) GE8 G18 G28 G38 G48 V8 I8 (Nat.le_of_ble_eq_true rfl) g_b1 g_b2 (Nat.ne_of_lt (Nat.lt_of_lt_of_le (A1).lt le2)) ht3) hZ (hw _ (List.mem_of_getElem? (i := 34) rfl)) (hw _ (List.mem_of_getElem? (i := 3) rfl)) (by decide) (by decide)) q10a q10c (g := (mkF m 102 #[.val (.int p0), .val (.int p1), .val (.int p2), .val (.int p3), .val (.int p4), .val (.int p5), .val (.int t0), .val (.int t1), .val (.int t2), .val (.int t3), .val (.int tq), .val (.int vc), .val (.ref b1), .unset, .unset, .unset, .unset] [(.int t3), (.ref b1)])) rfl (by rw [hml]; rfl) (Steps.refl _) (argsL := [(.int t3)]) (rest := []) (lenOf pd_4 rfl) rfl (by show 2 * 0 + _ ≤ _; exact Nat.le_of_eq rfl) (hb hby at_102) (fun _ _ => ⟨rfl, rfl, (by decide : 2 + 0 ≤ _), (by decide : 68 + 0 ≤ _)⟩)
          dsimp only [Pt.U, Pt.locs, Pt.cells, Pt.slots] at X10 l10 y10 z10 st10 hQ10
          subst l10 y10 z10
          obtain ⟨f10, lo10, hi10, sz10, rfl, N10q, Kq10, GE10, G110, G210, G310, G410, V10, I10, hsz10⟩ := hQ10
          have N10 := Fr.app N8 N10q
          have K10 : Keep h0 T10.heap [] := K8.trans Kq10 (allS (Or.inr sz_b1) (allS (Or.inr sz_b2) all0))
          refine own_by (A' := T10.setTop (mkF m 105 #[.val (.int p0), .val (.int p1), .val (.int p2), .val (.int p3), .val (.int p4), .val (.int p5), .val (.int t0), .val (.int t1), .val (.int t2), .val (.int t3), .val (.int tq), .val (.int vc), .val (.ref b1), .unset, .unset, .unset, .unset] [(.int (if t3 ∈ ((t2 :: (t1 :: (t0 :: []))) : List Int32) then (0 : Int32) else (1 : Int32)))])) (fun t kt => st10.trans kt) ?_
          refine own_by (A' := T10.setTop (mkF m 119 #[.val (.int p0), .val (.int p1), .val (.int p2), .val (.int p3), .val (.int p4), .val (.int p5), .val (.int t0), .val (.int t1), .val (.int t2), .val (.int t3), .val (.int tq), .val (.int vc), .val (.ref b1), .val (.int (p5 &&& (7 : Int32))), .val (.int tq), .unset, .unset] [(.int (p5 &&& (7 : Int32)))])) (fun t kt => ?_) ?_
          · show Steps p.tables e below (T10.setTop (mkF m 105 #[.val (.int p0), .val (.int p1), .val (.int p2), .val (.int p3), .val (.int p4), .val (.int p5), .val (.int t0), .val (.int t1), .val (.int t2), .val (.int t3), .val (.int tq), .val (.int vc), .val (.ref b1), .unset, .unset, .unset, .unset] [(.int (if t3 ∈ ((t2 :: (t1 :: (t0 :: []))) : List Int32) then (0 : Int32) else (1 : Int32)))])) t
            refine XS.pop X10.here hx rfl (hb hby at_105) rfl rfl ?_
            show Steps p.tables e below (T10.setTop (mkF m 106 #[.val (.int p0), .val (.int p1), .val (.int p2), .val (.int p3), .val (.int p4), .val (.int p5), .val (.int t0), .val (.int t1), .val (.int t2), .val (.int t3), .val (.int tq), .val (.int vc), .val (.ref b1), .unset, .unset, .unset, .unset] [])) t
            refine XS.iload X10.here hx rfl (hb hby at_106) rfl ?_
            show Steps p.tables e below (T10.setTop (mkF m 108 #[.val (.int p0), .val (.int p1), .val (.int p2), .val (.int p3), .val (.int p4), .val (.int p5), .val (.int t0), .val (.int t1), .val (.int t2), .val (.int t3), .val (.int tq), .val (.int vc), .val (.ref b1), .unset, .unset, .unset, .unset] [(.int p5)])) t
            refine XS.bipush X10.here hx rfl (hb hby at_108) ?_
            show Steps p.tables e below (T10.setTop (mkF m 110 #[.val (.int p0), .val (.int p1), .val (.int p2), .val (.int p3), .val (.int p4), .val (.int p5), .val (.int t0), .val (.int t1), .val (.int t2), .val (.int t3), .val (.int tq), .val (.int vc), .val (.ref b1), .unset, .unset, .unset, .unset] [(.int (7 : Int32)), (.int p5)])) t
            refine XS.iand X10.here hx rfl (hb hby at_110) rfl ?_
            show Steps p.tables e below (T10.setTop (mkF m 111 #[.val (.int p0), .val (.int p1), .val (.int p2), .val (.int p3), .val (.int p4), .val (.int p5), .val (.int t0), .val (.int t1), .val (.int t2), .val (.int t3), .val (.int tq), .val (.int vc), .val (.ref b1), .unset, .unset, .unset, .unset] [(.int (p5 &&& (7 : Int32)))])) t
            refine XS.istore X10.here hx rfl (hb hby at_111) rfl (l' := #[.val (.int p0), .val (.int p1), .val (.int p2), .val (.int p3), .val (.int p4), .val (.int p5), .val (.int t0), .val (.int t1), .val (.int t2), .val (.int t3), .val (.int tq), .val (.int vc), .val (.ref b1), .val (.int (p5 &&& (7 : Int32))), .unset, .unset, .unset]) rfl ?_
            show Steps p.tables e below (T10.setTop (mkF m 113 #[.val (.int p0), .val (.int p1), .val (.int p2), .val (.int p3), .val (.int p4), .val (.int p5), .val (.int t0), .val (.int t1), .val (.int t2), .val (.int t3), .val (.int tq), .val (.int vc), .val (.ref b1), .val (.int (p5 &&& (7 : Int32))), .unset, .unset, .unset] [])) t
            refine XS.iload X10.here hx rfl (hb hby at_113) rfl ?_
            show Steps p.tables e below (T10.setTop (mkF m 115 #[.val (.int p0), .val (.int p1), .val (.int p2), .val (.int p3), .val (.int p4), .val (.int p5), .val (.int t0), .val (.int t1), .val (.int t2), .val (.int t3), .val (.int tq), .val (.int vc), .val (.ref b1), .val (.int (p5 &&& (7 : Int32))), .unset, .unset, .unset] [(.int tq)])) t
            refine XS.istore X10.here hx rfl (hb hby at_115) rfl (l' := #[.val (.int p0), .val (.int p1), .val (.int p2), .val (.int p3), .val (.int p4), .val (.int p5), .val (.int t0), .val (.int t1), .val (.int t2), .val (.int t3), .val (.int tq), .val (.int vc), .val (.ref b1), .val (.int (p5 &&& (7 : Int32))), .val (.int tq), .unset, .unset]) rfl ?_
            show Steps p.tables e below (T10.setTop (mkF m 117 #[.val (.int p0), .val (.int p1), .val (.int p2), .val (.int p3), .val (.int p4), .val (.int p5), .val (.int t0), .val (.int t1), .val (.int t2), .val (.int t3), .val (.int tq), .val (.int vc), .val (.ref b1), .val (.int (p5 &&& (7 : Int32))), .val (.int tq), .unset, .unset] [])) t
            refine XS.iload X10.here hx rfl (hb hby at_117) rfl ?_
            exact kt
          refine own_by (A' := T10.setTop (mkF m 165 #[.val (.int p0), .val (.int p1), .val (.int p2), .val (.int p3), .val (.int p4), .val (.int p5), .val (.int t0), .val (.int t1), .val (.int t2), .val (.int t3), .val (.int tq), .val (.int vc), .val (.ref b1), .val (.int (p5 &&& (7 : Int32))), .val (.int (if (p5 &&& (7 : Int32)) = (0 : Int32) then t0 else (if (p5 &&& (7 : Int32)) = (1 : Int32) then t1 else (if (p5 &&& (7 : Int32)) = (2 : Int32) then t2 else (if (p5 &&& (7 : Int32)) = (3 : Int32) then t3 else tq))))), .unset, .unset] [])) (fun t kt => ?_) ?_
          · show Steps p.tables e below (T10.setTop (mkF m 119 #[.val (.int p0), .val (.int p1), .val (.int p2), .val (.int p3), .val (.int p4), .val (.int p5), .val (.int t0), .val (.int t1), .val (.int t2), .val (.int t3), .val (.int tq), .val (.int vc), .val (.ref b1), .val (.int (p5 &&& (7 : Int32))), .val (.int tq), .unset, .unset] [(.int (p5 &&& (7 : Int32)))])) t
            by_cases hj119_11 : (p5 &&& (7 : Int32)) = (0 : Int32)
            · rw [if_pos hj119_11] at kt
              show Steps p.tables e below (T10.setTop (mkF m 119 #[.val (.int p0), .val (.int p1), .val (.int p2), .val (.int p3), .val (.int p4), .val (.int p5), .val (.int t0), .val (.int t1), .val (.int t2), .val (.int t3), .val (.int tq), .val (.int vc), .val (.ref b1), .val (.int (p5 &&& (7 : Int32))), .val (.int tq), .unset, .unset] [(.int (p5 &&& (7 : Int32)))])) t
              refine XS.ifNo X10.here hx rfl (hb hby at_119) rfl ((if0 _ _).trans (teq hj119_11).2) ?_
              show Steps p.tables e below (T10.setTop (mkF m 122 #[.val (.int p0), .val (.int p1), .val (.int p2), .val (.int p3), .val (.int p4), .val (.int p5), .val (.int t0), .val (.int t1), .val (.int t2), .val (.int t3), .val (.int tq), .val (.int vc), .val (.ref b1), .val (.int (p5 &&& (7 : Int32))), .val (.int tq), .unset, .unset] [])) t
              refine XS.iload X10.here hx rfl (hb hby at_122) rfl ?_
              show Steps p.tables e below (T10.setTop (mkF m 124 #[.val (.int p0), .val (.int p1), .val (.int p2), .val (.int p3), .val (.int p4), .val (.int p5), .val (.int t0), .val (.int t1), .val (.int t2), .val (.int t3), .val (.int tq), .val (.int vc), .val (.ref b1), .val (.int (p5 &&& (7 : Int32))), .val (.int tq), .unset, .unset] [(.int t0)])) t
              refine XS.istore X10.here hx rfl (hb hby at_124) rfl (l' := #[.val (.int p0), .val (.int p1), .val (.int p2), .val (.int p3), .val (.int p4), .val (.int p5), .val (.int t0), .val (.int t1), .val (.int t2), .val (.int t3), .val (.int tq), .val (.int vc), .val (.ref b1), .val (.int (p5 &&& (7 : Int32))), .val (.int t0), .unset, .unset]) rfl ?_
              show Steps p.tables e below (T10.setTop (mkF m 126 #[.val (.int p0), .val (.int p1), .val (.int p2), .val (.int p3), .val (.int p4), .val (.int p5), .val (.int t0), .val (.int t1), .val (.int t2), .val (.int t3), .val (.int tq), .val (.int vc), .val (.ref b1), .val (.int (p5 &&& (7 : Int32))), .val (.int t0), .unset, .unset] [])) t
              refine XS.goto X10.here hx rfl (pc0 := 126) (pc' := 165) rfl (hb hby at_126) (by decide) (by decide) ?_
              exact kt
            · rw [if_neg hj119_11] at kt
              show Steps p.tables e below (T10.setTop (mkF m 119 #[.val (.int p0), .val (.int p1), .val (.int p2), .val (.int p3), .val (.int p4), .val (.int p5), .val (.int t0), .val (.int t1), .val (.int t2), .val (.int t3), .val (.int tq), .val (.int vc), .val (.ref b1), .val (.int (p5 &&& (7 : Int32))), .val (.int tq), .unset, .unset] [(.int (p5 &&& (7 : Int32)))])) t
              refine XS.ifYes X10.here hx rfl (pc0 := 119) (pc' := 129) rfl (hb hby at_119) rfl ((if0 _ _).trans (feq hj119_11).2) (by decide) (by decide) ?_
              show Steps p.tables e below (T10.setTop (mkF m 129 #[.val (.int p0), .val (.int p1), .val (.int p2), .val (.int p3), .val (.int p4), .val (.int p5), .val (.int t0), .val (.int t1), .val (.int t2), .val (.int t3), .val (.int tq), .val (.int vc), .val (.ref b1), .val (.int (p5 &&& (7 : Int32))), .val (.int tq), .unset, .unset] [])) t
              refine XS.iload X10.here hx rfl (hb hby at_129) rfl ?_
              show Steps p.tables e below (T10.setTop (mkF m 131 #[.val (.int p0), .val (.int p1), .val (.int p2), .val (.int p3), .val (.int p4), .val (.int p5), .val (.int t0), .val (.int t1), .val (.int t2), .val (.int t3), .val (.int tq), .val (.int vc), .val (.ref b1), .val (.int (p5 &&& (7 : Int32))), .val (.int tq), .unset, .unset] [(.int (p5 &&& (7 : Int32)))])) t
              refine XS.iconst X10.here hx rfl (hb hby at_131) ?_
              refine own_stp (A' := T10.setTop (mkF m 165 #[.val (.int p0), .val (.int p1), .val (.int p2), .val (.int p3), .val (.int p4), .val (.int p5), .val (.int t0), .val (.int t1), .val (.int t2), .val (.int t3), .val (.int tq), .val (.int vc), .val (.ref b1), .val (.int (p5 &&& (7 : Int32))), .val (.int (if (p5 &&& (7 : Int32)) = (1 : Int32) then t1 else (if (p5 &&& (7 : Int32)) = (2 : Int32) then t2 else (if (p5 &&& (7 : Int32)) = (3 : Int32) then t3 else tq)))), .unset, .unset] [])) (fun t kt => ?_) ?_
              · show Steps p.tables e below (T10.setTop (mkF m 132 #[.val (.int p0), .val (.int p1), .val (.int p2), .val (.int p3), .val (.int p4), .val (.int p5), .val (.int t0), .val (.int t1), .val (.int t2), .val (.int t3), .val (.int tq), .val (.int vc), .val (.ref b1), .val (.int (p5 &&& (7 : Int32))), .val (.int tq), .unset, .unset] [(.int (1 : Int32)), (.int (p5 &&& (7 : Int32)))])) t
                by_cases hj132_12 : (p5 &&& (7 : Int32)) = (1 : Int32)
                · rw [if_pos hj132_12] at kt
                  show Steps p.tables e below (T10.setTop (mkF m 132 #[.val (.int p0), .val (.int p1), .val (.int p2), .val (.int p3), .val (.int p4), .val (.int p5), .val (.int t0), .val (.int t1), .val (.int t2), .val (.int t3), .val (.int tq), .val (.int vc), .val (.ref b1), .val (.int (p5 &&& (7 : Int32))), .val (.int tq), .unset, .unset] [(.int (1 : Int32)), (.int (p5 &&& (7 : Int32)))])) t
                  refine XS.icmpNo X10.here hx rfl (hb hby at_132) rfl (teq hj132_12).2 ?_
                  show Steps p.tables e below (T10.setTop (mkF m 135 #[.val (.int p0), .val (.int p1), .val (.int p2), .val (.int p3), .val (.int p4), .val (.int p5), .val (.int t0), .val (.int t1), .val (.int t2), .val (.int t3), .val (.int tq), .val (.int vc), .val (.ref b1), .val (.int (p5 &&& (7 : Int32))), .val (.int tq), .unset, .unset] [])) t
                  refine XS.iload X10.here hx rfl (hb hby at_135) rfl ?_
                  show Steps p.tables e below (T10.setTop (mkF m 137 #[.val (.int p0), .val (.int p1), .val (.int p2), .val (.int p3), .val (.int p4), .val (.int p5), .val (.int t0), .val (.int t1), .val (.int t2), .val (.int t3), .val (.int tq), .val (.int vc), .val (.ref b1), .val (.int (p5 &&& (7 : Int32))), .val (.int tq), .unset, .unset] [(.int t1)])) t
                  refine XS.istore X10.here hx rfl (hb hby at_137) rfl (l' := #[.val (.int p0), .val (.int p1), .val (.int p2), .val (.int p3), .val (.int p4), .val (.int p5), .val (.int t0), .val (.int t1), .val (.int t2), .val (.int t3), .val (.int tq), .val (.int vc), .val (.ref b1), .val (.int (p5 &&& (7 : Int32))), .val (.int t1), .unset, .unset]) rfl ?_
                  show Steps p.tables e below (T10.setTop (mkF m 139 #[.val (.int p0), .val (.int p1), .val (.int p2), .val (.int p3), .val (.int p4), .val (.int p5), .val (.int t0), .val (.int t1), .val (.int t2), .val (.int t3), .val (.int tq), .val (.int vc), .val (.ref b1), .val (.int (p5 &&& (7 : Int32))), .val (.int t1), .unset, .unset] [])) t
                  refine XS.goto X10.here hx rfl (pc0 := 139) (pc' := 165) rfl (hb hby at_139) (by decide) (by decide) ?_
                  exact kt
                · rw [if_neg hj132_12] at kt
                  show Steps p.tables e below (T10.setTop (mkF m 132 #[.val (.int p0), .val (.int p1), .val (.int p2), .val (.int p3), .val (.int p4), .val (.int p5), .val (.int t0), .val (.int t1), .val (.int t2), .val (.int t3), .val (.int tq), .val (.int vc), .val (.ref b1), .val (.int (p5 &&& (7 : Int32))), .val (.int tq), .unset, .unset] [(.int (1 : Int32)), (.int (p5 &&& (7 : Int32)))])) t
                  refine XS.icmpYes X10.here hx rfl (pc0 := 132) (pc' := 142) rfl (hb hby at_132) rfl (feq hj132_12).2 (by decide) (by decide) ?_
                  show Steps p.tables e below (T10.setTop (mkF m 142 #[.val (.int p0), .val (.int p1), .val (.int p2), .val (.int p3), .val (.int p4), .val (.int p5), .val (.int t0), .val (.int t1), .val (.int t2), .val (.int t3), .val (.int tq), .val (.int vc), .val (.ref b1), .val (.int (p5 &&& (7 : Int32))), .val (.int tq), .unset, .unset] [])) t
                  refine XS.iload X10.here hx rfl (hb hby at_142) rfl ?_
                  show Steps p.tables e below (T10.setTop (mkF m 144 #[.val (.int p0), .val (.int p1), .val (.int p2), .val (.int p3), .val (.int p4), .val (.int p5), .val (.int t0), .val (.int t1), .val (.int t2), .val (.int t3), .val (.int tq), .val (.int vc), .val (.ref b1), .val (.int (p5 &&& (7 : Int32))), .val (.int tq), .unset, .unset] [(.int (p5 &&& (7 : Int32)))])) t
                  refine XS.iconst X10.here hx rfl (hb hby at_144) ?_
                  refine own_stp (A' := T10.setTop (mkF m 165 #[.val (.int p0), .val (.int p1), .val (.int p2), .val (.int p3), .val (.int p4), .val (.int p5), .val (.int t0), .val (.int t1), .val (.int t2), .val (.int t3), .val (.int tq), .val (.int vc), .val (.ref b1), .val (.int (p5 &&& (7 : Int32))), .val (.int (if (p5 &&& (7 : Int32)) = (2 : Int32) then t2 else (if (p5 &&& (7 : Int32)) = (3 : Int32) then t3 else tq))), .unset, .unset] [])) (fun t kt => ?_) ?_
                  · show Steps p.tables e below (T10.setTop (mkF m 145 #[.val (.int p0), .val (.int p1), .val (.int p2), .val (.int p3), .val (.int p4), .val (.int p5), .val (.int t0), .val (.int t1), .val (.int t2), .val (.int t3), .val (.int tq), .val (.int vc), .val (.ref b1), .val (.int (p5 &&& (7 : Int32))), .val (.int tq), .unset, .unset] [(.int (2 : Int32)), (.int (p5 &&& (7 : Int32)))])) t
                    by_cases hj145_13 : (p5 &&& (7 : Int32)) = (2 : Int32)
                    · rw [if_pos hj145_13] at kt
                      show Steps p.tables e below (T10.setTop (mkF m 145 #[.val (.int p0), .val (.int p1), .val (.int p2), .val (.int p3), .val (.int p4), .val (.int p5), .val (.int t0), .val (.int t1), .val (.int t2), .val (.int t3), .val (.int tq), .val (.int vc), .val (.ref b1), .val (.int (p5 &&& (7 : Int32))), .val (.int tq), .unset, .unset] [(.int (2 : Int32)), (.int (p5 &&& (7 : Int32)))])) t
                      refine XS.icmpNo X10.here hx rfl (hb hby at_145) rfl (teq hj145_13).2 ?_
                      show Steps p.tables e below (T10.setTop (mkF m 148 #[.val (.int p0), .val (.int p1), .val (.int p2), .val (.int p3), .val (.int p4), .val (.int p5), .val (.int t0), .val (.int t1), .val (.int t2), .val (.int t3), .val (.int tq), .val (.int vc), .val (.ref b1), .val (.int (p5 &&& (7 : Int32))), .val (.int tq), .unset, .unset] [])) t
                      refine XS.iload X10.here hx rfl (hb hby at_148) rfl ?_
                      show Steps p.tables e below (T10.setTop (mkF m 150 #[.val (.int p0), .val (.int p1), .val (.int p2), .val (.int p3), .val (.int p4), .val (.int p5), .val (.int t0), .val (.int t1), .val (.int t2), .val (.int t3), .val (.int tq), .val (.int vc), .val (.ref b1), .val (.int (p5 &&& (7 : Int32))), .val (.int tq), .unset, .unset] [(.int t2)])) t
                      refine XS.istore X10.here hx rfl (hb hby at_150) rfl (l' := #[.val (.int p0), .val (.int p1), .val (.int p2), .val (.int p3), .val (.int p4), .val (.int p5), .val (.int t0), .val (.int t1), .val (.int t2), .val (.int t3), .val (.int tq), .val (.int vc), .val (.ref b1), .val (.int (p5 &&& (7 : Int32))), .val (.int t2), .unset, .unset]) rfl ?_
                      show Steps p.tables e below (T10.setTop (mkF m 152 #[.val (.int p0), .val (.int p1), .val (.int p2), .val (.int p3), .val (.int p4), .val (.int p5), .val (.int t0), .val (.int t1), .val (.int t2), .val (.int t3), .val (.int tq), .val (.int vc), .val (.ref b1), .val (.int (p5 &&& (7 : Int32))), .val (.int t2), .unset, .unset] [])) t
                      refine XS.goto X10.here hx rfl (pc0 := 152) (pc' := 165) rfl (hb hby at_152) (by decide) (by decide) ?_
                      exact kt
                    · rw [if_neg hj145_13] at kt
                      show Steps p.tables e below (T10.setTop (mkF m 145 #[.val (.int p0), .val (.int p1), .val (.int p2), .val (.int p3), .val (.int p4), .val (.int p5), .val (.int t0), .val (.int t1), .val (.int t2), .val (.int t3), .val (.int tq), .val (.int vc), .val (.ref b1), .val (.int (p5 &&& (7 : Int32))), .val (.int tq), .unset, .unset] [(.int (2 : Int32)), (.int (p5 &&& (7 : Int32)))])) t
                      refine XS.icmpYes X10.here hx rfl (pc0 := 145) (pc' := 155) rfl (hb hby at_145) rfl (feq hj145_13).2 (by decide) (by decide) ?_
                      show Steps p.tables e below (T10.setTop (mkF m 155 #[.val (.int p0), .val (.int p1), .val (.int p2), .val (.int p3), .val (.int p4), .val (.int p5), .val (.int t0), .val (.int t1), .val (.int t2), .val (.int t3), .val (.int tq), .val (.int vc), .val (.ref b1), .val (.int (p5 &&& (7 : Int32))), .val (.int tq), .unset, .unset] [])) t
                      refine XS.iload X10.here hx rfl (hb hby at_155) rfl ?_
                      show Steps p.tables e below (T10.setTop (mkF m 157 #[.val (.int p0), .val (.int p1), .val (.int p2), .val (.int p3), .val (.int p4), .val (.int p5), .val (.int t0), .val (.int t1), .val (.int t2), .val (.int t3), .val (.int tq), .val (.int vc), .val (.ref b1), .val (.int (p5 &&& (7 : Int32))), .val (.int tq), .unset, .unset] [(.int (p5 &&& (7 : Int32)))])) t
                      refine XS.iconst X10.here hx rfl (hb hby at_157) ?_
                      refine own_stp (A' := T10.setTop (mkF m 165 #[.val (.int p0), .val (.int p1), .val (.int p2), .val (.int p3), .val (.int p4), .val (.int p5), .val (.int t0), .val (.int t1), .val (.int t2), .val (.int t3), .val (.int tq), .val (.int vc), .val (.ref b1), .val (.int (p5 &&& (7 : Int32))), .val (.int (if (p5 &&& (7 : Int32)) = (3 : Int32) then t3 else tq)), .unset, .unset] [])) (fun t kt => ?_) ?_
                      · show Steps p.tables e below (T10.setTop (mkF m 158 #[.val (.int p0), .val (.int p1), .val (.int p2), .val (.int p3), .val (.int p4), .val (.int p5), .val (.int t0), .val (.int t1), .val (.int t2), .val (.int t3), .val (.int tq), .val (.int vc), .val (.ref b1), .val (.int (p5 &&& (7 : Int32))), .val (.int tq), .unset, .unset] [(.int (3 : Int32)), (.int (p5 &&& (7 : Int32)))])) t
                        by_cases hj158_14 : (p5 &&& (7 : Int32)) = (3 : Int32)
                        · rw [if_pos hj158_14] at kt
                          show Steps p.tables e below (T10.setTop (mkF m 158 #[.val (.int p0), .val (.int p1), .val (.int p2), .val (.int p3), .val (.int p4), .val (.int p5), .val (.int t0), .val (.int t1), .val (.int t2), .val (.int t3), .val (.int tq), .val (.int vc), .val (.ref b1), .val (.int (p5 &&& (7 : Int32))), .val (.int tq), .unset, .unset] [(.int (3 : Int32)), (.int (p5 &&& (7 : Int32)))])) t
                          refine XS.icmpNo X10.here hx rfl (hb hby at_158) rfl (teq hj158_14).2 ?_
                          show Steps p.tables e below (T10.setTop (mkF m 161 #[.val (.int p0), .val (.int p1), .val (.int p2), .val (.int p3), .val (.int p4), .val (.int p5), .val (.int t0), .val (.int t1), .val (.int t2), .val (.int t3), .val (.int tq), .val (.int vc), .val (.ref b1), .val (.int (p5 &&& (7 : Int32))), .val (.int tq), .unset, .unset] [])) t
                          refine XS.iload X10.here hx rfl (hb hby at_161) rfl ?_
                          show Steps p.tables e below (T10.setTop (mkF m 163 #[.val (.int p0), .val (.int p1), .val (.int p2), .val (.int p3), .val (.int p4), .val (.int p5), .val (.int t0), .val (.int t1), .val (.int t2), .val (.int t3), .val (.int tq), .val (.int vc), .val (.ref b1), .val (.int (p5 &&& (7 : Int32))), .val (.int tq), .unset, .unset] [(.int t3)])) t
                          refine XS.istore X10.here hx rfl (hb hby at_163) rfl (l' := #[.val (.int p0), .val (.int p1), .val (.int p2), .val (.int p3), .val (.int p4), .val (.int p5), .val (.int t0), .val (.int t1), .val (.int t2), .val (.int t3), .val (.int tq), .val (.int vc), .val (.ref b1), .val (.int (p5 &&& (7 : Int32))), .val (.int t3), .unset, .unset]) rfl ?_
                          exact kt
                        · rw [if_neg hj158_14] at kt
                          show Steps p.tables e below (T10.setTop (mkF m 158 #[.val (.int p0), .val (.int p1), .val (.int p2), .val (.int p3), .val (.int p4), .val (.int p5), .val (.int t0), .val (.int t1), .val (.int t2), .val (.int t3), .val (.int tq), .val (.int vc), .val (.ref b1), .val (.int (p5 &&& (7 : Int32))), .val (.int tq), .unset, .unset] [(.int (3 : Int32)), (.int (p5 &&& (7 : Int32)))])) t
                          refine XS.icmpYes X10.here hx rfl (pc0 := 158) (pc' := 165) rfl (hb hby at_158) rfl (feq hj158_14).2 (by decide) (by decide) ?_
                          exact kt
                      exact kt
                  exact kt
              exact kt
          generalize h_vx : (if (p5 &&& (7 : Int32)) = (0 : Int32) then t0 else (if (p5 &&& (7 : Int32)) = (1 : Int32) then t1 else (if (p5 &&& (7 : Int32)) = (2 : Int32) then t2 else (if (p5 &&& (7 : Int32)) = (3 : Int32) then t3 else tq)))) = vx
          refine own_by (A' := T10.setTop (mkF m 169 #[.val (.int p0), .val (.int p1), .val (.int p2), .val (.int p3), .val (.int p4), .val (.int p5), .val (.int t0), .val (.int t1), .val (.int t2), .val (.int t3), .val (.int tq), .val (.int vc), .val (.ref b1), .val (.int (p5 &&& (7 : Int32))), .val (.int vx), .unset, .unset] [(.int vx), (.ref b1)])) (fun t kt => ?_) ?_
          · show Steps p.tables e below (T10.setTop (mkF m 165 #[.val (.int p0), .val (.int p1), .val (.int p2), .val (.int p3), .val (.int p4), .val (.int p5), .val (.int t0), .val (.int t1), .val (.int t2), .val (.int t3), .val (.int tq), .val (.int vc), .val (.ref b1), .val (.int (p5 &&& (7 : Int32))), .val (.int vx), .unset, .unset] [])) t
            refine XS.aload X10.here hx rfl (hb hby at_165) rfl rfl ?_
            show Steps p.tables e below (T10.setTop (mkF m 167 #[.val (.int p0), .val (.int p1), .val (.int p2), .val (.int p3), .val (.int p4), .val (.int p5), .val (.int t0), .val (.int t1), .val (.int t2), .val (.int t3), .val (.int tq), .val (.int vc), .val (.ref b1), .val (.int (p5 &&& (7 : Int32))), .val (.int vx), .unset, .unset] [(.ref b1)])) t
            refine XS.iload X10.here hx rfl (hb hby at_167) rfl ?_
            exact kt
          obtain ⟨cq15, kq15, q15a, q15b, q15c⟩ := isOf hZ rfl GE10
          obtain ⟨_, _, ⟨T15, L15, k15, n15⟩, -, X15, ⟨Lc15, hQ15, l15, y15, z15⟩, st15⟩ := X10.virtualBack hx (y := (⟨"com/example/corollary/corollary/saturation/TermSet", "contains", "(I)Z"⟩ : MethodName)) (z := (⟨"com/example/corollary/corollary/saturation/TermSet", "contains", "(I)Z"⟩ : MethodName)) hown (mvT hZ (hw _ (List.mem_of_getElem? (i := 13) rfl))) (mvT hZ (hw _ (List.mem_of_getElem? (i := 14) rfl))) (notFace_of_selects (args := #[]) (mvT hZ (hw _ (List.mem_of_getElem? (i := 16) rfl)))) (mvT hZ (hw _ (List.mem_of_getElem? (i := 16) rfl))) (mvT hZ (hw _ (List.mem_of_getElem? (i := 15) rfl))) (by decide) (backOf (W := 0) (rm3 l Z aw hw [] b1 vx b2 f10 lo10 hi10 sz10 (t3 :: (t2 :: (t1 :: (t0 :: [])))) T10.heap n0 (Nat.le_trans Z0 K10.1) G110 G210 G310 G410 V10 I10 (Nat.le_of_ble_eq_true rfl)) hZ (hw _ (List.mem_of_getElem? (i := 17) rfl)) (hw _ (List.mem_of_getElem? (i := 3) rfl)) (by decide) (by decide)) q15a q15c (g := (mkF m 169 #[.val (.int p0), .val (.int p1), .val (.int p2), .val (.int p3), .val (.int p4), .val (.int p5), .val (.int t0), .val (.int t1), .val (.int t2), .val (.int t3), .val (.int tq), .val (.int vc), .val (.ref b1), .val (.int (p5 &&& (7 : Int32))), .val (.int vx), .unset, .unset] [(.int vx), (.ref b1)])) rfl (by rw [hml]; rfl) (Steps.refl _) (argsL := [(.int vx)]) (rest := []) (lenOf pd_4 rfl) rfl (by show 2 * 0 + _ ≤ _; exact Nat.le_of_eq rfl) (hb hby at_169) (fun _ _ => ⟨rfl, rfl, (by decide : 2 + 0 ≤ _), (by decide : 68 + 0 ≤ _)⟩)
          dsimp only [Pt.U, Pt.locs, Pt.cells, Pt.slots] at X15 l15 y15 z15 st15 hQ15
          subst l15 y15 z15
          obtain ⟨rfl, N15q, e15⟩ := hQ15
          have N15 := Fr.app N10 N15q
          refine own_by (A' := T15.setTop (mkF m 172 #[.val (.int p0), .val (.int p1), .val (.int p2), .val (.int p3), .val (.int p4), .val (.int p5), .val (.int t0), .val (.int t1), .val (.int t2), .val (.int t3), .val (.int tq), .val (.int vc), .val (.ref b1), .val (.int (p5 &&& (7 : Int32))), .val (.int vx), .unset, .unset] [(.int (if vx ∈ ((t3 :: (t2 :: (t1 :: (t0 :: [])))) : List Int32) then (1 : Int32) else (0 : Int32)))])) (fun t kt => st15.trans kt) ?_
          refine own_by (A' := T15.setTop (mkF m 184 #[.val (.int p0), .val (.int p1), .val (.int p2), .val (.int p3), .val (.int p4), .val (.int p5), .val (.int t0), .val (.int t1), .val (.int t2), .val (.int t3), .val (.int tq), .val (.int vc), .val (.ref b1), .val (.int (p5 &&& (7 : Int32))), .val (.int vx), .unset, .unset] [(.int t3), (.int t2), (.int t1), (.int t0), (.int vc), (.int vx), (.int (if vx ∈ ((t3 :: (t2 :: (t1 :: (t0 :: [])))) : List Int32) then (1 : Int32) else (0 : Int32)))])) (fun t kt => ?_) ?_
          · show Steps p.tables e below (T15.setTop (mkF m 172 #[.val (.int p0), .val (.int p1), .val (.int p2), .val (.int p3), .val (.int p4), .val (.int p5), .val (.int t0), .val (.int t1), .val (.int t2), .val (.int t3), .val (.int tq), .val (.int vc), .val (.ref b1), .val (.int (p5 &&& (7 : Int32))), .val (.int vx), .unset, .unset] [(.int (if vx ∈ ((t3 :: (t2 :: (t1 :: (t0 :: [])))) : List Int32) then (1 : Int32) else (0 : Int32)))])) t
            refine XS.iload X15.here hx rfl (hb hby at_172) rfl ?_
            show Steps p.tables e below (T15.setTop (mkF m 174 #[.val (.int p0), .val (.int p1), .val (.int p2), .val (.int p3), .val (.int p4), .val (.int p5), .val (.int t0), .val (.int t1), .val (.int t2), .val (.int t3), .val (.int tq), .val (.int vc), .val (.ref b1), .val (.int (p5 &&& (7 : Int32))), .val (.int vx), .unset, .unset] [(.int vx), (.int (if vx ∈ ((t3 :: (t2 :: (t1 :: (t0 :: [])))) : List Int32) then (1 : Int32) else (0 : Int32)))])) t
            refine XS.iload X15.here hx rfl (hb hby at_174) rfl ?_
            show Steps p.tables e below (T15.setTop (mkF m 176 #[.val (.int p0), .val (.int p1), .val (.int p2), .val (.int p3), .val (.int p4), .val (.int p5), .val (.int t0), .val (.int t1), .val (.int t2), .val (.int t3), .val (.int tq), .val (.int vc), .val (.ref b1), .val (.int (p5 &&& (7 : Int32))), .val (.int vx), .unset, .unset] [(.int vc), (.int vx), (.int (if vx ∈ ((t3 :: (t2 :: (t1 :: (t0 :: [])))) : List Int32) then (1 : Int32) else (0 : Int32)))])) t
            refine XS.iload X15.here hx rfl (hb hby at_176) rfl ?_
            show Steps p.tables e below (T15.setTop (mkF m 178 #[.val (.int p0), .val (.int p1), .val (.int p2), .val (.int p3), .val (.int p4), .val (.int p5), .val (.int t0), .val (.int t1), .val (.int t2), .val (.int t3), .val (.int tq), .val (.int vc), .val (.ref b1), .val (.int (p5 &&& (7 : Int32))), .val (.int vx), .unset, .unset] [(.int t0), (.int vc), (.int vx), (.int (if vx ∈ ((t3 :: (t2 :: (t1 :: (t0 :: [])))) : List Int32) then (1 : Int32) else (0 : Int32)))])) t
            refine XS.iload X15.here hx rfl (hb hby at_178) rfl ?_
            show Steps p.tables e below (T15.setTop (mkF m 180 #[.val (.int p0), .val (.int p1), .val (.int p2), .val (.int p3), .val (.int p4), .val (.int p5), .val (.int t0), .val (.int t1), .val (.int t2), .val (.int t3), .val (.int tq), .val (.int vc), .val (.ref b1), .val (.int (p5 &&& (7 : Int32))), .val (.int vx), .unset, .unset] [(.int t1), (.int t0), (.int vc), (.int vx), (.int (if vx ∈ ((t3 :: (t2 :: (t1 :: (t0 :: [])))) : List Int32) then (1 : Int32) else (0 : Int32)))])) t
            refine XS.iload X15.here hx rfl (hb hby at_180) rfl ?_
            show Steps p.tables e below (T15.setTop (mkF m 182 #[.val (.int p0), .val (.int p1), .val (.int p2), .val (.int p3), .val (.int p4), .val (.int p5), .val (.int t0), .val (.int t1), .val (.int t2), .val (.int t3), .val (.int tq), .val (.int vc), .val (.ref b1), .val (.int (p5 &&& (7 : Int32))), .val (.int vx), .unset, .unset] [(.int t2), (.int t1), (.int t0), (.int vc), (.int vx), (.int (if vx ∈ ((t3 :: (t2 :: (t1 :: (t0 :: [])))) : List Int32) then (1 : Int32) else (0 : Int32)))])) t
            refine XS.iload X15.here hx rfl (hb hby at_182) rfl ?_
            exact kt
          obtain ⟨_, _, ⟨T16, L16, k16, n16⟩, -, X16, ⟨Lc16, hQ16, l16, y16, z16⟩, st16⟩ := Jvm.LawKit.callS X15 hx (y := (⟨"com/example/corollary/corollary/saturation/TermSetContainsPinLaw", "member", "(IIIIII)Z"⟩ : MethodName)) hown (mvT hZ (hw _ (List.mem_of_getElem? (i := 24) rfl))) (mvT hZ (hw _ (List.mem_of_getElem? (i := 25) rfl))) (mvT hZ (hw _ (List.mem_of_getElem? (i := 26) rfl))) (mvT hZ (hw _ (List.mem_of_getElem? (i := 27) rfl))) (by decide) (backOf (W := 1) (rm5 l Z aw hw [] vx vc t0 t1 t2 t3 T10.heap n0 (Nat.le_trans Z0 K10.1) ) hZ (hw _ (List.mem_of_getElem? (i := 27) rfl)) (hw _ (List.mem_of_getElem? (i := 26) rfl)) (by decide) (by decide)) (g := (mkF m 184 #[.val (.int p0), .val (.int p1), .val (.int p2), .val (.int p3), .val (.int p4), .val (.int p5), .val (.int t0), .val (.int t1), .val (.int t2), .val (.int t3), .val (.int tq), .val (.int vc), .val (.ref b1), .val (.int (p5 &&& (7 : Int32))), .val (.int vx), .unset, .unset] [(.int t3), (.int t2), (.int t1), (.int t0), (.int vc), (.int vx), (.int (if vx ∈ ((t3 :: (t2 :: (t1 :: (t0 :: [])))) : List Int32) then (1 : Int32) else (0 : Int32)))])) rfl (by rw [hml]; rfl) (argsL := [(.int vx), (.int vc), (.int t0), (.int t1), (.int t2), (.int t3)]) (rest := [(.int (if vx ∈ ((t3 :: (t2 :: (t1 :: (t0 :: [])))) : List Int32) then (1 : Int32) else (0 : Int32)))]) (lenOf pd_5 rfl) rfl (by show 2 * 0 + _ ≤ _; exact Nat.le_of_eq rfl) (hb hby at_184) (fun _ _ => ⟨rfl, e15, (by decide : 2 + 0 ≤ _), (by decide : 68 + 0 ≤ _)⟩)
          dsimp only [Pt.U, Pt.locs, Pt.cells, Pt.slots] at X16 l16 y16 z16 st16 hQ16
          subst l16 y16 z16
          obtain ⟨rfl, N16q, e16⟩ := hQ16
          have N16 := Fr.app N15 N16q
          refine own_by (A' := T16.setTop (mkF m 187 #[.val (.int p0), .val (.int p1), .val (.int p2), .val (.int p3), .val (.int p4), .val (.int p5), .val (.int t0), .val (.int t1), .val (.int t2), .val (.int t3), .val (.int tq), .val (.int vc), .val (.ref b1), .val (.int (p5 &&& (7 : Int32))), .val (.int vx), .unset, .unset] [(.int (own_f5 vx vc t0 t1 t2 t3)), (.int (if vx ∈ ((t3 :: (t2 :: (t1 :: (t0 :: [])))) : List Int32) then (1 : Int32) else (0 : Int32)))])) (fun t kt => st16 t kt) ?_
          have hc187_17 : (if vx ∈ ((t3 :: (t2 :: (t1 :: (t0 :: [])))) : List Int32) then (1 : Int32) else (0 : Int32)) = (own_f5 vx vc t0 t1 t2 t3) := by
            simp only [own_f5, hc53_3, hc67_5, hc81_7, hc95_9, if_true, if_false, List.mem_cons, List.not_mem_nil, or_false]
            repeat' split
            all_goals first | rfl | (exfalso; simp_all; done)
          refine own_by (A' := T16.setTop (mkF m 201 #[.val (.int p0), .val (.int p1), .val (.int p2), .val (.int p3), .val (.int p4), .val (.int p5), .val (.int t0), .val (.int t1), .val (.int t2), .val (.int t3), .val (.int tq), .val (.int vc), .val (.ref b1), .val (.int (p5 &&& (7 : Int32))), .val (.int vx), .val (.int (1 : Int32)), .unset] [(.int tq), (.ref b1)])) (fun t kt => ?_) ?_
          · show Steps p.tables e below (T16.setTop (mkF m 187 #[.val (.int p0), .val (.int p1), .val (.int p2), .val (.int p3), .val (.int p4), .val (.int p5), .val (.int t0), .val (.int t1), .val (.int t2), .val (.int t3), .val (.int tq), .val (.int vc), .val (.ref b1), .val (.int (p5 &&& (7 : Int32))), .val (.int vx), .unset, .unset] [(.int (own_f5 vx vc t0 t1 t2 t3)), (.int (if vx ∈ ((t3 :: (t2 :: (t1 :: (t0 :: [])))) : List Int32) then (1 : Int32) else (0 : Int32)))])) t
            refine XS.icmpNo X16.here hx rfl (hb hby at_187) rfl (teq hc187_17).2 ?_
            show Steps p.tables e below (T16.setTop (mkF m 190 #[.val (.int p0), .val (.int p1), .val (.int p2), .val (.int p3), .val (.int p4), .val (.int p5), .val (.int t0), .val (.int t1), .val (.int t2), .val (.int t3), .val (.int tq), .val (.int vc), .val (.ref b1), .val (.int (p5 &&& (7 : Int32))), .val (.int vx), .unset, .unset] [])) t
            refine XS.iconst X16.here hx rfl (hb hby at_190) ?_
            show Steps p.tables e below (T16.setTop (mkF m 191 #[.val (.int p0), .val (.int p1), .val (.int p2), .val (.int p3), .val (.int p4), .val (.int p5), .val (.int t0), .val (.int t1), .val (.int t2), .val (.int t3), .val (.int tq), .val (.int vc), .val (.ref b1), .val (.int (p5 &&& (7 : Int32))), .val (.int vx), .unset, .unset] [(.int (1 : Int32))])) t
            refine XS.goto X16.here hx rfl (pc0 := 191) (pc' := 195) rfl (hb hby at_191) (by decide) (by decide) ?_
            show Steps p.tables e below (T16.setTop (mkF m 195 #[.val (.int p0), .val (.int p1), .val (.int p2), .val (.int p3), .val (.int p4), .val (.int p5), .val (.int t0), .val (.int t1), .val (.int t2), .val (.int t3), .val (.int tq), .val (.int vc), .val (.ref b1), .val (.int (p5 &&& (7 : Int32))), .val (.int vx), .unset, .unset] [(.int (1 : Int32))])) t
            refine XS.istore X16.here hx rfl (hb hby at_195) rfl (l' := #[.val (.int p0), .val (.int p1), .val (.int p2), .val (.int p3), .val (.int p4), .val (.int p5), .val (.int t0), .val (.int t1), .val (.int t2), .val (.int t3), .val (.int tq), .val (.int vc), .val (.ref b1), .val (.int (p5 &&& (7 : Int32))), .val (.int vx), .val (.int (1 : Int32)), .unset]) rfl ?_
            show Steps p.tables e below (T16.setTop (mkF m 197 #[.val (.int p0), .val (.int p1), .val (.int p2), .val (.int p3), .val (.int p4), .val (.int p5), .val (.int t0), .val (.int t1), .val (.int t2), .val (.int t3), .val (.int tq), .val (.int vc), .val (.ref b1), .val (.int (p5 &&& (7 : Int32))), .val (.int vx), .val (.int (1 : Int32)), .unset] [])) t
            refine XS.aload X16.here hx rfl (hb hby at_197) rfl rfl ?_
            show Steps p.tables e below (T16.setTop (mkF m 199 #[.val (.int p0), .val (.int p1), .val (.int p2), .val (.int p3), .val (.int p4), .val (.int p5), .val (.int t0), .val (.int t1), .val (.int t2), .val (.int t3), .val (.int tq), .val (.int vc), .val (.ref b1), .val (.int (p5 &&& (7 : Int32))), .val (.int vx), .val (.int (1 : Int32)), .unset] [(.ref b1)])) t
            refine XS.iload X16.here hx rfl (hb hby at_199) rfl ?_
            exact kt
          obtain ⟨cq18, kq18, q18a, q18b, q18c⟩ := isOf hZ e16 GE10
          obtain ⟨_, _, ⟨T18, L18, k18, n18⟩, -, X18, ⟨Lc18, hQ18, l18, y18, z18⟩, st18⟩ := X16.virtualBack hx (y := (⟨"com/example/corollary/corollary/saturation/TermSet", "contains", "(I)Z"⟩ : MethodName)) (z := (⟨"com/example/corollary/corollary/saturation/TermSet", "contains", "(I)Z"⟩ : MethodName)) hown (mvT hZ (hw _ (List.mem_of_getElem? (i := 13) rfl))) (mvT hZ (hw _ (List.mem_of_getElem? (i := 14) rfl))) (notFace_of_selects (args := #[]) (mvT hZ (hw _ (List.mem_of_getElem? (i := 16) rfl)))) (mvT hZ (hw _ (List.mem_of_getElem? (i := 16) rfl))) (mvT hZ (hw _ (List.mem_of_getElem? (i := 15) rfl))) (by decide) (backOf (W := 0) (rm3 l Z aw hw [] b1 tq b2 f10 lo10 hi10 sz10 (t3 :: (t2 :: (t1 :: (t0 :: [])))) T10.heap n0 (Nat.le_trans Z0 K10.1) G110 G210 G310 G410 V10 I10 (Nat.le_of_ble_eq_true rfl)) hZ (hw _ (List.mem_of_getElem? (i := 17) rfl)) (hw _ (List.mem_of_getElem? (i := 3) rfl)) (by decide) (by decide)) q18a q18c (g := (mkF m 201 #[.val (.int p0), .val (.int p1), .val (.int p2), .val (.int p3), .val (.int p4), .val (.int p5), .val (.int t0), .val (.int t1), .val (.int t2), .val (.int t3), .val (.int tq), .val (.int vc), .val (.ref b1), .val (.int (p5 &&& (7 : Int32))), .val (.int vx), .val (.int (1 : Int32)), .unset] [(.int tq), (.ref b1)])) rfl (by rw [hml]; rfl) (Steps.refl _) (argsL := [(.int tq)]) (rest := []) (lenOf pd_4 rfl) rfl (by show 2 * 0 + _ ≤ _; exact Nat.le_of_eq rfl) (hb hby at_201) (fun _ _ => ⟨rfl, e16, (by decide : 2 + 0 ≤ _), (by decide : 68 + 0 ≤ _)⟩)
          dsimp only [Pt.U, Pt.locs, Pt.cells, Pt.slots] at X18 l18 y18 z18 st18 hQ18
          subst l18 y18 z18
          obtain ⟨rfl, N18q, e18⟩ := hQ18
          have N18 := Fr.app N16 N18q
          refine own_by (A' := T18.setTop (mkF m 204 #[.val (.int p0), .val (.int p1), .val (.int p2), .val (.int p3), .val (.int p4), .val (.int p5), .val (.int t0), .val (.int t1), .val (.int t2), .val (.int t3), .val (.int tq), .val (.int vc), .val (.ref b1), .val (.int (p5 &&& (7 : Int32))), .val (.int vx), .val (.int (1 : Int32)), .unset] [(.int (if tq ∈ ((t3 :: (t2 :: (t1 :: (t0 :: [])))) : List Int32) then (1 : Int32) else (0 : Int32)))])) (fun t kt => st18.trans kt) ?_
          refine own_by (A' := T18.setTop (mkF m 216 #[.val (.int p0), .val (.int p1), .val (.int p2), .val (.int p3), .val (.int p4), .val (.int p5), .val (.int t0), .val (.int t1), .val (.int t2), .val (.int t3), .val (.int tq), .val (.int vc), .val (.ref b1), .val (.int (p5 &&& (7 : Int32))), .val (.int vx), .val (.int (1 : Int32)), .unset] [(.int t3), (.int t2), (.int t1), (.int t0), (.int vc), (.int tq), (.int (if tq ∈ ((t3 :: (t2 :: (t1 :: (t0 :: [])))) : List Int32) then (1 : Int32) else (0 : Int32)))])) (fun t kt => ?_) ?_
          · show Steps p.tables e below (T18.setTop (mkF m 204 #[.val (.int p0), .val (.int p1), .val (.int p2), .val (.int p3), .val (.int p4), .val (.int p5), .val (.int t0), .val (.int t1), .val (.int t2), .val (.int t3), .val (.int tq), .val (.int vc), .val (.ref b1), .val (.int (p5 &&& (7 : Int32))), .val (.int vx), .val (.int (1 : Int32)), .unset] [(.int (if tq ∈ ((t3 :: (t2 :: (t1 :: (t0 :: [])))) : List Int32) then (1 : Int32) else (0 : Int32)))])) t
            refine XS.iload X18.here hx rfl (hb hby at_204) rfl ?_
            show Steps p.tables e below (T18.setTop (mkF m 206 #[.val (.int p0), .val (.int p1), .val (.int p2), .val (.int p3), .val (.int p4), .val (.int p5), .val (.int t0), .val (.int t1), .val (.int t2), .val (.int t3), .val (.int tq), .val (.int vc), .val (.ref b1), .val (.int (p5 &&& (7 : Int32))), .val (.int vx), .val (.int (1 : Int32)), .unset] [(.int tq), (.int (if tq ∈ ((t3 :: (t2 :: (t1 :: (t0 :: [])))) : List Int32) then (1 : Int32) else (0 : Int32)))])) t
            refine XS.iload X18.here hx rfl (hb hby at_206) rfl ?_
            show Steps p.tables e below (T18.setTop (mkF m 208 #[.val (.int p0), .val (.int p1), .val (.int p2), .val (.int p3), .val (.int p4), .val (.int p5), .val (.int t0), .val (.int t1), .val (.int t2), .val (.int t3), .val (.int tq), .val (.int vc), .val (.ref b1), .val (.int (p5 &&& (7 : Int32))), .val (.int vx), .val (.int (1 : Int32)), .unset] [(.int vc), (.int tq), (.int (if tq ∈ ((t3 :: (t2 :: (t1 :: (t0 :: [])))) : List Int32) then (1 : Int32) else (0 : Int32)))])) t
            refine XS.iload X18.here hx rfl (hb hby at_208) rfl ?_
            show Steps p.tables e below (T18.setTop (mkF m 210 #[.val (.int p0), .val (.int p1), .val (.int p2), .val (.int p3), .val (.int p4), .val (.int p5), .val (.int t0), .val (.int t1), .val (.int t2), .val (.int t3), .val (.int tq), .val (.int vc), .val (.ref b1), .val (.int (p5 &&& (7 : Int32))), .val (.int vx), .val (.int (1 : Int32)), .unset] [(.int t0), (.int vc), (.int tq), (.int (if tq ∈ ((t3 :: (t2 :: (t1 :: (t0 :: [])))) : List Int32) then (1 : Int32) else (0 : Int32)))])) t
            refine XS.iload X18.here hx rfl (hb hby at_210) rfl ?_
            show Steps p.tables e below (T18.setTop (mkF m 212 #[.val (.int p0), .val (.int p1), .val (.int p2), .val (.int p3), .val (.int p4), .val (.int p5), .val (.int t0), .val (.int t1), .val (.int t2), .val (.int t3), .val (.int tq), .val (.int vc), .val (.ref b1), .val (.int (p5 &&& (7 : Int32))), .val (.int vx), .val (.int (1 : Int32)), .unset] [(.int t1), (.int t0), (.int vc), (.int tq), (.int (if tq ∈ ((t3 :: (t2 :: (t1 :: (t0 :: [])))) : List Int32) then (1 : Int32) else (0 : Int32)))])) t
            refine XS.iload X18.here hx rfl (hb hby at_212) rfl ?_
            show Steps p.tables e below (T18.setTop (mkF m 214 #[.val (.int p0), .val (.int p1), .val (.int p2), .val (.int p3), .val (.int p4), .val (.int p5), .val (.int t0), .val (.int t1), .val (.int t2), .val (.int t3), .val (.int tq), .val (.int vc), .val (.ref b1), .val (.int (p5 &&& (7 : Int32))), .val (.int vx), .val (.int (1 : Int32)), .unset] [(.int t2), (.int t1), (.int t0), (.int vc), (.int tq), (.int (if tq ∈ ((t3 :: (t2 :: (t1 :: (t0 :: [])))) : List Int32) then (1 : Int32) else (0 : Int32)))])) t
            refine XS.iload X18.here hx rfl (hb hby at_214) rfl ?_
            exact kt
          obtain ⟨_, _, ⟨T19, L19, k19, n19⟩, -, X19, ⟨Lc19, hQ19, l19, y19, z19⟩, st19⟩ := Jvm.LawKit.callS X18 hx (y := (⟨"com/example/corollary/corollary/saturation/TermSetContainsPinLaw", "member", "(IIIIII)Z"⟩ : MethodName)) hown (mvT hZ (hw _ (List.mem_of_getElem? (i := 24) rfl))) (mvT hZ (hw _ (List.mem_of_getElem? (i := 25) rfl))) (mvT hZ (hw _ (List.mem_of_getElem? (i := 26) rfl))) (mvT hZ (hw _ (List.mem_of_getElem? (i := 27) rfl))) (by decide) (backOf (W := 1) (rm5 l Z aw hw [] tq vc t0 t1 t2 t3 T10.heap n0 (Nat.le_trans Z0 K10.1) ) hZ (hw _ (List.mem_of_getElem? (i := 27) rfl)) (hw _ (List.mem_of_getElem? (i := 26) rfl)) (by decide) (by decide)) (g := (mkF m 216 #[.val (.int p0), .val (.int p1), .val (.int p2), .val (.int p3), .val (.int p4), .val (.int p5), .val (.int t0), .val (.int t1), .val (.int t2), .val (.int t3), .val (.int tq), .val (.int vc), .val (.ref b1), .val (.int (p5 &&& (7 : Int32))), .val (.int vx), .val (.int (1 : Int32)), .unset] [(.int t3), (.int t2), (.int t1), (.int t0), (.int vc), (.int tq), (.int (if tq ∈ ((t3 :: (t2 :: (t1 :: (t0 :: [])))) : List Int32) then (1 : Int32) else (0 : Int32)))])) rfl (by rw [hml]; rfl) (argsL := [(.int tq), (.int vc), (.int t0), (.int t1), (.int t2), (.int t3)]) (rest := [(.int (if tq ∈ ((t3 :: (t2 :: (t1 :: (t0 :: [])))) : List Int32) then (1 : Int32) else (0 : Int32)))]) (lenOf pd_5 rfl) rfl (by show 2 * 0 + _ ≤ _; exact Nat.le_of_eq rfl) (hb hby at_216) (fun _ _ => ⟨rfl, e18, (by decide : 2 + 0 ≤ _), (by decide : 68 + 0 ≤ _)⟩)
          dsimp only [Pt.U, Pt.locs, Pt.cells, Pt.slots] at X19 l19 y19 z19 st19 hQ19
          subst l19 y19 z19
          obtain ⟨rfl, N19q, e19⟩ := hQ19
          have N19 := Fr.app N18 N19q
          refine own_by (A' := T19.setTop (mkF m 219 #[.val (.int p0), .val (.int p1), .val (.int p2), .val (.int p3), .val (.int p4), .val (.int p5), .val (.int t0), .val (.int t1), .val (.int t2), .val (.int t3), .val (.int tq), .val (.int vc), .val (.ref b1), .val (.int (p5 &&& (7 : Int32))), .val (.int vx), .val (.int (1 : Int32)), .unset] [(.int (own_f5 tq vc t0 t1 t2 t3)), (.int (if tq ∈ ((t3 :: (t2 :: (t1 :: (t0 :: [])))) : List Int32) then (1 : Int32) else (0 : Int32)))])) (fun t kt => st19 t kt) ?_
          have hc219_20 : (if tq ∈ ((t3 :: (t2 :: (t1 :: (t0 :: [])))) : List Int32) then (1 : Int32) else (0 : Int32)) = (own_f5 tq vc t0 t1 t2 t3) := by
            simp only [own_f5, hc53_3, hc67_5, hc81_7, hc95_9, if_true, if_false, List.mem_cons, List.not_mem_nil, or_false]
            repeat' split
            all_goals first | rfl | (exfalso; simp_all; done)
          refine own_by (A' := T19.setTop (mkF m 231 #[.val (.int p0), .val (.int p1), .val (.int p2), .val (.int p3), .val (.int p4), .val (.int p5), .val (.int t0), .val (.int t1), .val (.int t2), .val (.int t3), .val (.int tq), .val (.int vc), .val (.ref b1), .val (.int (p5 &&& (7 : Int32))), .val (.int vx), .val (.int (1 : Int32)), .val (.int (1 : Int32))] [(.int (1 : Int32))])) (fun t kt => ?_) ?_
          · show Steps p.tables e below (T19.setTop (mkF m 219 #[.val (.int p0), .val (.int p1), .val (.int p2), .val (.int p3), .val (.int p4), .val (.int p5), .val (.int t0), .val (.int t1), .val (.int t2), .val (.int t3), .val (.int tq), .val (.int vc), .val (.ref b1), .val (.int (p5 &&& (7 : Int32))), .val (.int vx), .val (.int (1 : Int32)), .unset] [(.int (own_f5 tq vc t0 t1 t2 t3)), (.int (if tq ∈ ((t3 :: (t2 :: (t1 :: (t0 :: [])))) : List Int32) then (1 : Int32) else (0 : Int32)))])) t
            refine XS.icmpNo X19.here hx rfl (hb hby at_219) rfl (teq hc219_20).2 ?_
            show Steps p.tables e below (T19.setTop (mkF m 222 #[.val (.int p0), .val (.int p1), .val (.int p2), .val (.int p3), .val (.int p4), .val (.int p5), .val (.int t0), .val (.int t1), .val (.int t2), .val (.int t3), .val (.int tq), .val (.int vc), .val (.ref b1), .val (.int (p5 &&& (7 : Int32))), .val (.int vx), .val (.int (1 : Int32)), .unset] [])) t
            refine XS.iconst X19.here hx rfl (hb hby at_222) ?_
            show Steps p.tables e below (T19.setTop (mkF m 223 #[.val (.int p0), .val (.int p1), .val (.int p2), .val (.int p3), .val (.int p4), .val (.int p5), .val (.int t0), .val (.int t1), .val (.int t2), .val (.int t3), .val (.int tq), .val (.int vc), .val (.ref b1), .val (.int (p5 &&& (7 : Int32))), .val (.int vx), .val (.int (1 : Int32)), .unset] [(.int (1 : Int32))])) t
            refine XS.goto X19.here hx rfl (pc0 := 223) (pc' := 227) rfl (hb hby at_223) (by decide) (by decide) ?_
            show Steps p.tables e below (T19.setTop (mkF m 227 #[.val (.int p0), .val (.int p1), .val (.int p2), .val (.int p3), .val (.int p4), .val (.int p5), .val (.int t0), .val (.int t1), .val (.int t2), .val (.int t3), .val (.int tq), .val (.int vc), .val (.ref b1), .val (.int (p5 &&& (7 : Int32))), .val (.int vx), .val (.int (1 : Int32)), .unset] [(.int (1 : Int32))])) t
            refine XS.istore X19.here hx rfl (hb hby at_227) rfl (l' := #[.val (.int p0), .val (.int p1), .val (.int p2), .val (.int p3), .val (.int p4), .val (.int p5), .val (.int t0), .val (.int t1), .val (.int t2), .val (.int t3), .val (.int tq), .val (.int vc), .val (.ref b1), .val (.int (p5 &&& (7 : Int32))), .val (.int vx), .val (.int (1 : Int32)), .val (.int (1 : Int32))]) rfl ?_
            show Steps p.tables e below (T19.setTop (mkF m 229 #[.val (.int p0), .val (.int p1), .val (.int p2), .val (.int p3), .val (.int p4), .val (.int p5), .val (.int t0), .val (.int t1), .val (.int t2), .val (.int t3), .val (.int tq), .val (.int vc), .val (.ref b1), .val (.int (p5 &&& (7 : Int32))), .val (.int vx), .val (.int (1 : Int32)), .val (.int (1 : Int32))] [])) t
            refine XS.iload X19.here hx rfl (hb hby at_229) rfl ?_
            exact kt
          have hc231_21 : ¬ ((1 : Int32) = (0 : Int32)) := by decide
          refine own_by (A' := T19.setTop (mkF m 236 #[.val (.int p0), .val (.int p1), .val (.int p2), .val (.int p3), .val (.int p4), .val (.int p5), .val (.int t0), .val (.int t1), .val (.int t2), .val (.int t3), .val (.int tq), .val (.int vc), .val (.ref b1), .val (.int (p5 &&& (7 : Int32))), .val (.int vx), .val (.int (1 : Int32)), .val (.int (1 : Int32))] [(.int (1 : Int32))])) (fun t kt => ?_) ?_
          · show Steps p.tables e below (T19.setTop (mkF m 231 #[.val (.int p0), .val (.int p1), .val (.int p2), .val (.int p3), .val (.int p4), .val (.int p5), .val (.int t0), .val (.int t1), .val (.int t2), .val (.int t3), .val (.int tq), .val (.int vc), .val (.ref b1), .val (.int (p5 &&& (7 : Int32))), .val (.int vx), .val (.int (1 : Int32)), .val (.int (1 : Int32))] [(.int (1 : Int32))])) t
            refine XS.ifNo X19.here hx rfl (hb hby at_231) rfl ((if0 _ _).trans (feq hc231_21).1) ?_
            show Steps p.tables e below (T19.setTop (mkF m 234 #[.val (.int p0), .val (.int p1), .val (.int p2), .val (.int p3), .val (.int p4), .val (.int p5), .val (.int t0), .val (.int t1), .val (.int t2), .val (.int t3), .val (.int tq), .val (.int vc), .val (.ref b1), .val (.int (p5 &&& (7 : Int32))), .val (.int vx), .val (.int (1 : Int32)), .val (.int (1 : Int32))] [])) t
            refine XS.iload X19.here hx rfl (hb hby at_234) rfl ?_
            exact kt
          have hc236_22 : ¬ ((1 : Int32) = (0 : Int32)) := by decide
          refine own_by (A' := T19.setTop (mkF m 244 #[.val (.int p0), .val (.int p1), .val (.int p2), .val (.int p3), .val (.int p4), .val (.int p5), .val (.int t0), .val (.int t1), .val (.int t2), .val (.int t3), .val (.int tq), .val (.int vc), .val (.ref b1), .val (.int (p5 &&& (7 : Int32))), .val (.int vx), .val (.int (1 : Int32)), .val (.int (1 : Int32))] [(.int (1 : Int32))])) (fun t kt => ?_) ?_
          · show Steps p.tables e below (T19.setTop (mkF m 236 #[.val (.int p0), .val (.int p1), .val (.int p2), .val (.int p3), .val (.int p4), .val (.int p5), .val (.int t0), .val (.int t1), .val (.int t2), .val (.int t3), .val (.int tq), .val (.int vc), .val (.ref b1), .val (.int (p5 &&& (7 : Int32))), .val (.int vx), .val (.int (1 : Int32)), .val (.int (1 : Int32))] [(.int (1 : Int32))])) t
            refine XS.ifNo X19.here hx rfl (hb hby at_236) rfl ((if0 _ _).trans (feq hc236_22).1) ?_
            show Steps p.tables e below (T19.setTop (mkF m 239 #[.val (.int p0), .val (.int p1), .val (.int p2), .val (.int p3), .val (.int p4), .val (.int p5), .val (.int t0), .val (.int t1), .val (.int t2), .val (.int t3), .val (.int tq), .val (.int vc), .val (.ref b1), .val (.int (p5 &&& (7 : Int32))), .val (.int vx), .val (.int (1 : Int32)), .val (.int (1 : Int32))] [])) t
            refine XS.iconst X19.here hx rfl (hb hby at_239) ?_
            show Steps p.tables e below (T19.setTop (mkF m 240 #[.val (.int p0), .val (.int p1), .val (.int p2), .val (.int p3), .val (.int p4), .val (.int p5), .val (.int t0), .val (.int t1), .val (.int t2), .val (.int t3), .val (.int tq), .val (.int vc), .val (.ref b1), .val (.int (p5 &&& (7 : Int32))), .val (.int vx), .val (.int (1 : Int32)), .val (.int (1 : Int32))] [(.int (1 : Int32))])) t
            refine XS.goto X19.here hx rfl (pc0 := 240) (pc' := 244) rfl (hb hby at_240) (by decide) (by decide) ?_
            exact kt
          obtain ⟨fs, hr, hrun, hended, hW, hsame⟩ := X19.leave (v := some (.int (1 : Int32))) (fun h => by rw [Bd.returns] at h; cases h)
          refine ⟨_, _, ?_, hrun, hended, _, _, rfl, ?_, ⟨_, rfl⟩, hW, hsame.mono (by decide) (by decide)⟩
          · exact retN X19 hx (t := .boolean) Bd.returns (by simp) (hb hby at_244) hr
          · show Q0 Z p0 p1 p2 p3 p4 p5 h0 n0 _ T19.heap _
            rw [e19]
            exact ⟨rfl, N19⟩
        · refine own_by (A' := T8.setTop (mkF m 119 #[.val (.int p0), .val (.int p1), .val (.int p2), .val (.int p3), .val (.int p4), .val (.int p5), .val (.int t0), .val (.int t1), .val (.int t2), .val (.int t3), .val (.int tq), .val (.int vc), .val (.ref b1), .val (.int (p5 &&& (7 : Int32))), .val (.int tq), .unset, .unset] [(.int (p5 &&& (7 : Int32)))])) (fun t kt => ?_) ?_
          · show Steps p.tables e below (T8.setTop (mkF m 95 #[.val (.int p0), .val (.int p1), .val (.int p2), .val (.int p3), .val (.int p4), .val (.int p5), .val (.int t0), .val (.int t1), .val (.int t2), .val (.int t3), .val (.int tq), .val (.int vc), .val (.ref b1), .unset, .unset, .unset, .unset] [(.int (3 : Int32)), (.int vc)])) t
            refine XS.icmpYes X8.here hx rfl (pc0 := 95) (pc' := 106) rfl (hb hby at_95) rfl (flt hc95_9).2.2.2 (by decide) (by decide) ?_
            show Steps p.tables e below (T8.setTop (mkF m 106 #[.val (.int p0), .val (.int p1), .val (.int p2), .val (.int p3), .val (.int p4), .val (.int p5), .val (.int t0), .val (.int t1), .val (.int t2), .val (.int t3), .val (.int tq), .val (.int vc), .val (.ref b1), .unset, .unset, .unset, .unset] [])) t
            refine XS.iload X8.here hx rfl (hb hby at_106) rfl ?_
            show Steps p.tables e below (T8.setTop (mkF m 108 #[.val (.int p0), .val (.int p1), .val (.int p2), .val (.int p3), .val (.int p4), .val (.int p5), .val (.int t0), .val (.int t1), .val (.int t2), .val (.int t3), .val (.int tq), .val (.int vc), .val (.ref b1), .unset, .unset, .unset, .unset] [(.int p5)])) t
            refine XS.bipush X8.here hx rfl (hb hby at_108) ?_
            show Steps p.tables e below (T8.setTop (mkF m 110 #[.val (.int p0), .val (.int p1), .val (.int p2), .val (.int p3), .val (.int p4), .val (.int p5), .val (.int t0), .val (.int t1), .val (.int t2), .val (.int t3), .val (.int tq), .val (.int vc), .val (.ref b1), .unset, .unset, .unset, .unset] [(.int (7 : Int32)), (.int p5)])) t
            refine XS.iand X8.here hx rfl (hb hby at_110) rfl ?_
            show Steps p.tables e below (T8.setTop (mkF m 111 #[.val (.int p0), .val (.int p1), .val (.int p2), .val (.int p3), .val (.int p4), .val (.int p5), .val (.int t0), .val (.int t1), .val (.int t2), .val (.int t3), .val (.int tq), .val (.int vc), .val (.ref b1), .unset, .unset, .unset, .unset] [(.int (p5 &&& (7 : Int32)))])) t
            refine XS.istore X8.here hx rfl (hb hby at_111) rfl (l' := #[.val (.int p0), .val (.int p1), .val (.int p2), .val (.int p3), .val (.int p4), .val (.int p5), .val (.int t0), .val (.int t1), .val (.int t2), .val (.int t3), .val (.int tq), .val (.int vc), .val (.ref b1), .val (.int (p5 &&& (7 : Int32))), .unset, .unset, .unset]) rfl ?_
            show Steps p.tables e below (T8.setTop (mkF m 113 #[.val (.int p0), .val (.int p1), .val (.int p2), .val (.int p3), .val (.int p4), .val (.int p5), .val (.int t0), .val (.int t1), .val (.int t2), .val (.int t3), .val (.int tq), .val (.int vc), .val (.ref b1), .val (.int (p5 &&& (7 : Int32))), .unset, .unset, .unset] [])) t
            refine XS.iload X8.here hx rfl (hb hby at_113) rfl ?_
            show Steps p.tables e below (T8.setTop (mkF m 115 #[.val (.int p0), .val (.int p1), .val (.int p2), .val (.int p3), .val (.int p4), .val (.int p5), .val (.int t0), .val (.int t1), .val (.int t2), .val (.int t3), .val (.int tq), .val (.int vc), .val (.ref b1), .val (.int (p5 &&& (7 : Int32))), .unset, .unset, .unset] [(.int tq)])) t
            refine XS.istore X8.here hx rfl (hb hby at_115) rfl (l' := #[.val (.int p0), .val (.int p1), .val (.int p2), .val (.int p3), .val (.int p4), .val (.int p5), .val (.int t0), .val (.int t1), .val (.int t2), .val (.int t3), .val (.int tq), .val (.int vc), .val (.ref b1), .val (.int (p5 &&& (7 : Int32))), .val (.int tq), .unset, .unset]) rfl ?_
            show Steps p.tables e below (T8.setTop (mkF m 117 #[.val (.int p0), .val (.int p1), .val (.int p2), .val (.int p3), .val (.int p4), .val (.int p5), .val (.int t0), .val (.int t1), .val (.int t2), .val (.int t3), .val (.int tq), .val (.int vc), .val (.ref b1), .val (.int (p5 &&& (7 : Int32))), .val (.int tq), .unset, .unset] [])) t
            refine XS.iload X8.here hx rfl (hb hby at_117) rfl ?_
            exact kt
          refine own_by (A' := T8.setTop (mkF m 165 #[.val (.int p0), .val (.int p1), .val (.int p2), .val (.int p3), .val (.int p4), .val (.int p5), .val (.int t0), .val (.int t1), .val (.int t2), .val (.int t3), .val (.int tq), .val (.int vc), .val (.ref b1), .val (.int (p5 &&& (7 : Int32))), .val (.int (if (p5 &&& (7 : Int32)) = (0 : Int32) then t0 else (if (p5 &&& (7 : Int32)) = (1 : Int32) then t1 else (if (p5 &&& (7 : Int32)) = (2 : Int32) then t2 else (if (p5 &&& (7 : Int32)) = (3 : Int32) then t3 else tq))))), .unset, .unset] [])) (fun t kt => ?_) ?_
          · show Steps p.tables e below (T8.setTop (mkF m 119 #[.val (.int p0), .val (.int p1), .val (.int p2), .val (.int p3), .val (.int p4), .val (.int p5), .val (.int t0), .val (.int t1), .val (.int t2), .val (.int t3), .val (.int tq), .val (.int vc), .val (.ref b1), .val (.int (p5 &&& (7 : Int32))), .val (.int tq), .unset, .unset] [(.int (p5 &&& (7 : Int32)))])) t
            by_cases hj119_23 : (p5 &&& (7 : Int32)) = (0 : Int32)
            · rw [if_pos hj119_23] at kt
              show Steps p.tables e below (T8.setTop (mkF m 119 #[.val (.int p0), .val (.int p1), .val (.int p2), .val (.int p3), .val (.int p4), .val (.int p5), .val (.int t0), .val (.int t1), .val (.int t2), .val (.int t3), .val (.int tq), .val (.int vc), .val (.ref b1), .val (.int (p5 &&& (7 : Int32))), .val (.int tq), .unset, .unset] [(.int (p5 &&& (7 : Int32)))])) t
              refine XS.ifNo X8.here hx rfl (hb hby at_119) rfl ((if0 _ _).trans (teq hj119_23).2) ?_
              show Steps p.tables e below (T8.setTop (mkF m 122 #[.val (.int p0), .val (.int p1), .val (.int p2), .val (.int p3), .val (.int p4), .val (.int p5), .val (.int t0), .val (.int t1), .val (.int t2), .val (.int t3), .val (.int tq), .val (.int vc), .val (.ref b1), .val (.int (p5 &&& (7 : Int32))), .val (.int tq), .unset, .unset] [])) t
              refine XS.iload X8.here hx rfl (hb hby at_122) rfl ?_
              show Steps p.tables e below (T8.setTop (mkF m 124 #[.val (.int p0), .val (.int p1), .val (.int p2), .val (.int p3), .val (.int p4), .val (.int p5), .val (.int t0), .val (.int t1), .val (.int t2), .val (.int t3), .val (.int tq), .val (.int vc), .val (.ref b1), .val (.int (p5 &&& (7 : Int32))), .val (.int tq), .unset, .unset] [(.int t0)])) t
              refine XS.istore X8.here hx rfl (hb hby at_124) rfl (l' := #[.val (.int p0), .val (.int p1), .val (.int p2), .val (.int p3), .val (.int p4), .val (.int p5), .val (.int t0), .val (.int t1), .val (.int t2), .val (.int t3), .val (.int tq), .val (.int vc), .val (.ref b1), .val (.int (p5 &&& (7 : Int32))), .val (.int t0), .unset, .unset]) rfl ?_
              show Steps p.tables e below (T8.setTop (mkF m 126 #[.val (.int p0), .val (.int p1), .val (.int p2), .val (.int p3), .val (.int p4), .val (.int p5), .val (.int t0), .val (.int t1), .val (.int t2), .val (.int t3), .val (.int tq), .val (.int vc), .val (.ref b1), .val (.int (p5 &&& (7 : Int32))), .val (.int t0), .unset, .unset] [])) t
              refine XS.goto X8.here hx rfl (pc0 := 126) (pc' := 165) rfl (hb hby at_126) (by decide) (by decide) ?_
              exact kt
            · rw [if_neg hj119_23] at kt
              show Steps p.tables e below (T8.setTop (mkF m 119 #[.val (.int p0), .val (.int p1), .val (.int p2), .val (.int p3), .val (.int p4), .val (.int p5), .val (.int t0), .val (.int t1), .val (.int t2), .val (.int t3), .val (.int tq), .val (.int vc), .val (.ref b1), .val (.int (p5 &&& (7 : Int32))), .val (.int tq), .unset, .unset] [(.int (p5 &&& (7 : Int32)))])) t
              refine XS.ifYes X8.here hx rfl (pc0 := 119) (pc' := 129) rfl (hb hby at_119) rfl ((if0 _ _).trans (feq hj119_23).2) (by decide) (by decide) ?_
              show Steps p.tables e below (T8.setTop (mkF m 129 #[.val (.int p0), .val (.int p1), .val (.int p2), .val (.int p3), .val (.int p4), .val (.int p5), .val (.int t0), .val (.int t1), .val (.int t2), .val (.int t3), .val (.int tq), .val (.int vc), .val (.ref b1), .val (.int (p5 &&& (7 : Int32))), .val (.int tq), .unset, .unset] [])) t
              refine XS.iload X8.here hx rfl (hb hby at_129) rfl ?_
              show Steps p.tables e below (T8.setTop (mkF m 131 #[.val (.int p0), .val (.int p1), .val (.int p2), .val (.int p3), .val (.int p4), .val (.int p5), .val (.int t0), .val (.int t1), .val (.int t2), .val (.int t3), .val (.int tq), .val (.int vc), .val (.ref b1), .val (.int (p5 &&& (7 : Int32))), .val (.int tq), .unset, .unset] [(.int (p5 &&& (7 : Int32)))])) t
              refine XS.iconst X8.here hx rfl (hb hby at_131) ?_
              refine own_stp (A' := T8.setTop (mkF m 165 #[.val (.int p0), .val (.int p1), .val (.int p2), .val (.int p3), .val (.int p4), .val (.int p5), .val (.int t0), .val (.int t1), .val (.int t2), .val (.int t3), .val (.int tq), .val (.int vc), .val (.ref b1), .val (.int (p5 &&& (7 : Int32))), .val (.int (if (p5 &&& (7 : Int32)) = (1 : Int32) then t1 else (if (p5 &&& (7 : Int32)) = (2 : Int32) then t2 else (if (p5 &&& (7 : Int32)) = (3 : Int32) then t3 else tq)))), .unset, .unset] [])) (fun t kt => ?_) ?_
              · show Steps p.tables e below (T8.setTop (mkF m 132 #[.val (.int p0), .val (.int p1), .val (.int p2), .val (.int p3), .val (.int p4), .val (.int p5), .val (.int t0), .val (.int t1), .val (.int t2), .val (.int t3), .val (.int tq), .val (.int vc), .val (.ref b1), .val (.int (p5 &&& (7 : Int32))), .val (.int tq), .unset, .unset] [(.int (1 : Int32)), (.int (p5 &&& (7 : Int32)))])) t
                by_cases hj132_24 : (p5 &&& (7 : Int32)) = (1 : Int32)
                · rw [if_pos hj132_24] at kt
                  show Steps p.tables e below (T8.setTop (mkF m 132 #[.val (.int p0), .val (.int p1), .val (.int p2), .val (.int p3), .val (.int p4), .val (.int p5), .val (.int t0), .val (.int t1), .val (.int t2), .val (.int t3), .val (.int tq), .val (.int vc), .val (.ref b1), .val (.int (p5 &&& (7 : Int32))), .val (.int tq), .unset, .unset] [(.int (1 : Int32)), (.int (p5 &&& (7 : Int32)))])) t
                  refine XS.icmpNo X8.here hx rfl (hb hby at_132) rfl (teq hj132_24).2 ?_
                  show Steps p.tables e below (T8.setTop (mkF m 135 #[.val (.int p0), .val (.int p1), .val (.int p2), .val (.int p3), .val (.int p4), .val (.int p5), .val (.int t0), .val (.int t1), .val (.int t2), .val (.int t3), .val (.int tq), .val (.int vc), .val (.ref b1), .val (.int (p5 &&& (7 : Int32))), .val (.int tq), .unset, .unset] [])) t
                  refine XS.iload X8.here hx rfl (hb hby at_135) rfl ?_
                  show Steps p.tables e below (T8.setTop (mkF m 137 #[.val (.int p0), .val (.int p1), .val (.int p2), .val (.int p3), .val (.int p4), .val (.int p5), .val (.int t0), .val (.int t1), .val (.int t2), .val (.int t3), .val (.int tq), .val (.int vc), .val (.ref b1), .val (.int (p5 &&& (7 : Int32))), .val (.int tq), .unset, .unset] [(.int t1)])) t
                  refine XS.istore X8.here hx rfl (hb hby at_137) rfl (l' := #[.val (.int p0), .val (.int p1), .val (.int p2), .val (.int p3), .val (.int p4), .val (.int p5), .val (.int t0), .val (.int t1), .val (.int t2), .val (.int t3), .val (.int tq), .val (.int vc), .val (.ref b1), .val (.int (p5 &&& (7 : Int32))), .val (.int t1), .unset, .unset]) rfl ?_
                  show Steps p.tables e below (T8.setTop (mkF m 139 #[.val (.int p0), .val (.int p1), .val (.int p2), .val (.int p3), .val (.int p4), .val (.int p5), .val (.int t0), .val (.int t1), .val (.int t2), .val (.int t3), .val (.int tq), .val (.int vc), .val (.ref b1), .val (.int (p5 &&& (7 : Int32))), .val (.int t1), .unset, .unset] [])) t
                  refine XS.goto X8.here hx rfl (pc0 := 139) (pc' := 165) rfl (hb hby at_139) (by decide) (by decide) ?_
                  exact kt
                · rw [if_neg hj132_24] at kt
                  show Steps p.tables e below (T8.setTop (mkF m 132 #[.val (.int p0), .val (.int p1), .val (.int p2), .val (.int p3), .val (.int p4), .val (.int p5), .val (.int t0), .val (.int t1), .val (.int t2), .val (.int t3), .val (.int tq), .val (.int vc), .val (.ref b1), .val (.int (p5 &&& (7 : Int32))), .val (.int tq), .unset, .unset] [(.int (1 : Int32)), (.int (p5 &&& (7 : Int32)))])) t
                  refine XS.icmpYes X8.here hx rfl (pc0 := 132) (pc' := 142) rfl (hb hby at_132) rfl (feq hj132_24).2 (by decide) (by decide) ?_
                  show Steps p.tables e below (T8.setTop (mkF m 142 #[.val (.int p0), .val (.int p1), .val (.int p2), .val (.int p3), .val (.int p4), .val (.int p5), .val (.int t0), .val (.int t1), .val (.int t2), .val (.int t3), .val (.int tq), .val (.int vc), .val (.ref b1), .val (.int (p5 &&& (7 : Int32))), .val (.int tq), .unset, .unset] [])) t
                  refine XS.iload X8.here hx rfl (hb hby at_142) rfl ?_
                  show Steps p.tables e below (T8.setTop (mkF m 144 #[.val (.int p0), .val (.int p1), .val (.int p2), .val (.int p3), .val (.int p4), .val (.int p5), .val (.int t0), .val (.int t1), .val (.int t2), .val (.int t3), .val (.int tq), .val (.int vc), .val (.ref b1), .val (.int (p5 &&& (7 : Int32))), .val (.int tq), .unset, .unset] [(.int (p5 &&& (7 : Int32)))])) t
                  refine XS.iconst X8.here hx rfl (hb hby at_144) ?_
                  refine own_stp (A' := T8.setTop (mkF m 165 #[.val (.int p0), .val (.int p1), .val (.int p2), .val (.int p3), .val (.int p4), .val (.int p5), .val (.int t0), .val (.int t1), .val (.int t2), .val (.int t3), .val (.int tq), .val (.int vc), .val (.ref b1), .val (.int (p5 &&& (7 : Int32))), .val (.int (if (p5 &&& (7 : Int32)) = (2 : Int32) then t2 else (if (p5 &&& (7 : Int32)) = (3 : Int32) then t3 else tq))), .unset, .unset] [])) (fun t kt => ?_) ?_
                  · show Steps p.tables e below (T8.setTop (mkF m 145 #[.val (.int p0), .val (.int p1), .val (.int p2), .val (.int p3), .val (.int p4), .val (.int p5), .val (.int t0), .val (.int t1), .val (.int t2), .val (.int t3), .val (.int tq), .val (.int vc), .val (.ref b1), .val (.int (p5 &&& (7 : Int32))), .val (.int tq), .unset, .unset] [(.int (2 : Int32)), (.int (p5 &&& (7 : Int32)))])) t
                    by_cases hj145_25 : (p5 &&& (7 : Int32)) = (2 : Int32)
                    · rw [if_pos hj145_25] at kt
                      show Steps p.tables e below (T8.setTop (mkF m 145 #[.val (.int p0), .val (.int p1), .val (.int p2), .val (.int p3), .val (.int p4), .val (.int p5), .val (.int t0), .val (.int t1), .val (.int t2), .val (.int t3), .val (.int tq), .val (.int vc), .val (.ref b1), .val (.int (p5 &&& (7 : Int32))), .val (.int tq), .unset, .unset] [(.int (2 : Int32)), (.int (p5 &&& (7 : Int32)))])) t
                      refine XS.icmpNo X8.here hx rfl (hb hby at_145) rfl (teq hj145_25).2 ?_
                      show Steps p.tables e below (T8.setTop (mkF m 148 #[.val (.int p0), .val (.int p1), .val (.int p2), .val (.int p3), .val (.int p4), .val (.int p5), .val (.int t0), .val (.int t1), .val (.int t2), .val (.int t3), .val (.int tq), .val (.int vc), .val (.ref b1), .val (.int (p5 &&& (7 : Int32))), .val (.int tq), .unset, .unset] [])) t
                      refine XS.iload X8.here hx rfl (hb hby at_148) rfl ?_
                      show Steps p.tables e below (T8.setTop (mkF m 150 #[.val (.int p0), .val (.int p1), .val (.int p2), .val (.int p3), .val (.int p4), .val (.int p5), .val (.int t0), .val (.int t1), .val (.int t2), .val (.int t3), .val (.int tq), .val (.int vc), .val (.ref b1), .val (.int (p5 &&& (7 : Int32))), .val (.int tq), .unset, .unset] [(.int t2)])) t
                      refine XS.istore X8.here hx rfl (hb hby at_150) rfl (l' := #[.val (.int p0), .val (.int p1), .val (.int p2), .val (.int p3), .val (.int p4), .val (.int p5), .val (.int t0), .val (.int t1), .val (.int t2), .val (.int t3), .val (.int tq), .val (.int vc), .val (.ref b1), .val (.int (p5 &&& (7 : Int32))), .val (.int t2), .unset, .unset]) rfl ?_
                      show Steps p.tables e below (T8.setTop (mkF m 152 #[.val (.int p0), .val (.int p1), .val (.int p2), .val (.int p3), .val (.int p4), .val (.int p5), .val (.int t0), .val (.int t1), .val (.int t2), .val (.int t3), .val (.int tq), .val (.int vc), .val (.ref b1), .val (.int (p5 &&& (7 : Int32))), .val (.int t2), .unset, .unset] [])) t
                      refine XS.goto X8.here hx rfl (pc0 := 152) (pc' := 165) rfl (hb hby at_152) (by decide) (by decide) ?_
                      exact kt
                    · rw [if_neg hj145_25] at kt
                      show Steps p.tables e below (T8.setTop (mkF m 145 #[.val (.int p0), .val (.int p1), .val (.int p2), .val (.int p3), .val (.int p4), .val (.int p5), .val (.int t0), .val (.int t1), .val (.int t2), .val (.int t3), .val (.int tq), .val (.int vc), .val (.ref b1), .val (.int (p5 &&& (7 : Int32))), .val (.int tq), .unset, .unset] [(.int (2 : Int32)), (.int (p5 &&& (7 : Int32)))])) t
                      refine XS.icmpYes X8.here hx rfl (pc0 := 145) (pc' := 155) rfl (hb hby at_145) rfl (feq hj145_25).2 (by decide) (by decide) ?_
                      show Steps p.tables e below (T8.setTop (mkF m 155 #[.val (.int p0), .val (.int p1), .val (.int p2), .val (.int p3), .val (.int p4), .val (.int p5), .val (.int t0), .val (.int t1), .val (.int t2), .val (.int t3), .val (.int tq), .val (.int vc), .val (.ref b1), .val (.int (p5 &&& (7 : Int32))), .val (.int tq), .unset, .unset] [])) t
                      refine XS.iload X8.here hx rfl (hb hby at_155) rfl ?_
                      show Steps p.tables e below (T8.setTop (mkF m 157 #[.val (.int p0), .val (.int p1), .val (.int p2), .val (.int p3), .val (.int p4), .val (.int p5), .val (.int t0), .val (.int t1), .val (.int t2), .val (.int t3), .val (.int tq), .val (.int vc), .val (.ref b1), .val (.int (p5 &&& (7 : Int32))), .val (.int tq), .unset, .unset] [(.int (p5 &&& (7 : Int32)))])) t
                      refine XS.iconst X8.here hx rfl (hb hby at_157) ?_
                      refine own_stp (A' := T8.setTop (mkF m 165 #[.val (.int p0), .val (.int p1), .val (.int p2), .val (.int p3), .val (.int p4), .val (.int p5), .val (.int t0), .val (.int t1), .val (.int t2), .val (.int t3), .val (.int tq), .val (.int vc), .val (.ref b1), .val (.int (p5 &&& (7 : Int32))), .val (.int (if (p5 &&& (7 : Int32)) = (3 : Int32) then t3 else tq)), .unset, .unset] [])) (fun t kt => ?_) ?_
                      · show Steps p.tables e below (T8.setTop (mkF m 158 #[.val (.int p0), .val (.int p1), .val (.int p2), .val (.int p3), .val (.int p4), .val (.int p5), .val (.int t0), .val (.int t1), .val (.int t2), .val (.int t3), .val (.int tq), .val (.int vc), .val (.ref b1), .val (.int (p5 &&& (7 : Int32))), .val (.int tq), .unset, .unset] [(.int (3 : Int32)), (.int (p5 &&& (7 : Int32)))])) t
                        by_cases hj158_26 : (p5 &&& (7 : Int32)) = (3 : Int32)
                        · rw [if_pos hj158_26] at kt
                          show Steps p.tables e below (T8.setTop (mkF m 158 #[.val (.int p0), .val (.int p1), .val (.int p2), .val (.int p3), .val (.int p4), .val (.int p5), .val (.int t0), .val (.int t1), .val (.int t2), .val (.int t3), .val (.int tq), .val (.int vc), .val (.ref b1), .val (.int (p5 &&& (7 : Int32))), .val (.int tq), .unset, .unset] [(.int (3 : Int32)), (.int (p5 &&& (7 : Int32)))])) t
                          refine XS.icmpNo X8.here hx rfl (hb hby at_158) rfl (teq hj158_26).2 ?_
                          show Steps p.tables e below (T8.setTop (mkF m 161 #[.val (.int p0), .val (.int p1), .val (.int p2), .val (.int p3), .val (.int p4), .val (.int p5), .val (.int t0), .val (.int t1), .val (.int t2), .val (.int t3), .val (.int tq), .val (.int vc), .val (.ref b1), .val (.int (p5 &&& (7 : Int32))), .val (.int tq), .unset, .unset] [])) t
                          refine XS.iload X8.here hx rfl (hb hby at_161) rfl ?_
                          show Steps p.tables e below (T8.setTop (mkF m 163 #[.val (.int p0), .val (.int p1), .val (.int p2), .val (.int p3), .val (.int p4), .val (.int p5), .val (.int t0), .val (.int t1), .val (.int t2), .val (.int t3), .val (.int tq), .val (.int vc), .val (.ref b1), .val (.int (p5 &&& (7 : Int32))), .val (.int tq), .unset, .unset] [(.int t3)])) t
                          refine XS.istore X8.here hx rfl (hb hby at_163) rfl (l' := #[.val (.int p0), .val (.int p1), .val (.int p2), .val (.int p3), .val (.int p4), .val (.int p5), .val (.int t0), .val (.int t1), .val (.int t2), .val (.int t3), .val (.int tq), .val (.int vc), .val (.ref b1), .val (.int (p5 &&& (7 : Int32))), .val (.int t3), .unset, .unset]) rfl ?_
                          exact kt
                        · rw [if_neg hj158_26] at kt
                          show Steps p.tables e below (T8.setTop (mkF m 158 #[.val (.int p0), .val (.int p1), .val (.int p2), .val (.int p3), .val (.int p4), .val (.int p5), .val (.int t0), .val (.int t1), .val (.int t2), .val (.int t3), .val (.int tq), .val (.int vc), .val (.ref b1), .val (.int (p5 &&& (7 : Int32))), .val (.int tq), .unset, .unset] [(.int (3 : Int32)), (.int (p5 &&& (7 : Int32)))])) t
                          refine XS.icmpYes X8.here hx rfl (pc0 := 158) (pc' := 165) rfl (hb hby at_158) rfl (feq hj158_26).2 (by decide) (by decide) ?_
                          exact kt
                      exact kt
                  exact kt
              exact kt
          generalize h_vx : (if (p5 &&& (7 : Int32)) = (0 : Int32) then t0 else (if (p5 &&& (7 : Int32)) = (1 : Int32) then t1 else (if (p5 &&& (7 : Int32)) = (2 : Int32) then t2 else (if (p5 &&& (7 : Int32)) = (3 : Int32) then t3 else tq)))) = vx
          refine own_by (A' := T8.setTop (mkF m 169 #[.val (.int p0), .val (.int p1), .val (.int p2), .val (.int p3), .val (.int p4), .val (.int p5), .val (.int t0), .val (.int t1), .val (.int t2), .val (.int t3), .val (.int tq), .val (.int vc), .val (.ref b1), .val (.int (p5 &&& (7 : Int32))), .val (.int vx), .unset, .unset] [(.int vx), (.ref b1)])) (fun t kt => ?_) ?_
          · show Steps p.tables e below (T8.setTop (mkF m 165 #[.val (.int p0), .val (.int p1), .val (.int p2), .val (.int p3), .val (.int p4), .val (.int p5), .val (.int t0), .val (.int t1), .val (.int t2), .val (.int t3), .val (.int tq), .val (.int vc), .val (.ref b1), .val (.int (p5 &&& (7 : Int32))), .val (.int vx), .unset, .unset] [])) t
            refine XS.aload X8.here hx rfl (hb hby at_165) rfl rfl ?_
            show Steps p.tables e below (T8.setTop (mkF m 167 #[.val (.int p0), .val (.int p1), .val (.int p2), .val (.int p3), .val (.int p4), .val (.int p5), .val (.int t0), .val (.int t1), .val (.int t2), .val (.int t3), .val (.int tq), .val (.int vc), .val (.ref b1), .val (.int (p5 &&& (7 : Int32))), .val (.int vx), .unset, .unset] [(.ref b1)])) t
            refine XS.iload X8.here hx rfl (hb hby at_167) rfl ?_
            exact kt
          obtain ⟨cq27, kq27, q27a, q27b, q27c⟩ := isOf hZ rfl GE8
          obtain ⟨_, _, ⟨T27, L27, k27, n27⟩, -, X27, ⟨Lc27, hQ27, l27, y27, z27⟩, st27⟩ := X8.virtualBack hx (y := (⟨"com/example/corollary/corollary/saturation/TermSet", "contains", "(I)Z"⟩ : MethodName)) (z := (⟨"com/example/corollary/corollary/saturation/TermSet", "contains", "(I)Z"⟩ : MethodName)) hown (mvT hZ (hw _ (List.mem_of_getElem? (i := 13) rfl))) (mvT hZ (hw _ (List.mem_of_getElem? (i := 14) rfl))) (notFace_of_selects (args := #[]) (mvT hZ (hw _ (List.mem_of_getElem? (i := 16) rfl)))) (mvT hZ (hw _ (List.mem_of_getElem? (i := 16) rfl))) (mvT hZ (hw _ (List.mem_of_getElem? (i := 15) rfl))) (by decide) (backOf (W := 0) (rm3 l Z aw hw [] b1 vx b2 f8 lo8 hi8 sz8 (t2 :: (t1 :: (t0 :: []))) T8.heap n0 (Nat.le_trans Z0 K8.1) G18 G28 G38 G48 V8 I8 (Nat.le_of_ble_eq_true rfl)) hZ (hw _ (List.mem_of_getElem? (i := 17) rfl)) (hw _ (List.mem_of_getElem? (i := 3) rfl)) (by decide) (by decide)) q27a q27c (g := (mkF m 169 #[.val (.int p0), .val (.int p1), .val (.int p2), .val (.int p3), .val (.int p4), .val (.int p5), .val (.int t0), .val (.int t1), .val (.int t2), .val (.int t3), .val (.int tq), .val (.int vc), .val (.ref b1), .val (.int (p5 &&& (7 : Int32))), .val (.int vx), .unset, .unset] [(.int vx), (.ref b1)])) rfl (by rw [hml]; rfl) (Steps.refl _) (argsL := [(.int vx)]) (rest := []) (lenOf pd_4 rfl) rfl (by show 2 * 0 + _ ≤ _; exact Nat.le_of_eq rfl) (hb hby at_169) (fun _ _ => ⟨rfl, rfl, (by decide : 2 + 0 ≤ _), (by decide : 68 + 0 ≤ _)⟩)
          dsimp only [Pt.U, Pt.locs, Pt.cells, Pt.slots] at X27 l27 y27 z27 st27 hQ27
          subst l27 y27 z27
          obtain ⟨rfl, N27q, e27⟩ := hQ27
          have N27 := Fr.app N8 N27q
          refine own_by (A' := T27.setTop (mkF m 172 #[.val (.int p0), .val (.int p1), .val (.int p2), .val (.int p3), .val (.int p4), .val (.int p5), .val (.int t0), .val (.int t1), .val (.int t2), .val (.int t3), .val (.int tq), .val (.int vc), .val (.ref b1), .val (.int (p5 &&& (7 : Int32))), .val (.int vx), .unset, .unset] [(.int (if vx ∈ ((t2 :: (t1 :: (t0 :: []))) : List Int32) then (1 : Int32) else (0 : Int32)))])) (fun t kt => st27.trans kt) ?_
          refine own_by (A' := T27.setTop (mkF m 184 #[.val (.int p0), .val (.int p1), .val (.int p2), .val (.int p3), .val (.int p4), .val (.int p5), .val (.int t0), .val (.int t1), .val (.int t2), .val (.int t3), .val (.int tq), .val (.int vc), .val (.ref b1), .val (.int (p5 &&& (7 : Int32))), .val (.int vx), .unset, .unset] [(.int t3), (.int t2), (.int t1), (.int t0), (.int vc), (.int vx), (.int (if vx ∈ ((t2 :: (t1 :: (t0 :: []))) : List Int32) then (1 : Int32) else (0 : Int32)))])) (fun t kt => ?_) ?_
          · show Steps p.tables e below (T27.setTop (mkF m 172 #[.val (.int p0), .val (.int p1), .val (.int p2), .val (.int p3), .val (.int p4), .val (.int p5), .val (.int t0), .val (.int t1), .val (.int t2), .val (.int t3), .val (.int tq), .val (.int vc), .val (.ref b1), .val (.int (p5 &&& (7 : Int32))), .val (.int vx), .unset, .unset] [(.int (if vx ∈ ((t2 :: (t1 :: (t0 :: []))) : List Int32) then (1 : Int32) else (0 : Int32)))])) t
            refine XS.iload X27.here hx rfl (hb hby at_172) rfl ?_
            show Steps p.tables e below (T27.setTop (mkF m 174 #[.val (.int p0), .val (.int p1), .val (.int p2), .val (.int p3), .val (.int p4), .val (.int p5), .val (.int t0), .val (.int t1), .val (.int t2), .val (.int t3), .val (.int tq), .val (.int vc), .val (.ref b1), .val (.int (p5 &&& (7 : Int32))), .val (.int vx), .unset, .unset] [(.int vx), (.int (if vx ∈ ((t2 :: (t1 :: (t0 :: []))) : List Int32) then (1 : Int32) else (0 : Int32)))])) t
            refine XS.iload X27.here hx rfl (hb hby at_174) rfl ?_
            show Steps p.tables e below (T27.setTop (mkF m 176 #[.val (.int p0), .val (.int p1), .val (.int p2), .val (.int p3), .val (.int p4), .val (.int p5), .val (.int t0), .val (.int t1), .val (.int t2), .val (.int t3), .val (.int tq), .val (.int vc), .val (.ref b1), .val (.int (p5 &&& (7 : Int32))), .val (.int vx), .unset, .unset] [(.int vc), (.int vx), (.int (if vx ∈ ((t2 :: (t1 :: (t0 :: []))) : List Int32) then (1 : Int32) else (0 : Int32)))])) t
            refine XS.iload X27.here hx rfl (hb hby at_176) rfl ?_
            show Steps p.tables e below (T27.setTop (mkF m 178 #[.val (.int p0), .val (.int p1), .val (.int p2), .val (.int p3), .val (.int p4), .val (.int p5), .val (.int t0), .val (.int t1), .val (.int t2), .val (.int t3), .val (.int tq), .val (.int vc), .val (.ref b1), .val (.int (p5 &&& (7 : Int32))), .val (.int vx), .unset, .unset] [(.int t0), (.int vc), (.int vx), (.int (if vx ∈ ((t2 :: (t1 :: (t0 :: []))) : List Int32) then (1 : Int32) else (0 : Int32)))])) t
            refine XS.iload X27.here hx rfl (hb hby at_178) rfl ?_
            show Steps p.tables e below (T27.setTop (mkF m 180 #[.val (.int p0), .val (.int p1), .val (.int p2), .val (.int p3), .val (.int p4), .val (.int p5), .val (.int t0), .val (.int t1), .val (.int t2), .val (.int t3), .val (.int tq), .val (.int vc), .val (.ref b1), .val (.int (p5 &&& (7 : Int32))), .val (.int vx), .unset, .unset] [(.int t1), (.int t0), (.int vc), (.int vx), (.int (if vx ∈ ((t2 :: (t1 :: (t0 :: []))) : List Int32) then (1 : Int32) else (0 : Int32)))])) t
            refine XS.iload X27.here hx rfl (hb hby at_180) rfl ?_
            show Steps p.tables e below (T27.setTop (mkF m 182 #[.val (.int p0), .val (.int p1), .val (.int p2), .val (.int p3), .val (.int p4), .val (.int p5), .val (.int t0), .val (.int t1), .val (.int t2), .val (.int t3), .val (.int tq), .val (.int vc), .val (.ref b1), .val (.int (p5 &&& (7 : Int32))), .val (.int vx), .unset, .unset] [(.int t2), (.int t1), (.int t0), (.int vc), (.int vx), (.int (if vx ∈ ((t2 :: (t1 :: (t0 :: []))) : List Int32) then (1 : Int32) else (0 : Int32)))])) t
            refine XS.iload X27.here hx rfl (hb hby at_182) rfl ?_
            exact kt
          obtain ⟨_, _, ⟨T28, L28, k28, n28⟩, -, X28, ⟨Lc28, hQ28, l28, y28, z28⟩, st28⟩ := Jvm.LawKit.callS X27 hx (y := (⟨"com/example/corollary/corollary/saturation/TermSetContainsPinLaw", "member", "(IIIIII)Z"⟩ : MethodName)) hown (mvT hZ (hw _ (List.mem_of_getElem? (i := 24) rfl))) (mvT hZ (hw _ (List.mem_of_getElem? (i := 25) rfl))) (mvT hZ (hw _ (List.mem_of_getElem? (i := 26) rfl))) (mvT hZ (hw _ (List.mem_of_getElem? (i := 27) rfl))) (by decide) (backOf (W := 1) (rm5 l Z aw hw [] vx vc t0 t1 t2 t3 T8.heap n0 (Nat.le_trans Z0 K8.1) ) hZ (hw _ (List.mem_of_getElem? (i := 27) rfl)) (hw _ (List.mem_of_getElem? (i := 26) rfl)) (by decide) (by decide)) (g := (mkF m 184 #[.val (.int p0), .val (.int p1), .val (.int p2), .val (.int p3), .val (.int p4), .val (.int p5), .val (.int t0), .val (.int t1), .val (.int t2), .val (.int t3), .val (.int tq), .val (.int vc), .val (.ref b1), .val (.int (p5 &&& (7 : Int32))), .val (.int vx), .unset, .unset] [(.int t3), (.int t2), (.int t1), (.int t0), (.int vc), (.int vx), (.int (if vx ∈ ((t2 :: (t1 :: (t0 :: []))) : List Int32) then (1 : Int32) else (0 : Int32)))])) rfl (by rw [hml]; rfl) (argsL := [(.int vx), (.int vc), (.int t0), (.int t1), (.int t2), (.int t3)]) (rest := [(.int (if vx ∈ ((t2 :: (t1 :: (t0 :: []))) : List Int32) then (1 : Int32) else (0 : Int32)))]) (lenOf pd_5 rfl) rfl (by show 2 * 0 + _ ≤ _; exact Nat.le_of_eq rfl) (hb hby at_184) (fun _ _ => ⟨rfl, e27, (by decide : 2 + 0 ≤ _), (by decide : 68 + 0 ≤ _)⟩)
          dsimp only [Pt.U, Pt.locs, Pt.cells, Pt.slots] at X28 l28 y28 z28 st28 hQ28
          subst l28 y28 z28
          obtain ⟨rfl, N28q, e28⟩ := hQ28
          have N28 := Fr.app N27 N28q
          refine own_by (A' := T28.setTop (mkF m 187 #[.val (.int p0), .val (.int p1), .val (.int p2), .val (.int p3), .val (.int p4), .val (.int p5), .val (.int t0), .val (.int t1), .val (.int t2), .val (.int t3), .val (.int tq), .val (.int vc), .val (.ref b1), .val (.int (p5 &&& (7 : Int32))), .val (.int vx), .unset, .unset] [(.int (own_f5 vx vc t0 t1 t2 t3)), (.int (if vx ∈ ((t2 :: (t1 :: (t0 :: []))) : List Int32) then (1 : Int32) else (0 : Int32)))])) (fun t kt => st28 t kt) ?_
          have hc187_29 : (if vx ∈ ((t2 :: (t1 :: (t0 :: []))) : List Int32) then (1 : Int32) else (0 : Int32)) = (own_f5 vx vc t0 t1 t2 t3) := by
            simp only [own_f5, hc53_3, hc67_5, hc81_7, hc95_9, if_true, if_false, List.mem_cons, List.not_mem_nil, or_false]
            repeat' split
            all_goals first | rfl | (exfalso; simp_all; done)
          refine own_by (A' := T28.setTop (mkF m 201 #[.val (.int p0), .val (.int p1), .val (.int p2), .val (.int p3), .val (.int p4), .val (.int p5), .val (.int t0), .val (.int t1), .val (.int t2), .val (.int t3), .val (.int tq), .val (.int vc), .val (.ref b1), .val (.int (p5 &&& (7 : Int32))), .val (.int vx), .val (.int (1 : Int32)), .unset] [(.int tq), (.ref b1)])) (fun t kt => ?_) ?_
          · show Steps p.tables e below (T28.setTop (mkF m 187 #[.val (.int p0), .val (.int p1), .val (.int p2), .val (.int p3), .val (.int p4), .val (.int p5), .val (.int t0), .val (.int t1), .val (.int t2), .val (.int t3), .val (.int tq), .val (.int vc), .val (.ref b1), .val (.int (p5 &&& (7 : Int32))), .val (.int vx), .unset, .unset] [(.int (own_f5 vx vc t0 t1 t2 t3)), (.int (if vx ∈ ((t2 :: (t1 :: (t0 :: []))) : List Int32) then (1 : Int32) else (0 : Int32)))])) t
            refine XS.icmpNo X28.here hx rfl (hb hby at_187) rfl (teq hc187_29).2 ?_
            show Steps p.tables e below (T28.setTop (mkF m 190 #[.val (.int p0), .val (.int p1), .val (.int p2), .val (.int p3), .val (.int p4), .val (.int p5), .val (.int t0), .val (.int t1), .val (.int t2), .val (.int t3), .val (.int tq), .val (.int vc), .val (.ref b1), .val (.int (p5 &&& (7 : Int32))), .val (.int vx), .unset, .unset] [])) t
            refine XS.iconst X28.here hx rfl (hb hby at_190) ?_
            show Steps p.tables e below (T28.setTop (mkF m 191 #[.val (.int p0), .val (.int p1), .val (.int p2), .val (.int p3), .val (.int p4), .val (.int p5), .val (.int t0), .val (.int t1), .val (.int t2), .val (.int t3), .val (.int tq), .val (.int vc), .val (.ref b1), .val (.int (p5 &&& (7 : Int32))), .val (.int vx), .unset, .unset] [(.int (1 : Int32))])) t
            refine XS.goto X28.here hx rfl (pc0 := 191) (pc' := 195) rfl (hb hby at_191) (by decide) (by decide) ?_
            show Steps p.tables e below (T28.setTop (mkF m 195 #[.val (.int p0), .val (.int p1), .val (.int p2), .val (.int p3), .val (.int p4), .val (.int p5), .val (.int t0), .val (.int t1), .val (.int t2), .val (.int t3), .val (.int tq), .val (.int vc), .val (.ref b1), .val (.int (p5 &&& (7 : Int32))), .val (.int vx), .unset, .unset] [(.int (1 : Int32))])) t
            refine XS.istore X28.here hx rfl (hb hby at_195) rfl (l' := #[.val (.int p0), .val (.int p1), .val (.int p2), .val (.int p3), .val (.int p4), .val (.int p5), .val (.int t0), .val (.int t1), .val (.int t2), .val (.int t3), .val (.int tq), .val (.int vc), .val (.ref b1), .val (.int (p5 &&& (7 : Int32))), .val (.int vx), .val (.int (1 : Int32)), .unset]) rfl ?_
            show Steps p.tables e below (T28.setTop (mkF m 197 #[.val (.int p0), .val (.int p1), .val (.int p2), .val (.int p3), .val (.int p4), .val (.int p5), .val (.int t0), .val (.int t1), .val (.int t2), .val (.int t3), .val (.int tq), .val (.int vc), .val (.ref b1), .val (.int (p5 &&& (7 : Int32))), .val (.int vx), .val (.int (1 : Int32)), .unset] [])) t
            refine XS.aload X28.here hx rfl (hb hby at_197) rfl rfl ?_
            show Steps p.tables e below (T28.setTop (mkF m 199 #[.val (.int p0), .val (.int p1), .val (.int p2), .val (.int p3), .val (.int p4), .val (.int p5), .val (.int t0), .val (.int t1), .val (.int t2), .val (.int t3), .val (.int tq), .val (.int vc), .val (.ref b1), .val (.int (p5 &&& (7 : Int32))), .val (.int vx), .val (.int (1 : Int32)), .unset] [(.ref b1)])) t
            refine XS.iload X28.here hx rfl (hb hby at_199) rfl ?_
            exact kt
          obtain ⟨cq30, kq30, q30a, q30b, q30c⟩ := isOf hZ e28 GE8
          obtain ⟨_, _, ⟨T30, L30, k30, n30⟩, -, X30, ⟨Lc30, hQ30, l30, y30, z30⟩, st30⟩ := X28.virtualBack hx (y := (⟨"com/example/corollary/corollary/saturation/TermSet", "contains", "(I)Z"⟩ : MethodName)) (z := (⟨"com/example/corollary/corollary/saturation/TermSet", "contains", "(I)Z"⟩ : MethodName)) hown (mvT hZ (hw _ (List.mem_of_getElem? (i := 13) rfl))) (mvT hZ (hw _ (List.mem_of_getElem? (i := 14) rfl))) (notFace_of_selects (args := #[]) (mvT hZ (hw _ (List.mem_of_getElem? (i := 16) rfl)))) (mvT hZ (hw _ (List.mem_of_getElem? (i := 16) rfl))) (mvT hZ (hw _ (List.mem_of_getElem? (i := 15) rfl))) (by decide) (backOf (W := 0) (rm3 l Z aw hw [] b1 tq b2 f8 lo8 hi8 sz8 (t2 :: (t1 :: (t0 :: []))) T8.heap n0 (Nat.le_trans Z0 K8.1) G18 G28 G38 G48 V8 I8 (Nat.le_of_ble_eq_true rfl)) hZ (hw _ (List.mem_of_getElem? (i := 17) rfl)) (hw _ (List.mem_of_getElem? (i := 3) rfl)) (by decide) (by decide)) q30a q30c (g := (mkF m 201 #[.val (.int p0), .val (.int p1), .val (.int p2), .val (.int p3), .val (.int p4), .val (.int p5), .val (.int t0), .val (.int t1), .val (.int t2), .val (.int t3), .val (.int tq), .val (.int vc), .val (.ref b1), .val (.int (p5 &&& (7 : Int32))), .val (.int vx), .val (.int (1 : Int32)), .unset] [(.int tq), (.ref b1)])) rfl (by rw [hml]; rfl) (Steps.refl _) (argsL := [(.int tq)]) (rest := []) (lenOf pd_4 rfl) rfl (by show 2 * 0 + _ ≤ _; exact Nat.le_of_eq rfl) (hb hby at_201) (fun _ _ => ⟨rfl, e28, (by decide : 2 + 0 ≤ _), (by decide : 68 + 0 ≤ _)⟩)
          dsimp only [Pt.U, Pt.locs, Pt.cells, Pt.slots] at X30 l30 y30 z30 st30 hQ30
          subst l30 y30 z30
          obtain ⟨rfl, N30q, e30⟩ := hQ30
          have N30 := Fr.app N28 N30q
          refine own_by (A' := T30.setTop (mkF m 204 #[.val (.int p0), .val (.int p1), .val (.int p2), .val (.int p3), .val (.int p4), .val (.int p5), .val (.int t0), .val (.int t1), .val (.int t2), .val (.int t3), .val (.int tq), .val (.int vc), .val (.ref b1), .val (.int (p5 &&& (7 : Int32))), .val (.int vx), .val (.int (1 : Int32)), .unset] [(.int (if tq ∈ ((t2 :: (t1 :: (t0 :: []))) : List Int32) then (1 : Int32) else (0 : Int32)))])) (fun t kt => st30.trans kt) ?_
          refine own_by (A' := T30.setTop (mkF m 216 #[.val (.int p0), .val (.int p1), .val (.int p2), .val (.int p3), .val (.int p4), .val (.int p5), .val (.int t0), .val (.int t1), .val (.int t2), .val (.int t3), .val (.int tq), .val (.int vc), .val (.ref b1), .val (.int (p5 &&& (7 : Int32))), .val (.int vx), .val (.int (1 : Int32)), .unset] [(.int t3), (.int t2), (.int t1), (.int t0), (.int vc), (.int tq), (.int (if tq ∈ ((t2 :: (t1 :: (t0 :: []))) : List Int32) then (1 : Int32) else (0 : Int32)))])) (fun t kt => ?_) ?_
          · show Steps p.tables e below (T30.setTop (mkF m 204 #[.val (.int p0), .val (.int p1), .val (.int p2), .val (.int p3), .val (.int p4), .val (.int p5), .val (.int t0), .val (.int t1), .val (.int t2), .val (.int t3), .val (.int tq), .val (.int vc), .val (.ref b1), .val (.int (p5 &&& (7 : Int32))), .val (.int vx), .val (.int (1 : Int32)), .unset] [(.int (if tq ∈ ((t2 :: (t1 :: (t0 :: []))) : List Int32) then (1 : Int32) else (0 : Int32)))])) t
            refine XS.iload X30.here hx rfl (hb hby at_204) rfl ?_
            show Steps p.tables e below (T30.setTop (mkF m 206 #[.val (.int p0), .val (.int p1), .val (.int p2), .val (.int p3), .val (.int p4), .val (.int p5), .val (.int t0), .val (.int t1), .val (.int t2), .val (.int t3), .val (.int tq), .val (.int vc), .val (.ref b1), .val (.int (p5 &&& (7 : Int32))), .val (.int vx), .val (.int (1 : Int32)), .unset] [(.int tq), (.int (if tq ∈ ((t2 :: (t1 :: (t0 :: []))) : List Int32) then (1 : Int32) else (0 : Int32)))])) t
            refine XS.iload X30.here hx rfl (hb hby at_206) rfl ?_
            show Steps p.tables e below (T30.setTop (mkF m 208 #[.val (.int p0), .val (.int p1), .val (.int p2), .val (.int p3), .val (.int p4), .val (.int p5), .val (.int t0), .val (.int t1), .val (.int t2), .val (.int t3), .val (.int tq), .val (.int vc), .val (.ref b1), .val (.int (p5 &&& (7 : Int32))), .val (.int vx), .val (.int (1 : Int32)), .unset] [(.int vc), (.int tq), (.int (if tq ∈ ((t2 :: (t1 :: (t0 :: []))) : List Int32) then (1 : Int32) else (0 : Int32)))])) t
            refine XS.iload X30.here hx rfl (hb hby at_208) rfl ?_
            show Steps p.tables e below (T30.setTop (mkF m 210 #[.val (.int p0), .val (.int p1), .val (.int p2), .val (.int p3), .val (.int p4), .val (.int p5), .val (.int t0), .val (.int t1), .val (.int t2), .val (.int t3), .val (.int tq), .val (.int vc), .val (.ref b1), .val (.int (p5 &&& (7 : Int32))), .val (.int vx), .val (.int (1 : Int32)), .unset] [(.int t0), (.int vc), (.int tq), (.int (if tq ∈ ((t2 :: (t1 :: (t0 :: []))) : List Int32) then (1 : Int32) else (0 : Int32)))])) t
            refine XS.iload X30.here hx rfl (hb hby at_210) rfl ?_
            show Steps p.tables e below (T30.setTop (mkF m 212 #[.val (.int p0), .val (.int p1), .val (.int p2), .val (.int p3), .val (.int p4), .val (.int p5), .val (.int t0), .val (.int t1), .val (.int t2), .val (.int t3), .val (.int tq), .val (.int vc), .val (.ref b1), .val (.int (p5 &&& (7 : Int32))), .val (.int vx), .val (.int (1 : Int32)), .unset] [(.int t1), (.int t0), (.int vc), (.int tq), (.int (if tq ∈ ((t2 :: (t1 :: (t0 :: []))) : List Int32) then (1 : Int32) else (0 : Int32)))])) t
            refine XS.iload X30.here hx rfl (hb hby at_212) rfl ?_
            show Steps p.tables e below (T30.setTop (mkF m 214 #[.val (.int p0), .val (.int p1), .val (.int p2), .val (.int p3), .val (.int p4), .val (.int p5), .val (.int t0), .val (.int t1), .val (.int t2), .val (.int t3), .val (.int tq), .val (.int vc), .val (.ref b1), .val (.int (p5 &&& (7 : Int32))), .val (.int vx), .val (.int (1 : Int32)), .unset] [(.int t2), (.int t1), (.int t0), (.int vc), (.int tq), (.int (if tq ∈ ((t2 :: (t1 :: (t0 :: []))) : List Int32) then (1 : Int32) else (0 : Int32)))])) t
            refine XS.iload X30.here hx rfl (hb hby at_214) rfl ?_
            exact kt
          obtain ⟨_, _, ⟨T31, L31, k31, n31⟩, -, X31, ⟨Lc31, hQ31, l31, y31, z31⟩, st31⟩ := Jvm.LawKit.callS X30 hx (y := (⟨"com/example/corollary/corollary/saturation/TermSetContainsPinLaw", "member", "(IIIIII)Z"⟩ : MethodName)) hown (mvT hZ (hw _ (List.mem_of_getElem? (i := 24) rfl))) (mvT hZ (hw _ (List.mem_of_getElem? (i := 25) rfl))) (mvT hZ (hw _ (List.mem_of_getElem? (i := 26) rfl))) (mvT hZ (hw _ (List.mem_of_getElem? (i := 27) rfl))) (by decide) (backOf (W := 1) (rm5 l Z aw hw [] tq vc t0 t1 t2 t3 T8.heap n0 (Nat.le_trans Z0 K8.1) ) hZ (hw _ (List.mem_of_getElem? (i := 27) rfl)) (hw _ (List.mem_of_getElem? (i := 26) rfl)) (by decide) (by decide)) (g := (mkF m 216 #[.val (.int p0), .val (.int p1), .val (.int p2), .val (.int p3), .val (.int p4), .val (.int p5), .val (.int t0), .val (.int t1), .val (.int t2), .val (.int t3), .val (.int tq), .val (.int vc), .val (.ref b1), .val (.int (p5 &&& (7 : Int32))), .val (.int vx), .val (.int (1 : Int32)), .unset] [(.int t3), (.int t2), (.int t1), (.int t0), (.int vc), (.int tq), (.int (if tq ∈ ((t2 :: (t1 :: (t0 :: []))) : List Int32) then (1 : Int32) else (0 : Int32)))])) rfl (by rw [hml]; rfl) (argsL := [(.int tq), (.int vc), (.int t0), (.int t1), (.int t2), (.int t3)]) (rest := [(.int (if tq ∈ ((t2 :: (t1 :: (t0 :: []))) : List Int32) then (1 : Int32) else (0 : Int32)))]) (lenOf pd_5 rfl) rfl (by show 2 * 0 + _ ≤ _; exact Nat.le_of_eq rfl) (hb hby at_216) (fun _ _ => ⟨rfl, e30, (by decide : 2 + 0 ≤ _), (by decide : 68 + 0 ≤ _)⟩)
          dsimp only [Pt.U, Pt.locs, Pt.cells, Pt.slots] at X31 l31 y31 z31 st31 hQ31
          subst l31 y31 z31
          obtain ⟨rfl, N31q, e31⟩ := hQ31
          have N31 := Fr.app N30 N31q
          refine own_by (A' := T31.setTop (mkF m 219 #[.val (.int p0), .val (.int p1), .val (.int p2), .val (.int p3), .val (.int p4), .val (.int p5), .val (.int t0), .val (.int t1), .val (.int t2), .val (.int t3), .val (.int tq), .val (.int vc), .val (.ref b1), .val (.int (p5 &&& (7 : Int32))), .val (.int vx), .val (.int (1 : Int32)), .unset] [(.int (own_f5 tq vc t0 t1 t2 t3)), (.int (if tq ∈ ((t2 :: (t1 :: (t0 :: []))) : List Int32) then (1 : Int32) else (0 : Int32)))])) (fun t kt => st31 t kt) ?_
          have hc219_32 : (if tq ∈ ((t2 :: (t1 :: (t0 :: []))) : List Int32) then (1 : Int32) else (0 : Int32)) = (own_f5 tq vc t0 t1 t2 t3) := by
            simp only [own_f5, hc53_3, hc67_5, hc81_7, hc95_9, if_true, if_false, List.mem_cons, List.not_mem_nil, or_false]
            repeat' split
            all_goals first | rfl | (exfalso; simp_all; done)
          refine own_by (A' := T31.setTop (mkF m 231 #[.val (.int p0), .val (.int p1), .val (.int p2), .val (.int p3), .val (.int p4), .val (.int p5), .val (.int t0), .val (.int t1), .val (.int t2), .val (.int t3), .val (.int tq), .val (.int vc), .val (.ref b1), .val (.int (p5 &&& (7 : Int32))), .val (.int vx), .val (.int (1 : Int32)), .val (.int (1 : Int32))] [(.int (1 : Int32))])) (fun t kt => ?_) ?_
          · show Steps p.tables e below (T31.setTop (mkF m 219 #[.val (.int p0), .val (.int p1), .val (.int p2), .val (.int p3), .val (.int p4), .val (.int p5), .val (.int t0), .val (.int t1), .val (.int t2), .val (.int t3), .val (.int tq), .val (.int vc), .val (.ref b1), .val (.int (p5 &&& (7 : Int32))), .val (.int vx), .val (.int (1 : Int32)), .unset] [(.int (own_f5 tq vc t0 t1 t2 t3)), (.int (if tq ∈ ((t2 :: (t1 :: (t0 :: []))) : List Int32) then (1 : Int32) else (0 : Int32)))])) t
            refine XS.icmpNo X31.here hx rfl (hb hby at_219) rfl (teq hc219_32).2 ?_
            show Steps p.tables e below (T31.setTop (mkF m 222 #[.val (.int p0), .val (.int p1), .val (.int p2), .val (.int p3), .val (.int p4), .val (.int p5), .val (.int t0), .val (.int t1), .val (.int t2), .val (.int t3), .val (.int tq), .val (.int vc), .val (.ref b1), .val (.int (p5 &&& (7 : Int32))), .val (.int vx), .val (.int (1 : Int32)), .unset] [])) t
            refine XS.iconst X31.here hx rfl (hb hby at_222) ?_
            show Steps p.tables e below (T31.setTop (mkF m 223 #[.val (.int p0), .val (.int p1), .val (.int p2), .val (.int p3), .val (.int p4), .val (.int p5), .val (.int t0), .val (.int t1), .val (.int t2), .val (.int t3), .val (.int tq), .val (.int vc), .val (.ref b1), .val (.int (p5 &&& (7 : Int32))), .val (.int vx), .val (.int (1 : Int32)), .unset] [(.int (1 : Int32))])) t
            refine XS.goto X31.here hx rfl (pc0 := 223) (pc' := 227) rfl (hb hby at_223) (by decide) (by decide) ?_
            show Steps p.tables e below (T31.setTop (mkF m 227 #[.val (.int p0), .val (.int p1), .val (.int p2), .val (.int p3), .val (.int p4), .val (.int p5), .val (.int t0), .val (.int t1), .val (.int t2), .val (.int t3), .val (.int tq), .val (.int vc), .val (.ref b1), .val (.int (p5 &&& (7 : Int32))), .val (.int vx), .val (.int (1 : Int32)), .unset] [(.int (1 : Int32))])) t
            refine XS.istore X31.here hx rfl (hb hby at_227) rfl (l' := #[.val (.int p0), .val (.int p1), .val (.int p2), .val (.int p3), .val (.int p4), .val (.int p5), .val (.int t0), .val (.int t1), .val (.int t2), .val (.int t3), .val (.int tq), .val (.int vc), .val (.ref b1), .val (.int (p5 &&& (7 : Int32))), .val (.int vx), .val (.int (1 : Int32)), .val (.int (1 : Int32))]) rfl ?_
            show Steps p.tables e below (T31.setTop (mkF m 229 #[.val (.int p0), .val (.int p1), .val (.int p2), .val (.int p3), .val (.int p4), .val (.int p5), .val (.int t0), .val (.int t1), .val (.int t2), .val (.int t3), .val (.int tq), .val (.int vc), .val (.ref b1), .val (.int (p5 &&& (7 : Int32))), .val (.int vx), .val (.int (1 : Int32)), .val (.int (1 : Int32))] [])) t
            refine XS.iload X31.here hx rfl (hb hby at_229) rfl ?_
            exact kt
          have hc231_33 : ¬ ((1 : Int32) = (0 : Int32)) := by decide
          refine own_by (A' := T31.setTop (mkF m 236 #[.val (.int p0), .val (.int p1), .val (.int p2), .val (.int p3), .val (.int p4), .val (.int p5), .val (.int t0), .val (.int t1), .val (.int t2), .val (.int t3), .val (.int tq), .val (.int vc), .val (.ref b1), .val (.int (p5 &&& (7 : Int32))), .val (.int vx), .val (.int (1 : Int32)), .val (.int (1 : Int32))] [(.int (1 : Int32))])) (fun t kt => ?_) ?_
          · show Steps p.tables e below (T31.setTop (mkF m 231 #[.val (.int p0), .val (.int p1), .val (.int p2), .val (.int p3), .val (.int p4), .val (.int p5), .val (.int t0), .val (.int t1), .val (.int t2), .val (.int t3), .val (.int tq), .val (.int vc), .val (.ref b1), .val (.int (p5 &&& (7 : Int32))), .val (.int vx), .val (.int (1 : Int32)), .val (.int (1 : Int32))] [(.int (1 : Int32))])) t
            refine XS.ifNo X31.here hx rfl (hb hby at_231) rfl ((if0 _ _).trans (feq hc231_33).1) ?_
            show Steps p.tables e below (T31.setTop (mkF m 234 #[.val (.int p0), .val (.int p1), .val (.int p2), .val (.int p3), .val (.int p4), .val (.int p5), .val (.int t0), .val (.int t1), .val (.int t2), .val (.int t3), .val (.int tq), .val (.int vc), .val (.ref b1), .val (.int (p5 &&& (7 : Int32))), .val (.int vx), .val (.int (1 : Int32)), .val (.int (1 : Int32))] [])) t
            refine XS.iload X31.here hx rfl (hb hby at_234) rfl ?_
            exact kt
          have hc236_34 : ¬ ((1 : Int32) = (0 : Int32)) := by decide
          refine own_by (A' := T31.setTop (mkF m 244 #[.val (.int p0), .val (.int p1), .val (.int p2), .val (.int p3), .val (.int p4), .val (.int p5), .val (.int t0), .val (.int t1), .val (.int t2), .val (.int t3), .val (.int tq), .val (.int vc), .val (.ref b1), .val (.int (p5 &&& (7 : Int32))), .val (.int vx), .val (.int (1 : Int32)), .val (.int (1 : Int32))] [(.int (1 : Int32))])) (fun t kt => ?_) ?_
          · show Steps p.tables e below (T31.setTop (mkF m 236 #[.val (.int p0), .val (.int p1), .val (.int p2), .val (.int p3), .val (.int p4), .val (.int p5), .val (.int t0), .val (.int t1), .val (.int t2), .val (.int t3), .val (.int tq), .val (.int vc), .val (.ref b1), .val (.int (p5 &&& (7 : Int32))), .val (.int vx), .val (.int (1 : Int32)), .val (.int (1 : Int32))] [(.int (1 : Int32))])) t
            refine XS.ifNo X31.here hx rfl (hb hby at_236) rfl ((if0 _ _).trans (feq hc236_34).1) ?_
            show Steps p.tables e below (T31.setTop (mkF m 239 #[.val (.int p0), .val (.int p1), .val (.int p2), .val (.int p3), .val (.int p4), .val (.int p5), .val (.int t0), .val (.int t1), .val (.int t2), .val (.int t3), .val (.int tq), .val (.int vc), .val (.ref b1), .val (.int (p5 &&& (7 : Int32))), .val (.int vx), .val (.int (1 : Int32)), .val (.int (1 : Int32))] [])) t
            refine XS.iconst X31.here hx rfl (hb hby at_239) ?_
            show Steps p.tables e below (T31.setTop (mkF m 240 #[.val (.int p0), .val (.int p1), .val (.int p2), .val (.int p3), .val (.int p4), .val (.int p5), .val (.int t0), .val (.int t1), .val (.int t2), .val (.int t3), .val (.int tq), .val (.int vc), .val (.ref b1), .val (.int (p5 &&& (7 : Int32))), .val (.int vx), .val (.int (1 : Int32)), .val (.int (1 : Int32))] [(.int (1 : Int32))])) t
            refine XS.goto X31.here hx rfl (pc0 := 240) (pc' := 244) rfl (hb hby at_240) (by decide) (by decide) ?_
            exact kt
          obtain ⟨fs, hr, hrun, hended, hW, hsame⟩ := X31.leave (v := some (.int (1 : Int32))) (fun h => by rw [Bd.returns] at h; cases h)
          refine ⟨_, _, ?_, hrun, hended, _, _, rfl, ?_, ⟨_, rfl⟩, hW, hsame.mono (by decide) (by decide)⟩
          · exact retN X31 hx (t := .boolean) Bd.returns (by simp) (hb hby at_244) hr
          · show Q0 Z p0 p1 p2 p3 p4 p5 h0 n0 _ T31.heap _
            rw [e31]
            exact ⟨rfl, N31⟩
      · refine own_by (A' := T6.setTop (mkF m 95 #[.val (.int p0), .val (.int p1), .val (.int p2), .val (.int p3), .val (.int p4), .val (.int p5), .val (.int t0), .val (.int t1), .val (.int t2), .val (.int t3), .val (.int tq), .val (.int vc), .val (.ref b1), .unset, .unset, .unset, .unset] [(.int (3 : Int32)), (.int vc)])) (fun t kt => ?_) ?_
        · show Steps p.tables e below (T6.setTop (mkF m 81 #[.val (.int p0), .val (.int p1), .val (.int p2), .val (.int p3), .val (.int p4), .val (.int p5), .val (.int t0), .val (.int t1), .val (.int t2), .val (.int t3), .val (.int tq), .val (.int vc), .val (.ref b1), .unset, .unset, .unset, .unset] [(.int (2 : Int32)), (.int vc)])) t
          refine XS.icmpYes X6.here hx rfl (pc0 := 81) (pc' := 92) rfl (hb hby at_81) rfl (flt hc81_7).2.2.2 (by decide) (by decide) ?_
          show Steps p.tables e below (T6.setTop (mkF m 92 #[.val (.int p0), .val (.int p1), .val (.int p2), .val (.int p3), .val (.int p4), .val (.int p5), .val (.int t0), .val (.int t1), .val (.int t2), .val (.int t3), .val (.int tq), .val (.int vc), .val (.ref b1), .unset, .unset, .unset, .unset] [])) t
          refine XS.iload X6.here hx rfl (hb hby at_92) rfl ?_
          show Steps p.tables e below (T6.setTop (mkF m 94 #[.val (.int p0), .val (.int p1), .val (.int p2), .val (.int p3), .val (.int p4), .val (.int p5), .val (.int t0), .val (.int t1), .val (.int t2), .val (.int t3), .val (.int tq), .val (.int vc), .val (.ref b1), .unset, .unset, .unset, .unset] [(.int vc)])) t
          refine XS.iconst X6.here hx rfl (hb hby at_94) ?_
          exact kt
        have hc95_35 : ¬ ((3 : Int32) < vc) := fun q => hc81_7 (Int32.lt_trans (by decide) q)
        refine own_by (A' := T6.setTop (mkF m 119 #[.val (.int p0), .val (.int p1), .val (.int p2), .val (.int p3), .val (.int p4), .val (.int p5), .val (.int t0), .val (.int t1), .val (.int t2), .val (.int t3), .val (.int tq), .val (.int vc), .val (.ref b1), .val (.int (p5 &&& (7 : Int32))), .val (.int tq), .unset, .unset] [(.int (p5 &&& (7 : Int32)))])) (fun t kt => ?_) ?_
        · show Steps p.tables e below (T6.setTop (mkF m 95 #[.val (.int p0), .val (.int p1), .val (.int p2), .val (.int p3), .val (.int p4), .val (.int p5), .val (.int t0), .val (.int t1), .val (.int t2), .val (.int t3), .val (.int tq), .val (.int vc), .val (.ref b1), .unset, .unset, .unset, .unset] [(.int (3 : Int32)), (.int vc)])) t
          refine XS.icmpYes X6.here hx rfl (pc0 := 95) (pc' := 106) rfl (hb hby at_95) rfl (flt hc95_35).2.2.2 (by decide) (by decide) ?_
          show Steps p.tables e below (T6.setTop (mkF m 106 #[.val (.int p0), .val (.int p1), .val (.int p2), .val (.int p3), .val (.int p4), .val (.int p5), .val (.int t0), .val (.int t1), .val (.int t2), .val (.int t3), .val (.int tq), .val (.int vc), .val (.ref b1), .unset, .unset, .unset, .unset] [])) t
          refine XS.iload X6.here hx rfl (hb hby at_106) rfl ?_
          show Steps p.tables e below (T6.setTop (mkF m 108 #[.val (.int p0), .val (.int p1), .val (.int p2), .val (.int p3), .val (.int p4), .val (.int p5), .val (.int t0), .val (.int t1), .val (.int t2), .val (.int t3), .val (.int tq), .val (.int vc), .val (.ref b1), .unset, .unset, .unset, .unset] [(.int p5)])) t
          refine XS.bipush X6.here hx rfl (hb hby at_108) ?_
          show Steps p.tables e below (T6.setTop (mkF m 110 #[.val (.int p0), .val (.int p1), .val (.int p2), .val (.int p3), .val (.int p4), .val (.int p5), .val (.int t0), .val (.int t1), .val (.int t2), .val (.int t3), .val (.int tq), .val (.int vc), .val (.ref b1), .unset, .unset, .unset, .unset] [(.int (7 : Int32)), (.int p5)])) t
          refine XS.iand X6.here hx rfl (hb hby at_110) rfl ?_
          show Steps p.tables e below (T6.setTop (mkF m 111 #[.val (.int p0), .val (.int p1), .val (.int p2), .val (.int p3), .val (.int p4), .val (.int p5), .val (.int t0), .val (.int t1), .val (.int t2), .val (.int t3), .val (.int tq), .val (.int vc), .val (.ref b1), .unset, .unset, .unset, .unset] [(.int (p5 &&& (7 : Int32)))])) t
          refine XS.istore X6.here hx rfl (hb hby at_111) rfl (l' := #[.val (.int p0), .val (.int p1), .val (.int p2), .val (.int p3), .val (.int p4), .val (.int p5), .val (.int t0), .val (.int t1), .val (.int t2), .val (.int t3), .val (.int tq), .val (.int vc), .val (.ref b1), .val (.int (p5 &&& (7 : Int32))), .unset, .unset, .unset]) rfl ?_
          show Steps p.tables e below (T6.setTop (mkF m 113 #[.val (.int p0), .val (.int p1), .val (.int p2), .val (.int p3), .val (.int p4), .val (.int p5), .val (.int t0), .val (.int t1), .val (.int t2), .val (.int t3), .val (.int tq), .val (.int vc), .val (.ref b1), .val (.int (p5 &&& (7 : Int32))), .unset, .unset, .unset] [])) t
          refine XS.iload X6.here hx rfl (hb hby at_113) rfl ?_
          show Steps p.tables e below (T6.setTop (mkF m 115 #[.val (.int p0), .val (.int p1), .val (.int p2), .val (.int p3), .val (.int p4), .val (.int p5), .val (.int t0), .val (.int t1), .val (.int t2), .val (.int t3), .val (.int tq), .val (.int vc), .val (.ref b1), .val (.int (p5 &&& (7 : Int32))), .unset, .unset, .unset] [(.int tq)])) t
          refine XS.istore X6.here hx rfl (hb hby at_115) rfl (l' := #[.val (.int p0), .val (.int p1), .val (.int p2), .val (.int p3), .val (.int p4), .val (.int p5), .val (.int t0), .val (.int t1), .val (.int t2), .val (.int t3), .val (.int tq), .val (.int vc), .val (.ref b1), .val (.int (p5 &&& (7 : Int32))), .val (.int tq), .unset, .unset]) rfl ?_
          show Steps p.tables e below (T6.setTop (mkF m 117 #[.val (.int p0), .val (.int p1), .val (.int p2), .val (.int p3), .val (.int p4), .val (.int p5), .val (.int t0), .val (.int t1), .val (.int t2), .val (.int t3), .val (.int tq), .val (.int vc), .val (.ref b1), .val (.int (p5 &&& (7 : Int32))), .val (.int tq), .unset, .unset] [])) t
          refine XS.iload X6.here hx rfl (hb hby at_117) rfl ?_
          exact kt
        refine own_by (A' := T6.setTop (mkF m 165 #[.val (.int p0), .val (.int p1), .val (.int p2), .val (.int p3), .val (.int p4), .val (.int p5), .val (.int t0), .val (.int t1), .val (.int t2), .val (.int t3), .val (.int tq), .val (.int vc), .val (.ref b1), .val (.int (p5 &&& (7 : Int32))), .val (.int (if (p5 &&& (7 : Int32)) = (0 : Int32) then t0 else (if (p5 &&& (7 : Int32)) = (1 : Int32) then t1 else (if (p5 &&& (7 : Int32)) = (2 : Int32) then t2 else (if (p5 &&& (7 : Int32)) = (3 : Int32) then t3 else tq))))), .unset, .unset] [])) (fun t kt => ?_) ?_
        · show Steps p.tables e below (T6.setTop (mkF m 119 #[.val (.int p0), .val (.int p1), .val (.int p2), .val (.int p3), .val (.int p4), .val (.int p5), .val (.int t0), .val (.int t1), .val (.int t2), .val (.int t3), .val (.int tq), .val (.int vc), .val (.ref b1), .val (.int (p5 &&& (7 : Int32))), .val (.int tq), .unset, .unset] [(.int (p5 &&& (7 : Int32)))])) t
          by_cases hj119_36 : (p5 &&& (7 : Int32)) = (0 : Int32)
          · rw [if_pos hj119_36] at kt
            show Steps p.tables e below (T6.setTop (mkF m 119 #[.val (.int p0), .val (.int p1), .val (.int p2), .val (.int p3), .val (.int p4), .val (.int p5), .val (.int t0), .val (.int t1), .val (.int t2), .val (.int t3), .val (.int tq), .val (.int vc), .val (.ref b1), .val (.int (p5 &&& (7 : Int32))), .val (.int tq), .unset, .unset] [(.int (p5 &&& (7 : Int32)))])) t
            refine XS.ifNo X6.here hx rfl (hb hby at_119) rfl ((if0 _ _).trans (teq hj119_36).2) ?_
            show Steps p.tables e below (T6.setTop (mkF m 122 #[.val (.int p0), .val (.int p1), .val (.int p2), .val (.int p3), .val (.int p4), .val (.int p5), .val (.int t0), .val (.int t1), .val (.int t2), .val (.int t3), .val (.int tq), .val (.int vc), .val (.ref b1), .val (.int (p5 &&& (7 : Int32))), .val (.int tq), .unset, .unset] [])) t
            refine XS.iload X6.here hx rfl (hb hby at_122) rfl ?_
            show Steps p.tables e below (T6.setTop (mkF m 124 #[.val (.int p0), .val (.int p1), .val (.int p2), .val (.int p3), .val (.int p4), .val (.int p5), .val (.int t0), .val (.int t1), .val (.int t2), .val (.int t3), .val (.int tq), .val (.int vc), .val (.ref b1), .val (.int (p5 &&& (7 : Int32))), .val (.int tq), .unset, .unset] [(.int t0)])) t
            refine XS.istore X6.here hx rfl (hb hby at_124) rfl (l' := #[.val (.int p0), .val (.int p1), .val (.int p2), .val (.int p3), .val (.int p4), .val (.int p5), .val (.int t0), .val (.int t1), .val (.int t2), .val (.int t3), .val (.int tq), .val (.int vc), .val (.ref b1), .val (.int (p5 &&& (7 : Int32))), .val (.int t0), .unset, .unset]) rfl ?_
            show Steps p.tables e below (T6.setTop (mkF m 126 #[.val (.int p0), .val (.int p1), .val (.int p2), .val (.int p3), .val (.int p4), .val (.int p5), .val (.int t0), .val (.int t1), .val (.int t2), .val (.int t3), .val (.int tq), .val (.int vc), .val (.ref b1), .val (.int (p5 &&& (7 : Int32))), .val (.int t0), .unset, .unset] [])) t
            refine XS.goto X6.here hx rfl (pc0 := 126) (pc' := 165) rfl (hb hby at_126) (by decide) (by decide) ?_
            exact kt
          · rw [if_neg hj119_36] at kt
            show Steps p.tables e below (T6.setTop (mkF m 119 #[.val (.int p0), .val (.int p1), .val (.int p2), .val (.int p3), .val (.int p4), .val (.int p5), .val (.int t0), .val (.int t1), .val (.int t2), .val (.int t3), .val (.int tq), .val (.int vc), .val (.ref b1), .val (.int (p5 &&& (7 : Int32))), .val (.int tq), .unset, .unset] [(.int (p5 &&& (7 : Int32)))])) t
            refine XS.ifYes X6.here hx rfl (pc0 := 119) (pc' := 129) rfl (hb hby at_119) rfl ((if0 _ _).trans (feq hj119_36).2) (by decide) (by decide) ?_
            show Steps p.tables e below (T6.setTop (mkF m 129 #[.val (.int p0), .val (.int p1), .val (.int p2), .val (.int p3), .val (.int p4), .val (.int p5), .val (.int t0), .val (.int t1), .val (.int t2), .val (.int t3), .val (.int tq), .val (.int vc), .val (.ref b1), .val (.int (p5 &&& (7 : Int32))), .val (.int tq), .unset, .unset] [])) t
            refine XS.iload X6.here hx rfl (hb hby at_129) rfl ?_
            show Steps p.tables e below (T6.setTop (mkF m 131 #[.val (.int p0), .val (.int p1), .val (.int p2), .val (.int p3), .val (.int p4), .val (.int p5), .val (.int t0), .val (.int t1), .val (.int t2), .val (.int t3), .val (.int tq), .val (.int vc), .val (.ref b1), .val (.int (p5 &&& (7 : Int32))), .val (.int tq), .unset, .unset] [(.int (p5 &&& (7 : Int32)))])) t
            refine XS.iconst X6.here hx rfl (hb hby at_131) ?_
            refine own_stp (A' := T6.setTop (mkF m 165 #[.val (.int p0), .val (.int p1), .val (.int p2), .val (.int p3), .val (.int p4), .val (.int p5), .val (.int t0), .val (.int t1), .val (.int t2), .val (.int t3), .val (.int tq), .val (.int vc), .val (.ref b1), .val (.int (p5 &&& (7 : Int32))), .val (.int (if (p5 &&& (7 : Int32)) = (1 : Int32) then t1 else (if (p5 &&& (7 : Int32)) = (2 : Int32) then t2 else (if (p5 &&& (7 : Int32)) = (3 : Int32) then t3 else tq)))), .unset, .unset] [])) (fun t kt => ?_) ?_
            · show Steps p.tables e below (T6.setTop (mkF m 132 #[.val (.int p0), .val (.int p1), .val (.int p2), .val (.int p3), .val (.int p4), .val (.int p5), .val (.int t0), .val (.int t1), .val (.int t2), .val (.int t3), .val (.int tq), .val (.int vc), .val (.ref b1), .val (.int (p5 &&& (7 : Int32))), .val (.int tq), .unset, .unset] [(.int (1 : Int32)), (.int (p5 &&& (7 : Int32)))])) t
              by_cases hj132_37 : (p5 &&& (7 : Int32)) = (1 : Int32)
              · rw [if_pos hj132_37] at kt
                show Steps p.tables e below (T6.setTop (mkF m 132 #[.val (.int p0), .val (.int p1), .val (.int p2), .val (.int p3), .val (.int p4), .val (.int p5), .val (.int t0), .val (.int t1), .val (.int t2), .val (.int t3), .val (.int tq), .val (.int vc), .val (.ref b1), .val (.int (p5 &&& (7 : Int32))), .val (.int tq), .unset, .unset] [(.int (1 : Int32)), (.int (p5 &&& (7 : Int32)))])) t
                refine XS.icmpNo X6.here hx rfl (hb hby at_132) rfl (teq hj132_37).2 ?_
                show Steps p.tables e below (T6.setTop (mkF m 135 #[.val (.int p0), .val (.int p1), .val (.int p2), .val (.int p3), .val (.int p4), .val (.int p5), .val (.int t0), .val (.int t1), .val (.int t2), .val (.int t3), .val (.int tq), .val (.int vc), .val (.ref b1), .val (.int (p5 &&& (7 : Int32))), .val (.int tq), .unset, .unset] [])) t
                refine XS.iload X6.here hx rfl (hb hby at_135) rfl ?_
                show Steps p.tables e below (T6.setTop (mkF m 137 #[.val (.int p0), .val (.int p1), .val (.int p2), .val (.int p3), .val (.int p4), .val (.int p5), .val (.int t0), .val (.int t1), .val (.int t2), .val (.int t3), .val (.int tq), .val (.int vc), .val (.ref b1), .val (.int (p5 &&& (7 : Int32))), .val (.int tq), .unset, .unset] [(.int t1)])) t
                refine XS.istore X6.here hx rfl (hb hby at_137) rfl (l' := #[.val (.int p0), .val (.int p1), .val (.int p2), .val (.int p3), .val (.int p4), .val (.int p5), .val (.int t0), .val (.int t1), .val (.int t2), .val (.int t3), .val (.int tq), .val (.int vc), .val (.ref b1), .val (.int (p5 &&& (7 : Int32))), .val (.int t1), .unset, .unset]) rfl ?_
                show Steps p.tables e below (T6.setTop (mkF m 139 #[.val (.int p0), .val (.int p1), .val (.int p2), .val (.int p3), .val (.int p4), .val (.int p5), .val (.int t0), .val (.int t1), .val (.int t2), .val (.int t3), .val (.int tq), .val (.int vc), .val (.ref b1), .val (.int (p5 &&& (7 : Int32))), .val (.int t1), .unset, .unset] [])) t
                refine XS.goto X6.here hx rfl (pc0 := 139) (pc' := 165) rfl (hb hby at_139) (by decide) (by decide) ?_
                exact kt
              · rw [if_neg hj132_37] at kt
                show Steps p.tables e below (T6.setTop (mkF m 132 #[.val (.int p0), .val (.int p1), .val (.int p2), .val (.int p3), .val (.int p4), .val (.int p5), .val (.int t0), .val (.int t1), .val (.int t2), .val (.int t3), .val (.int tq), .val (.int vc), .val (.ref b1), .val (.int (p5 &&& (7 : Int32))), .val (.int tq), .unset, .unset] [(.int (1 : Int32)), (.int (p5 &&& (7 : Int32)))])) t
                refine XS.icmpYes X6.here hx rfl (pc0 := 132) (pc' := 142) rfl (hb hby at_132) rfl (feq hj132_37).2 (by decide) (by decide) ?_
                show Steps p.tables e below (T6.setTop (mkF m 142 #[.val (.int p0), .val (.int p1), .val (.int p2), .val (.int p3), .val (.int p4), .val (.int p5), .val (.int t0), .val (.int t1), .val (.int t2), .val (.int t3), .val (.int tq), .val (.int vc), .val (.ref b1), .val (.int (p5 &&& (7 : Int32))), .val (.int tq), .unset, .unset] [])) t
                refine XS.iload X6.here hx rfl (hb hby at_142) rfl ?_
                show Steps p.tables e below (T6.setTop (mkF m 144 #[.val (.int p0), .val (.int p1), .val (.int p2), .val (.int p3), .val (.int p4), .val (.int p5), .val (.int t0), .val (.int t1), .val (.int t2), .val (.int t3), .val (.int tq), .val (.int vc), .val (.ref b1), .val (.int (p5 &&& (7 : Int32))), .val (.int tq), .unset, .unset] [(.int (p5 &&& (7 : Int32)))])) t
                refine XS.iconst X6.here hx rfl (hb hby at_144) ?_
                refine own_stp (A' := T6.setTop (mkF m 165 #[.val (.int p0), .val (.int p1), .val (.int p2), .val (.int p3), .val (.int p4), .val (.int p5), .val (.int t0), .val (.int t1), .val (.int t2), .val (.int t3), .val (.int tq), .val (.int vc), .val (.ref b1), .val (.int (p5 &&& (7 : Int32))), .val (.int (if (p5 &&& (7 : Int32)) = (2 : Int32) then t2 else (if (p5 &&& (7 : Int32)) = (3 : Int32) then t3 else tq))), .unset, .unset] [])) (fun t kt => ?_) ?_
                · show Steps p.tables e below (T6.setTop (mkF m 145 #[.val (.int p0), .val (.int p1), .val (.int p2), .val (.int p3), .val (.int p4), .val (.int p5), .val (.int t0), .val (.int t1), .val (.int t2), .val (.int t3), .val (.int tq), .val (.int vc), .val (.ref b1), .val (.int (p5 &&& (7 : Int32))), .val (.int tq), .unset, .unset] [(.int (2 : Int32)), (.int (p5 &&& (7 : Int32)))])) t
                  by_cases hj145_38 : (p5 &&& (7 : Int32)) = (2 : Int32)
                  · rw [if_pos hj145_38] at kt
                    show Steps p.tables e below (T6.setTop (mkF m 145 #[.val (.int p0), .val (.int p1), .val (.int p2), .val (.int p3), .val (.int p4), .val (.int p5), .val (.int t0), .val (.int t1), .val (.int t2), .val (.int t3), .val (.int tq), .val (.int vc), .val (.ref b1), .val (.int (p5 &&& (7 : Int32))), .val (.int tq), .unset, .unset] [(.int (2 : Int32)), (.int (p5 &&& (7 : Int32)))])) t
                    refine XS.icmpNo X6.here hx rfl (hb hby at_145) rfl (teq hj145_38).2 ?_
                    show Steps p.tables e below (T6.setTop (mkF m 148 #[.val (.int p0), .val (.int p1), .val (.int p2), .val (.int p3), .val (.int p4), .val (.int p5), .val (.int t0), .val (.int t1), .val (.int t2), .val (.int t3), .val (.int tq), .val (.int vc), .val (.ref b1), .val (.int (p5 &&& (7 : Int32))), .val (.int tq), .unset, .unset] [])) t
                    refine XS.iload X6.here hx rfl (hb hby at_148) rfl ?_
                    show Steps p.tables e below (T6.setTop (mkF m 150 #[.val (.int p0), .val (.int p1), .val (.int p2), .val (.int p3), .val (.int p4), .val (.int p5), .val (.int t0), .val (.int t1), .val (.int t2), .val (.int t3), .val (.int tq), .val (.int vc), .val (.ref b1), .val (.int (p5 &&& (7 : Int32))), .val (.int tq), .unset, .unset] [(.int t2)])) t
                    refine XS.istore X6.here hx rfl (hb hby at_150) rfl (l' := #[.val (.int p0), .val (.int p1), .val (.int p2), .val (.int p3), .val (.int p4), .val (.int p5), .val (.int t0), .val (.int t1), .val (.int t2), .val (.int t3), .val (.int tq), .val (.int vc), .val (.ref b1), .val (.int (p5 &&& (7 : Int32))), .val (.int t2), .unset, .unset]) rfl ?_
                    show Steps p.tables e below (T6.setTop (mkF m 152 #[.val (.int p0), .val (.int p1), .val (.int p2), .val (.int p3), .val (.int p4), .val (.int p5), .val (.int t0), .val (.int t1), .val (.int t2), .val (.int t3), .val (.int tq), .val (.int vc), .val (.ref b1), .val (.int (p5 &&& (7 : Int32))), .val (.int t2), .unset, .unset] [])) t
                    refine XS.goto X6.here hx rfl (pc0 := 152) (pc' := 165) rfl (hb hby at_152) (by decide) (by decide) ?_
                    exact kt
                  · rw [if_neg hj145_38] at kt
                    show Steps p.tables e below (T6.setTop (mkF m 145 #[.val (.int p0), .val (.int p1), .val (.int p2), .val (.int p3), .val (.int p4), .val (.int p5), .val (.int t0), .val (.int t1), .val (.int t2), .val (.int t3), .val (.int tq), .val (.int vc), .val (.ref b1), .val (.int (p5 &&& (7 : Int32))), .val (.int tq), .unset, .unset] [(.int (2 : Int32)), (.int (p5 &&& (7 : Int32)))])) t
                    refine XS.icmpYes X6.here hx rfl (pc0 := 145) (pc' := 155) rfl (hb hby at_145) rfl (feq hj145_38).2 (by decide) (by decide) ?_
                    show Steps p.tables e below (T6.setTop (mkF m 155 #[.val (.int p0), .val (.int p1), .val (.int p2), .val (.int p3), .val (.int p4), .val (.int p5), .val (.int t0), .val (.int t1), .val (.int t2), .val (.int t3), .val (.int tq), .val (.int vc), .val (.ref b1), .val (.int (p5 &&& (7 : Int32))), .val (.int tq), .unset, .unset] [])) t
                    refine XS.iload X6.here hx rfl (hb hby at_155) rfl ?_
                    show Steps p.tables e below (T6.setTop (mkF m 157 #[.val (.int p0), .val (.int p1), .val (.int p2), .val (.int p3), .val (.int p4), .val (.int p5), .val (.int t0), .val (.int t1), .val (.int t2), .val (.int t3), .val (.int tq), .val (.int vc), .val (.ref b1), .val (.int (p5 &&& (7 : Int32))), .val (.int tq), .unset, .unset] [(.int (p5 &&& (7 : Int32)))])) t
                    refine XS.iconst X6.here hx rfl (hb hby at_157) ?_
                    refine own_stp (A' := T6.setTop (mkF m 165 #[.val (.int p0), .val (.int p1), .val (.int p2), .val (.int p3), .val (.int p4), .val (.int p5), .val (.int t0), .val (.int t1), .val (.int t2), .val (.int t3), .val (.int tq), .val (.int vc), .val (.ref b1), .val (.int (p5 &&& (7 : Int32))), .val (.int (if (p5 &&& (7 : Int32)) = (3 : Int32) then t3 else tq)), .unset, .unset] [])) (fun t kt => ?_) ?_
                    · show Steps p.tables e below (T6.setTop (mkF m 158 #[.val (.int p0), .val (.int p1), .val (.int p2), .val (.int p3), .val (.int p4), .val (.int p5), .val (.int t0), .val (.int t1), .val (.int t2), .val (.int t3), .val (.int tq), .val (.int vc), .val (.ref b1), .val (.int (p5 &&& (7 : Int32))), .val (.int tq), .unset, .unset] [(.int (3 : Int32)), (.int (p5 &&& (7 : Int32)))])) t
                      by_cases hj158_39 : (p5 &&& (7 : Int32)) = (3 : Int32)
                      · rw [if_pos hj158_39] at kt
                        show Steps p.tables e below (T6.setTop (mkF m 158 #[.val (.int p0), .val (.int p1), .val (.int p2), .val (.int p3), .val (.int p4), .val (.int p5), .val (.int t0), .val (.int t1), .val (.int t2), .val (.int t3), .val (.int tq), .val (.int vc), .val (.ref b1), .val (.int (p5 &&& (7 : Int32))), .val (.int tq), .unset, .unset] [(.int (3 : Int32)), (.int (p5 &&& (7 : Int32)))])) t
                        refine XS.icmpNo X6.here hx rfl (hb hby at_158) rfl (teq hj158_39).2 ?_
                        show Steps p.tables e below (T6.setTop (mkF m 161 #[.val (.int p0), .val (.int p1), .val (.int p2), .val (.int p3), .val (.int p4), .val (.int p5), .val (.int t0), .val (.int t1), .val (.int t2), .val (.int t3), .val (.int tq), .val (.int vc), .val (.ref b1), .val (.int (p5 &&& (7 : Int32))), .val (.int tq), .unset, .unset] [])) t
                        refine XS.iload X6.here hx rfl (hb hby at_161) rfl ?_
                        show Steps p.tables e below (T6.setTop (mkF m 163 #[.val (.int p0), .val (.int p1), .val (.int p2), .val (.int p3), .val (.int p4), .val (.int p5), .val (.int t0), .val (.int t1), .val (.int t2), .val (.int t3), .val (.int tq), .val (.int vc), .val (.ref b1), .val (.int (p5 &&& (7 : Int32))), .val (.int tq), .unset, .unset] [(.int t3)])) t
                        refine XS.istore X6.here hx rfl (hb hby at_163) rfl (l' := #[.val (.int p0), .val (.int p1), .val (.int p2), .val (.int p3), .val (.int p4), .val (.int p5), .val (.int t0), .val (.int t1), .val (.int t2), .val (.int t3), .val (.int tq), .val (.int vc), .val (.ref b1), .val (.int (p5 &&& (7 : Int32))), .val (.int t3), .unset, .unset]) rfl ?_
                        exact kt
                      · rw [if_neg hj158_39] at kt
                        show Steps p.tables e below (T6.setTop (mkF m 158 #[.val (.int p0), .val (.int p1), .val (.int p2), .val (.int p3), .val (.int p4), .val (.int p5), .val (.int t0), .val (.int t1), .val (.int t2), .val (.int t3), .val (.int tq), .val (.int vc), .val (.ref b1), .val (.int (p5 &&& (7 : Int32))), .val (.int tq), .unset, .unset] [(.int (3 : Int32)), (.int (p5 &&& (7 : Int32)))])) t
                        refine XS.icmpYes X6.here hx rfl (pc0 := 158) (pc' := 165) rfl (hb hby at_158) rfl (feq hj158_39).2 (by decide) (by decide) ?_
                        exact kt
                    exact kt
                exact kt
            exact kt
        generalize h_vx : (if (p5 &&& (7 : Int32)) = (0 : Int32) then t0 else (if (p5 &&& (7 : Int32)) = (1 : Int32) then t1 else (if (p5 &&& (7 : Int32)) = (2 : Int32) then t2 else (if (p5 &&& (7 : Int32)) = (3 : Int32) then t3 else tq)))) = vx
        refine own_by (A' := T6.setTop (mkF m 169 #[.val (.int p0), .val (.int p1), .val (.int p2), .val (.int p3), .val (.int p4), .val (.int p5), .val (.int t0), .val (.int t1), .val (.int t2), .val (.int t3), .val (.int tq), .val (.int vc), .val (.ref b1), .val (.int (p5 &&& (7 : Int32))), .val (.int vx), .unset, .unset] [(.int vx), (.ref b1)])) (fun t kt => ?_) ?_
        · show Steps p.tables e below (T6.setTop (mkF m 165 #[.val (.int p0), .val (.int p1), .val (.int p2), .val (.int p3), .val (.int p4), .val (.int p5), .val (.int t0), .val (.int t1), .val (.int t2), .val (.int t3), .val (.int tq), .val (.int vc), .val (.ref b1), .val (.int (p5 &&& (7 : Int32))), .val (.int vx), .unset, .unset] [])) t
          refine XS.aload X6.here hx rfl (hb hby at_165) rfl rfl ?_
          show Steps p.tables e below (T6.setTop (mkF m 167 #[.val (.int p0), .val (.int p1), .val (.int p2), .val (.int p3), .val (.int p4), .val (.int p5), .val (.int t0), .val (.int t1), .val (.int t2), .val (.int t3), .val (.int tq), .val (.int vc), .val (.ref b1), .val (.int (p5 &&& (7 : Int32))), .val (.int vx), .unset, .unset] [(.ref b1)])) t
          refine XS.iload X6.here hx rfl (hb hby at_167) rfl ?_
          exact kt
        obtain ⟨cq40, kq40, q40a, q40b, q40c⟩ := isOf hZ rfl GE6
        obtain ⟨_, _, ⟨T40, L40, k40, n40⟩, -, X40, ⟨Lc40, hQ40, l40, y40, z40⟩, st40⟩ := X6.virtualBack hx (y := (⟨"com/example/corollary/corollary/saturation/TermSet", "contains", "(I)Z"⟩ : MethodName)) (z := (⟨"com/example/corollary/corollary/saturation/TermSet", "contains", "(I)Z"⟩ : MethodName)) hown (mvT hZ (hw _ (List.mem_of_getElem? (i := 13) rfl))) (mvT hZ (hw _ (List.mem_of_getElem? (i := 14) rfl))) (notFace_of_selects (args := #[]) (mvT hZ (hw _ (List.mem_of_getElem? (i := 16) rfl)))) (mvT hZ (hw _ (List.mem_of_getElem? (i := 16) rfl))) (mvT hZ (hw _ (List.mem_of_getElem? (i := 15) rfl))) (by decide) (backOf (W := 0) (rm3 l Z aw hw [] b1 vx b2 f6 lo6 hi6 sz6 (t1 :: (t0 :: [])) T6.heap n0 (Nat.le_trans Z0 K6.1) G16 G26 G36 G46 V6 I6 (Nat.le_of_ble_eq_true rfl)) hZ (hw _ (List.mem_of_getElem? (i := 17) rfl)) (hw _ (List.mem_of_getElem? (i := 3) rfl)) (by decide) (by decide)) q40a q40c (g := (mkF m 169 #[.val (.int p0), .val (.int p1), .val (.int p2), .val (.int p3), .val (.int p4), .val (.int p5), .val (.int t0), .val (.int t1), .val (.int t2), .val (.int t3), .val (.int tq), .val (.int vc), .val (.ref b1), .val (.int (p5 &&& (7 : Int32))), .val (.int vx), .unset, .unset] [(.int vx), (.ref b1)])) rfl (by rw [hml]; rfl) (Steps.refl _) (argsL := [(.int vx)]) (rest := []) (lenOf pd_4 rfl) rfl (by show 2 * 0 + _ ≤ _; exact Nat.le_of_eq rfl) (hb hby at_169) (fun _ _ => ⟨rfl, rfl, (by decide : 2 + 0 ≤ _), (by decide : 68 + 0 ≤ _)⟩)
        dsimp only [Pt.U, Pt.locs, Pt.cells, Pt.slots] at X40 l40 y40 z40 st40 hQ40
        subst l40 y40 z40
        obtain ⟨rfl, N40q, e40⟩ := hQ40
        have N40 := Fr.app N6 N40q
        refine own_by (A' := T40.setTop (mkF m 172 #[.val (.int p0), .val (.int p1), .val (.int p2), .val (.int p3), .val (.int p4), .val (.int p5), .val (.int t0), .val (.int t1), .val (.int t2), .val (.int t3), .val (.int tq), .val (.int vc), .val (.ref b1), .val (.int (p5 &&& (7 : Int32))), .val (.int vx), .unset, .unset] [(.int (if vx ∈ ((t1 :: (t0 :: [])) : List Int32) then (1 : Int32) else (0 : Int32)))])) (fun t kt => st40.trans kt) ?_
        refine own_by (A' := T40.setTop (mkF m 184 #[.val (.int p0), .val (.int p1), .val (.int p2), .val (.int p3), .val (.int p4), .val (.int p5), .val (.int t0), .val (.int t1), .val (.int t2), .val (.int t3), .val (.int tq), .val (.int vc), .val (.ref b1), .val (.int (p5 &&& (7 : Int32))), .val (.int vx), .unset, .unset] [(.int t3), (.int t2), (.int t1), (.int t0), (.int vc), (.int vx), (.int (if vx ∈ ((t1 :: (t0 :: [])) : List Int32) then (1 : Int32) else (0 : Int32)))])) (fun t kt => ?_) ?_
        · show Steps p.tables e below (T40.setTop (mkF m 172 #[.val (.int p0), .val (.int p1), .val (.int p2), .val (.int p3), .val (.int p4), .val (.int p5), .val (.int t0), .val (.int t1), .val (.int t2), .val (.int t3), .val (.int tq), .val (.int vc), .val (.ref b1), .val (.int (p5 &&& (7 : Int32))), .val (.int vx), .unset, .unset] [(.int (if vx ∈ ((t1 :: (t0 :: [])) : List Int32) then (1 : Int32) else (0 : Int32)))])) t
          refine XS.iload X40.here hx rfl (hb hby at_172) rfl ?_
          show Steps p.tables e below (T40.setTop (mkF m 174 #[.val (.int p0), .val (.int p1), .val (.int p2), .val (.int p3), .val (.int p4), .val (.int p5), .val (.int t0), .val (.int t1), .val (.int t2), .val (.int t3), .val (.int tq), .val (.int vc), .val (.ref b1), .val (.int (p5 &&& (7 : Int32))), .val (.int vx), .unset, .unset] [(.int vx), (.int (if vx ∈ ((t1 :: (t0 :: [])) : List Int32) then (1 : Int32) else (0 : Int32)))])) t
          refine XS.iload X40.here hx rfl (hb hby at_174) rfl ?_
          show Steps p.tables e below (T40.setTop (mkF m 176 #[.val (.int p0), .val (.int p1), .val (.int p2), .val (.int p3), .val (.int p4), .val (.int p5), .val (.int t0), .val (.int t1), .val (.int t2), .val (.int t3), .val (.int tq), .val (.int vc), .val (.ref b1), .val (.int (p5 &&& (7 : Int32))), .val (.int vx), .unset, .unset] [(.int vc), (.int vx), (.int (if vx ∈ ((t1 :: (t0 :: [])) : List Int32) then (1 : Int32) else (0 : Int32)))])) t
          refine XS.iload X40.here hx rfl (hb hby at_176) rfl ?_
          show Steps p.tables e below (T40.setTop (mkF m 178 #[.val (.int p0), .val (.int p1), .val (.int p2), .val (.int p3), .val (.int p4), .val (.int p5), .val (.int t0), .val (.int t1), .val (.int t2), .val (.int t3), .val (.int tq), .val (.int vc), .val (.ref b1), .val (.int (p5 &&& (7 : Int32))), .val (.int vx), .unset, .unset] [(.int t0), (.int vc), (.int vx), (.int (if vx ∈ ((t1 :: (t0 :: [])) : List Int32) then (1 : Int32) else (0 : Int32)))])) t
          refine XS.iload X40.here hx rfl (hb hby at_178) rfl ?_
          show Steps p.tables e below (T40.setTop (mkF m 180 #[.val (.int p0), .val (.int p1), .val (.int p2), .val (.int p3), .val (.int p4), .val (.int p5), .val (.int t0), .val (.int t1), .val (.int t2), .val (.int t3), .val (.int tq), .val (.int vc), .val (.ref b1), .val (.int (p5 &&& (7 : Int32))), .val (.int vx), .unset, .unset] [(.int t1), (.int t0), (.int vc), (.int vx), (.int (if vx ∈ ((t1 :: (t0 :: [])) : List Int32) then (1 : Int32) else (0 : Int32)))])) t
          refine XS.iload X40.here hx rfl (hb hby at_180) rfl ?_
          show Steps p.tables e below (T40.setTop (mkF m 182 #[.val (.int p0), .val (.int p1), .val (.int p2), .val (.int p3), .val (.int p4), .val (.int p5), .val (.int t0), .val (.int t1), .val (.int t2), .val (.int t3), .val (.int tq), .val (.int vc), .val (.ref b1), .val (.int (p5 &&& (7 : Int32))), .val (.int vx), .unset, .unset] [(.int t2), (.int t1), (.int t0), (.int vc), (.int vx), (.int (if vx ∈ ((t1 :: (t0 :: [])) : List Int32) then (1 : Int32) else (0 : Int32)))])) t
          refine XS.iload X40.here hx rfl (hb hby at_182) rfl ?_
          exact kt
        obtain ⟨_, _, ⟨T41, L41, k41, n41⟩, -, X41, ⟨Lc41, hQ41, l41, y41, z41⟩, st41⟩ := Jvm.LawKit.callS X40 hx (y := (⟨"com/example/corollary/corollary/saturation/TermSetContainsPinLaw", "member", "(IIIIII)Z"⟩ : MethodName)) hown (mvT hZ (hw _ (List.mem_of_getElem? (i := 24) rfl))) (mvT hZ (hw _ (List.mem_of_getElem? (i := 25) rfl))) (mvT hZ (hw _ (List.mem_of_getElem? (i := 26) rfl))) (mvT hZ (hw _ (List.mem_of_getElem? (i := 27) rfl))) (by decide) (backOf (W := 1) (rm5 l Z aw hw [] vx vc t0 t1 t2 t3 T6.heap n0 (Nat.le_trans Z0 K6.1) ) hZ (hw _ (List.mem_of_getElem? (i := 27) rfl)) (hw _ (List.mem_of_getElem? (i := 26) rfl)) (by decide) (by decide)) (g := (mkF m 184 #[.val (.int p0), .val (.int p1), .val (.int p2), .val (.int p3), .val (.int p4), .val (.int p5), .val (.int t0), .val (.int t1), .val (.int t2), .val (.int t3), .val (.int tq), .val (.int vc), .val (.ref b1), .val (.int (p5 &&& (7 : Int32))), .val (.int vx), .unset, .unset] [(.int t3), (.int t2), (.int t1), (.int t0), (.int vc), (.int vx), (.int (if vx ∈ ((t1 :: (t0 :: [])) : List Int32) then (1 : Int32) else (0 : Int32)))])) rfl (by rw [hml]; rfl) (argsL := [(.int vx), (.int vc), (.int t0), (.int t1), (.int t2), (.int t3)]) (rest := [(.int (if vx ∈ ((t1 :: (t0 :: [])) : List Int32) then (1 : Int32) else (0 : Int32)))]) (lenOf pd_5 rfl) rfl (by show 2 * 0 + _ ≤ _; exact Nat.le_of_eq rfl) (hb hby at_184) (fun _ _ => ⟨rfl, e40, (by decide : 2 + 0 ≤ _), (by decide : 68 + 0 ≤ _)⟩)
        dsimp only [Pt.U, Pt.locs, Pt.cells, Pt.slots] at X41 l41 y41 z41 st41 hQ41
        subst l41 y41 z41
        obtain ⟨rfl, N41q, e41⟩ := hQ41
        have N41 := Fr.app N40 N41q
        refine own_by (A' := T41.setTop (mkF m 187 #[.val (.int p0), .val (.int p1), .val (.int p2), .val (.int p3), .val (.int p4), .val (.int p5), .val (.int t0), .val (.int t1), .val (.int t2), .val (.int t3), .val (.int tq), .val (.int vc), .val (.ref b1), .val (.int (p5 &&& (7 : Int32))), .val (.int vx), .unset, .unset] [(.int (own_f5 vx vc t0 t1 t2 t3)), (.int (if vx ∈ ((t1 :: (t0 :: [])) : List Int32) then (1 : Int32) else (0 : Int32)))])) (fun t kt => st41 t kt) ?_
        have hc187_42 : (if vx ∈ ((t1 :: (t0 :: [])) : List Int32) then (1 : Int32) else (0 : Int32)) = (own_f5 vx vc t0 t1 t2 t3) := by
          simp only [own_f5, hc53_3, hc67_5, hc81_7, hc95_35, if_true, if_false, List.mem_cons, List.not_mem_nil, or_false]
          repeat' split
          all_goals first | rfl | (exfalso; simp_all; done)
        refine own_by (A' := T41.setTop (mkF m 201 #[.val (.int p0), .val (.int p1), .val (.int p2), .val (.int p3), .val (.int p4), .val (.int p5), .val (.int t0), .val (.int t1), .val (.int t2), .val (.int t3), .val (.int tq), .val (.int vc), .val (.ref b1), .val (.int (p5 &&& (7 : Int32))), .val (.int vx), .val (.int (1 : Int32)), .unset] [(.int tq), (.ref b1)])) (fun t kt => ?_) ?_
        · show Steps p.tables e below (T41.setTop (mkF m 187 #[.val (.int p0), .val (.int p1), .val (.int p2), .val (.int p3), .val (.int p4), .val (.int p5), .val (.int t0), .val (.int t1), .val (.int t2), .val (.int t3), .val (.int tq), .val (.int vc), .val (.ref b1), .val (.int (p5 &&& (7 : Int32))), .val (.int vx), .unset, .unset] [(.int (own_f5 vx vc t0 t1 t2 t3)), (.int (if vx ∈ ((t1 :: (t0 :: [])) : List Int32) then (1 : Int32) else (0 : Int32)))])) t
          refine XS.icmpNo X41.here hx rfl (hb hby at_187) rfl (teq hc187_42).2 ?_
          show Steps p.tables e below (T41.setTop (mkF m 190 #[.val (.int p0), .val (.int p1), .val (.int p2), .val (.int p3), .val (.int p4), .val (.int p5), .val (.int t0), .val (.int t1), .val (.int t2), .val (.int t3), .val (.int tq), .val (.int vc), .val (.ref b1), .val (.int (p5 &&& (7 : Int32))), .val (.int vx), .unset, .unset] [])) t
          refine XS.iconst X41.here hx rfl (hb hby at_190) ?_
          show Steps p.tables e below (T41.setTop (mkF m 191 #[.val (.int p0), .val (.int p1), .val (.int p2), .val (.int p3), .val (.int p4), .val (.int p5), .val (.int t0), .val (.int t1), .val (.int t2), .val (.int t3), .val (.int tq), .val (.int vc), .val (.ref b1), .val (.int (p5 &&& (7 : Int32))), .val (.int vx), .unset, .unset] [(.int (1 : Int32))])) t
          refine XS.goto X41.here hx rfl (pc0 := 191) (pc' := 195) rfl (hb hby at_191) (by decide) (by decide) ?_
          show Steps p.tables e below (T41.setTop (mkF m 195 #[.val (.int p0), .val (.int p1), .val (.int p2), .val (.int p3), .val (.int p4), .val (.int p5), .val (.int t0), .val (.int t1), .val (.int t2), .val (.int t3), .val (.int tq), .val (.int vc), .val (.ref b1), .val (.int (p5 &&& (7 : Int32))), .val (.int vx), .unset, .unset] [(.int (1 : Int32))])) t
          refine XS.istore X41.here hx rfl (hb hby at_195) rfl (l' := #[.val (.int p0), .val (.int p1), .val (.int p2), .val (.int p3), .val (.int p4), .val (.int p5), .val (.int t0), .val (.int t1), .val (.int t2), .val (.int t3), .val (.int tq), .val (.int vc), .val (.ref b1), .val (.int (p5 &&& (7 : Int32))), .val (.int vx), .val (.int (1 : Int32)), .unset]) rfl ?_
          show Steps p.tables e below (T41.setTop (mkF m 197 #[.val (.int p0), .val (.int p1), .val (.int p2), .val (.int p3), .val (.int p4), .val (.int p5), .val (.int t0), .val (.int t1), .val (.int t2), .val (.int t3), .val (.int tq), .val (.int vc), .val (.ref b1), .val (.int (p5 &&& (7 : Int32))), .val (.int vx), .val (.int (1 : Int32)), .unset] [])) t
          refine XS.aload X41.here hx rfl (hb hby at_197) rfl rfl ?_
          show Steps p.tables e below (T41.setTop (mkF m 199 #[.val (.int p0), .val (.int p1), .val (.int p2), .val (.int p3), .val (.int p4), .val (.int p5), .val (.int t0), .val (.int t1), .val (.int t2), .val (.int t3), .val (.int tq), .val (.int vc), .val (.ref b1), .val (.int (p5 &&& (7 : Int32))), .val (.int vx), .val (.int (1 : Int32)), .unset] [(.ref b1)])) t
          refine XS.iload X41.here hx rfl (hb hby at_199) rfl ?_
          exact kt
        obtain ⟨cq43, kq43, q43a, q43b, q43c⟩ := isOf hZ e41 GE6
        obtain ⟨_, _, ⟨T43, L43, k43, n43⟩, -, X43, ⟨Lc43, hQ43, l43, y43, z43⟩, st43⟩ := X41.virtualBack hx (y := (⟨"com/example/corollary/corollary/saturation/TermSet", "contains", "(I)Z"⟩ : MethodName)) (z := (⟨"com/example/corollary/corollary/saturation/TermSet", "contains", "(I)Z"⟩ : MethodName)) hown (mvT hZ (hw _ (List.mem_of_getElem? (i := 13) rfl))) (mvT hZ (hw _ (List.mem_of_getElem? (i := 14) rfl))) (notFace_of_selects (args := #[]) (mvT hZ (hw _ (List.mem_of_getElem? (i := 16) rfl)))) (mvT hZ (hw _ (List.mem_of_getElem? (i := 16) rfl))) (mvT hZ (hw _ (List.mem_of_getElem? (i := 15) rfl))) (by decide) (backOf (W := 0) (rm3 l Z aw hw [] b1 tq b2 f6 lo6 hi6 sz6 (t1 :: (t0 :: [])) T6.heap n0 (Nat.le_trans Z0 K6.1) G16 G26 G36 G46 V6 I6 (Nat.le_of_ble_eq_true rfl)) hZ (hw _ (List.mem_of_getElem? (i := 17) rfl)) (hw _ (List.mem_of_getElem? (i := 3) rfl)) (by decide) (by decide)) q43a q43c (g := (mkF m 201 #[.val (.int p0), .val (.int p1), .val (.int p2), .val (.int p3), .val (.int p4), .val (.int p5), .val (.int t0), .val (.int t1), .val (.int t2), .val (.int t3), .val (.int tq), .val (.int vc), .val (.ref b1), .val (.int (p5 &&& (7 : Int32))), .val (.int vx), .val (.int (1 : Int32)), .unset] [(.int tq), (.ref b1)])) rfl (by rw [hml]; rfl) (Steps.refl _) (argsL := [(.int tq)]) (rest := []) (lenOf pd_4 rfl) rfl (by show 2 * 0 + _ ≤ _; exact Nat.le_of_eq rfl) (hb hby at_201) (fun _ _ => ⟨rfl, e41, (by decide : 2 + 0 ≤ _), (by decide : 68 + 0 ≤ _)⟩)
        dsimp only [Pt.U, Pt.locs, Pt.cells, Pt.slots] at X43 l43 y43 z43 st43 hQ43
        subst l43 y43 z43
        obtain ⟨rfl, N43q, e43⟩ := hQ43
        have N43 := Fr.app N41 N43q
        refine own_by (A' := T43.setTop (mkF m 204 #[.val (.int p0), .val (.int p1), .val (.int p2), .val (.int p3), .val (.int p4), .val (.int p5), .val (.int t0), .val (.int t1), .val (.int t2), .val (.int t3), .val (.int tq), .val (.int vc), .val (.ref b1), .val (.int (p5 &&& (7 : Int32))), .val (.int vx), .val (.int (1 : Int32)), .unset] [(.int (if tq ∈ ((t1 :: (t0 :: [])) : List Int32) then (1 : Int32) else (0 : Int32)))])) (fun t kt => st43.trans kt) ?_
        refine own_by (A' := T43.setTop (mkF m 216 #[.val (.int p0), .val (.int p1), .val (.int p2), .val (.int p3), .val (.int p4), .val (.int p5), .val (.int t0), .val (.int t1), .val (.int t2), .val (.int t3), .val (.int tq), .val (.int vc), .val (.ref b1), .val (.int (p5 &&& (7 : Int32))), .val (.int vx), .val (.int (1 : Int32)), .unset] [(.int t3), (.int t2), (.int t1), (.int t0), (.int vc), (.int tq), (.int (if tq ∈ ((t1 :: (t0 :: [])) : List Int32) then (1 : Int32) else (0 : Int32)))])) (fun t kt => ?_) ?_
        · show Steps p.tables e below (T43.setTop (mkF m 204 #[.val (.int p0), .val (.int p1), .val (.int p2), .val (.int p3), .val (.int p4), .val (.int p5), .val (.int t0), .val (.int t1), .val (.int t2), .val (.int t3), .val (.int tq), .val (.int vc), .val (.ref b1), .val (.int (p5 &&& (7 : Int32))), .val (.int vx), .val (.int (1 : Int32)), .unset] [(.int (if tq ∈ ((t1 :: (t0 :: [])) : List Int32) then (1 : Int32) else (0 : Int32)))])) t
          refine XS.iload X43.here hx rfl (hb hby at_204) rfl ?_
          show Steps p.tables e below (T43.setTop (mkF m 206 #[.val (.int p0), .val (.int p1), .val (.int p2), .val (.int p3), .val (.int p4), .val (.int p5), .val (.int t0), .val (.int t1), .val (.int t2), .val (.int t3), .val (.int tq), .val (.int vc), .val (.ref b1), .val (.int (p5 &&& (7 : Int32))), .val (.int vx), .val (.int (1 : Int32)), .unset] [(.int tq), (.int (if tq ∈ ((t1 :: (t0 :: [])) : List Int32) then (1 : Int32) else (0 : Int32)))])) t
          refine XS.iload X43.here hx rfl (hb hby at_206) rfl ?_
          show Steps p.tables e below (T43.setTop (mkF m 208 #[.val (.int p0), .val (.int p1), .val (.int p2), .val (.int p3), .val (.int p4), .val (.int p5), .val (.int t0), .val (.int t1), .val (.int t2), .val (.int t3), .val (.int tq), .val (.int vc), .val (.ref b1), .val (.int (p5 &&& (7 : Int32))), .val (.int vx), .val (.int (1 : Int32)), .unset] [(.int vc), (.int tq), (.int (if tq ∈ ((t1 :: (t0 :: [])) : List Int32) then (1 : Int32) else (0 : Int32)))])) t
          refine XS.iload X43.here hx rfl (hb hby at_208) rfl ?_
          show Steps p.tables e below (T43.setTop (mkF m 210 #[.val (.int p0), .val (.int p1), .val (.int p2), .val (.int p3), .val (.int p4), .val (.int p5), .val (.int t0), .val (.int t1), .val (.int t2), .val (.int t3), .val (.int tq), .val (.int vc), .val (.ref b1), .val (.int (p5 &&& (7 : Int32))), .val (.int vx), .val (.int (1 : Int32)), .unset] [(.int t0), (.int vc), (.int tq), (.int (if tq ∈ ((t1 :: (t0 :: [])) : List Int32) then (1 : Int32) else (0 : Int32)))])) t
          refine XS.iload X43.here hx rfl (hb hby at_210) rfl ?_
          show Steps p.tables e below (T43.setTop (mkF m 212 #[.val (.int p0), .val (.int p1), .val (.int p2), .val (.int p3), .val (.int p4), .val (.int p5), .val (.int t0), .val (.int t1), .val (.int t2), .val (.int t3), .val (.int tq), .val (.int vc), .val (.ref b1), .val (.int (p5 &&& (7 : Int32))), .val (.int vx), .val (.int (1 : Int32)), .unset] [(.int t1), (.int t0), (.int vc), (.int tq), (.int (if tq ∈ ((t1 :: (t0 :: [])) : List Int32) then (1 : Int32) else (0 : Int32)))])) t
          refine XS.iload X43.here hx rfl (hb hby at_212) rfl ?_
          show Steps p.tables e below (T43.setTop (mkF m 214 #[.val (.int p0), .val (.int p1), .val (.int p2), .val (.int p3), .val (.int p4), .val (.int p5), .val (.int t0), .val (.int t1), .val (.int t2), .val (.int t3), .val (.int tq), .val (.int vc), .val (.ref b1), .val (.int (p5 &&& (7 : Int32))), .val (.int vx), .val (.int (1 : Int32)), .unset] [(.int t2), (.int t1), (.int t0), (.int vc), (.int tq), (.int (if tq ∈ ((t1 :: (t0 :: [])) : List Int32) then (1 : Int32) else (0 : Int32)))])) t
          refine XS.iload X43.here hx rfl (hb hby at_214) rfl ?_
          exact kt
        obtain ⟨_, _, ⟨T44, L44, k44, n44⟩, -, X44, ⟨Lc44, hQ44, l44, y44, z44⟩, st44⟩ := Jvm.LawKit.callS X43 hx (y := (⟨"com/example/corollary/corollary/saturation/TermSetContainsPinLaw", "member", "(IIIIII)Z"⟩ : MethodName)) hown (mvT hZ (hw _ (List.mem_of_getElem? (i := 24) rfl))) (mvT hZ (hw _ (List.mem_of_getElem? (i := 25) rfl))) (mvT hZ (hw _ (List.mem_of_getElem? (i := 26) rfl))) (mvT hZ (hw _ (List.mem_of_getElem? (i := 27) rfl))) (by decide) (backOf (W := 1) (rm5 l Z aw hw [] tq vc t0 t1 t2 t3 T6.heap n0 (Nat.le_trans Z0 K6.1) ) hZ (hw _ (List.mem_of_getElem? (i := 27) rfl)) (hw _ (List.mem_of_getElem? (i := 26) rfl)) (by decide) (by decide)) (g := (mkF m 216 #[.val (.int p0), .val (.int p1), .val (.int p2), .val (.int p3), .val (.int p4), .val (.int p5), .val (.int t0), .val (.int t1), .val (.int t2), .val (.int t3), .val (.int tq), .val (.int vc), .val (.ref b1), .val (.int (p5 &&& (7 : Int32))), .val (.int vx), .val (.int (1 : Int32)), .unset] [(.int t3), (.int t2), (.int t1), (.int t0), (.int vc), (.int tq), (.int (if tq ∈ ((t1 :: (t0 :: [])) : List Int32) then (1 : Int32) else (0 : Int32)))])) rfl (by rw [hml]; rfl) (argsL := [(.int tq), (.int vc), (.int t0), (.int t1), (.int t2), (.int t3)]) (rest := [(.int (if tq ∈ ((t1 :: (t0 :: [])) : List Int32) then (1 : Int32) else (0 : Int32)))]) (lenOf pd_5 rfl) rfl (by show 2 * 0 + _ ≤ _; exact Nat.le_of_eq rfl) (hb hby at_216) (fun _ _ => ⟨rfl, e43, (by decide : 2 + 0 ≤ _), (by decide : 68 + 0 ≤ _)⟩)
        dsimp only [Pt.U, Pt.locs, Pt.cells, Pt.slots] at X44 l44 y44 z44 st44 hQ44
        subst l44 y44 z44
        obtain ⟨rfl, N44q, e44⟩ := hQ44
        have N44 := Fr.app N43 N44q
        refine own_by (A' := T44.setTop (mkF m 219 #[.val (.int p0), .val (.int p1), .val (.int p2), .val (.int p3), .val (.int p4), .val (.int p5), .val (.int t0), .val (.int t1), .val (.int t2), .val (.int t3), .val (.int tq), .val (.int vc), .val (.ref b1), .val (.int (p5 &&& (7 : Int32))), .val (.int vx), .val (.int (1 : Int32)), .unset] [(.int (own_f5 tq vc t0 t1 t2 t3)), (.int (if tq ∈ ((t1 :: (t0 :: [])) : List Int32) then (1 : Int32) else (0 : Int32)))])) (fun t kt => st44 t kt) ?_
        have hc219_45 : (if tq ∈ ((t1 :: (t0 :: [])) : List Int32) then (1 : Int32) else (0 : Int32)) = (own_f5 tq vc t0 t1 t2 t3) := by
          simp only [own_f5, hc53_3, hc67_5, hc81_7, hc95_35, if_true, if_false, List.mem_cons, List.not_mem_nil, or_false]
          repeat' split
          all_goals first | rfl | (exfalso; simp_all; done)
        refine own_by (A' := T44.setTop (mkF m 231 #[.val (.int p0), .val (.int p1), .val (.int p2), .val (.int p3), .val (.int p4), .val (.int p5), .val (.int t0), .val (.int t1), .val (.int t2), .val (.int t3), .val (.int tq), .val (.int vc), .val (.ref b1), .val (.int (p5 &&& (7 : Int32))), .val (.int vx), .val (.int (1 : Int32)), .val (.int (1 : Int32))] [(.int (1 : Int32))])) (fun t kt => ?_) ?_
        · show Steps p.tables e below (T44.setTop (mkF m 219 #[.val (.int p0), .val (.int p1), .val (.int p2), .val (.int p3), .val (.int p4), .val (.int p5), .val (.int t0), .val (.int t1), .val (.int t2), .val (.int t3), .val (.int tq), .val (.int vc), .val (.ref b1), .val (.int (p5 &&& (7 : Int32))), .val (.int vx), .val (.int (1 : Int32)), .unset] [(.int (own_f5 tq vc t0 t1 t2 t3)), (.int (if tq ∈ ((t1 :: (t0 :: [])) : List Int32) then (1 : Int32) else (0 : Int32)))])) t
          refine XS.icmpNo X44.here hx rfl (hb hby at_219) rfl (teq hc219_45).2 ?_
          show Steps p.tables e below (T44.setTop (mkF m 222 #[.val (.int p0), .val (.int p1), .val (.int p2), .val (.int p3), .val (.int p4), .val (.int p5), .val (.int t0), .val (.int t1), .val (.int t2), .val (.int t3), .val (.int tq), .val (.int vc), .val (.ref b1), .val (.int (p5 &&& (7 : Int32))), .val (.int vx), .val (.int (1 : Int32)), .unset] [])) t
          refine XS.iconst X44.here hx rfl (hb hby at_222) ?_
          show Steps p.tables e below (T44.setTop (mkF m 223 #[.val (.int p0), .val (.int p1), .val (.int p2), .val (.int p3), .val (.int p4), .val (.int p5), .val (.int t0), .val (.int t1), .val (.int t2), .val (.int t3), .val (.int tq), .val (.int vc), .val (.ref b1), .val (.int (p5 &&& (7 : Int32))), .val (.int vx), .val (.int (1 : Int32)), .unset] [(.int (1 : Int32))])) t
          refine XS.goto X44.here hx rfl (pc0 := 223) (pc' := 227) rfl (hb hby at_223) (by decide) (by decide) ?_
          show Steps p.tables e below (T44.setTop (mkF m 227 #[.val (.int p0), .val (.int p1), .val (.int p2), .val (.int p3), .val (.int p4), .val (.int p5), .val (.int t0), .val (.int t1), .val (.int t2), .val (.int t3), .val (.int tq), .val (.int vc), .val (.ref b1), .val (.int (p5 &&& (7 : Int32))), .val (.int vx), .val (.int (1 : Int32)), .unset] [(.int (1 : Int32))])) t
          refine XS.istore X44.here hx rfl (hb hby at_227) rfl (l' := #[.val (.int p0), .val (.int p1), .val (.int p2), .val (.int p3), .val (.int p4), .val (.int p5), .val (.int t0), .val (.int t1), .val (.int t2), .val (.int t3), .val (.int tq), .val (.int vc), .val (.ref b1), .val (.int (p5 &&& (7 : Int32))), .val (.int vx), .val (.int (1 : Int32)), .val (.int (1 : Int32))]) rfl ?_
          show Steps p.tables e below (T44.setTop (mkF m 229 #[.val (.int p0), .val (.int p1), .val (.int p2), .val (.int p3), .val (.int p4), .val (.int p5), .val (.int t0), .val (.int t1), .val (.int t2), .val (.int t3), .val (.int tq), .val (.int vc), .val (.ref b1), .val (.int (p5 &&& (7 : Int32))), .val (.int vx), .val (.int (1 : Int32)), .val (.int (1 : Int32))] [])) t
          refine XS.iload X44.here hx rfl (hb hby at_229) rfl ?_
          exact kt
        have hc231_46 : ¬ ((1 : Int32) = (0 : Int32)) := by decide
        refine own_by (A' := T44.setTop (mkF m 236 #[.val (.int p0), .val (.int p1), .val (.int p2), .val (.int p3), .val (.int p4), .val (.int p5), .val (.int t0), .val (.int t1), .val (.int t2), .val (.int t3), .val (.int tq), .val (.int vc), .val (.ref b1), .val (.int (p5 &&& (7 : Int32))), .val (.int vx), .val (.int (1 : Int32)), .val (.int (1 : Int32))] [(.int (1 : Int32))])) (fun t kt => ?_) ?_
        · show Steps p.tables e below (T44.setTop (mkF m 231 #[.val (.int p0), .val (.int p1), .val (.int p2), .val (.int p3), .val (.int p4), .val (.int p5), .val (.int t0), .val (.int t1), .val (.int t2), .val (.int t3), .val (.int tq), .val (.int vc), .val (.ref b1), .val (.int (p5 &&& (7 : Int32))), .val (.int vx), .val (.int (1 : Int32)), .val (.int (1 : Int32))] [(.int (1 : Int32))])) t
          refine XS.ifNo X44.here hx rfl (hb hby at_231) rfl ((if0 _ _).trans (feq hc231_46).1) ?_
          show Steps p.tables e below (T44.setTop (mkF m 234 #[.val (.int p0), .val (.int p1), .val (.int p2), .val (.int p3), .val (.int p4), .val (.int p5), .val (.int t0), .val (.int t1), .val (.int t2), .val (.int t3), .val (.int tq), .val (.int vc), .val (.ref b1), .val (.int (p5 &&& (7 : Int32))), .val (.int vx), .val (.int (1 : Int32)), .val (.int (1 : Int32))] [])) t
          refine XS.iload X44.here hx rfl (hb hby at_234) rfl ?_
          exact kt
        have hc236_47 : ¬ ((1 : Int32) = (0 : Int32)) := by decide
        refine own_by (A' := T44.setTop (mkF m 244 #[.val (.int p0), .val (.int p1), .val (.int p2), .val (.int p3), .val (.int p4), .val (.int p5), .val (.int t0), .val (.int t1), .val (.int t2), .val (.int t3), .val (.int tq), .val (.int vc), .val (.ref b1), .val (.int (p5 &&& (7 : Int32))), .val (.int vx), .val (.int (1 : Int32)), .val (.int (1 : Int32))] [(.int (1 : Int32))])) (fun t kt => ?_) ?_
        · show Steps p.tables e below (T44.setTop (mkF m 236 #[.val (.int p0), .val (.int p1), .val (.int p2), .val (.int p3), .val (.int p4), .val (.int p5), .val (.int t0), .val (.int t1), .val (.int t2), .val (.int t3), .val (.int tq), .val (.int vc), .val (.ref b1), .val (.int (p5 &&& (7 : Int32))), .val (.int vx), .val (.int (1 : Int32)), .val (.int (1 : Int32))] [(.int (1 : Int32))])) t
          refine XS.ifNo X44.here hx rfl (hb hby at_236) rfl ((if0 _ _).trans (feq hc236_47).1) ?_
          show Steps p.tables e below (T44.setTop (mkF m 239 #[.val (.int p0), .val (.int p1), .val (.int p2), .val (.int p3), .val (.int p4), .val (.int p5), .val (.int t0), .val (.int t1), .val (.int t2), .val (.int t3), .val (.int tq), .val (.int vc), .val (.ref b1), .val (.int (p5 &&& (7 : Int32))), .val (.int vx), .val (.int (1 : Int32)), .val (.int (1 : Int32))] [])) t
          refine XS.iconst X44.here hx rfl (hb hby at_239) ?_
          show Steps p.tables e below (T44.setTop (mkF m 240 #[.val (.int p0), .val (.int p1), .val (.int p2), .val (.int p3), .val (.int p4), .val (.int p5), .val (.int t0), .val (.int t1), .val (.int t2), .val (.int t3), .val (.int tq), .val (.int vc), .val (.ref b1), .val (.int (p5 &&& (7 : Int32))), .val (.int vx), .val (.int (1 : Int32)), .val (.int (1 : Int32))] [(.int (1 : Int32))])) t
          refine XS.goto X44.here hx rfl (pc0 := 240) (pc' := 244) rfl (hb hby at_240) (by decide) (by decide) ?_
          exact kt
        obtain ⟨fs, hr, hrun, hended, hW, hsame⟩ := X44.leave (v := some (.int (1 : Int32))) (fun h => by rw [Bd.returns] at h; cases h)
        refine ⟨_, _, ?_, hrun, hended, _, _, rfl, ?_, ⟨_, rfl⟩, hW, hsame.mono (by decide) (by decide)⟩
        · exact retN X44 hx (t := .boolean) Bd.returns (by simp) (hb hby at_244) hr
        · show Q0 Z p0 p1 p2 p3 p4 p5 h0 n0 _ T44.heap _
          rw [e44]
          exact ⟨rfl, N44⟩
    · refine own_by (A' := T4.setTop (mkF m 81 #[.val (.int p0), .val (.int p1), .val (.int p2), .val (.int p3), .val (.int p4), .val (.int p5), .val (.int t0), .val (.int t1), .val (.int t2), .val (.int t3), .val (.int tq), .val (.int vc), .val (.ref b1), .unset, .unset, .unset, .unset] [(.int (2 : Int32)), (.int vc)])) (fun t kt => ?_) ?_
      · show Steps p.tables e below (T4.setTop (mkF m 67 #[.val (.int p0), .val (.int p1), .val (.int p2), .val (.int p3), .val (.int p4), .val (.int p5), .val (.int t0), .val (.int t1), .val (.int t2), .val (.int t3), .val (.int tq), .val (.int vc), .val (.ref b1), .unset, .unset, .unset, .unset] [(.int (1 : Int32)), (.int vc)])) t
        refine XS.icmpYes X4.here hx rfl (pc0 := 67) (pc' := 78) rfl (hb hby at_67) rfl (flt hc67_5).2.2.2 (by decide) (by decide) ?_
        show Steps p.tables e below (T4.setTop (mkF m 78 #[.val (.int p0), .val (.int p1), .val (.int p2), .val (.int p3), .val (.int p4), .val (.int p5), .val (.int t0), .val (.int t1), .val (.int t2), .val (.int t3), .val (.int tq), .val (.int vc), .val (.ref b1), .unset, .unset, .unset, .unset] [])) t
        refine XS.iload X4.here hx rfl (hb hby at_78) rfl ?_
        show Steps p.tables e below (T4.setTop (mkF m 80 #[.val (.int p0), .val (.int p1), .val (.int p2), .val (.int p3), .val (.int p4), .val (.int p5), .val (.int t0), .val (.int t1), .val (.int t2), .val (.int t3), .val (.int tq), .val (.int vc), .val (.ref b1), .unset, .unset, .unset, .unset] [(.int vc)])) t
        refine XS.iconst X4.here hx rfl (hb hby at_80) ?_
        exact kt
      have hc81_48 : ¬ ((2 : Int32) < vc) := fun q => hc67_5 (Int32.lt_trans (by decide) q)
      refine own_by (A' := T4.setTop (mkF m 95 #[.val (.int p0), .val (.int p1), .val (.int p2), .val (.int p3), .val (.int p4), .val (.int p5), .val (.int t0), .val (.int t1), .val (.int t2), .val (.int t3), .val (.int tq), .val (.int vc), .val (.ref b1), .unset, .unset, .unset, .unset] [(.int (3 : Int32)), (.int vc)])) (fun t kt => ?_) ?_
      · show Steps p.tables e below (T4.setTop (mkF m 81 #[.val (.int p0), .val (.int p1), .val (.int p2), .val (.int p3), .val (.int p4), .val (.int p5), .val (.int t0), .val (.int t1), .val (.int t2), .val (.int t3), .val (.int tq), .val (.int vc), .val (.ref b1), .unset, .unset, .unset, .unset] [(.int (2 : Int32)), (.int vc)])) t
        refine XS.icmpYes X4.here hx rfl (pc0 := 81) (pc' := 92) rfl (hb hby at_81) rfl (flt hc81_48).2.2.2 (by decide) (by decide) ?_
        show Steps p.tables e below (T4.setTop (mkF m 92 #[.val (.int p0), .val (.int p1), .val (.int p2), .val (.int p3), .val (.int p4), .val (.int p5), .val (.int t0), .val (.int t1), .val (.int t2), .val (.int t3), .val (.int tq), .val (.int vc), .val (.ref b1), .unset, .unset, .unset, .unset] [])) t
        refine XS.iload X4.here hx rfl (hb hby at_92) rfl ?_
        show Steps p.tables e below (T4.setTop (mkF m 94 #[.val (.int p0), .val (.int p1), .val (.int p2), .val (.int p3), .val (.int p4), .val (.int p5), .val (.int t0), .val (.int t1), .val (.int t2), .val (.int t3), .val (.int tq), .val (.int vc), .val (.ref b1), .unset, .unset, .unset, .unset] [(.int vc)])) t
        refine XS.iconst X4.here hx rfl (hb hby at_94) ?_
        exact kt
      have hc95_49 : ¬ ((3 : Int32) < vc) := fun q => hc67_5 (Int32.lt_trans (by decide) q)
      refine own_by (A' := T4.setTop (mkF m 119 #[.val (.int p0), .val (.int p1), .val (.int p2), .val (.int p3), .val (.int p4), .val (.int p5), .val (.int t0), .val (.int t1), .val (.int t2), .val (.int t3), .val (.int tq), .val (.int vc), .val (.ref b1), .val (.int (p5 &&& (7 : Int32))), .val (.int tq), .unset, .unset] [(.int (p5 &&& (7 : Int32)))])) (fun t kt => ?_) ?_
      · show Steps p.tables e below (T4.setTop (mkF m 95 #[.val (.int p0), .val (.int p1), .val (.int p2), .val (.int p3), .val (.int p4), .val (.int p5), .val (.int t0), .val (.int t1), .val (.int t2), .val (.int t3), .val (.int tq), .val (.int vc), .val (.ref b1), .unset, .unset, .unset, .unset] [(.int (3 : Int32)), (.int vc)])) t
        refine XS.icmpYes X4.here hx rfl (pc0 := 95) (pc' := 106) rfl (hb hby at_95) rfl (flt hc95_49).2.2.2 (by decide) (by decide) ?_
        show Steps p.tables e below (T4.setTop (mkF m 106 #[.val (.int p0), .val (.int p1), .val (.int p2), .val (.int p3), .val (.int p4), .val (.int p5), .val (.int t0), .val (.int t1), .val (.int t2), .val (.int t3), .val (.int tq), .val (.int vc), .val (.ref b1), .unset, .unset, .unset, .unset] [])) t
        refine XS.iload X4.here hx rfl (hb hby at_106) rfl ?_
        show Steps p.tables e below (T4.setTop (mkF m 108 #[.val (.int p0), .val (.int p1), .val (.int p2), .val (.int p3), .val (.int p4), .val (.int p5), .val (.int t0), .val (.int t1), .val (.int t2), .val (.int t3), .val (.int tq), .val (.int vc), .val (.ref b1), .unset, .unset, .unset, .unset] [(.int p5)])) t
        refine XS.bipush X4.here hx rfl (hb hby at_108) ?_
        show Steps p.tables e below (T4.setTop (mkF m 110 #[.val (.int p0), .val (.int p1), .val (.int p2), .val (.int p3), .val (.int p4), .val (.int p5), .val (.int t0), .val (.int t1), .val (.int t2), .val (.int t3), .val (.int tq), .val (.int vc), .val (.ref b1), .unset, .unset, .unset, .unset] [(.int (7 : Int32)), (.int p5)])) t
        refine XS.iand X4.here hx rfl (hb hby at_110) rfl ?_
        show Steps p.tables e below (T4.setTop (mkF m 111 #[.val (.int p0), .val (.int p1), .val (.int p2), .val (.int p3), .val (.int p4), .val (.int p5), .val (.int t0), .val (.int t1), .val (.int t2), .val (.int t3), .val (.int tq), .val (.int vc), .val (.ref b1), .unset, .unset, .unset, .unset] [(.int (p5 &&& (7 : Int32)))])) t
        refine XS.istore X4.here hx rfl (hb hby at_111) rfl (l' := #[.val (.int p0), .val (.int p1), .val (.int p2), .val (.int p3), .val (.int p4), .val (.int p5), .val (.int t0), .val (.int t1), .val (.int t2), .val (.int t3), .val (.int tq), .val (.int vc), .val (.ref b1), .val (.int (p5 &&& (7 : Int32))), .unset, .unset, .unset]) rfl ?_
        show Steps p.tables e below (T4.setTop (mkF m 113 #[.val (.int p0), .val (.int p1), .val (.int p2), .val (.int p3), .val (.int p4), .val (.int p5), .val (.int t0), .val (.int t1), .val (.int t2), .val (.int t3), .val (.int tq), .val (.int vc), .val (.ref b1), .val (.int (p5 &&& (7 : Int32))), .unset, .unset, .unset] [])) t
        refine XS.iload X4.here hx rfl (hb hby at_113) rfl ?_
        show Steps p.tables e below (T4.setTop (mkF m 115 #[.val (.int p0), .val (.int p1), .val (.int p2), .val (.int p3), .val (.int p4), .val (.int p5), .val (.int t0), .val (.int t1), .val (.int t2), .val (.int t3), .val (.int tq), .val (.int vc), .val (.ref b1), .val (.int (p5 &&& (7 : Int32))), .unset, .unset, .unset] [(.int tq)])) t
        refine XS.istore X4.here hx rfl (hb hby at_115) rfl (l' := #[.val (.int p0), .val (.int p1), .val (.int p2), .val (.int p3), .val (.int p4), .val (.int p5), .val (.int t0), .val (.int t1), .val (.int t2), .val (.int t3), .val (.int tq), .val (.int vc), .val (.ref b1), .val (.int (p5 &&& (7 : Int32))), .val (.int tq), .unset, .unset]) rfl ?_
        show Steps p.tables e below (T4.setTop (mkF m 117 #[.val (.int p0), .val (.int p1), .val (.int p2), .val (.int p3), .val (.int p4), .val (.int p5), .val (.int t0), .val (.int t1), .val (.int t2), .val (.int t3), .val (.int tq), .val (.int vc), .val (.ref b1), .val (.int (p5 &&& (7 : Int32))), .val (.int tq), .unset, .unset] [])) t
        refine XS.iload X4.here hx rfl (hb hby at_117) rfl ?_
        exact kt
      refine own_by (A' := T4.setTop (mkF m 165 #[.val (.int p0), .val (.int p1), .val (.int p2), .val (.int p3), .val (.int p4), .val (.int p5), .val (.int t0), .val (.int t1), .val (.int t2), .val (.int t3), .val (.int tq), .val (.int vc), .val (.ref b1), .val (.int (p5 &&& (7 : Int32))), .val (.int (if (p5 &&& (7 : Int32)) = (0 : Int32) then t0 else (if (p5 &&& (7 : Int32)) = (1 : Int32) then t1 else (if (p5 &&& (7 : Int32)) = (2 : Int32) then t2 else (if (p5 &&& (7 : Int32)) = (3 : Int32) then t3 else tq))))), .unset, .unset] [])) (fun t kt => ?_) ?_
      · show Steps p.tables e below (T4.setTop (mkF m 119 #[.val (.int p0), .val (.int p1), .val (.int p2), .val (.int p3), .val (.int p4), .val (.int p5), .val (.int t0), .val (.int t1), .val (.int t2), .val (.int t3), .val (.int tq), .val (.int vc), .val (.ref b1), .val (.int (p5 &&& (7 : Int32))), .val (.int tq), .unset, .unset] [(.int (p5 &&& (7 : Int32)))])) t
        by_cases hj119_50 : (p5 &&& (7 : Int32)) = (0 : Int32)
        · rw [if_pos hj119_50] at kt
          show Steps p.tables e below (T4.setTop (mkF m 119 #[.val (.int p0), .val (.int p1), .val (.int p2), .val (.int p3), .val (.int p4), .val (.int p5), .val (.int t0), .val (.int t1), .val (.int t2), .val (.int t3), .val (.int tq), .val (.int vc), .val (.ref b1), .val (.int (p5 &&& (7 : Int32))), .val (.int tq), .unset, .unset] [(.int (p5 &&& (7 : Int32)))])) t
          refine XS.ifNo X4.here hx rfl (hb hby at_119) rfl ((if0 _ _).trans (teq hj119_50).2) ?_
          show Steps p.tables e below (T4.setTop (mkF m 122 #[.val (.int p0), .val (.int p1), .val (.int p2), .val (.int p3), .val (.int p4), .val (.int p5), .val (.int t0), .val (.int t1), .val (.int t2), .val (.int t3), .val (.int tq), .val (.int vc), .val (.ref b1), .val (.int (p5 &&& (7 : Int32))), .val (.int tq), .unset, .unset] [])) t
          refine XS.iload X4.here hx rfl (hb hby at_122) rfl ?_
          show Steps p.tables e below (T4.setTop (mkF m 124 #[.val (.int p0), .val (.int p1), .val (.int p2), .val (.int p3), .val (.int p4), .val (.int p5), .val (.int t0), .val (.int t1), .val (.int t2), .val (.int t3), .val (.int tq), .val (.int vc), .val (.ref b1), .val (.int (p5 &&& (7 : Int32))), .val (.int tq), .unset, .unset] [(.int t0)])) t
          refine XS.istore X4.here hx rfl (hb hby at_124) rfl (l' := #[.val (.int p0), .val (.int p1), .val (.int p2), .val (.int p3), .val (.int p4), .val (.int p5), .val (.int t0), .val (.int t1), .val (.int t2), .val (.int t3), .val (.int tq), .val (.int vc), .val (.ref b1), .val (.int (p5 &&& (7 : Int32))), .val (.int t0), .unset, .unset]) rfl ?_
          show Steps p.tables e below (T4.setTop (mkF m 126 #[.val (.int p0), .val (.int p1), .val (.int p2), .val (.int p3), .val (.int p4), .val (.int p5), .val (.int t0), .val (.int t1), .val (.int t2), .val (.int t3), .val (.int tq), .val (.int vc), .val (.ref b1), .val (.int (p5 &&& (7 : Int32))), .val (.int t0), .unset, .unset] [])) t
          refine XS.goto X4.here hx rfl (pc0 := 126) (pc' := 165) rfl (hb hby at_126) (by decide) (by decide) ?_
          exact kt
        · rw [if_neg hj119_50] at kt
          show Steps p.tables e below (T4.setTop (mkF m 119 #[.val (.int p0), .val (.int p1), .val (.int p2), .val (.int p3), .val (.int p4), .val (.int p5), .val (.int t0), .val (.int t1), .val (.int t2), .val (.int t3), .val (.int tq), .val (.int vc), .val (.ref b1), .val (.int (p5 &&& (7 : Int32))), .val (.int tq), .unset, .unset] [(.int (p5 &&& (7 : Int32)))])) t
          refine XS.ifYes X4.here hx rfl (pc0 := 119) (pc' := 129) rfl (hb hby at_119) rfl ((if0 _ _).trans (feq hj119_50).2) (by decide) (by decide) ?_
          show Steps p.tables e below (T4.setTop (mkF m 129 #[.val (.int p0), .val (.int p1), .val (.int p2), .val (.int p3), .val (.int p4), .val (.int p5), .val (.int t0), .val (.int t1), .val (.int t2), .val (.int t3), .val (.int tq), .val (.int vc), .val (.ref b1), .val (.int (p5 &&& (7 : Int32))), .val (.int tq), .unset, .unset] [])) t
          refine XS.iload X4.here hx rfl (hb hby at_129) rfl ?_
          show Steps p.tables e below (T4.setTop (mkF m 131 #[.val (.int p0), .val (.int p1), .val (.int p2), .val (.int p3), .val (.int p4), .val (.int p5), .val (.int t0), .val (.int t1), .val (.int t2), .val (.int t3), .val (.int tq), .val (.int vc), .val (.ref b1), .val (.int (p5 &&& (7 : Int32))), .val (.int tq), .unset, .unset] [(.int (p5 &&& (7 : Int32)))])) t
          refine XS.iconst X4.here hx rfl (hb hby at_131) ?_
          refine own_stp (A' := T4.setTop (mkF m 165 #[.val (.int p0), .val (.int p1), .val (.int p2), .val (.int p3), .val (.int p4), .val (.int p5), .val (.int t0), .val (.int t1), .val (.int t2), .val (.int t3), .val (.int tq), .val (.int vc), .val (.ref b1), .val (.int (p5 &&& (7 : Int32))), .val (.int (if (p5 &&& (7 : Int32)) = (1 : Int32) then t1 else (if (p5 &&& (7 : Int32)) = (2 : Int32) then t2 else (if (p5 &&& (7 : Int32)) = (3 : Int32) then t3 else tq)))), .unset, .unset] [])) (fun t kt => ?_) ?_
          · show Steps p.tables e below (T4.setTop (mkF m 132 #[.val (.int p0), .val (.int p1), .val (.int p2), .val (.int p3), .val (.int p4), .val (.int p5), .val (.int t0), .val (.int t1), .val (.int t2), .val (.int t3), .val (.int tq), .val (.int vc), .val (.ref b1), .val (.int (p5 &&& (7 : Int32))), .val (.int tq), .unset, .unset] [(.int (1 : Int32)), (.int (p5 &&& (7 : Int32)))])) t
            by_cases hj132_51 : (p5 &&& (7 : Int32)) = (1 : Int32)
            · rw [if_pos hj132_51] at kt
              show Steps p.tables e below (T4.setTop (mkF m 132 #[.val (.int p0), .val (.int p1), .val (.int p2), .val (.int p3), .val (.int p4), .val (.int p5), .val (.int t0), .val (.int t1), .val (.int t2), .val (.int t3), .val (.int tq), .val (.int vc), .val (.ref b1), .val (.int (p5 &&& (7 : Int32))), .val (.int tq), .unset, .unset] [(.int (1 : Int32)), (.int (p5 &&& (7 : Int32)))])) t
              refine XS.icmpNo X4.here hx rfl (hb hby at_132) rfl (teq hj132_51).2 ?_
              show Steps p.tables e below (T4.setTop (mkF m 135 #[.val (.int p0), .val (.int p1), .val (.int p2), .val (.int p3), .val (.int p4), .val (.int p5), .val (.int t0), .val (.int t1), .val (.int t2), .val (.int t3), .val (.int tq), .val (.int vc), .val (.ref b1), .val (.int (p5 &&& (7 : Int32))), .val (.int tq), .unset, .unset] [])) t
              refine XS.iload X4.here hx rfl (hb hby at_135) rfl ?_
              show Steps p.tables e below (T4.setTop (mkF m 137 #[.val (.int p0), .val (.int p1), .val (.int p2), .val (.int p3), .val (.int p4), .val (.int p5), .val (.int t0), .val (.int t1), .val (.int t2), .val (.int t3), .val (.int tq), .val (.int vc), .val (.ref b1), .val (.int (p5 &&& (7 : Int32))), .val (.int tq), .unset, .unset] [(.int t1)])) t
              refine XS.istore X4.here hx rfl (hb hby at_137) rfl (l' := #[.val (.int p0), .val (.int p1), .val (.int p2), .val (.int p3), .val (.int p4), .val (.int p5), .val (.int t0), .val (.int t1), .val (.int t2), .val (.int t3), .val (.int tq), .val (.int vc), .val (.ref b1), .val (.int (p5 &&& (7 : Int32))), .val (.int t1), .unset, .unset]) rfl ?_
              show Steps p.tables e below (T4.setTop (mkF m 139 #[.val (.int p0), .val (.int p1), .val (.int p2), .val (.int p3), .val (.int p4), .val (.int p5), .val (.int t0), .val (.int t1), .val (.int t2), .val (.int t3), .val (.int tq), .val (.int vc), .val (.ref b1), .val (.int (p5 &&& (7 : Int32))), .val (.int t1), .unset, .unset] [])) t
              refine XS.goto X4.here hx rfl (pc0 := 139) (pc' := 165) rfl (hb hby at_139) (by decide) (by decide) ?_
              exact kt
            · rw [if_neg hj132_51] at kt
              show Steps p.tables e below (T4.setTop (mkF m 132 #[.val (.int p0), .val (.int p1), .val (.int p2), .val (.int p3), .val (.int p4), .val (.int p5), .val (.int t0), .val (.int t1), .val (.int t2), .val (.int t3), .val (.int tq), .val (.int vc), .val (.ref b1), .val (.int (p5 &&& (7 : Int32))), .val (.int tq), .unset, .unset] [(.int (1 : Int32)), (.int (p5 &&& (7 : Int32)))])) t
              refine XS.icmpYes X4.here hx rfl (pc0 := 132) (pc' := 142) rfl (hb hby at_132) rfl (feq hj132_51).2 (by decide) (by decide) ?_
              show Steps p.tables e below (T4.setTop (mkF m 142 #[.val (.int p0), .val (.int p1), .val (.int p2), .val (.int p3), .val (.int p4), .val (.int p5), .val (.int t0), .val (.int t1), .val (.int t2), .val (.int t3), .val (.int tq), .val (.int vc), .val (.ref b1), .val (.int (p5 &&& (7 : Int32))), .val (.int tq), .unset, .unset] [])) t
              refine XS.iload X4.here hx rfl (hb hby at_142) rfl ?_
              show Steps p.tables e below (T4.setTop (mkF m 144 #[.val (.int p0), .val (.int p1), .val (.int p2), .val (.int p3), .val (.int p4), .val (.int p5), .val (.int t0), .val (.int t1), .val (.int t2), .val (.int t3), .val (.int tq), .val (.int vc), .val (.ref b1), .val (.int (p5 &&& (7 : Int32))), .val (.int tq), .unset, .unset] [(.int (p5 &&& (7 : Int32)))])) t
              refine XS.iconst X4.here hx rfl (hb hby at_144) ?_
              refine own_stp (A' := T4.setTop (mkF m 165 #[.val (.int p0), .val (.int p1), .val (.int p2), .val (.int p3), .val (.int p4), .val (.int p5), .val (.int t0), .val (.int t1), .val (.int t2), .val (.int t3), .val (.int tq), .val (.int vc), .val (.ref b1), .val (.int (p5 &&& (7 : Int32))), .val (.int (if (p5 &&& (7 : Int32)) = (2 : Int32) then t2 else (if (p5 &&& (7 : Int32)) = (3 : Int32) then t3 else tq))), .unset, .unset] [])) (fun t kt => ?_) ?_
              · show Steps p.tables e below (T4.setTop (mkF m 145 #[.val (.int p0), .val (.int p1), .val (.int p2), .val (.int p3), .val (.int p4), .val (.int p5), .val (.int t0), .val (.int t1), .val (.int t2), .val (.int t3), .val (.int tq), .val (.int vc), .val (.ref b1), .val (.int (p5 &&& (7 : Int32))), .val (.int tq), .unset, .unset] [(.int (2 : Int32)), (.int (p5 &&& (7 : Int32)))])) t
                by_cases hj145_52 : (p5 &&& (7 : Int32)) = (2 : Int32)
                · rw [if_pos hj145_52] at kt
                  show Steps p.tables e below (T4.setTop (mkF m 145 #[.val (.int p0), .val (.int p1), .val (.int p2), .val (.int p3), .val (.int p4), .val (.int p5), .val (.int t0), .val (.int t1), .val (.int t2), .val (.int t3), .val (.int tq), .val (.int vc), .val (.ref b1), .val (.int (p5 &&& (7 : Int32))), .val (.int tq), .unset, .unset] [(.int (2 : Int32)), (.int (p5 &&& (7 : Int32)))])) t
                  refine XS.icmpNo X4.here hx rfl (hb hby at_145) rfl (teq hj145_52).2 ?_
                  show Steps p.tables e below (T4.setTop (mkF m 148 #[.val (.int p0), .val (.int p1), .val (.int p2), .val (.int p3), .val (.int p4), .val (.int p5), .val (.int t0), .val (.int t1), .val (.int t2), .val (.int t3), .val (.int tq), .val (.int vc), .val (.ref b1), .val (.int (p5 &&& (7 : Int32))), .val (.int tq), .unset, .unset] [])) t
                  refine XS.iload X4.here hx rfl (hb hby at_148) rfl ?_
                  show Steps p.tables e below (T4.setTop (mkF m 150 #[.val (.int p0), .val (.int p1), .val (.int p2), .val (.int p3), .val (.int p4), .val (.int p5), .val (.int t0), .val (.int t1), .val (.int t2), .val (.int t3), .val (.int tq), .val (.int vc), .val (.ref b1), .val (.int (p5 &&& (7 : Int32))), .val (.int tq), .unset, .unset] [(.int t2)])) t
                  refine XS.istore X4.here hx rfl (hb hby at_150) rfl (l' := #[.val (.int p0), .val (.int p1), .val (.int p2), .val (.int p3), .val (.int p4), .val (.int p5), .val (.int t0), .val (.int t1), .val (.int t2), .val (.int t3), .val (.int tq), .val (.int vc), .val (.ref b1), .val (.int (p5 &&& (7 : Int32))), .val (.int t2), .unset, .unset]) rfl ?_
                  show Steps p.tables e below (T4.setTop (mkF m 152 #[.val (.int p0), .val (.int p1), .val (.int p2), .val (.int p3), .val (.int p4), .val (.int p5), .val (.int t0), .val (.int t1), .val (.int t2), .val (.int t3), .val (.int tq), .val (.int vc), .val (.ref b1), .val (.int (p5 &&& (7 : Int32))), .val (.int t2), .unset, .unset] [])) t
                  refine XS.goto X4.here hx rfl (pc0 := 152) (pc' := 165) rfl (hb hby at_152) (by decide) (by decide) ?_
                  exact kt
                · rw [if_neg hj145_52] at kt
                  show Steps p.tables e below (T4.setTop (mkF m 145 #[.val (.int p0), .val (.int p1), .val (.int p2), .val (.int p3), .val (.int p4), .val (.int p5), .val (.int t0), .val (.int t1), .val (.int t2), .val (.int t3), .val (.int tq), .val (.int vc), .val (.ref b1), .val (.int (p5 &&& (7 : Int32))), .val (.int tq), .unset, .unset] [(.int (2 : Int32)), (.int (p5 &&& (7 : Int32)))])) t
                  refine XS.icmpYes X4.here hx rfl (pc0 := 145) (pc' := 155) rfl (hb hby at_145) rfl (feq hj145_52).2 (by decide) (by decide) ?_
                  show Steps p.tables e below (T4.setTop (mkF m 155 #[.val (.int p0), .val (.int p1), .val (.int p2), .val (.int p3), .val (.int p4), .val (.int p5), .val (.int t0), .val (.int t1), .val (.int t2), .val (.int t3), .val (.int tq), .val (.int vc), .val (.ref b1), .val (.int (p5 &&& (7 : Int32))), .val (.int tq), .unset, .unset] [])) t
                  refine XS.iload X4.here hx rfl (hb hby at_155) rfl ?_
                  show Steps p.tables e below (T4.setTop (mkF m 157 #[.val (.int p0), .val (.int p1), .val (.int p2), .val (.int p3), .val (.int p4), .val (.int p5), .val (.int t0), .val (.int t1), .val (.int t2), .val (.int t3), .val (.int tq), .val (.int vc), .val (.ref b1), .val (.int (p5 &&& (7 : Int32))), .val (.int tq), .unset, .unset] [(.int (p5 &&& (7 : Int32)))])) t
                  refine XS.iconst X4.here hx rfl (hb hby at_157) ?_
                  refine own_stp (A' := T4.setTop (mkF m 165 #[.val (.int p0), .val (.int p1), .val (.int p2), .val (.int p3), .val (.int p4), .val (.int p5), .val (.int t0), .val (.int t1), .val (.int t2), .val (.int t3), .val (.int tq), .val (.int vc), .val (.ref b1), .val (.int (p5 &&& (7 : Int32))), .val (.int (if (p5 &&& (7 : Int32)) = (3 : Int32) then t3 else tq)), .unset, .unset] [])) (fun t kt => ?_) ?_
                  · show Steps p.tables e below (T4.setTop (mkF m 158 #[.val (.int p0), .val (.int p1), .val (.int p2), .val (.int p3), .val (.int p4), .val (.int p5), .val (.int t0), .val (.int t1), .val (.int t2), .val (.int t3), .val (.int tq), .val (.int vc), .val (.ref b1), .val (.int (p5 &&& (7 : Int32))), .val (.int tq), .unset, .unset] [(.int (3 : Int32)), (.int (p5 &&& (7 : Int32)))])) t
                    by_cases hj158_53 : (p5 &&& (7 : Int32)) = (3 : Int32)
                    · rw [if_pos hj158_53] at kt
                      show Steps p.tables e below (T4.setTop (mkF m 158 #[.val (.int p0), .val (.int p1), .val (.int p2), .val (.int p3), .val (.int p4), .val (.int p5), .val (.int t0), .val (.int t1), .val (.int t2), .val (.int t3), .val (.int tq), .val (.int vc), .val (.ref b1), .val (.int (p5 &&& (7 : Int32))), .val (.int tq), .unset, .unset] [(.int (3 : Int32)), (.int (p5 &&& (7 : Int32)))])) t
                      refine XS.icmpNo X4.here hx rfl (hb hby at_158) rfl (teq hj158_53).2 ?_
                      show Steps p.tables e below (T4.setTop (mkF m 161 #[.val (.int p0), .val (.int p1), .val (.int p2), .val (.int p3), .val (.int p4), .val (.int p5), .val (.int t0), .val (.int t1), .val (.int t2), .val (.int t3), .val (.int tq), .val (.int vc), .val (.ref b1), .val (.int (p5 &&& (7 : Int32))), .val (.int tq), .unset, .unset] [])) t
                      refine XS.iload X4.here hx rfl (hb hby at_161) rfl ?_
                      show Steps p.tables e below (T4.setTop (mkF m 163 #[.val (.int p0), .val (.int p1), .val (.int p2), .val (.int p3), .val (.int p4), .val (.int p5), .val (.int t0), .val (.int t1), .val (.int t2), .val (.int t3), .val (.int tq), .val (.int vc), .val (.ref b1), .val (.int (p5 &&& (7 : Int32))), .val (.int tq), .unset, .unset] [(.int t3)])) t
                      refine XS.istore X4.here hx rfl (hb hby at_163) rfl (l' := #[.val (.int p0), .val (.int p1), .val (.int p2), .val (.int p3), .val (.int p4), .val (.int p5), .val (.int t0), .val (.int t1), .val (.int t2), .val (.int t3), .val (.int tq), .val (.int vc), .val (.ref b1), .val (.int (p5 &&& (7 : Int32))), .val (.int t3), .unset, .unset]) rfl ?_
                      exact kt
                    · rw [if_neg hj158_53] at kt
                      show Steps p.tables e below (T4.setTop (mkF m 158 #[.val (.int p0), .val (.int p1), .val (.int p2), .val (.int p3), .val (.int p4), .val (.int p5), .val (.int t0), .val (.int t1), .val (.int t2), .val (.int t3), .val (.int tq), .val (.int vc), .val (.ref b1), .val (.int (p5 &&& (7 : Int32))), .val (.int tq), .unset, .unset] [(.int (3 : Int32)), (.int (p5 &&& (7 : Int32)))])) t
                      refine XS.icmpYes X4.here hx rfl (pc0 := 158) (pc' := 165) rfl (hb hby at_158) rfl (feq hj158_53).2 (by decide) (by decide) ?_
                      exact kt
                  exact kt
              exact kt
          exact kt
      generalize h_vx : (if (p5 &&& (7 : Int32)) = (0 : Int32) then t0 else (if (p5 &&& (7 : Int32)) = (1 : Int32) then t1 else (if (p5 &&& (7 : Int32)) = (2 : Int32) then t2 else (if (p5 &&& (7 : Int32)) = (3 : Int32) then t3 else tq)))) = vx
      refine own_by (A' := T4.setTop (mkF m 169 #[.val (.int p0), .val (.int p1), .val (.int p2), .val (.int p3), .val (.int p4), .val (.int p5), .val (.int t0), .val (.int t1), .val (.int t2), .val (.int t3), .val (.int tq), .val (.int vc), .val (.ref b1), .val (.int (p5 &&& (7 : Int32))), .val (.int vx), .unset, .unset] [(.int vx), (.ref b1)])) (fun t kt => ?_) ?_
      · show Steps p.tables e below (T4.setTop (mkF m 165 #[.val (.int p0), .val (.int p1), .val (.int p2), .val (.int p3), .val (.int p4), .val (.int p5), .val (.int t0), .val (.int t1), .val (.int t2), .val (.int t3), .val (.int tq), .val (.int vc), .val (.ref b1), .val (.int (p5 &&& (7 : Int32))), .val (.int vx), .unset, .unset] [])) t
        refine XS.aload X4.here hx rfl (hb hby at_165) rfl rfl ?_
        show Steps p.tables e below (T4.setTop (mkF m 167 #[.val (.int p0), .val (.int p1), .val (.int p2), .val (.int p3), .val (.int p4), .val (.int p5), .val (.int t0), .val (.int t1), .val (.int t2), .val (.int t3), .val (.int tq), .val (.int vc), .val (.ref b1), .val (.int (p5 &&& (7 : Int32))), .val (.int vx), .unset, .unset] [(.ref b1)])) t
        refine XS.iload X4.here hx rfl (hb hby at_167) rfl ?_
        exact kt
      obtain ⟨cq54, kq54, q54a, q54b, q54c⟩ := isOf hZ rfl GE4
      obtain ⟨_, _, ⟨T54, L54, k54, n54⟩, -, X54, ⟨Lc54, hQ54, l54, y54, z54⟩, st54⟩ := X4.virtualBack hx (y := (⟨"com/example/corollary/corollary/saturation/TermSet", "contains", "(I)Z"⟩ : MethodName)) (z := (⟨"com/example/corollary/corollary/saturation/TermSet", "contains", "(I)Z"⟩ : MethodName)) hown (mvT hZ (hw _ (List.mem_of_getElem? (i := 13) rfl))) (mvT hZ (hw _ (List.mem_of_getElem? (i := 14) rfl))) (notFace_of_selects (args := #[]) (mvT hZ (hw _ (List.mem_of_getElem? (i := 16) rfl)))) (mvT hZ (hw _ (List.mem_of_getElem? (i := 16) rfl))) (mvT hZ (hw _ (List.mem_of_getElem? (i := 15) rfl))) (by decide) (backOf (W := 0) (rm3 l Z aw hw [] b1 vx b2 f4 lo4 hi4 sz4 (t0 :: []) T4.heap n0 (Nat.le_trans Z0 K4.1) G14 G24 G34 G44 V4 I4 (Nat.le_of_ble_eq_true rfl)) hZ (hw _ (List.mem_of_getElem? (i := 17) rfl)) (hw _ (List.mem_of_getElem? (i := 3) rfl)) (by decide) (by decide)) q54a q54c (g := (mkF m 169 #[.val (.int p0), .val (.int p1), .val (.int p2), .val (.int p3), .val (.int p4), .val (.int p5), .val (.int t0), .val (.int t1), .val (.int t2), .val (.int t3), .val (.int tq), .val (.int vc), .val (.ref b1), .val (.int (p5 &&& (7 : Int32))), .val (.int vx), .unset, .unset] [(.int vx), (.ref b1)])) rfl (by rw [hml]; rfl) (Steps.refl _) (argsL := [(.int vx)]) (rest := []) (lenOf pd_4 rfl) rfl (by show 2 * 0 + _ ≤ _; exact Nat.le_of_eq rfl) (hb hby at_169) (fun _ _ => ⟨rfl, rfl, (by decide : 2 + 0 ≤ _), (by decide : 68 + 0 ≤ _)⟩)
      dsimp only [Pt.U, Pt.locs, Pt.cells, Pt.slots] at X54 l54 y54 z54 st54 hQ54
      subst l54 y54 z54
      obtain ⟨rfl, N54q, e54⟩ := hQ54
      have N54 := Fr.app N4 N54q
      refine own_by (A' := T54.setTop (mkF m 172 #[.val (.int p0), .val (.int p1), .val (.int p2), .val (.int p3), .val (.int p4), .val (.int p5), .val (.int t0), .val (.int t1), .val (.int t2), .val (.int t3), .val (.int tq), .val (.int vc), .val (.ref b1), .val (.int (p5 &&& (7 : Int32))), .val (.int vx), .unset, .unset] [(.int (if vx ∈ ((t0 :: []) : List Int32) then (1 : Int32) else (0 : Int32)))])) (fun t kt => st54.trans kt) ?_
      refine own_by (A' := T54.setTop (mkF m 184 #[.val (.int p0), .val (.int p1), .val (.int p2), .val (.int p3), .val (.int p4), .val (.int p5), .val (.int t0), .val (.int t1), .val (.int t2), .val (.int t3), .val (.int tq), .val (.int vc), .val (.ref b1), .val (.int (p5 &&& (7 : Int32))), .val (.int vx), .unset, .unset] [(.int t3), (.int t2), (.int t1), (.int t0), (.int vc), (.int vx), (.int (if vx ∈ ((t0 :: []) : List Int32) then (1 : Int32) else (0 : Int32)))])) (fun t kt => ?_) ?_
      · show Steps p.tables e below (T54.setTop (mkF m 172 #[.val (.int p0), .val (.int p1), .val (.int p2), .val (.int p3), .val (.int p4), .val (.int p5), .val (.int t0), .val (.int t1), .val (.int t2), .val (.int t3), .val (.int tq), .val (.int vc), .val (.ref b1), .val (.int (p5 &&& (7 : Int32))), .val (.int vx), .unset, .unset] [(.int (if vx ∈ ((t0 :: []) : List Int32) then (1 : Int32) else (0 : Int32)))])) t
        refine XS.iload X54.here hx rfl (hb hby at_172) rfl ?_
        show Steps p.tables e below (T54.setTop (mkF m 174 #[.val (.int p0), .val (.int p1), .val (.int p2), .val (.int p3), .val (.int p4), .val (.int p5), .val (.int t0), .val (.int t1), .val (.int t2), .val (.int t3), .val (.int tq), .val (.int vc), .val (.ref b1), .val (.int (p5 &&& (7 : Int32))), .val (.int vx), .unset, .unset] [(.int vx), (.int (if vx ∈ ((t0 :: []) : List Int32) then (1 : Int32) else (0 : Int32)))])) t
        refine XS.iload X54.here hx rfl (hb hby at_174) rfl ?_
        show Steps p.tables e below (T54.setTop (mkF m 176 #[.val (.int p0), .val (.int p1), .val (.int p2), .val (.int p3), .val (.int p4), .val (.int p5), .val (.int t0), .val (.int t1), .val (.int t2), .val (.int t3), .val (.int tq), .val (.int vc), .val (.ref b1), .val (.int (p5 &&& (7 : Int32))), .val (.int vx), .unset, .unset] [(.int vc), (.int vx), (.int (if vx ∈ ((t0 :: []) : List Int32) then (1 : Int32) else (0 : Int32)))])) t
        refine XS.iload X54.here hx rfl (hb hby at_176) rfl ?_
        show Steps p.tables e below (T54.setTop (mkF m 178 #[.val (.int p0), .val (.int p1), .val (.int p2), .val (.int p3), .val (.int p4), .val (.int p5), .val (.int t0), .val (.int t1), .val (.int t2), .val (.int t3), .val (.int tq), .val (.int vc), .val (.ref b1), .val (.int (p5 &&& (7 : Int32))), .val (.int vx), .unset, .unset] [(.int t0), (.int vc), (.int vx), (.int (if vx ∈ ((t0 :: []) : List Int32) then (1 : Int32) else (0 : Int32)))])) t
        refine XS.iload X54.here hx rfl (hb hby at_178) rfl ?_
        show Steps p.tables e below (T54.setTop (mkF m 180 #[.val (.int p0), .val (.int p1), .val (.int p2), .val (.int p3), .val (.int p4), .val (.int p5), .val (.int t0), .val (.int t1), .val (.int t2), .val (.int t3), .val (.int tq), .val (.int vc), .val (.ref b1), .val (.int (p5 &&& (7 : Int32))), .val (.int vx), .unset, .unset] [(.int t1), (.int t0), (.int vc), (.int vx), (.int (if vx ∈ ((t0 :: []) : List Int32) then (1 : Int32) else (0 : Int32)))])) t
        refine XS.iload X54.here hx rfl (hb hby at_180) rfl ?_
        show Steps p.tables e below (T54.setTop (mkF m 182 #[.val (.int p0), .val (.int p1), .val (.int p2), .val (.int p3), .val (.int p4), .val (.int p5), .val (.int t0), .val (.int t1), .val (.int t2), .val (.int t3), .val (.int tq), .val (.int vc), .val (.ref b1), .val (.int (p5 &&& (7 : Int32))), .val (.int vx), .unset, .unset] [(.int t2), (.int t1), (.int t0), (.int vc), (.int vx), (.int (if vx ∈ ((t0 :: []) : List Int32) then (1 : Int32) else (0 : Int32)))])) t
        refine XS.iload X54.here hx rfl (hb hby at_182) rfl ?_
        exact kt
      obtain ⟨_, _, ⟨T55, L55, k55, n55⟩, -, X55, ⟨Lc55, hQ55, l55, y55, z55⟩, st55⟩ := Jvm.LawKit.callS X54 hx (y := (⟨"com/example/corollary/corollary/saturation/TermSetContainsPinLaw", "member", "(IIIIII)Z"⟩ : MethodName)) hown (mvT hZ (hw _ (List.mem_of_getElem? (i := 24) rfl))) (mvT hZ (hw _ (List.mem_of_getElem? (i := 25) rfl))) (mvT hZ (hw _ (List.mem_of_getElem? (i := 26) rfl))) (mvT hZ (hw _ (List.mem_of_getElem? (i := 27) rfl))) (by decide) (backOf (W := 1) (rm5 l Z aw hw [] vx vc t0 t1 t2 t3 T4.heap n0 (Nat.le_trans Z0 K4.1) ) hZ (hw _ (List.mem_of_getElem? (i := 27) rfl)) (hw _ (List.mem_of_getElem? (i := 26) rfl)) (by decide) (by decide)) (g := (mkF m 184 #[.val (.int p0), .val (.int p1), .val (.int p2), .val (.int p3), .val (.int p4), .val (.int p5), .val (.int t0), .val (.int t1), .val (.int t2), .val (.int t3), .val (.int tq), .val (.int vc), .val (.ref b1), .val (.int (p5 &&& (7 : Int32))), .val (.int vx), .unset, .unset] [(.int t3), (.int t2), (.int t1), (.int t0), (.int vc), (.int vx), (.int (if vx ∈ ((t0 :: []) : List Int32) then (1 : Int32) else (0 : Int32)))])) rfl (by rw [hml]; rfl) (argsL := [(.int vx), (.int vc), (.int t0), (.int t1), (.int t2), (.int t3)]) (rest := [(.int (if vx ∈ ((t0 :: []) : List Int32) then (1 : Int32) else (0 : Int32)))]) (lenOf pd_5 rfl) rfl (by show 2 * 0 + _ ≤ _; exact Nat.le_of_eq rfl) (hb hby at_184) (fun _ _ => ⟨rfl, e54, (by decide : 2 + 0 ≤ _), (by decide : 68 + 0 ≤ _)⟩)
      dsimp only [Pt.U, Pt.locs, Pt.cells, Pt.slots] at X55 l55 y55 z55 st55 hQ55
      subst l55 y55 z55
      obtain ⟨rfl, N55q, e55⟩ := hQ55
      have N55 := Fr.app N54 N55q
      refine own_by (A' := T55.setTop (mkF m 187 #[.val (.int p0), .val (.int p1), .val (.int p2), .val (.int p3), .val (.int p4), .val (.int p5), .val (.int t0), .val (.int t1), .val (.int t2), .val (.int t3), .val (.int tq), .val (.int vc), .val (.ref b1), .val (.int (p5 &&& (7 : Int32))), .val (.int vx), .unset, .unset] [(.int (own_f5 vx vc t0 t1 t2 t3)), (.int (if vx ∈ ((t0 :: []) : List Int32) then (1 : Int32) else (0 : Int32)))])) (fun t kt => st55 t kt) ?_
      have hc187_56 : (if vx ∈ ((t0 :: []) : List Int32) then (1 : Int32) else (0 : Int32)) = (own_f5 vx vc t0 t1 t2 t3) := by
        simp only [own_f5, hc53_3, hc67_5, hc81_48, hc95_49, if_true, if_false, List.mem_cons, List.not_mem_nil, or_false]
        repeat' split
        all_goals first | rfl | (exfalso; simp_all; done)
      refine own_by (A' := T55.setTop (mkF m 201 #[.val (.int p0), .val (.int p1), .val (.int p2), .val (.int p3), .val (.int p4), .val (.int p5), .val (.int t0), .val (.int t1), .val (.int t2), .val (.int t3), .val (.int tq), .val (.int vc), .val (.ref b1), .val (.int (p5 &&& (7 : Int32))), .val (.int vx), .val (.int (1 : Int32)), .unset] [(.int tq), (.ref b1)])) (fun t kt => ?_) ?_
      · show Steps p.tables e below (T55.setTop (mkF m 187 #[.val (.int p0), .val (.int p1), .val (.int p2), .val (.int p3), .val (.int p4), .val (.int p5), .val (.int t0), .val (.int t1), .val (.int t2), .val (.int t3), .val (.int tq), .val (.int vc), .val (.ref b1), .val (.int (p5 &&& (7 : Int32))), .val (.int vx), .unset, .unset] [(.int (own_f5 vx vc t0 t1 t2 t3)), (.int (if vx ∈ ((t0 :: []) : List Int32) then (1 : Int32) else (0 : Int32)))])) t
        refine XS.icmpNo X55.here hx rfl (hb hby at_187) rfl (teq hc187_56).2 ?_
        show Steps p.tables e below (T55.setTop (mkF m 190 #[.val (.int p0), .val (.int p1), .val (.int p2), .val (.int p3), .val (.int p4), .val (.int p5), .val (.int t0), .val (.int t1), .val (.int t2), .val (.int t3), .val (.int tq), .val (.int vc), .val (.ref b1), .val (.int (p5 &&& (7 : Int32))), .val (.int vx), .unset, .unset] [])) t
        refine XS.iconst X55.here hx rfl (hb hby at_190) ?_
        show Steps p.tables e below (T55.setTop (mkF m 191 #[.val (.int p0), .val (.int p1), .val (.int p2), .val (.int p3), .val (.int p4), .val (.int p5), .val (.int t0), .val (.int t1), .val (.int t2), .val (.int t3), .val (.int tq), .val (.int vc), .val (.ref b1), .val (.int (p5 &&& (7 : Int32))), .val (.int vx), .unset, .unset] [(.int (1 : Int32))])) t
        refine XS.goto X55.here hx rfl (pc0 := 191) (pc' := 195) rfl (hb hby at_191) (by decide) (by decide) ?_
        show Steps p.tables e below (T55.setTop (mkF m 195 #[.val (.int p0), .val (.int p1), .val (.int p2), .val (.int p3), .val (.int p4), .val (.int p5), .val (.int t0), .val (.int t1), .val (.int t2), .val (.int t3), .val (.int tq), .val (.int vc), .val (.ref b1), .val (.int (p5 &&& (7 : Int32))), .val (.int vx), .unset, .unset] [(.int (1 : Int32))])) t
        refine XS.istore X55.here hx rfl (hb hby at_195) rfl (l' := #[.val (.int p0), .val (.int p1), .val (.int p2), .val (.int p3), .val (.int p4), .val (.int p5), .val (.int t0), .val (.int t1), .val (.int t2), .val (.int t3), .val (.int tq), .val (.int vc), .val (.ref b1), .val (.int (p5 &&& (7 : Int32))), .val (.int vx), .val (.int (1 : Int32)), .unset]) rfl ?_
        show Steps p.tables e below (T55.setTop (mkF m 197 #[.val (.int p0), .val (.int p1), .val (.int p2), .val (.int p3), .val (.int p4), .val (.int p5), .val (.int t0), .val (.int t1), .val (.int t2), .val (.int t3), .val (.int tq), .val (.int vc), .val (.ref b1), .val (.int (p5 &&& (7 : Int32))), .val (.int vx), .val (.int (1 : Int32)), .unset] [])) t
        refine XS.aload X55.here hx rfl (hb hby at_197) rfl rfl ?_
        show Steps p.tables e below (T55.setTop (mkF m 199 #[.val (.int p0), .val (.int p1), .val (.int p2), .val (.int p3), .val (.int p4), .val (.int p5), .val (.int t0), .val (.int t1), .val (.int t2), .val (.int t3), .val (.int tq), .val (.int vc), .val (.ref b1), .val (.int (p5 &&& (7 : Int32))), .val (.int vx), .val (.int (1 : Int32)), .unset] [(.ref b1)])) t
        refine XS.iload X55.here hx rfl (hb hby at_199) rfl ?_
        exact kt
      obtain ⟨cq57, kq57, q57a, q57b, q57c⟩ := isOf hZ e55 GE4
      obtain ⟨_, _, ⟨T57, L57, k57, n57⟩, -, X57, ⟨Lc57, hQ57, l57, y57, z57⟩, st57⟩ := X55.virtualBack hx (y := (⟨"com/example/corollary/corollary/saturation/TermSet", "contains", "(I)Z"⟩ : MethodName)) (z := (⟨"com/example/corollary/corollary/saturation/TermSet", "contains", "(I)Z"⟩ : MethodName)) hown (mvT hZ (hw _ (List.mem_of_getElem? (i := 13) rfl))) (mvT hZ (hw _ (List.mem_of_getElem? (i := 14) rfl))) (notFace_of_selects (args := #[]) (mvT hZ (hw _ (List.mem_of_getElem? (i := 16) rfl)))) (mvT hZ (hw _ (List.mem_of_getElem? (i := 16) rfl))) (mvT hZ (hw _ (List.mem_of_getElem? (i := 15) rfl))) (by decide) (backOf (W := 0) (rm3 l Z aw hw [] b1 tq b2 f4 lo4 hi4 sz4 (t0 :: []) T4.heap n0 (Nat.le_trans Z0 K4.1) G14 G24 G34 G44 V4 I4 (Nat.le_of_ble_eq_true rfl)) hZ (hw _ (List.mem_of_getElem? (i := 17) rfl)) (hw _ (List.mem_of_getElem? (i := 3) rfl)) (by decide) (by decide)) q57a q57c (g := (mkF m 201 #[.val (.int p0), .val (.int p1), .val (.int p2), .val (.int p3), .val (.int p4), .val (.int p5), .val (.int t0), .val (.int t1), .val (.int t2), .val (.int t3), .val (.int tq), .val (.int vc), .val (.ref b1), .val (.int (p5 &&& (7 : Int32))), .val (.int vx), .val (.int (1 : Int32)), .unset] [(.int tq), (.ref b1)])) rfl (by rw [hml]; rfl) (Steps.refl _) (argsL := [(.int tq)]) (rest := []) (lenOf pd_4 rfl) rfl (by show 2 * 0 + _ ≤ _; exact Nat.le_of_eq rfl) (hb hby at_201) (fun _ _ => ⟨rfl, e55, (by decide : 2 + 0 ≤ _), (by decide : 68 + 0 ≤ _)⟩)
      dsimp only [Pt.U, Pt.locs, Pt.cells, Pt.slots] at X57 l57 y57 z57 st57 hQ57
      subst l57 y57 z57
      obtain ⟨rfl, N57q, e57⟩ := hQ57
      have N57 := Fr.app N55 N57q
      refine own_by (A' := T57.setTop (mkF m 204 #[.val (.int p0), .val (.int p1), .val (.int p2), .val (.int p3), .val (.int p4), .val (.int p5), .val (.int t0), .val (.int t1), .val (.int t2), .val (.int t3), .val (.int tq), .val (.int vc), .val (.ref b1), .val (.int (p5 &&& (7 : Int32))), .val (.int vx), .val (.int (1 : Int32)), .unset] [(.int (if tq ∈ ((t0 :: []) : List Int32) then (1 : Int32) else (0 : Int32)))])) (fun t kt => st57.trans kt) ?_
      refine own_by (A' := T57.setTop (mkF m 216 #[.val (.int p0), .val (.int p1), .val (.int p2), .val (.int p3), .val (.int p4), .val (.int p5), .val (.int t0), .val (.int t1), .val (.int t2), .val (.int t3), .val (.int tq), .val (.int vc), .val (.ref b1), .val (.int (p5 &&& (7 : Int32))), .val (.int vx), .val (.int (1 : Int32)), .unset] [(.int t3), (.int t2), (.int t1), (.int t0), (.int vc), (.int tq), (.int (if tq ∈ ((t0 :: []) : List Int32) then (1 : Int32) else (0 : Int32)))])) (fun t kt => ?_) ?_
      · show Steps p.tables e below (T57.setTop (mkF m 204 #[.val (.int p0), .val (.int p1), .val (.int p2), .val (.int p3), .val (.int p4), .val (.int p5), .val (.int t0), .val (.int t1), .val (.int t2), .val (.int t3), .val (.int tq), .val (.int vc), .val (.ref b1), .val (.int (p5 &&& (7 : Int32))), .val (.int vx), .val (.int (1 : Int32)), .unset] [(.int (if tq ∈ ((t0 :: []) : List Int32) then (1 : Int32) else (0 : Int32)))])) t
        refine XS.iload X57.here hx rfl (hb hby at_204) rfl ?_
        show Steps p.tables e below (T57.setTop (mkF m 206 #[.val (.int p0), .val (.int p1), .val (.int p2), .val (.int p3), .val (.int p4), .val (.int p5), .val (.int t0), .val (.int t1), .val (.int t2), .val (.int t3), .val (.int tq), .val (.int vc), .val (.ref b1), .val (.int (p5 &&& (7 : Int32))), .val (.int vx), .val (.int (1 : Int32)), .unset] [(.int tq), (.int (if tq ∈ ((t0 :: []) : List Int32) then (1 : Int32) else (0 : Int32)))])) t
        refine XS.iload X57.here hx rfl (hb hby at_206) rfl ?_
        show Steps p.tables e below (T57.setTop (mkF m 208 #[.val (.int p0), .val (.int p1), .val (.int p2), .val (.int p3), .val (.int p4), .val (.int p5), .val (.int t0), .val (.int t1), .val (.int t2), .val (.int t3), .val (.int tq), .val (.int vc), .val (.ref b1), .val (.int (p5 &&& (7 : Int32))), .val (.int vx), .val (.int (1 : Int32)), .unset] [(.int vc), (.int tq), (.int (if tq ∈ ((t0 :: []) : List Int32) then (1 : Int32) else (0 : Int32)))])) t
        refine XS.iload X57.here hx rfl (hb hby at_208) rfl ?_
        show Steps p.tables e below (T57.setTop (mkF m 210 #[.val (.int p0), .val (.int p1), .val (.int p2), .val (.int p3), .val (.int p4), .val (.int p5), .val (.int t0), .val (.int t1), .val (.int t2), .val (.int t3), .val (.int tq), .val (.int vc), .val (.ref b1), .val (.int (p5 &&& (7 : Int32))), .val (.int vx), .val (.int (1 : Int32)), .unset] [(.int t0), (.int vc), (.int tq), (.int (if tq ∈ ((t0 :: []) : List Int32) then (1 : Int32) else (0 : Int32)))])) t
        refine XS.iload X57.here hx rfl (hb hby at_210) rfl ?_
        show Steps p.tables e below (T57.setTop (mkF m 212 #[.val (.int p0), .val (.int p1), .val (.int p2), .val (.int p3), .val (.int p4), .val (.int p5), .val (.int t0), .val (.int t1), .val (.int t2), .val (.int t3), .val (.int tq), .val (.int vc), .val (.ref b1), .val (.int (p5 &&& (7 : Int32))), .val (.int vx), .val (.int (1 : Int32)), .unset] [(.int t1), (.int t0), (.int vc), (.int tq), (.int (if tq ∈ ((t0 :: []) : List Int32) then (1 : Int32) else (0 : Int32)))])) t
        refine XS.iload X57.here hx rfl (hb hby at_212) rfl ?_
        show Steps p.tables e below (T57.setTop (mkF m 214 #[.val (.int p0), .val (.int p1), .val (.int p2), .val (.int p3), .val (.int p4), .val (.int p5), .val (.int t0), .val (.int t1), .val (.int t2), .val (.int t3), .val (.int tq), .val (.int vc), .val (.ref b1), .val (.int (p5 &&& (7 : Int32))), .val (.int vx), .val (.int (1 : Int32)), .unset] [(.int t2), (.int t1), (.int t0), (.int vc), (.int tq), (.int (if tq ∈ ((t0 :: []) : List Int32) then (1 : Int32) else (0 : Int32)))])) t
        refine XS.iload X57.here hx rfl (hb hby at_214) rfl ?_
        exact kt
      obtain ⟨_, _, ⟨T58, L58, k58, n58⟩, -, X58, ⟨Lc58, hQ58, l58, y58, z58⟩, st58⟩ := Jvm.LawKit.callS X57 hx (y := (⟨"com/example/corollary/corollary/saturation/TermSetContainsPinLaw", "member", "(IIIIII)Z"⟩ : MethodName)) hown (mvT hZ (hw _ (List.mem_of_getElem? (i := 24) rfl))) (mvT hZ (hw _ (List.mem_of_getElem? (i := 25) rfl))) (mvT hZ (hw _ (List.mem_of_getElem? (i := 26) rfl))) (mvT hZ (hw _ (List.mem_of_getElem? (i := 27) rfl))) (by decide) (backOf (W := 1) (rm5 l Z aw hw [] tq vc t0 t1 t2 t3 T4.heap n0 (Nat.le_trans Z0 K4.1) ) hZ (hw _ (List.mem_of_getElem? (i := 27) rfl)) (hw _ (List.mem_of_getElem? (i := 26) rfl)) (by decide) (by decide)) (g := (mkF m 216 #[.val (.int p0), .val (.int p1), .val (.int p2), .val (.int p3), .val (.int p4), .val (.int p5), .val (.int t0), .val (.int t1), .val (.int t2), .val (.int t3), .val (.int tq), .val (.int vc), .val (.ref b1), .val (.int (p5 &&& (7 : Int32))), .val (.int vx), .val (.int (1 : Int32)), .unset] [(.int t3), (.int t2), (.int t1), (.int t0), (.int vc), (.int tq), (.int (if tq ∈ ((t0 :: []) : List Int32) then (1 : Int32) else (0 : Int32)))])) rfl (by rw [hml]; rfl) (argsL := [(.int tq), (.int vc), (.int t0), (.int t1), (.int t2), (.int t3)]) (rest := [(.int (if tq ∈ ((t0 :: []) : List Int32) then (1 : Int32) else (0 : Int32)))]) (lenOf pd_5 rfl) rfl (by show 2 * 0 + _ ≤ _; exact Nat.le_of_eq rfl) (hb hby at_216) (fun _ _ => ⟨rfl, e57, (by decide : 2 + 0 ≤ _), (by decide : 68 + 0 ≤ _)⟩)
      dsimp only [Pt.U, Pt.locs, Pt.cells, Pt.slots] at X58 l58 y58 z58 st58 hQ58
      subst l58 y58 z58
      obtain ⟨rfl, N58q, e58⟩ := hQ58
      have N58 := Fr.app N57 N58q
      refine own_by (A' := T58.setTop (mkF m 219 #[.val (.int p0), .val (.int p1), .val (.int p2), .val (.int p3), .val (.int p4), .val (.int p5), .val (.int t0), .val (.int t1), .val (.int t2), .val (.int t3), .val (.int tq), .val (.int vc), .val (.ref b1), .val (.int (p5 &&& (7 : Int32))), .val (.int vx), .val (.int (1 : Int32)), .unset] [(.int (own_f5 tq vc t0 t1 t2 t3)), (.int (if tq ∈ ((t0 :: []) : List Int32) then (1 : Int32) else (0 : Int32)))])) (fun t kt => st58 t kt) ?_
      have hc219_59 : (if tq ∈ ((t0 :: []) : List Int32) then (1 : Int32) else (0 : Int32)) = (own_f5 tq vc t0 t1 t2 t3) := by
        simp only [own_f5, hc53_3, hc67_5, hc81_48, hc95_49, if_true, if_false, List.mem_cons, List.not_mem_nil, or_false]
        repeat' split
        all_goals first | rfl | (exfalso; simp_all; done)
      refine own_by (A' := T58.setTop (mkF m 231 #[.val (.int p0), .val (.int p1), .val (.int p2), .val (.int p3), .val (.int p4), .val (.int p5), .val (.int t0), .val (.int t1), .val (.int t2), .val (.int t3), .val (.int tq), .val (.int vc), .val (.ref b1), .val (.int (p5 &&& (7 : Int32))), .val (.int vx), .val (.int (1 : Int32)), .val (.int (1 : Int32))] [(.int (1 : Int32))])) (fun t kt => ?_) ?_
      · show Steps p.tables e below (T58.setTop (mkF m 219 #[.val (.int p0), .val (.int p1), .val (.int p2), .val (.int p3), .val (.int p4), .val (.int p5), .val (.int t0), .val (.int t1), .val (.int t2), .val (.int t3), .val (.int tq), .val (.int vc), .val (.ref b1), .val (.int (p5 &&& (7 : Int32))), .val (.int vx), .val (.int (1 : Int32)), .unset] [(.int (own_f5 tq vc t0 t1 t2 t3)), (.int (if tq ∈ ((t0 :: []) : List Int32) then (1 : Int32) else (0 : Int32)))])) t
        refine XS.icmpNo X58.here hx rfl (hb hby at_219) rfl (teq hc219_59).2 ?_
        show Steps p.tables e below (T58.setTop (mkF m 222 #[.val (.int p0), .val (.int p1), .val (.int p2), .val (.int p3), .val (.int p4), .val (.int p5), .val (.int t0), .val (.int t1), .val (.int t2), .val (.int t3), .val (.int tq), .val (.int vc), .val (.ref b1), .val (.int (p5 &&& (7 : Int32))), .val (.int vx), .val (.int (1 : Int32)), .unset] [])) t
        refine XS.iconst X58.here hx rfl (hb hby at_222) ?_
        show Steps p.tables e below (T58.setTop (mkF m 223 #[.val (.int p0), .val (.int p1), .val (.int p2), .val (.int p3), .val (.int p4), .val (.int p5), .val (.int t0), .val (.int t1), .val (.int t2), .val (.int t3), .val (.int tq), .val (.int vc), .val (.ref b1), .val (.int (p5 &&& (7 : Int32))), .val (.int vx), .val (.int (1 : Int32)), .unset] [(.int (1 : Int32))])) t
        refine XS.goto X58.here hx rfl (pc0 := 223) (pc' := 227) rfl (hb hby at_223) (by decide) (by decide) ?_
        show Steps p.tables e below (T58.setTop (mkF m 227 #[.val (.int p0), .val (.int p1), .val (.int p2), .val (.int p3), .val (.int p4), .val (.int p5), .val (.int t0), .val (.int t1), .val (.int t2), .val (.int t3), .val (.int tq), .val (.int vc), .val (.ref b1), .val (.int (p5 &&& (7 : Int32))), .val (.int vx), .val (.int (1 : Int32)), .unset] [(.int (1 : Int32))])) t
        refine XS.istore X58.here hx rfl (hb hby at_227) rfl (l' := #[.val (.int p0), .val (.int p1), .val (.int p2), .val (.int p3), .val (.int p4), .val (.int p5), .val (.int t0), .val (.int t1), .val (.int t2), .val (.int t3), .val (.int tq), .val (.int vc), .val (.ref b1), .val (.int (p5 &&& (7 : Int32))), .val (.int vx), .val (.int (1 : Int32)), .val (.int (1 : Int32))]) rfl ?_
        show Steps p.tables e below (T58.setTop (mkF m 229 #[.val (.int p0), .val (.int p1), .val (.int p2), .val (.int p3), .val (.int p4), .val (.int p5), .val (.int t0), .val (.int t1), .val (.int t2), .val (.int t3), .val (.int tq), .val (.int vc), .val (.ref b1), .val (.int (p5 &&& (7 : Int32))), .val (.int vx), .val (.int (1 : Int32)), .val (.int (1 : Int32))] [])) t
        refine XS.iload X58.here hx rfl (hb hby at_229) rfl ?_
        exact kt
      have hc231_60 : ¬ ((1 : Int32) = (0 : Int32)) := by decide
      refine own_by (A' := T58.setTop (mkF m 236 #[.val (.int p0), .val (.int p1), .val (.int p2), .val (.int p3), .val (.int p4), .val (.int p5), .val (.int t0), .val (.int t1), .val (.int t2), .val (.int t3), .val (.int tq), .val (.int vc), .val (.ref b1), .val (.int (p5 &&& (7 : Int32))), .val (.int vx), .val (.int (1 : Int32)), .val (.int (1 : Int32))] [(.int (1 : Int32))])) (fun t kt => ?_) ?_
      · show Steps p.tables e below (T58.setTop (mkF m 231 #[.val (.int p0), .val (.int p1), .val (.int p2), .val (.int p3), .val (.int p4), .val (.int p5), .val (.int t0), .val (.int t1), .val (.int t2), .val (.int t3), .val (.int tq), .val (.int vc), .val (.ref b1), .val (.int (p5 &&& (7 : Int32))), .val (.int vx), .val (.int (1 : Int32)), .val (.int (1 : Int32))] [(.int (1 : Int32))])) t
        refine XS.ifNo X58.here hx rfl (hb hby at_231) rfl ((if0 _ _).trans (feq hc231_60).1) ?_
        show Steps p.tables e below (T58.setTop (mkF m 234 #[.val (.int p0), .val (.int p1), .val (.int p2), .val (.int p3), .val (.int p4), .val (.int p5), .val (.int t0), .val (.int t1), .val (.int t2), .val (.int t3), .val (.int tq), .val (.int vc), .val (.ref b1), .val (.int (p5 &&& (7 : Int32))), .val (.int vx), .val (.int (1 : Int32)), .val (.int (1 : Int32))] [])) t
        refine XS.iload X58.here hx rfl (hb hby at_234) rfl ?_
        exact kt
      have hc236_61 : ¬ ((1 : Int32) = (0 : Int32)) := by decide
      refine own_by (A' := T58.setTop (mkF m 244 #[.val (.int p0), .val (.int p1), .val (.int p2), .val (.int p3), .val (.int p4), .val (.int p5), .val (.int t0), .val (.int t1), .val (.int t2), .val (.int t3), .val (.int tq), .val (.int vc), .val (.ref b1), .val (.int (p5 &&& (7 : Int32))), .val (.int vx), .val (.int (1 : Int32)), .val (.int (1 : Int32))] [(.int (1 : Int32))])) (fun t kt => ?_) ?_
      · show Steps p.tables e below (T58.setTop (mkF m 236 #[.val (.int p0), .val (.int p1), .val (.int p2), .val (.int p3), .val (.int p4), .val (.int p5), .val (.int t0), .val (.int t1), .val (.int t2), .val (.int t3), .val (.int tq), .val (.int vc), .val (.ref b1), .val (.int (p5 &&& (7 : Int32))), .val (.int vx), .val (.int (1 : Int32)), .val (.int (1 : Int32))] [(.int (1 : Int32))])) t
        refine XS.ifNo X58.here hx rfl (hb hby at_236) rfl ((if0 _ _).trans (feq hc236_61).1) ?_
        show Steps p.tables e below (T58.setTop (mkF m 239 #[.val (.int p0), .val (.int p1), .val (.int p2), .val (.int p3), .val (.int p4), .val (.int p5), .val (.int t0), .val (.int t1), .val (.int t2), .val (.int t3), .val (.int tq), .val (.int vc), .val (.ref b1), .val (.int (p5 &&& (7 : Int32))), .val (.int vx), .val (.int (1 : Int32)), .val (.int (1 : Int32))] [])) t
        refine XS.iconst X58.here hx rfl (hb hby at_239) ?_
        show Steps p.tables e below (T58.setTop (mkF m 240 #[.val (.int p0), .val (.int p1), .val (.int p2), .val (.int p3), .val (.int p4), .val (.int p5), .val (.int t0), .val (.int t1), .val (.int t2), .val (.int t3), .val (.int tq), .val (.int vc), .val (.ref b1), .val (.int (p5 &&& (7 : Int32))), .val (.int vx), .val (.int (1 : Int32)), .val (.int (1 : Int32))] [(.int (1 : Int32))])) t
        refine XS.goto X58.here hx rfl (pc0 := 240) (pc' := 244) rfl (hb hby at_240) (by decide) (by decide) ?_
        exact kt
      obtain ⟨fs, hr, hrun, hended, hW, hsame⟩ := X58.leave (v := some (.int (1 : Int32))) (fun h => by rw [Bd.returns] at h; cases h)
      refine ⟨_, _, ?_, hrun, hended, _, _, rfl, ?_, ⟨_, rfl⟩, hW, hsame.mono (by decide) (by decide)⟩
      · exact retN X58 hx (t := .boolean) Bd.returns (by simp) (hb hby at_244) hr
      · show Q0 Z p0 p1 p2 p3 p4 p5 h0 n0 _ T58.heap _
        rw [e58]
        exact ⟨rfl, N58⟩
  · refine own_by (A' := T2.setTop (mkF m 67 #[.val (.int p0), .val (.int p1), .val (.int p2), .val (.int p3), .val (.int p4), .val (.int p5), .val (.int t0), .val (.int t1), .val (.int t2), .val (.int t3), .val (.int tq), .val (.int vc), .val (.ref b1), .unset, .unset, .unset, .unset] [(.int (1 : Int32)), (.int vc)])) (fun t kt => ?_) ?_
    · show Steps p.tables e below (T2.setTop (mkF m 53 #[.val (.int p0), .val (.int p1), .val (.int p2), .val (.int p3), .val (.int p4), .val (.int p5), .val (.int t0), .val (.int t1), .val (.int t2), .val (.int t3), .val (.int tq), .val (.int vc), .val (.ref b1), .unset, .unset, .unset, .unset] [(.int vc)])) t
      refine XS.ifYes X2.here hx rfl (pc0 := 53) (pc' := 64) rfl (hb hby at_53) rfl ((if0 _ _).trans (flt hc53_3).2.2.2) (by decide) (by decide) ?_
      show Steps p.tables e below (T2.setTop (mkF m 64 #[.val (.int p0), .val (.int p1), .val (.int p2), .val (.int p3), .val (.int p4), .val (.int p5), .val (.int t0), .val (.int t1), .val (.int t2), .val (.int t3), .val (.int tq), .val (.int vc), .val (.ref b1), .unset, .unset, .unset, .unset] [])) t
      refine XS.iload X2.here hx rfl (hb hby at_64) rfl ?_
      show Steps p.tables e below (T2.setTop (mkF m 66 #[.val (.int p0), .val (.int p1), .val (.int p2), .val (.int p3), .val (.int p4), .val (.int p5), .val (.int t0), .val (.int t1), .val (.int t2), .val (.int t3), .val (.int tq), .val (.int vc), .val (.ref b1), .unset, .unset, .unset, .unset] [(.int vc)])) t
      refine XS.iconst X2.here hx rfl (hb hby at_66) ?_
      exact kt
    have hc67_62 : ¬ ((1 : Int32) < vc) := fun q => hc53_3 (Int32.lt_trans (by decide) q)
    refine own_by (A' := T2.setTop (mkF m 81 #[.val (.int p0), .val (.int p1), .val (.int p2), .val (.int p3), .val (.int p4), .val (.int p5), .val (.int t0), .val (.int t1), .val (.int t2), .val (.int t3), .val (.int tq), .val (.int vc), .val (.ref b1), .unset, .unset, .unset, .unset] [(.int (2 : Int32)), (.int vc)])) (fun t kt => ?_) ?_
    · show Steps p.tables e below (T2.setTop (mkF m 67 #[.val (.int p0), .val (.int p1), .val (.int p2), .val (.int p3), .val (.int p4), .val (.int p5), .val (.int t0), .val (.int t1), .val (.int t2), .val (.int t3), .val (.int tq), .val (.int vc), .val (.ref b1), .unset, .unset, .unset, .unset] [(.int (1 : Int32)), (.int vc)])) t
      refine XS.icmpYes X2.here hx rfl (pc0 := 67) (pc' := 78) rfl (hb hby at_67) rfl (flt hc67_62).2.2.2 (by decide) (by decide) ?_
      show Steps p.tables e below (T2.setTop (mkF m 78 #[.val (.int p0), .val (.int p1), .val (.int p2), .val (.int p3), .val (.int p4), .val (.int p5), .val (.int t0), .val (.int t1), .val (.int t2), .val (.int t3), .val (.int tq), .val (.int vc), .val (.ref b1), .unset, .unset, .unset, .unset] [])) t
      refine XS.iload X2.here hx rfl (hb hby at_78) rfl ?_
      show Steps p.tables e below (T2.setTop (mkF m 80 #[.val (.int p0), .val (.int p1), .val (.int p2), .val (.int p3), .val (.int p4), .val (.int p5), .val (.int t0), .val (.int t1), .val (.int t2), .val (.int t3), .val (.int tq), .val (.int vc), .val (.ref b1), .unset, .unset, .unset, .unset] [(.int vc)])) t
      refine XS.iconst X2.here hx rfl (hb hby at_80) ?_
      exact kt
    have hc81_63 : ¬ ((2 : Int32) < vc) := fun q => hc53_3 (Int32.lt_trans (by decide) q)
    refine own_by (A' := T2.setTop (mkF m 95 #[.val (.int p0), .val (.int p1), .val (.int p2), .val (.int p3), .val (.int p4), .val (.int p5), .val (.int t0), .val (.int t1), .val (.int t2), .val (.int t3), .val (.int tq), .val (.int vc), .val (.ref b1), .unset, .unset, .unset, .unset] [(.int (3 : Int32)), (.int vc)])) (fun t kt => ?_) ?_
    · show Steps p.tables e below (T2.setTop (mkF m 81 #[.val (.int p0), .val (.int p1), .val (.int p2), .val (.int p3), .val (.int p4), .val (.int p5), .val (.int t0), .val (.int t1), .val (.int t2), .val (.int t3), .val (.int tq), .val (.int vc), .val (.ref b1), .unset, .unset, .unset, .unset] [(.int (2 : Int32)), (.int vc)])) t
      refine XS.icmpYes X2.here hx rfl (pc0 := 81) (pc' := 92) rfl (hb hby at_81) rfl (flt hc81_63).2.2.2 (by decide) (by decide) ?_
      show Steps p.tables e below (T2.setTop (mkF m 92 #[.val (.int p0), .val (.int p1), .val (.int p2), .val (.int p3), .val (.int p4), .val (.int p5), .val (.int t0), .val (.int t1), .val (.int t2), .val (.int t3), .val (.int tq), .val (.int vc), .val (.ref b1), .unset, .unset, .unset, .unset] [])) t
      refine XS.iload X2.here hx rfl (hb hby at_92) rfl ?_
      show Steps p.tables e below (T2.setTop (mkF m 94 #[.val (.int p0), .val (.int p1), .val (.int p2), .val (.int p3), .val (.int p4), .val (.int p5), .val (.int t0), .val (.int t1), .val (.int t2), .val (.int t3), .val (.int tq), .val (.int vc), .val (.ref b1), .unset, .unset, .unset, .unset] [(.int vc)])) t
      refine XS.iconst X2.here hx rfl (hb hby at_94) ?_
      exact kt
    have hc95_64 : ¬ ((3 : Int32) < vc) := fun q => hc53_3 (Int32.lt_trans (by decide) q)
    refine own_by (A' := T2.setTop (mkF m 119 #[.val (.int p0), .val (.int p1), .val (.int p2), .val (.int p3), .val (.int p4), .val (.int p5), .val (.int t0), .val (.int t1), .val (.int t2), .val (.int t3), .val (.int tq), .val (.int vc), .val (.ref b1), .val (.int (p5 &&& (7 : Int32))), .val (.int tq), .unset, .unset] [(.int (p5 &&& (7 : Int32)))])) (fun t kt => ?_) ?_
    · show Steps p.tables e below (T2.setTop (mkF m 95 #[.val (.int p0), .val (.int p1), .val (.int p2), .val (.int p3), .val (.int p4), .val (.int p5), .val (.int t0), .val (.int t1), .val (.int t2), .val (.int t3), .val (.int tq), .val (.int vc), .val (.ref b1), .unset, .unset, .unset, .unset] [(.int (3 : Int32)), (.int vc)])) t
      refine XS.icmpYes X2.here hx rfl (pc0 := 95) (pc' := 106) rfl (hb hby at_95) rfl (flt hc95_64).2.2.2 (by decide) (by decide) ?_
      show Steps p.tables e below (T2.setTop (mkF m 106 #[.val (.int p0), .val (.int p1), .val (.int p2), .val (.int p3), .val (.int p4), .val (.int p5), .val (.int t0), .val (.int t1), .val (.int t2), .val (.int t3), .val (.int tq), .val (.int vc), .val (.ref b1), .unset, .unset, .unset, .unset] [])) t
      refine XS.iload X2.here hx rfl (hb hby at_106) rfl ?_
      show Steps p.tables e below (T2.setTop (mkF m 108 #[.val (.int p0), .val (.int p1), .val (.int p2), .val (.int p3), .val (.int p4), .val (.int p5), .val (.int t0), .val (.int t1), .val (.int t2), .val (.int t3), .val (.int tq), .val (.int vc), .val (.ref b1), .unset, .unset, .unset, .unset] [(.int p5)])) t
      refine XS.bipush X2.here hx rfl (hb hby at_108) ?_
      show Steps p.tables e below (T2.setTop (mkF m 110 #[.val (.int p0), .val (.int p1), .val (.int p2), .val (.int p3), .val (.int p4), .val (.int p5), .val (.int t0), .val (.int t1), .val (.int t2), .val (.int t3), .val (.int tq), .val (.int vc), .val (.ref b1), .unset, .unset, .unset, .unset] [(.int (7 : Int32)), (.int p5)])) t
      refine XS.iand X2.here hx rfl (hb hby at_110) rfl ?_
      show Steps p.tables e below (T2.setTop (mkF m 111 #[.val (.int p0), .val (.int p1), .val (.int p2), .val (.int p3), .val (.int p4), .val (.int p5), .val (.int t0), .val (.int t1), .val (.int t2), .val (.int t3), .val (.int tq), .val (.int vc), .val (.ref b1), .unset, .unset, .unset, .unset] [(.int (p5 &&& (7 : Int32)))])) t
      refine XS.istore X2.here hx rfl (hb hby at_111) rfl (l' := #[.val (.int p0), .val (.int p1), .val (.int p2), .val (.int p3), .val (.int p4), .val (.int p5), .val (.int t0), .val (.int t1), .val (.int t2), .val (.int t3), .val (.int tq), .val (.int vc), .val (.ref b1), .val (.int (p5 &&& (7 : Int32))), .unset, .unset, .unset]) rfl ?_
      show Steps p.tables e below (T2.setTop (mkF m 113 #[.val (.int p0), .val (.int p1), .val (.int p2), .val (.int p3), .val (.int p4), .val (.int p5), .val (.int t0), .val (.int t1), .val (.int t2), .val (.int t3), .val (.int tq), .val (.int vc), .val (.ref b1), .val (.int (p5 &&& (7 : Int32))), .unset, .unset, .unset] [])) t
      refine XS.iload X2.here hx rfl (hb hby at_113) rfl ?_
      show Steps p.tables e below (T2.setTop (mkF m 115 #[.val (.int p0), .val (.int p1), .val (.int p2), .val (.int p3), .val (.int p4), .val (.int p5), .val (.int t0), .val (.int t1), .val (.int t2), .val (.int t3), .val (.int tq), .val (.int vc), .val (.ref b1), .val (.int (p5 &&& (7 : Int32))), .unset, .unset, .unset] [(.int tq)])) t
      refine XS.istore X2.here hx rfl (hb hby at_115) rfl (l' := #[.val (.int p0), .val (.int p1), .val (.int p2), .val (.int p3), .val (.int p4), .val (.int p5), .val (.int t0), .val (.int t1), .val (.int t2), .val (.int t3), .val (.int tq), .val (.int vc), .val (.ref b1), .val (.int (p5 &&& (7 : Int32))), .val (.int tq), .unset, .unset]) rfl ?_
      show Steps p.tables e below (T2.setTop (mkF m 117 #[.val (.int p0), .val (.int p1), .val (.int p2), .val (.int p3), .val (.int p4), .val (.int p5), .val (.int t0), .val (.int t1), .val (.int t2), .val (.int t3), .val (.int tq), .val (.int vc), .val (.ref b1), .val (.int (p5 &&& (7 : Int32))), .val (.int tq), .unset, .unset] [])) t
      refine XS.iload X2.here hx rfl (hb hby at_117) rfl ?_
      exact kt
    refine own_by (A' := T2.setTop (mkF m 165 #[.val (.int p0), .val (.int p1), .val (.int p2), .val (.int p3), .val (.int p4), .val (.int p5), .val (.int t0), .val (.int t1), .val (.int t2), .val (.int t3), .val (.int tq), .val (.int vc), .val (.ref b1), .val (.int (p5 &&& (7 : Int32))), .val (.int (if (p5 &&& (7 : Int32)) = (0 : Int32) then t0 else (if (p5 &&& (7 : Int32)) = (1 : Int32) then t1 else (if (p5 &&& (7 : Int32)) = (2 : Int32) then t2 else (if (p5 &&& (7 : Int32)) = (3 : Int32) then t3 else tq))))), .unset, .unset] [])) (fun t kt => ?_) ?_
    · show Steps p.tables e below (T2.setTop (mkF m 119 #[.val (.int p0), .val (.int p1), .val (.int p2), .val (.int p3), .val (.int p4), .val (.int p5), .val (.int t0), .val (.int t1), .val (.int t2), .val (.int t3), .val (.int tq), .val (.int vc), .val (.ref b1), .val (.int (p5 &&& (7 : Int32))), .val (.int tq), .unset, .unset] [(.int (p5 &&& (7 : Int32)))])) t
      by_cases hj119_65 : (p5 &&& (7 : Int32)) = (0 : Int32)
      · rw [if_pos hj119_65] at kt
        show Steps p.tables e below (T2.setTop (mkF m 119 #[.val (.int p0), .val (.int p1), .val (.int p2), .val (.int p3), .val (.int p4), .val (.int p5), .val (.int t0), .val (.int t1), .val (.int t2), .val (.int t3), .val (.int tq), .val (.int vc), .val (.ref b1), .val (.int (p5 &&& (7 : Int32))), .val (.int tq), .unset, .unset] [(.int (p5 &&& (7 : Int32)))])) t
        refine XS.ifNo X2.here hx rfl (hb hby at_119) rfl ((if0 _ _).trans (teq hj119_65).2) ?_
        show Steps p.tables e below (T2.setTop (mkF m 122 #[.val (.int p0), .val (.int p1), .val (.int p2), .val (.int p3), .val (.int p4), .val (.int p5), .val (.int t0), .val (.int t1), .val (.int t2), .val (.int t3), .val (.int tq), .val (.int vc), .val (.ref b1), .val (.int (p5 &&& (7 : Int32))), .val (.int tq), .unset, .unset] [])) t
        refine XS.iload X2.here hx rfl (hb hby at_122) rfl ?_
        show Steps p.tables e below (T2.setTop (mkF m 124 #[.val (.int p0), .val (.int p1), .val (.int p2), .val (.int p3), .val (.int p4), .val (.int p5), .val (.int t0), .val (.int t1), .val (.int t2), .val (.int t3), .val (.int tq), .val (.int vc), .val (.ref b1), .val (.int (p5 &&& (7 : Int32))), .val (.int tq), .unset, .unset] [(.int t0)])) t
        refine XS.istore X2.here hx rfl (hb hby at_124) rfl (l' := #[.val (.int p0), .val (.int p1), .val (.int p2), .val (.int p3), .val (.int p4), .val (.int p5), .val (.int t0), .val (.int t1), .val (.int t2), .val (.int t3), .val (.int tq), .val (.int vc), .val (.ref b1), .val (.int (p5 &&& (7 : Int32))), .val (.int t0), .unset, .unset]) rfl ?_
        show Steps p.tables e below (T2.setTop (mkF m 126 #[.val (.int p0), .val (.int p1), .val (.int p2), .val (.int p3), .val (.int p4), .val (.int p5), .val (.int t0), .val (.int t1), .val (.int t2), .val (.int t3), .val (.int tq), .val (.int vc), .val (.ref b1), .val (.int (p5 &&& (7 : Int32))), .val (.int t0), .unset, .unset] [])) t
        refine XS.goto X2.here hx rfl (pc0 := 126) (pc' := 165) rfl (hb hby at_126) (by decide) (by decide) ?_
        exact kt
      · rw [if_neg hj119_65] at kt
        show Steps p.tables e below (T2.setTop (mkF m 119 #[.val (.int p0), .val (.int p1), .val (.int p2), .val (.int p3), .val (.int p4), .val (.int p5), .val (.int t0), .val (.int t1), .val (.int t2), .val (.int t3), .val (.int tq), .val (.int vc), .val (.ref b1), .val (.int (p5 &&& (7 : Int32))), .val (.int tq), .unset, .unset] [(.int (p5 &&& (7 : Int32)))])) t
        refine XS.ifYes X2.here hx rfl (pc0 := 119) (pc' := 129) rfl (hb hby at_119) rfl ((if0 _ _).trans (feq hj119_65).2) (by decide) (by decide) ?_
        show Steps p.tables e below (T2.setTop (mkF m 129 #[.val (.int p0), .val (.int p1), .val (.int p2), .val (.int p3), .val (.int p4), .val (.int p5), .val (.int t0), .val (.int t1), .val (.int t2), .val (.int t3), .val (.int tq), .val (.int vc), .val (.ref b1), .val (.int (p5 &&& (7 : Int32))), .val (.int tq), .unset, .unset] [])) t
        refine XS.iload X2.here hx rfl (hb hby at_129) rfl ?_
        show Steps p.tables e below (T2.setTop (mkF m 131 #[.val (.int p0), .val (.int p1), .val (.int p2), .val (.int p3), .val (.int p4), .val (.int p5), .val (.int t0), .val (.int t1), .val (.int t2), .val (.int t3), .val (.int tq), .val (.int vc), .val (.ref b1), .val (.int (p5 &&& (7 : Int32))), .val (.int tq), .unset, .unset] [(.int (p5 &&& (7 : Int32)))])) t
        refine XS.iconst X2.here hx rfl (hb hby at_131) ?_
        refine own_stp (A' := T2.setTop (mkF m 165 #[.val (.int p0), .val (.int p1), .val (.int p2), .val (.int p3), .val (.int p4), .val (.int p5), .val (.int t0), .val (.int t1), .val (.int t2), .val (.int t3), .val (.int tq), .val (.int vc), .val (.ref b1), .val (.int (p5 &&& (7 : Int32))), .val (.int (if (p5 &&& (7 : Int32)) = (1 : Int32) then t1 else (if (p5 &&& (7 : Int32)) = (2 : Int32) then t2 else (if (p5 &&& (7 : Int32)) = (3 : Int32) then t3 else tq)))), .unset, .unset] [])) (fun t kt => ?_) ?_
        · show Steps p.tables e below (T2.setTop (mkF m 132 #[.val (.int p0), .val (.int p1), .val (.int p2), .val (.int p3), .val (.int p4), .val (.int p5), .val (.int t0), .val (.int t1), .val (.int t2), .val (.int t3), .val (.int tq), .val (.int vc), .val (.ref b1), .val (.int (p5 &&& (7 : Int32))), .val (.int tq), .unset, .unset] [(.int (1 : Int32)), (.int (p5 &&& (7 : Int32)))])) t
          by_cases hj132_66 : (p5 &&& (7 : Int32)) = (1 : Int32)
          · rw [if_pos hj132_66] at kt
            show Steps p.tables e below (T2.setTop (mkF m 132 #[.val (.int p0), .val (.int p1), .val (.int p2), .val (.int p3), .val (.int p4), .val (.int p5), .val (.int t0), .val (.int t1), .val (.int t2), .val (.int t3), .val (.int tq), .val (.int vc), .val (.ref b1), .val (.int (p5 &&& (7 : Int32))), .val (.int tq), .unset, .unset] [(.int (1 : Int32)), (.int (p5 &&& (7 : Int32)))])) t
            refine XS.icmpNo X2.here hx rfl (hb hby at_132) rfl (teq hj132_66).2 ?_
            show Steps p.tables e below (T2.setTop (mkF m 135 #[.val (.int p0), .val (.int p1), .val (.int p2), .val (.int p3), .val (.int p4), .val (.int p5), .val (.int t0), .val (.int t1), .val (.int t2), .val (.int t3), .val (.int tq), .val (.int vc), .val (.ref b1), .val (.int (p5 &&& (7 : Int32))), .val (.int tq), .unset, .unset] [])) t
            refine XS.iload X2.here hx rfl (hb hby at_135) rfl ?_
            show Steps p.tables e below (T2.setTop (mkF m 137 #[.val (.int p0), .val (.int p1), .val (.int p2), .val (.int p3), .val (.int p4), .val (.int p5), .val (.int t0), .val (.int t1), .val (.int t2), .val (.int t3), .val (.int tq), .val (.int vc), .val (.ref b1), .val (.int (p5 &&& (7 : Int32))), .val (.int tq), .unset, .unset] [(.int t1)])) t
            refine XS.istore X2.here hx rfl (hb hby at_137) rfl (l' := #[.val (.int p0), .val (.int p1), .val (.int p2), .val (.int p3), .val (.int p4), .val (.int p5), .val (.int t0), .val (.int t1), .val (.int t2), .val (.int t3), .val (.int tq), .val (.int vc), .val (.ref b1), .val (.int (p5 &&& (7 : Int32))), .val (.int t1), .unset, .unset]) rfl ?_
            show Steps p.tables e below (T2.setTop (mkF m 139 #[.val (.int p0), .val (.int p1), .val (.int p2), .val (.int p3), .val (.int p4), .val (.int p5), .val (.int t0), .val (.int t1), .val (.int t2), .val (.int t3), .val (.int tq), .val (.int vc), .val (.ref b1), .val (.int (p5 &&& (7 : Int32))), .val (.int t1), .unset, .unset] [])) t
            refine XS.goto X2.here hx rfl (pc0 := 139) (pc' := 165) rfl (hb hby at_139) (by decide) (by decide) ?_
            exact kt
          · rw [if_neg hj132_66] at kt
            show Steps p.tables e below (T2.setTop (mkF m 132 #[.val (.int p0), .val (.int p1), .val (.int p2), .val (.int p3), .val (.int p4), .val (.int p5), .val (.int t0), .val (.int t1), .val (.int t2), .val (.int t3), .val (.int tq), .val (.int vc), .val (.ref b1), .val (.int (p5 &&& (7 : Int32))), .val (.int tq), .unset, .unset] [(.int (1 : Int32)), (.int (p5 &&& (7 : Int32)))])) t
            refine XS.icmpYes X2.here hx rfl (pc0 := 132) (pc' := 142) rfl (hb hby at_132) rfl (feq hj132_66).2 (by decide) (by decide) ?_
            show Steps p.tables e below (T2.setTop (mkF m 142 #[.val (.int p0), .val (.int p1), .val (.int p2), .val (.int p3), .val (.int p4), .val (.int p5), .val (.int t0), .val (.int t1), .val (.int t2), .val (.int t3), .val (.int tq), .val (.int vc), .val (.ref b1), .val (.int (p5 &&& (7 : Int32))), .val (.int tq), .unset, .unset] [])) t
            refine XS.iload X2.here hx rfl (hb hby at_142) rfl ?_
            show Steps p.tables e below (T2.setTop (mkF m 144 #[.val (.int p0), .val (.int p1), .val (.int p2), .val (.int p3), .val (.int p4), .val (.int p5), .val (.int t0), .val (.int t1), .val (.int t2), .val (.int t3), .val (.int tq), .val (.int vc), .val (.ref b1), .val (.int (p5 &&& (7 : Int32))), .val (.int tq), .unset, .unset] [(.int (p5 &&& (7 : Int32)))])) t
            refine XS.iconst X2.here hx rfl (hb hby at_144) ?_
            refine own_stp (A' := T2.setTop (mkF m 165 #[.val (.int p0), .val (.int p1), .val (.int p2), .val (.int p3), .val (.int p4), .val (.int p5), .val (.int t0), .val (.int t1), .val (.int t2), .val (.int t3), .val (.int tq), .val (.int vc), .val (.ref b1), .val (.int (p5 &&& (7 : Int32))), .val (.int (if (p5 &&& (7 : Int32)) = (2 : Int32) then t2 else (if (p5 &&& (7 : Int32)) = (3 : Int32) then t3 else tq))), .unset, .unset] [])) (fun t kt => ?_) ?_
            · show Steps p.tables e below (T2.setTop (mkF m 145 #[.val (.int p0), .val (.int p1), .val (.int p2), .val (.int p3), .val (.int p4), .val (.int p5), .val (.int t0), .val (.int t1), .val (.int t2), .val (.int t3), .val (.int tq), .val (.int vc), .val (.ref b1), .val (.int (p5 &&& (7 : Int32))), .val (.int tq), .unset, .unset] [(.int (2 : Int32)), (.int (p5 &&& (7 : Int32)))])) t
              by_cases hj145_67 : (p5 &&& (7 : Int32)) = (2 : Int32)
              · rw [if_pos hj145_67] at kt
                show Steps p.tables e below (T2.setTop (mkF m 145 #[.val (.int p0), .val (.int p1), .val (.int p2), .val (.int p3), .val (.int p4), .val (.int p5), .val (.int t0), .val (.int t1), .val (.int t2), .val (.int t3), .val (.int tq), .val (.int vc), .val (.ref b1), .val (.int (p5 &&& (7 : Int32))), .val (.int tq), .unset, .unset] [(.int (2 : Int32)), (.int (p5 &&& (7 : Int32)))])) t
                refine XS.icmpNo X2.here hx rfl (hb hby at_145) rfl (teq hj145_67).2 ?_
                show Steps p.tables e below (T2.setTop (mkF m 148 #[.val (.int p0), .val (.int p1), .val (.int p2), .val (.int p3), .val (.int p4), .val (.int p5), .val (.int t0), .val (.int t1), .val (.int t2), .val (.int t3), .val (.int tq), .val (.int vc), .val (.ref b1), .val (.int (p5 &&& (7 : Int32))), .val (.int tq), .unset, .unset] [])) t
                refine XS.iload X2.here hx rfl (hb hby at_148) rfl ?_
                show Steps p.tables e below (T2.setTop (mkF m 150 #[.val (.int p0), .val (.int p1), .val (.int p2), .val (.int p3), .val (.int p4), .val (.int p5), .val (.int t0), .val (.int t1), .val (.int t2), .val (.int t3), .val (.int tq), .val (.int vc), .val (.ref b1), .val (.int (p5 &&& (7 : Int32))), .val (.int tq), .unset, .unset] [(.int t2)])) t
                refine XS.istore X2.here hx rfl (hb hby at_150) rfl (l' := #[.val (.int p0), .val (.int p1), .val (.int p2), .val (.int p3), .val (.int p4), .val (.int p5), .val (.int t0), .val (.int t1), .val (.int t2), .val (.int t3), .val (.int tq), .val (.int vc), .val (.ref b1), .val (.int (p5 &&& (7 : Int32))), .val (.int t2), .unset, .unset]) rfl ?_
                show Steps p.tables e below (T2.setTop (mkF m 152 #[.val (.int p0), .val (.int p1), .val (.int p2), .val (.int p3), .val (.int p4), .val (.int p5), .val (.int t0), .val (.int t1), .val (.int t2), .val (.int t3), .val (.int tq), .val (.int vc), .val (.ref b1), .val (.int (p5 &&& (7 : Int32))), .val (.int t2), .unset, .unset] [])) t
                refine XS.goto X2.here hx rfl (pc0 := 152) (pc' := 165) rfl (hb hby at_152) (by decide) (by decide) ?_
                exact kt
              · rw [if_neg hj145_67] at kt
                show Steps p.tables e below (T2.setTop (mkF m 145 #[.val (.int p0), .val (.int p1), .val (.int p2), .val (.int p3), .val (.int p4), .val (.int p5), .val (.int t0), .val (.int t1), .val (.int t2), .val (.int t3), .val (.int tq), .val (.int vc), .val (.ref b1), .val (.int (p5 &&& (7 : Int32))), .val (.int tq), .unset, .unset] [(.int (2 : Int32)), (.int (p5 &&& (7 : Int32)))])) t
                refine XS.icmpYes X2.here hx rfl (pc0 := 145) (pc' := 155) rfl (hb hby at_145) rfl (feq hj145_67).2 (by decide) (by decide) ?_
                show Steps p.tables e below (T2.setTop (mkF m 155 #[.val (.int p0), .val (.int p1), .val (.int p2), .val (.int p3), .val (.int p4), .val (.int p5), .val (.int t0), .val (.int t1), .val (.int t2), .val (.int t3), .val (.int tq), .val (.int vc), .val (.ref b1), .val (.int (p5 &&& (7 : Int32))), .val (.int tq), .unset, .unset] [])) t
                refine XS.iload X2.here hx rfl (hb hby at_155) rfl ?_
                show Steps p.tables e below (T2.setTop (mkF m 157 #[.val (.int p0), .val (.int p1), .val (.int p2), .val (.int p3), .val (.int p4), .val (.int p5), .val (.int t0), .val (.int t1), .val (.int t2), .val (.int t3), .val (.int tq), .val (.int vc), .val (.ref b1), .val (.int (p5 &&& (7 : Int32))), .val (.int tq), .unset, .unset] [(.int (p5 &&& (7 : Int32)))])) t
                refine XS.iconst X2.here hx rfl (hb hby at_157) ?_
                refine own_stp (A' := T2.setTop (mkF m 165 #[.val (.int p0), .val (.int p1), .val (.int p2), .val (.int p3), .val (.int p4), .val (.int p5), .val (.int t0), .val (.int t1), .val (.int t2), .val (.int t3), .val (.int tq), .val (.int vc), .val (.ref b1), .val (.int (p5 &&& (7 : Int32))), .val (.int (if (p5 &&& (7 : Int32)) = (3 : Int32) then t3 else tq)), .unset, .unset] [])) (fun t kt => ?_) ?_
                · show Steps p.tables e below (T2.setTop (mkF m 158 #[.val (.int p0), .val (.int p1), .val (.int p2), .val (.int p3), .val (.int p4), .val (.int p5), .val (.int t0), .val (.int t1), .val (.int t2), .val (.int t3), .val (.int tq), .val (.int vc), .val (.ref b1), .val (.int (p5 &&& (7 : Int32))), .val (.int tq), .unset, .unset] [(.int (3 : Int32)), (.int (p5 &&& (7 : Int32)))])) t
                  by_cases hj158_68 : (p5 &&& (7 : Int32)) = (3 : Int32)
                  · rw [if_pos hj158_68] at kt
                    show Steps p.tables e below (T2.setTop (mkF m 158 #[.val (.int p0), .val (.int p1), .val (.int p2), .val (.int p3), .val (.int p4), .val (.int p5), .val (.int t0), .val (.int t1), .val (.int t2), .val (.int t3), .val (.int tq), .val (.int vc), .val (.ref b1), .val (.int (p5 &&& (7 : Int32))), .val (.int tq), .unset, .unset] [(.int (3 : Int32)), (.int (p5 &&& (7 : Int32)))])) t
                    refine XS.icmpNo X2.here hx rfl (hb hby at_158) rfl (teq hj158_68).2 ?_
                    show Steps p.tables e below (T2.setTop (mkF m 161 #[.val (.int p0), .val (.int p1), .val (.int p2), .val (.int p3), .val (.int p4), .val (.int p5), .val (.int t0), .val (.int t1), .val (.int t2), .val (.int t3), .val (.int tq), .val (.int vc), .val (.ref b1), .val (.int (p5 &&& (7 : Int32))), .val (.int tq), .unset, .unset] [])) t
                    refine XS.iload X2.here hx rfl (hb hby at_161) rfl ?_
                    show Steps p.tables e below (T2.setTop (mkF m 163 #[.val (.int p0), .val (.int p1), .val (.int p2), .val (.int p3), .val (.int p4), .val (.int p5), .val (.int t0), .val (.int t1), .val (.int t2), .val (.int t3), .val (.int tq), .val (.int vc), .val (.ref b1), .val (.int (p5 &&& (7 : Int32))), .val (.int tq), .unset, .unset] [(.int t3)])) t
                    refine XS.istore X2.here hx rfl (hb hby at_163) rfl (l' := #[.val (.int p0), .val (.int p1), .val (.int p2), .val (.int p3), .val (.int p4), .val (.int p5), .val (.int t0), .val (.int t1), .val (.int t2), .val (.int t3), .val (.int tq), .val (.int vc), .val (.ref b1), .val (.int (p5 &&& (7 : Int32))), .val (.int t3), .unset, .unset]) rfl ?_
                    exact kt
                  · rw [if_neg hj158_68] at kt
                    show Steps p.tables e below (T2.setTop (mkF m 158 #[.val (.int p0), .val (.int p1), .val (.int p2), .val (.int p3), .val (.int p4), .val (.int p5), .val (.int t0), .val (.int t1), .val (.int t2), .val (.int t3), .val (.int tq), .val (.int vc), .val (.ref b1), .val (.int (p5 &&& (7 : Int32))), .val (.int tq), .unset, .unset] [(.int (3 : Int32)), (.int (p5 &&& (7 : Int32)))])) t
                    refine XS.icmpYes X2.here hx rfl (pc0 := 158) (pc' := 165) rfl (hb hby at_158) rfl (feq hj158_68).2 (by decide) (by decide) ?_
                    exact kt
                exact kt
            exact kt
        exact kt
    generalize h_vx : (if (p5 &&& (7 : Int32)) = (0 : Int32) then t0 else (if (p5 &&& (7 : Int32)) = (1 : Int32) then t1 else (if (p5 &&& (7 : Int32)) = (2 : Int32) then t2 else (if (p5 &&& (7 : Int32)) = (3 : Int32) then t3 else tq)))) = vx
    refine own_by (A' := T2.setTop (mkF m 169 #[.val (.int p0), .val (.int p1), .val (.int p2), .val (.int p3), .val (.int p4), .val (.int p5), .val (.int t0), .val (.int t1), .val (.int t2), .val (.int t3), .val (.int tq), .val (.int vc), .val (.ref b1), .val (.int (p5 &&& (7 : Int32))), .val (.int vx), .unset, .unset] [(.int vx), (.ref b1)])) (fun t kt => ?_) ?_
    · show Steps p.tables e below (T2.setTop (mkF m 165 #[.val (.int p0), .val (.int p1), .val (.int p2), .val (.int p3), .val (.int p4), .val (.int p5), .val (.int t0), .val (.int t1), .val (.int t2), .val (.int t3), .val (.int tq), .val (.int vc), .val (.ref b1), .val (.int (p5 &&& (7 : Int32))), .val (.int vx), .unset, .unset] [])) t
      refine XS.aload X2.here hx rfl (hb hby at_165) rfl rfl ?_
      show Steps p.tables e below (T2.setTop (mkF m 167 #[.val (.int p0), .val (.int p1), .val (.int p2), .val (.int p3), .val (.int p4), .val (.int p5), .val (.int t0), .val (.int t1), .val (.int t2), .val (.int t3), .val (.int tq), .val (.int vc), .val (.ref b1), .val (.int (p5 &&& (7 : Int32))), .val (.int vx), .unset, .unset] [(.ref b1)])) t
      refine XS.iload X2.here hx rfl (hb hby at_167) rfl ?_
      exact kt
    obtain ⟨cq69, kq69, q69a, q69b, q69c⟩ := isOf hZ rfl GE2
    obtain ⟨_, _, ⟨T69, L69, k69, n69⟩, -, X69, ⟨Lc69, hQ69, l69, y69, z69⟩, st69⟩ := X2.virtualBack hx (y := (⟨"com/example/corollary/corollary/saturation/TermSet", "contains", "(I)Z"⟩ : MethodName)) (z := (⟨"com/example/corollary/corollary/saturation/TermSet", "contains", "(I)Z"⟩ : MethodName)) hown (mvT hZ (hw _ (List.mem_of_getElem? (i := 13) rfl))) (mvT hZ (hw _ (List.mem_of_getElem? (i := 14) rfl))) (notFace_of_selects (args := #[]) (mvT hZ (hw _ (List.mem_of_getElem? (i := 16) rfl)))) (mvT hZ (hw _ (List.mem_of_getElem? (i := 16) rfl))) (mvT hZ (hw _ (List.mem_of_getElem? (i := 15) rfl))) (by decide) (backOf (W := 0) (rm3 l Z aw hw [] b1 vx b2 (fun _ => (0 : Int32)) (0 : Int64) (0 : Int64) (0 : Int32) [] T2.heap n0 (Nat.le_trans Z0 K2.1) G12 G22 G32 G42 V2 own_empty (Nat.le_of_ble_eq_true rfl)) hZ (hw _ (List.mem_of_getElem? (i := 17) rfl)) (hw _ (List.mem_of_getElem? (i := 3) rfl)) (by decide) (by decide)) q69a q69c (g := (mkF m 169 #[.val (.int p0), .val (.int p1), .val (.int p2), .val (.int p3), .val (.int p4), .val (.int p5), .val (.int t0), .val (.int t1), .val (.int t2), .val (.int t3), .val (.int tq), .val (.int vc), .val (.ref b1), .val (.int (p5 &&& (7 : Int32))), .val (.int vx), .unset, .unset] [(.int vx), (.ref b1)])) rfl (by rw [hml]; rfl) (Steps.refl _) (argsL := [(.int vx)]) (rest := []) (lenOf pd_4 rfl) rfl (by show 2 * 0 + _ ≤ _; exact Nat.le_of_eq rfl) (hb hby at_169) (fun _ _ => ⟨rfl, rfl, (by decide : 2 + 0 ≤ _), (by decide : 68 + 0 ≤ _)⟩)
    dsimp only [Pt.U, Pt.locs, Pt.cells, Pt.slots] at X69 l69 y69 z69 st69 hQ69
    subst l69 y69 z69
    obtain ⟨rfl, N69q, e69⟩ := hQ69
    have N69 := Fr.app N2 N69q
    refine own_by (A' := T69.setTop (mkF m 172 #[.val (.int p0), .val (.int p1), .val (.int p2), .val (.int p3), .val (.int p4), .val (.int p5), .val (.int t0), .val (.int t1), .val (.int t2), .val (.int t3), .val (.int tq), .val (.int vc), .val (.ref b1), .val (.int (p5 &&& (7 : Int32))), .val (.int vx), .unset, .unset] [(.int (if vx ∈ ([] : List Int32) then (1 : Int32) else (0 : Int32)))])) (fun t kt => st69.trans kt) ?_
    refine own_by (A' := T69.setTop (mkF m 184 #[.val (.int p0), .val (.int p1), .val (.int p2), .val (.int p3), .val (.int p4), .val (.int p5), .val (.int t0), .val (.int t1), .val (.int t2), .val (.int t3), .val (.int tq), .val (.int vc), .val (.ref b1), .val (.int (p5 &&& (7 : Int32))), .val (.int vx), .unset, .unset] [(.int t3), (.int t2), (.int t1), (.int t0), (.int vc), (.int vx), (.int (if vx ∈ ([] : List Int32) then (1 : Int32) else (0 : Int32)))])) (fun t kt => ?_) ?_
    · show Steps p.tables e below (T69.setTop (mkF m 172 #[.val (.int p0), .val (.int p1), .val (.int p2), .val (.int p3), .val (.int p4), .val (.int p5), .val (.int t0), .val (.int t1), .val (.int t2), .val (.int t3), .val (.int tq), .val (.int vc), .val (.ref b1), .val (.int (p5 &&& (7 : Int32))), .val (.int vx), .unset, .unset] [(.int (if vx ∈ ([] : List Int32) then (1 : Int32) else (0 : Int32)))])) t
      refine XS.iload X69.here hx rfl (hb hby at_172) rfl ?_
      show Steps p.tables e below (T69.setTop (mkF m 174 #[.val (.int p0), .val (.int p1), .val (.int p2), .val (.int p3), .val (.int p4), .val (.int p5), .val (.int t0), .val (.int t1), .val (.int t2), .val (.int t3), .val (.int tq), .val (.int vc), .val (.ref b1), .val (.int (p5 &&& (7 : Int32))), .val (.int vx), .unset, .unset] [(.int vx), (.int (if vx ∈ ([] : List Int32) then (1 : Int32) else (0 : Int32)))])) t
      refine XS.iload X69.here hx rfl (hb hby at_174) rfl ?_
      show Steps p.tables e below (T69.setTop (mkF m 176 #[.val (.int p0), .val (.int p1), .val (.int p2), .val (.int p3), .val (.int p4), .val (.int p5), .val (.int t0), .val (.int t1), .val (.int t2), .val (.int t3), .val (.int tq), .val (.int vc), .val (.ref b1), .val (.int (p5 &&& (7 : Int32))), .val (.int vx), .unset, .unset] [(.int vc), (.int vx), (.int (if vx ∈ ([] : List Int32) then (1 : Int32) else (0 : Int32)))])) t
      refine XS.iload X69.here hx rfl (hb hby at_176) rfl ?_
      show Steps p.tables e below (T69.setTop (mkF m 178 #[.val (.int p0), .val (.int p1), .val (.int p2), .val (.int p3), .val (.int p4), .val (.int p5), .val (.int t0), .val (.int t1), .val (.int t2), .val (.int t3), .val (.int tq), .val (.int vc), .val (.ref b1), .val (.int (p5 &&& (7 : Int32))), .val (.int vx), .unset, .unset] [(.int t0), (.int vc), (.int vx), (.int (if vx ∈ ([] : List Int32) then (1 : Int32) else (0 : Int32)))])) t
      refine XS.iload X69.here hx rfl (hb hby at_178) rfl ?_
      show Steps p.tables e below (T69.setTop (mkF m 180 #[.val (.int p0), .val (.int p1), .val (.int p2), .val (.int p3), .val (.int p4), .val (.int p5), .val (.int t0), .val (.int t1), .val (.int t2), .val (.int t3), .val (.int tq), .val (.int vc), .val (.ref b1), .val (.int (p5 &&& (7 : Int32))), .val (.int vx), .unset, .unset] [(.int t1), (.int t0), (.int vc), (.int vx), (.int (if vx ∈ ([] : List Int32) then (1 : Int32) else (0 : Int32)))])) t
      refine XS.iload X69.here hx rfl (hb hby at_180) rfl ?_
      show Steps p.tables e below (T69.setTop (mkF m 182 #[.val (.int p0), .val (.int p1), .val (.int p2), .val (.int p3), .val (.int p4), .val (.int p5), .val (.int t0), .val (.int t1), .val (.int t2), .val (.int t3), .val (.int tq), .val (.int vc), .val (.ref b1), .val (.int (p5 &&& (7 : Int32))), .val (.int vx), .unset, .unset] [(.int t2), (.int t1), (.int t0), (.int vc), (.int vx), (.int (if vx ∈ ([] : List Int32) then (1 : Int32) else (0 : Int32)))])) t
      refine XS.iload X69.here hx rfl (hb hby at_182) rfl ?_
      exact kt
    obtain ⟨_, _, ⟨T70, L70, k70, n70⟩, -, X70, ⟨Lc70, hQ70, l70, y70, z70⟩, st70⟩ := Jvm.LawKit.callS X69 hx (y := (⟨"com/example/corollary/corollary/saturation/TermSetContainsPinLaw", "member", "(IIIIII)Z"⟩ : MethodName)) hown (mvT hZ (hw _ (List.mem_of_getElem? (i := 24) rfl))) (mvT hZ (hw _ (List.mem_of_getElem? (i := 25) rfl))) (mvT hZ (hw _ (List.mem_of_getElem? (i := 26) rfl))) (mvT hZ (hw _ (List.mem_of_getElem? (i := 27) rfl))) (by decide) (backOf (W := 1) (rm5 l Z aw hw [] vx vc t0 t1 t2 t3 T2.heap n0 (Nat.le_trans Z0 K2.1) ) hZ (hw _ (List.mem_of_getElem? (i := 27) rfl)) (hw _ (List.mem_of_getElem? (i := 26) rfl)) (by decide) (by decide)) (g := (mkF m 184 #[.val (.int p0), .val (.int p1), .val (.int p2), .val (.int p3), .val (.int p4), .val (.int p5), .val (.int t0), .val (.int t1), .val (.int t2), .val (.int t3), .val (.int tq), .val (.int vc), .val (.ref b1), .val (.int (p5 &&& (7 : Int32))), .val (.int vx), .unset, .unset] [(.int t3), (.int t2), (.int t1), (.int t0), (.int vc), (.int vx), (.int (if vx ∈ ([] : List Int32) then (1 : Int32) else (0 : Int32)))])) rfl (by rw [hml]; rfl) (argsL := [(.int vx), (.int vc), (.int t0), (.int t1), (.int t2), (.int t3)]) (rest := [(.int (if vx ∈ ([] : List Int32) then (1 : Int32) else (0 : Int32)))]) (lenOf pd_5 rfl) rfl (by show 2 * 0 + _ ≤ _; exact Nat.le_of_eq rfl) (hb hby at_184) (fun _ _ => ⟨rfl, e69, (by decide : 2 + 0 ≤ _), (by decide : 68 + 0 ≤ _)⟩)
    dsimp only [Pt.U, Pt.locs, Pt.cells, Pt.slots] at X70 l70 y70 z70 st70 hQ70
    subst l70 y70 z70
    obtain ⟨rfl, N70q, e70⟩ := hQ70
    have N70 := Fr.app N69 N70q
    refine own_by (A' := T70.setTop (mkF m 187 #[.val (.int p0), .val (.int p1), .val (.int p2), .val (.int p3), .val (.int p4), .val (.int p5), .val (.int t0), .val (.int t1), .val (.int t2), .val (.int t3), .val (.int tq), .val (.int vc), .val (.ref b1), .val (.int (p5 &&& (7 : Int32))), .val (.int vx), .unset, .unset] [(.int (own_f5 vx vc t0 t1 t2 t3)), (.int (if vx ∈ ([] : List Int32) then (1 : Int32) else (0 : Int32)))])) (fun t kt => st70 t kt) ?_
    have hc187_71 : (if vx ∈ ([] : List Int32) then (1 : Int32) else (0 : Int32)) = (own_f5 vx vc t0 t1 t2 t3) := by
      simp only [own_f5, hc53_3, hc67_62, hc81_63, hc95_64, if_true, if_false, List.mem_cons, List.not_mem_nil, or_false]
      repeat' split
      all_goals first | rfl | (exfalso; simp_all; done)
    refine own_by (A' := T70.setTop (mkF m 201 #[.val (.int p0), .val (.int p1), .val (.int p2), .val (.int p3), .val (.int p4), .val (.int p5), .val (.int t0), .val (.int t1), .val (.int t2), .val (.int t3), .val (.int tq), .val (.int vc), .val (.ref b1), .val (.int (p5 &&& (7 : Int32))), .val (.int vx), .val (.int (1 : Int32)), .unset] [(.int tq), (.ref b1)])) (fun t kt => ?_) ?_
    · show Steps p.tables e below (T70.setTop (mkF m 187 #[.val (.int p0), .val (.int p1), .val (.int p2), .val (.int p3), .val (.int p4), .val (.int p5), .val (.int t0), .val (.int t1), .val (.int t2), .val (.int t3), .val (.int tq), .val (.int vc), .val (.ref b1), .val (.int (p5 &&& (7 : Int32))), .val (.int vx), .unset, .unset] [(.int (own_f5 vx vc t0 t1 t2 t3)), (.int (if vx ∈ ([] : List Int32) then (1 : Int32) else (0 : Int32)))])) t
      refine XS.icmpNo X70.here hx rfl (hb hby at_187) rfl (teq hc187_71).2 ?_
      show Steps p.tables e below (T70.setTop (mkF m 190 #[.val (.int p0), .val (.int p1), .val (.int p2), .val (.int p3), .val (.int p4), .val (.int p5), .val (.int t0), .val (.int t1), .val (.int t2), .val (.int t3), .val (.int tq), .val (.int vc), .val (.ref b1), .val (.int (p5 &&& (7 : Int32))), .val (.int vx), .unset, .unset] [])) t
      refine XS.iconst X70.here hx rfl (hb hby at_190) ?_
      show Steps p.tables e below (T70.setTop (mkF m 191 #[.val (.int p0), .val (.int p1), .val (.int p2), .val (.int p3), .val (.int p4), .val (.int p5), .val (.int t0), .val (.int t1), .val (.int t2), .val (.int t3), .val (.int tq), .val (.int vc), .val (.ref b1), .val (.int (p5 &&& (7 : Int32))), .val (.int vx), .unset, .unset] [(.int (1 : Int32))])) t
      refine XS.goto X70.here hx rfl (pc0 := 191) (pc' := 195) rfl (hb hby at_191) (by decide) (by decide) ?_
      show Steps p.tables e below (T70.setTop (mkF m 195 #[.val (.int p0), .val (.int p1), .val (.int p2), .val (.int p3), .val (.int p4), .val (.int p5), .val (.int t0), .val (.int t1), .val (.int t2), .val (.int t3), .val (.int tq), .val (.int vc), .val (.ref b1), .val (.int (p5 &&& (7 : Int32))), .val (.int vx), .unset, .unset] [(.int (1 : Int32))])) t
      refine XS.istore X70.here hx rfl (hb hby at_195) rfl (l' := #[.val (.int p0), .val (.int p1), .val (.int p2), .val (.int p3), .val (.int p4), .val (.int p5), .val (.int t0), .val (.int t1), .val (.int t2), .val (.int t3), .val (.int tq), .val (.int vc), .val (.ref b1), .val (.int (p5 &&& (7 : Int32))), .val (.int vx), .val (.int (1 : Int32)), .unset]) rfl ?_
      show Steps p.tables e below (T70.setTop (mkF m 197 #[.val (.int p0), .val (.int p1), .val (.int p2), .val (.int p3), .val (.int p4), .val (.int p5), .val (.int t0), .val (.int t1), .val (.int t2), .val (.int t3), .val (.int tq), .val (.int vc), .val (.ref b1), .val (.int (p5 &&& (7 : Int32))), .val (.int vx), .val (.int (1 : Int32)), .unset] [])) t
      refine XS.aload X70.here hx rfl (hb hby at_197) rfl rfl ?_
      show Steps p.tables e below (T70.setTop (mkF m 199 #[.val (.int p0), .val (.int p1), .val (.int p2), .val (.int p3), .val (.int p4), .val (.int p5), .val (.int t0), .val (.int t1), .val (.int t2), .val (.int t3), .val (.int tq), .val (.int vc), .val (.ref b1), .val (.int (p5 &&& (7 : Int32))), .val (.int vx), .val (.int (1 : Int32)), .unset] [(.ref b1)])) t
      refine XS.iload X70.here hx rfl (hb hby at_199) rfl ?_
      exact kt
    obtain ⟨cq72, kq72, q72a, q72b, q72c⟩ := isOf hZ e70 GE2
    obtain ⟨_, _, ⟨T72, L72, k72, n72⟩, -, X72, ⟨Lc72, hQ72, l72, y72, z72⟩, st72⟩ := X70.virtualBack hx (y := (⟨"com/example/corollary/corollary/saturation/TermSet", "contains", "(I)Z"⟩ : MethodName)) (z := (⟨"com/example/corollary/corollary/saturation/TermSet", "contains", "(I)Z"⟩ : MethodName)) hown (mvT hZ (hw _ (List.mem_of_getElem? (i := 13) rfl))) (mvT hZ (hw _ (List.mem_of_getElem? (i := 14) rfl))) (notFace_of_selects (args := #[]) (mvT hZ (hw _ (List.mem_of_getElem? (i := 16) rfl)))) (mvT hZ (hw _ (List.mem_of_getElem? (i := 16) rfl))) (mvT hZ (hw _ (List.mem_of_getElem? (i := 15) rfl))) (by decide) (backOf (W := 0) (rm3 l Z aw hw [] b1 tq b2 (fun _ => (0 : Int32)) (0 : Int64) (0 : Int64) (0 : Int32) [] T2.heap n0 (Nat.le_trans Z0 K2.1) G12 G22 G32 G42 V2 own_empty (Nat.le_of_ble_eq_true rfl)) hZ (hw _ (List.mem_of_getElem? (i := 17) rfl)) (hw _ (List.mem_of_getElem? (i := 3) rfl)) (by decide) (by decide)) q72a q72c (g := (mkF m 201 #[.val (.int p0), .val (.int p1), .val (.int p2), .val (.int p3), .val (.int p4), .val (.int p5), .val (.int t0), .val (.int t1), .val (.int t2), .val (.int t3), .val (.int tq), .val (.int vc), .val (.ref b1), .val (.int (p5 &&& (7 : Int32))), .val (.int vx), .val (.int (1 : Int32)), .unset] [(.int tq), (.ref b1)])) rfl (by rw [hml]; rfl) (Steps.refl _) (argsL := [(.int tq)]) (rest := []) (lenOf pd_4 rfl) rfl (by show 2 * 0 + _ ≤ _; exact Nat.le_of_eq rfl) (hb hby at_201) (fun _ _ => ⟨rfl, e70, (by decide : 2 + 0 ≤ _), (by decide : 68 + 0 ≤ _)⟩)
    dsimp only [Pt.U, Pt.locs, Pt.cells, Pt.slots] at X72 l72 y72 z72 st72 hQ72
    subst l72 y72 z72
    obtain ⟨rfl, N72q, e72⟩ := hQ72
    have N72 := Fr.app N70 N72q
    refine own_by (A' := T72.setTop (mkF m 204 #[.val (.int p0), .val (.int p1), .val (.int p2), .val (.int p3), .val (.int p4), .val (.int p5), .val (.int t0), .val (.int t1), .val (.int t2), .val (.int t3), .val (.int tq), .val (.int vc), .val (.ref b1), .val (.int (p5 &&& (7 : Int32))), .val (.int vx), .val (.int (1 : Int32)), .unset] [(.int (if tq ∈ ([] : List Int32) then (1 : Int32) else (0 : Int32)))])) (fun t kt => st72.trans kt) ?_
    refine own_by (A' := T72.setTop (mkF m 216 #[.val (.int p0), .val (.int p1), .val (.int p2), .val (.int p3), .val (.int p4), .val (.int p5), .val (.int t0), .val (.int t1), .val (.int t2), .val (.int t3), .val (.int tq), .val (.int vc), .val (.ref b1), .val (.int (p5 &&& (7 : Int32))), .val (.int vx), .val (.int (1 : Int32)), .unset] [(.int t3), (.int t2), (.int t1), (.int t0), (.int vc), (.int tq), (.int (if tq ∈ ([] : List Int32) then (1 : Int32) else (0 : Int32)))])) (fun t kt => ?_) ?_
    · show Steps p.tables e below (T72.setTop (mkF m 204 #[.val (.int p0), .val (.int p1), .val (.int p2), .val (.int p3), .val (.int p4), .val (.int p5), .val (.int t0), .val (.int t1), .val (.int t2), .val (.int t3), .val (.int tq), .val (.int vc), .val (.ref b1), .val (.int (p5 &&& (7 : Int32))), .val (.int vx), .val (.int (1 : Int32)), .unset] [(.int (if tq ∈ ([] : List Int32) then (1 : Int32) else (0 : Int32)))])) t
      refine XS.iload X72.here hx rfl (hb hby at_204) rfl ?_
      show Steps p.tables e below (T72.setTop (mkF m 206 #[.val (.int p0), .val (.int p1), .val (.int p2), .val (.int p3), .val (.int p4), .val (.int p5), .val (.int t0), .val (.int t1), .val (.int t2), .val (.int t3), .val (.int tq), .val (.int vc), .val (.ref b1), .val (.int (p5 &&& (7 : Int32))), .val (.int vx), .val (.int (1 : Int32)), .unset] [(.int tq), (.int (if tq ∈ ([] : List Int32) then (1 : Int32) else (0 : Int32)))])) t
      refine XS.iload X72.here hx rfl (hb hby at_206) rfl ?_
      show Steps p.tables e below (T72.setTop (mkF m 208 #[.val (.int p0), .val (.int p1), .val (.int p2), .val (.int p3), .val (.int p4), .val (.int p5), .val (.int t0), .val (.int t1), .val (.int t2), .val (.int t3), .val (.int tq), .val (.int vc), .val (.ref b1), .val (.int (p5 &&& (7 : Int32))), .val (.int vx), .val (.int (1 : Int32)), .unset] [(.int vc), (.int tq), (.int (if tq ∈ ([] : List Int32) then (1 : Int32) else (0 : Int32)))])) t
      refine XS.iload X72.here hx rfl (hb hby at_208) rfl ?_
      show Steps p.tables e below (T72.setTop (mkF m 210 #[.val (.int p0), .val (.int p1), .val (.int p2), .val (.int p3), .val (.int p4), .val (.int p5), .val (.int t0), .val (.int t1), .val (.int t2), .val (.int t3), .val (.int tq), .val (.int vc), .val (.ref b1), .val (.int (p5 &&& (7 : Int32))), .val (.int vx), .val (.int (1 : Int32)), .unset] [(.int t0), (.int vc), (.int tq), (.int (if tq ∈ ([] : List Int32) then (1 : Int32) else (0 : Int32)))])) t
      refine XS.iload X72.here hx rfl (hb hby at_210) rfl ?_
      show Steps p.tables e below (T72.setTop (mkF m 212 #[.val (.int p0), .val (.int p1), .val (.int p2), .val (.int p3), .val (.int p4), .val (.int p5), .val (.int t0), .val (.int t1), .val (.int t2), .val (.int t3), .val (.int tq), .val (.int vc), .val (.ref b1), .val (.int (p5 &&& (7 : Int32))), .val (.int vx), .val (.int (1 : Int32)), .unset] [(.int t1), (.int t0), (.int vc), (.int tq), (.int (if tq ∈ ([] : List Int32) then (1 : Int32) else (0 : Int32)))])) t
      refine XS.iload X72.here hx rfl (hb hby at_212) rfl ?_
      show Steps p.tables e below (T72.setTop (mkF m 214 #[.val (.int p0), .val (.int p1), .val (.int p2), .val (.int p3), .val (.int p4), .val (.int p5), .val (.int t0), .val (.int t1), .val (.int t2), .val (.int t3), .val (.int tq), .val (.int vc), .val (.ref b1), .val (.int (p5 &&& (7 : Int32))), .val (.int vx), .val (.int (1 : Int32)), .unset] [(.int t2), (.int t1), (.int t0), (.int vc), (.int tq), (.int (if tq ∈ ([] : List Int32) then (1 : Int32) else (0 : Int32)))])) t
      refine XS.iload X72.here hx rfl (hb hby at_214) rfl ?_
      exact kt
    obtain ⟨_, _, ⟨T73, L73, k73, n73⟩, -, X73, ⟨Lc73, hQ73, l73, y73, z73⟩, st73⟩ := Jvm.LawKit.callS X72 hx (y := (⟨"com/example/corollary/corollary/saturation/TermSetContainsPinLaw", "member", "(IIIIII)Z"⟩ : MethodName)) hown (mvT hZ (hw _ (List.mem_of_getElem? (i := 24) rfl))) (mvT hZ (hw _ (List.mem_of_getElem? (i := 25) rfl))) (mvT hZ (hw _ (List.mem_of_getElem? (i := 26) rfl))) (mvT hZ (hw _ (List.mem_of_getElem? (i := 27) rfl))) (by decide) (backOf (W := 1) (rm5 l Z aw hw [] tq vc t0 t1 t2 t3 T2.heap n0 (Nat.le_trans Z0 K2.1) ) hZ (hw _ (List.mem_of_getElem? (i := 27) rfl)) (hw _ (List.mem_of_getElem? (i := 26) rfl)) (by decide) (by decide)) (g := (mkF m 216 #[.val (.int p0), .val (.int p1), .val (.int p2), .val (.int p3), .val (.int p4), .val (.int p5), .val (.int t0), .val (.int t1), .val (.int t2), .val (.int t3), .val (.int tq), .val (.int vc), .val (.ref b1), .val (.int (p5 &&& (7 : Int32))), .val (.int vx), .val (.int (1 : Int32)), .unset] [(.int t3), (.int t2), (.int t1), (.int t0), (.int vc), (.int tq), (.int (if tq ∈ ([] : List Int32) then (1 : Int32) else (0 : Int32)))])) rfl (by rw [hml]; rfl) (argsL := [(.int tq), (.int vc), (.int t0), (.int t1), (.int t2), (.int t3)]) (rest := [(.int (if tq ∈ ([] : List Int32) then (1 : Int32) else (0 : Int32)))]) (lenOf pd_5 rfl) rfl (by show 2 * 0 + _ ≤ _; exact Nat.le_of_eq rfl) (hb hby at_216) (fun _ _ => ⟨rfl, e72, (by decide : 2 + 0 ≤ _), (by decide : 68 + 0 ≤ _)⟩)
    dsimp only [Pt.U, Pt.locs, Pt.cells, Pt.slots] at X73 l73 y73 z73 st73 hQ73
    subst l73 y73 z73
    obtain ⟨rfl, N73q, e73⟩ := hQ73
    have N73 := Fr.app N72 N73q
    refine own_by (A' := T73.setTop (mkF m 219 #[.val (.int p0), .val (.int p1), .val (.int p2), .val (.int p3), .val (.int p4), .val (.int p5), .val (.int t0), .val (.int t1), .val (.int t2), .val (.int t3), .val (.int tq), .val (.int vc), .val (.ref b1), .val (.int (p5 &&& (7 : Int32))), .val (.int vx), .val (.int (1 : Int32)), .unset] [(.int (own_f5 tq vc t0 t1 t2 t3)), (.int (if tq ∈ ([] : List Int32) then (1 : Int32) else (0 : Int32)))])) (fun t kt => st73 t kt) ?_
    have hc219_74 : (if tq ∈ ([] : List Int32) then (1 : Int32) else (0 : Int32)) = (own_f5 tq vc t0 t1 t2 t3) := by
      simp only [own_f5, hc53_3, hc67_62, hc81_63, hc95_64, if_true, if_false, List.mem_cons, List.not_mem_nil, or_false]
      repeat' split
      all_goals first | rfl | (exfalso; simp_all; done)
    refine own_by (A' := T73.setTop (mkF m 231 #[.val (.int p0), .val (.int p1), .val (.int p2), .val (.int p3), .val (.int p4), .val (.int p5), .val (.int t0), .val (.int t1), .val (.int t2), .val (.int t3), .val (.int tq), .val (.int vc), .val (.ref b1), .val (.int (p5 &&& (7 : Int32))), .val (.int vx), .val (.int (1 : Int32)), .val (.int (1 : Int32))] [(.int (1 : Int32))])) (fun t kt => ?_) ?_
    · show Steps p.tables e below (T73.setTop (mkF m 219 #[.val (.int p0), .val (.int p1), .val (.int p2), .val (.int p3), .val (.int p4), .val (.int p5), .val (.int t0), .val (.int t1), .val (.int t2), .val (.int t3), .val (.int tq), .val (.int vc), .val (.ref b1), .val (.int (p5 &&& (7 : Int32))), .val (.int vx), .val (.int (1 : Int32)), .unset] [(.int (own_f5 tq vc t0 t1 t2 t3)), (.int (if tq ∈ ([] : List Int32) then (1 : Int32) else (0 : Int32)))])) t
      refine XS.icmpNo X73.here hx rfl (hb hby at_219) rfl (teq hc219_74).2 ?_
      show Steps p.tables e below (T73.setTop (mkF m 222 #[.val (.int p0), .val (.int p1), .val (.int p2), .val (.int p3), .val (.int p4), .val (.int p5), .val (.int t0), .val (.int t1), .val (.int t2), .val (.int t3), .val (.int tq), .val (.int vc), .val (.ref b1), .val (.int (p5 &&& (7 : Int32))), .val (.int vx), .val (.int (1 : Int32)), .unset] [])) t
      refine XS.iconst X73.here hx rfl (hb hby at_222) ?_
      show Steps p.tables e below (T73.setTop (mkF m 223 #[.val (.int p0), .val (.int p1), .val (.int p2), .val (.int p3), .val (.int p4), .val (.int p5), .val (.int t0), .val (.int t1), .val (.int t2), .val (.int t3), .val (.int tq), .val (.int vc), .val (.ref b1), .val (.int (p5 &&& (7 : Int32))), .val (.int vx), .val (.int (1 : Int32)), .unset] [(.int (1 : Int32))])) t
      refine XS.goto X73.here hx rfl (pc0 := 223) (pc' := 227) rfl (hb hby at_223) (by decide) (by decide) ?_
      show Steps p.tables e below (T73.setTop (mkF m 227 #[.val (.int p0), .val (.int p1), .val (.int p2), .val (.int p3), .val (.int p4), .val (.int p5), .val (.int t0), .val (.int t1), .val (.int t2), .val (.int t3), .val (.int tq), .val (.int vc), .val (.ref b1), .val (.int (p5 &&& (7 : Int32))), .val (.int vx), .val (.int (1 : Int32)), .unset] [(.int (1 : Int32))])) t
      refine XS.istore X73.here hx rfl (hb hby at_227) rfl (l' := #[.val (.int p0), .val (.int p1), .val (.int p2), .val (.int p3), .val (.int p4), .val (.int p5), .val (.int t0), .val (.int t1), .val (.int t2), .val (.int t3), .val (.int tq), .val (.int vc), .val (.ref b1), .val (.int (p5 &&& (7 : Int32))), .val (.int vx), .val (.int (1 : Int32)), .val (.int (1 : Int32))]) rfl ?_
      show Steps p.tables e below (T73.setTop (mkF m 229 #[.val (.int p0), .val (.int p1), .val (.int p2), .val (.int p3), .val (.int p4), .val (.int p5), .val (.int t0), .val (.int t1), .val (.int t2), .val (.int t3), .val (.int tq), .val (.int vc), .val (.ref b1), .val (.int (p5 &&& (7 : Int32))), .val (.int vx), .val (.int (1 : Int32)), .val (.int (1 : Int32))] [])) t
      refine XS.iload X73.here hx rfl (hb hby at_229) rfl ?_
      exact kt
    have hc231_75 : ¬ ((1 : Int32) = (0 : Int32)) := by decide
    refine own_by (A' := T73.setTop (mkF m 236 #[.val (.int p0), .val (.int p1), .val (.int p2), .val (.int p3), .val (.int p4), .val (.int p5), .val (.int t0), .val (.int t1), .val (.int t2), .val (.int t3), .val (.int tq), .val (.int vc), .val (.ref b1), .val (.int (p5 &&& (7 : Int32))), .val (.int vx), .val (.int (1 : Int32)), .val (.int (1 : Int32))] [(.int (1 : Int32))])) (fun t kt => ?_) ?_
    · show Steps p.tables e below (T73.setTop (mkF m 231 #[.val (.int p0), .val (.int p1), .val (.int p2), .val (.int p3), .val (.int p4), .val (.int p5), .val (.int t0), .val (.int t1), .val (.int t2), .val (.int t3), .val (.int tq), .val (.int vc), .val (.ref b1), .val (.int (p5 &&& (7 : Int32))), .val (.int vx), .val (.int (1 : Int32)), .val (.int (1 : Int32))] [(.int (1 : Int32))])) t
      refine XS.ifNo X73.here hx rfl (hb hby at_231) rfl ((if0 _ _).trans (feq hc231_75).1) ?_
      show Steps p.tables e below (T73.setTop (mkF m 234 #[.val (.int p0), .val (.int p1), .val (.int p2), .val (.int p3), .val (.int p4), .val (.int p5), .val (.int t0), .val (.int t1), .val (.int t2), .val (.int t3), .val (.int tq), .val (.int vc), .val (.ref b1), .val (.int (p5 &&& (7 : Int32))), .val (.int vx), .val (.int (1 : Int32)), .val (.int (1 : Int32))] [])) t
      refine XS.iload X73.here hx rfl (hb hby at_234) rfl ?_
      exact kt
    have hc236_76 : ¬ ((1 : Int32) = (0 : Int32)) := by decide
    refine own_by (A' := T73.setTop (mkF m 244 #[.val (.int p0), .val (.int p1), .val (.int p2), .val (.int p3), .val (.int p4), .val (.int p5), .val (.int t0), .val (.int t1), .val (.int t2), .val (.int t3), .val (.int tq), .val (.int vc), .val (.ref b1), .val (.int (p5 &&& (7 : Int32))), .val (.int vx), .val (.int (1 : Int32)), .val (.int (1 : Int32))] [(.int (1 : Int32))])) (fun t kt => ?_) ?_
    · show Steps p.tables e below (T73.setTop (mkF m 236 #[.val (.int p0), .val (.int p1), .val (.int p2), .val (.int p3), .val (.int p4), .val (.int p5), .val (.int t0), .val (.int t1), .val (.int t2), .val (.int t3), .val (.int tq), .val (.int vc), .val (.ref b1), .val (.int (p5 &&& (7 : Int32))), .val (.int vx), .val (.int (1 : Int32)), .val (.int (1 : Int32))] [(.int (1 : Int32))])) t
      refine XS.ifNo X73.here hx rfl (hb hby at_236) rfl ((if0 _ _).trans (feq hc236_76).1) ?_
      show Steps p.tables e below (T73.setTop (mkF m 239 #[.val (.int p0), .val (.int p1), .val (.int p2), .val (.int p3), .val (.int p4), .val (.int p5), .val (.int t0), .val (.int t1), .val (.int t2), .val (.int t3), .val (.int tq), .val (.int vc), .val (.ref b1), .val (.int (p5 &&& (7 : Int32))), .val (.int vx), .val (.int (1 : Int32)), .val (.int (1 : Int32))] [])) t
      refine XS.iconst X73.here hx rfl (hb hby at_239) ?_
      show Steps p.tables e below (T73.setTop (mkF m 240 #[.val (.int p0), .val (.int p1), .val (.int p2), .val (.int p3), .val (.int p4), .val (.int p5), .val (.int t0), .val (.int t1), .val (.int t2), .val (.int t3), .val (.int tq), .val (.int vc), .val (.ref b1), .val (.int (p5 &&& (7 : Int32))), .val (.int vx), .val (.int (1 : Int32)), .val (.int (1 : Int32))] [(.int (1 : Int32))])) t
      refine XS.goto X73.here hx rfl (pc0 := 240) (pc' := 244) rfl (hb hby at_240) (by decide) (by decide) ?_
      exact kt
    obtain ⟨fs, hr, hrun, hended, hW, hsame⟩ := X73.leave (v := some (.int (1 : Int32))) (fun h => by rw [Bd.returns] at h; cases h)
    refine ⟨_, _, ?_, hrun, hended, _, _, rfl, ?_, ⟨_, rfl⟩, hW, hsame.mono (by decide) (by decide)⟩
    · exact retN X73 hx (t := .boolean) Bd.returns (by simp) (hb hby at_244) hr
    · show Q0 Z p0 p1 p2 p3 p4 p5 h0 n0 _ T73.heap _
      rw [e73]
      exact ⟨rfl, N73⟩
set_option maxRecDepth 65536 in
set_option maxHeartbeats 40000000 in
theorem comes_1 {Post : Tables → Env → Array Value → State → Outcome → State → Prop} (hpost : ∀ tb e args s v u, (limb_1_1.after args s (.returned v) u = true ∧ limb_1_2.after args s (.returned v) u = true ∧ True) → FrameEnd s (.returned v) u (Jvm.fieldLocs frame_1_writes args s ++ Jvm.arrayLocs frame_1_arrays args s ++ Jvm.staticLocs frame_1_statics s) 16 256 → Post tb e args s (.returned v) u) :
    ArmFor flags0 classFile x code maxLocals ret World_1 tables_1 room_1 Calls_1 rest_1 Pre_1 Post := by
  intro l hfl _ _ p e ha hc hk s m args below hf hA hF happ hP
  obtain ⟨hcalls, hrest, hpre⟩ := hP
  obtain ⟨-, -, -, hnamed, -, -, -, hat⟩ := (Spec.applies_iff hf).mp happ
  obtain ⟨hg, hn⟩ := and_e (Cond.before_iff.mp (show (Jvm.Cond.and given_1 narrow_1).before args s = true from hpre))
  obtain ⟨ga1, ga2⟩ := and_e hg
  obtain ⟨ga3, ga4⟩ := and_e ga2
  obtain ⟨ga5, ga6⟩ := and_e ga4
  obtain ⟨ga7, ga8⟩ := and_e ga6
  obtain ⟨ga9, ga10⟩ := and_e ga8
  obtain ⟨ga11, ga12⟩ := and_e ga10
  obtain ⟨w0, w1, w2, w3, w4, w5, rfl⟩ : ∃ w0 w1 w2 w3 w4 w5 : Value, args = #[w0, w1, w2, w3, w4, w5] := by
    have hs : args.size = 6 := by simpa [Cond.value, given_1] using ga1
    obtain ⟨L⟩ := args
    match L, hs with
    | [w0, w1, w2, w3, w4, w5], _ => exact ⟨w0, w1, w2, w3, w4, w5, rfl⟩
  have hw := fun d (hd : d ∈ tables_1) => atoms_spec (ws := Jvm.Cond.code x code maxLocals ret :: tables_1) hat d (List.mem_cons_of_mem _ hd)
  have hfit : Fit s := fun {y c} hc i hi => by
    obtain ⟨ha, rfl⟩ := Array.getElem?_eq_some_iff.mp hc
    have q := List.all_eq_true.mp ((Array.all_eq_true_iff_forall_mem.mp hF) _ (Array.getElem_mem ha)) i (List.mem_range.mpr hi)
    simpa [Array.getElem?_eq_getElem hi] using q
  obtain ⟨i0, ei0⟩ := is_v ga3
  obtain rfl : w0 = (.int i0) := Option.some.inj ei0
  obtain ⟨i1, ei1⟩ := is_v ga5
  obtain rfl : w1 = (.int i1) := Option.some.inj ei1
  obtain ⟨i2, ei2⟩ := is_v ga7
  obtain rfl : w2 = (.int i2) := Option.some.inj ei2
  obtain ⟨i3, ei3⟩ := is_v ga9
  obtain rfl : w3 = (.int i3) := Option.some.inj ei3
  obtain ⟨i4, ei4⟩ := is_v ga11
  obtain rfl : w4 = (.int i4) := Option.some.inj ei4
  obtain ⟨i5, ei5⟩ := is_v ga12
  obtain rfl : w5 = (.int i5) := Option.some.inj ei5
  obtain ⟨n, o, h1, h2, h3, _, L, rfl, ⟨rfl, N⟩, hq⟩ := rm0 l s _ hw tables_1 i0 i1 i2 i3 i4 i5  s.heap s.heap.size (Nat.le_refl _)  p e ha hc hk s m _ below hf ((Spec.applies_iff_loose hf).mp happ).1 ⟨rfl, State.Warmed39.refl s, rfl⟩ trivial
  refine ⟨n, _, h1, h2, h3, hpost _ _ _ _ _ _ ⟨Cond.after_iff.mpr rfl, Cond.after_iff.mpr (eq_i res_at (Term.int_eval (1)) rfl), trivial⟩ ⟨hq.1, hq.2.1, (hq.2.2.sift fun y hy => Or.inr (N y hy)).mono (by decide) (by decide)⟩⟩
theorem main_1_1 : Claimed_1_1 := comes_1 fun _ _ _ _ _ _ h hF => ⟨h.1, hF⟩
theorem main_1_2 : Claimed_1_2 := comes_1 fun _ _ _ _ _ _ h hF => ⟨h.2.1, hF⟩
end Jvm.Pilot.@@N@@
namespace Jvm.Pilot.@@N@@
open Jvm Jvm.ClassFile Sem Op Lib Jvm.Free Jvm.Stand Jvm.Pilot.@@N@@.Jvm.D
/-! MADE BY PROGRAM (witnessworld.py) out of the Statement's table words and the real class files: 9 classes; the members and pool entries that the words name. The judged class is class 1, her method 2. -/
namespace start1
open Jvm.ClassFile
def u (s : String) : CpInfo := .utf8 (stringToUtf16 s)
/-- a pool by its gaps: so many unusable entries, then the entry; so many at the end -/
def gap : Nat → List CpInfo → List CpInfo
  | 0, r => r
  | n + 1, r => .unusable :: gap n r
def poolList (es : List (Nat × CpInfo)) (last : Nat) : List CpInfo := es.foldr (fun e r => gap e.1 (e.2 :: r)) (gap last [])
def pool (es : List (Nat × CpInfo)) (last : Nat) : Array CpInfo := ⟨poolList es last⟩
def fileOf (pool : Array CpInfo) (this : Nat) (attrs : Array Attribute := #[]) (ms : Array MethodInfo := #[]) (fl : Nat := 33) (sup : Nat := 0) (ifs : Array Nat := #[]) (fds : Array FieldInfo := #[]) : ClassFile where
  minorVersion := 0
  majorVersion := 65
  constantPool := pool
  accessFlags := fl
  thisClass := this
  superClass := sup
  interfaces := ifs
  fields := fds
  methods := ms
  attributes := attrs
def plain (name : String) (sup : Option ClassId) : Class where
  name := name
  kind := .ordinary
  loader := none
  accessFlags := 33
  super := sup
  interfaces := #[]
  cf := none
  fields := #[]
  methods := #[]
  instanceTypes := #[]
  staticTypes := #[]
  resolved := #[]
  callSites := []
  init := .initialized
  statics := none
  mirror := none

def pool0 : Array CpInfo := pool [(5, u "<init>"), (0, u "()V"), (1, .class_ 10), (1, u "java/lang/Object")] 113

def k0c0 : Code := { maxStack := 0, maxLocals := 1, code := object_method_1_code, exceptionTable := #[], attributes := #[] }
def k0m0 : Method := { name := "<init>", desc := "()V", sig := { parameters := [], returnType := none }, accessFlags := 1, code := some k0c0 }
/-- java/lang/Object -/
def k0 : Class := { plain "java/lang/Object" none with
  accessFlags := 33
  interfaces := #[]
  cf := some (fileOf pool0 8 #[] #[{ accessFlags := 1, nameIndex := 5, descriptorIndex := 6, attributes := #[] }] 33 0 #[] #[])
  fields := #[]
  methods := #[k0m0]
  instanceTypes := #[]
  staticTypes := #[]
  resolved := Array.replicate 124 none
  statics := none }

def pool1 : Array CpInfo := pool [(2, .class_ 4), (0, .nameAndType 5 6), (0, u "java/lang/Object"), (0, u "<init>"), (0, u "()V"), (0, .integer 2147483647), (0, .class_ 9), (0, u "com/example/corollary/corollary/saturation/TermSet"), (0, .methodref 8 3), (0, .methodref 8 12), (0, .nameAndType 13 14), (0, u "add"), (0, u "(I)Z"), (0, .methodref 8 16), (0, .nameAndType 17 14), (0, u "contains"), (0, .methodref 19 20), (0, .class_ 21), (0, .nameAndType 22 23), (0, u "com/example/corollary/corollary/saturation/TermSetContainsPinLaw"), (0, u "member"), (0, u "(IIIIII)Z"), (3, u "law")] 2

def k1m0 : Method := { name := "<init>", desc := "()V", sig := { parameters := [], returnType := none }, accessFlags := 1, code := none }
def k1c1 : Code := { maxStack := 2, maxLocals := 6, code := method_2_code, exceptionTable := #[], attributes := #[] }
def k1m1 : Method := { name := "member", desc := "(IIIIII)Z", sig := { parameters := [.int, .int, .int, .int, .int, .int], returnType := some .boolean }, accessFlags := 10, code := some k1c1 }
def k1c2 : Code := { maxStack := 7, maxLocals := 17, code := code, exceptionTable := #[], attributes := #[] }
def k1m2 : Method := { name := "law", desc := "(IIIIII)Z", sig := { parameters := [.int, .int, .int, .int, .int, .int], returnType := some .boolean }, accessFlags := 9, code := some k1c2 }
/-- com/example/corollary/corollary/saturation/TermSetContainsPinLaw -/
def k1 : Class := { plain "com/example/corollary/corollary/saturation/TermSetContainsPinLaw" (some 0) with
  accessFlags := 49
  interfaces := #[]
  cf := some (fileOf pool1 19 #[] #[{ accessFlags := 1, nameIndex := 5, descriptorIndex := 6, attributes := #[] }, { accessFlags := 10, nameIndex := 22, descriptorIndex := 23, attributes := #[] }, { accessFlags := 9, nameIndex := 27, descriptorIndex := 23, attributes := #[] }] 49 2 #[] #[])
  fields := #[]
  methods := #[k1m0, k1m1, k1m2]
  instanceTypes := #[]
  staticTypes := #[]
  resolved := Array.replicate 30 none
  statics := none }

def pool2 : Array CpInfo := pool [(1, .methodref 2 3), (0, .class_ 4), (0, .nameAndType 5 6), (0, u "java/lang/Object"), (0, u "<init>"), (0, u "()V"), (0, .class_ 8), (0, u "com/example/corollary/corollary/saturation/TermSet"), (0, .fieldref 7 10), (0, .nameAndType 11 12), (0, u "table"), (0, u "[I"), (0, .methodref 7 14), (0, .nameAndType 15 16), (0, u "spread"), (0, u "(I)I"), (0, .fieldref 7 18), (0, .nameAndType 19 20), (0, u "highSummary"), (0, u "J"), (0, .fieldref 7 22), (0, .nameAndType 23 20), (0, u "lowSummary"), (0, .fieldref 7 25), (0, .nameAndType 26 27), (0, u "size"), (0, u "I"), (14, .integer 2654435769), (0, u "GOLDEN"), (1, u "INITIAL_CAPACITY"), (1, u "FEW"), (3, u "add"), (0, u "(I)Z"), (1, u "contains")] 6

def k2c0 : Code := { maxStack := 2, maxLocals := 1, code := prog_50_method_1_code, exceptionTable := #[], attributes := #[] }
def k2m0 : Method := { name := "<init>", desc := "()V", sig := { parameters := [], returnType := none }, accessFlags := 0, code := some k2c0 }
def k2c1 : Code := { maxStack := 7, maxLocals := 7, code := prog_50_method_2_code, exceptionTable := #[], attributes := #[] }
def k2m1 : Method := { name := "add", desc := "(I)Z", sig := { parameters := [.int], returnType := some .boolean }, accessFlags := 0, code := some k2c1 }
def k2c2 : Code := { maxStack := 6, maxLocals := 9, code := prog_50_method_3_code, exceptionTable := #[], attributes := #[] }
def k2m2 : Method := { name := "contains", desc := "(I)Z", sig := { parameters := [.int], returnType := some .boolean }, accessFlags := 0, code := some k2c2 }
def k2c3 : Code := { maxStack := 3, maxLocals := 2, code := prog_50_method_8_code, exceptionTable := #[], attributes := #[] }
def k2m3 : Method := { name := "spread", desc := "(I)I", sig := { parameters := [.int], returnType := some .int }, accessFlags := 10, code := some k2c3 }
/-- com/example/corollary/corollary/saturation/TermSet -/
def k2 : Class := { plain "com/example/corollary/corollary/saturation/TermSet" (some 0) with
  accessFlags := 48
  interfaces := #[]
  cf := some (fileOf pool2 7 #[] #[{ accessFlags := 0, nameIndex := 5, descriptorIndex := 6, attributes := #[] }, { accessFlags := 0, nameIndex := 51, descriptorIndex := 52, attributes := #[] }, { accessFlags := 0, nameIndex := 54, descriptorIndex := 52, attributes := #[] }, { accessFlags := 10, nameIndex := 15, descriptorIndex := 16, attributes := #[] }] 48 2 #[] #[{ accessFlags := 24, nameIndex := 43, descriptorIndex := 27, attributes := #[] }, { accessFlags := 26, nameIndex := 45, descriptorIndex := 27, attributes := #[] }, { accessFlags := 26, nameIndex := 47, descriptorIndex := 27, attributes := #[] }, { accessFlags := 2, nameIndex := 11, descriptorIndex := 12, attributes := #[] }, { accessFlags := 2, nameIndex := 26, descriptorIndex := 27, attributes := #[] }, { accessFlags := 2, nameIndex := 23, descriptorIndex := 20, attributes := #[] }, { accessFlags := 2, nameIndex := 19, descriptorIndex := 20, attributes := #[] }])
  fields := #[{ name := "GOLDEN", type := .int, accessFlags := 24, slot := 0, constantValue := 0 }, { name := "INITIAL_CAPACITY", type := .int, accessFlags := 26, slot := 1, constantValue := 0 }, { name := "FEW", type := .int, accessFlags := 26, slot := 2, constantValue := 0 }, { name := "table", type := (.array .int), accessFlags := 2, slot := 0, constantValue := 0 }, { name := "size", type := .int, accessFlags := 2, slot := 1, constantValue := 0 }, { name := "lowSummary", type := .long, accessFlags := 2, slot := 2, constantValue := 0 }, { name := "highSummary", type := .long, accessFlags := 2, slot := 3, constantValue := 0 }]
  methods := #[k2m0, k2m1, k2m2, k2m3]
  instanceTypes := #[(.array .int), .int, .long, .long]
  staticTypes := #[.int, .int, .int]
  resolved := Array.replicate 61 none
  statics := none }

def pool3 : Array CpInfo := pool [(1, u "java/lang/Cloneable"), (0, .class_ 1), (0, u "java/lang/Object"), (0, .class_ 3)] 3

/-- java/lang/Cloneable -/
def k3 : Class := { plain "java/lang/Cloneable" (some 0) with
  accessFlags := 1537
  interfaces := #[]
  cf := some (fileOf pool3 2 #[] #[] 1537 4 #[] #[])
  fields := #[]
  methods := #[]
  instanceTypes := #[]
  staticTypes := #[]
  resolved := Array.replicate 8 none
  statics := none }

def pool4 : Array CpInfo := pool [(1, u "java/io/Serializable"), (0, .class_ 1), (0, u "java/lang/Object"), (0, .class_ 3)] 3

/-- java/io/Serializable -/
def k4 : Class := { plain "java/io/Serializable" (some 0) with
  accessFlags := 1537
  interfaces := #[]
  cf := some (fileOf pool4 2 #[] #[] 1537 4 #[] #[])
  fields := #[]
  methods := #[]
  instanceTypes := #[]
  staticTypes := #[]
  resolved := Array.replicate 8 none
  statics := none }

/-- the primitive byte -/
def k5 : Class := { plain "byte" none with kind := .primitive 'B', accessFlags := 0x411 }
/-- [B -/
def k6 : Class := { plain "[B" (some 0) with kind := .array 5 .byte, interfaces := #[3, 4], accessFlags := 1041 }

/-- the primitive int -/
def k7 : Class := { plain "int" none with kind := .primitive 'I', accessFlags := 0x411 }
/-- [I -/
def k8 : Class := { plain "[I" (some 0) with kind := .array 7 .int, interfaces := #[3, 4], accessFlags := 1041 }

def heap : Heap := #[]
def classes : Array Class := #[k0, k1, k2, k3, k4, k5, k6, k7, k8]
def interned : List (Array UInt16 × Addr) := []
def slotsUsed : Nat := 0
def theMethod : MethodId := ⟨1, 2⟩
def args0 : Array Value := #[.int 7, .int 9, .int 5, .int 3, .int 2, .int 1]
def aboutOver (below : List Frame) : State where
  vm := { classes := classes, interned := interned.toArray }
  heap := heap
  slotsUsed := slotsUsed
  threads := #[{ frames := .invoking theMethod args0 :: below }]
def below0 : List Frame := [.native { method := ⟨0, 0⟩, args := #[] }]
def about1 : State := aboutOver below0
def p0 : Program := .bare "" "" ""
def e0 : Env := launch0.env 0 0 0
theorem w_frames : about1.frames = Frame.invoking theMethod args0 :: below0 := rfl
set_option maxRecDepth 65536 in
theorem w_args : argsFit about1.vm theMethod args0 = true := by decide +kernel
set_option maxRecDepth 65536 in
theorem w_heap : heapFits about1 = true := by decide +kernel
set_option maxRecDepth 65536 in
theorem w_runnable : about1.curStatus? = some .runnable := by decide +kernel
set_option maxRecDepth 65536 in
theorem w_alone : about1.alone = true := by decide +kernel
set_option maxRecDepth 65536 in
theorem w_named : about1.methodNamed? x = some theMethod := by decide +kernel
set_option maxRecDepth 65536 in
theorem w_hears : about1.hears theMethod below0 = true := by decide +kernel
set_option maxRecDepth 65536 in
theorem w_ripe : about1.ripe theMethod args0 below0 = true := by decide +kernel
theorem w_running : about1.status = .running := rfl
set_option maxRecDepth 65536 in
theorem w_room : about1.hasRoom e0.platform room_1 = true :=
  launch0.hasRoom_least _ room_1 (by decide +kernel) (by decide +kernel) (by decide +kernel) (by decide +kernel) (by decide +kernel) (by decide +kernel)
theorem allAtoms_all (ts : List Jvm.Cond) (a : Array Jvm.Value) (st : Jvm.State) : (allAtoms ts).before a st = ts.all (fun c => c.before a st) := by
  induction ts with
  | nil => rfl
  | cons c t ih =>
    show (Jvm.Cond.and c (allAtoms t)).before a st = _
    rw [Jvm.Cond.before_and, ih, List.all_cons]
def words1 : List Jvm.Cond := Jvm.Cond.code x code maxLocals ret :: tables_1
/-- a 'code' word, met by the world's own term for the bytes: nothing is compared byte by byte -/
theorem code_word {y : MethodName} {bytes : ByteArray} {mx : Nat} {rt : Option FieldType} {a : Array Value} {s : State} {m : MethodId} {meth : Method} {c : Code} (h1 : s.methodNamed? y = some m) (h2 : s.vm.method? m = some meth) (h3 : meth.code = some c) (h4 : c.code = bytes)
    (h5 : (c.maxLocals == mx && c.exceptionTable.isEmpty && decide (c.maxStack ≤ mostOperands) && decide (meth.sig.returnType = rt) && !meth.locks && decide (parseMethodDescriptor y.desc = some meth.sig)) = true) : (Jvm.Cond.code y bytes mx rt).before a s = true := by
  simp only [Bool.and_eq_true, beq_iff_eq, Bool.not_eq_true', decide_eq_true_eq] at h5
  obtain ⟨⟨⟨⟨⟨g1, g2⟩, g3⟩, g4⟩, g5⟩, g6⟩ := h5
  simp [Cond.before, Cond.holds, Cond.value, h1, h2, h3, h4, g1, g2, g3, g4, g5, g6]
def isCode : Jvm.Cond → Bool
  | .code _ _ _ _ => true
  | _ => false
theorem all_split {L : List Jvm.Cond} {P : Jvm.Cond → Bool} (h1 : L.all (fun c => isCode c || P c) = true) (h2 : ∀ c ∈ L.filter isCode, P c = true) : L.all P = true := by
  refine List.all_eq_true.mpr fun c hc => ?_
  have h := List.all_eq_true.mp h1 c hc
  rcases Bool.eq_false_or_eq_true (isCode c) with hi | hi
  · exact h2 c (List.mem_filter.mpr ⟨hc, hi⟩)
  · simpa [hi] using h
set_option maxRecDepth 65536 in
theorem w_c0 : (Jvm.Cond.code x code maxLocals ret).before args0 about1 = true := code_word (m := ⟨1, 2⟩) (meth := k1m2) (c := k1c2) (by decide +kernel) rfl rfl rfl (by decide +kernel)
set_option maxRecDepth 65536 in
theorem w_c1 : (Jvm.Cond.code ({ cls := "com/example/corollary/corollary/saturation/TermSet", name := "<init>", desc := "()V" } : Jvm.MethodName) prog_50_method_1_code (1 : Nat) (Option.none : Option Jvm.ClassFile.FieldType)).before args0 about1 = true := code_word (m := ⟨2, 0⟩) (meth := k2m0) (c := k2c0) (by decide +kernel) rfl rfl rfl (by decide +kernel)
set_option maxRecDepth 65536 in
theorem w_c2 : (Jvm.Cond.code ({ cls := "java/lang/Object", name := "<init>", desc := "()V" } : Jvm.MethodName) object_method_1_code (1 : Nat) (Option.none : Option Jvm.ClassFile.FieldType)).before args0 about1 = true := code_word (m := ⟨0, 0⟩) (meth := k0m0) (c := k0c0) (by decide +kernel) rfl rfl rfl (by decide +kernel)
set_option maxRecDepth 65536 in
theorem w_c3 : (Jvm.Cond.code ({ cls := "com/example/corollary/corollary/saturation/TermSet", name := "contains", desc := "(I)Z" } : Jvm.MethodName) prog_50_method_3_code (9 : Nat) (Option.some Jvm.ClassFile.FieldType.boolean)).before args0 about1 = true := code_word (m := ⟨2, 2⟩) (meth := k2m2) (c := k2c2) (by decide +kernel) rfl rfl rfl (by decide +kernel)
set_option maxRecDepth 65536 in
theorem w_c4 : (Jvm.Cond.code ({ cls := "com/example/corollary/corollary/saturation/TermSet", name := "spread", desc := "(I)I" } : Jvm.MethodName) prog_50_method_8_code (2 : Nat) (Option.some Jvm.ClassFile.FieldType.int)).before args0 about1 = true := code_word (m := ⟨2, 3⟩) (meth := k2m3) (c := k2c3) (by decide +kernel) rfl rfl rfl (by decide +kernel)
set_option maxRecDepth 65536 in
theorem w_c5 : (Jvm.Cond.code ({ cls := "com/example/corollary/corollary/saturation/TermSetContainsPinLaw", name := "member", desc := "(IIIIII)Z" } : Jvm.MethodName) method_2_code (6 : Nat) (Option.some Jvm.ClassFile.FieldType.boolean)).before args0 about1 = true := code_word (m := ⟨1, 1⟩) (meth := k1m1) (c := k1c1) (by decide +kernel) rfl rfl rfl (by decide +kernel)
set_option maxRecDepth 65536 in
theorem w_c6 : (Jvm.Cond.code ({ cls := "com/example/corollary/corollary/saturation/TermSet", name := "add", desc := "(I)Z" } : Jvm.MethodName) prog_50_method_2_code (7 : Nat) (Option.some Jvm.ClassFile.FieldType.boolean)).before args0 about1 = true := code_word (m := ⟨2, 1⟩) (meth := k2m1) (c := k2c1) (by decide +kernel) rfl rfl rfl (by decide +kernel)
def codes1 : List Jvm.Cond := [Jvm.Cond.code x code maxLocals ret, Jvm.Cond.code ({ cls := "com/example/corollary/corollary/saturation/TermSet", name := "<init>", desc := "()V" } : Jvm.MethodName) prog_50_method_1_code (1 : Nat) (Option.none : Option Jvm.ClassFile.FieldType), Jvm.Cond.code ({ cls := "java/lang/Object", name := "<init>", desc := "()V" } : Jvm.MethodName) object_method_1_code (1 : Nat) (Option.none : Option Jvm.ClassFile.FieldType), Jvm.Cond.code ({ cls := "com/example/corollary/corollary/saturation/TermSet", name := "contains", desc := "(I)Z" } : Jvm.MethodName) prog_50_method_3_code (9 : Nat) (Option.some Jvm.ClassFile.FieldType.boolean), Jvm.Cond.code ({ cls := "com/example/corollary/corollary/saturation/TermSet", name := "spread", desc := "(I)I" } : Jvm.MethodName) prog_50_method_8_code (2 : Nat) (Option.some Jvm.ClassFile.FieldType.int), Jvm.Cond.code ({ cls := "com/example/corollary/corollary/saturation/TermSetContainsPinLaw", name := "member", desc := "(IIIIII)Z" } : Jvm.MethodName) method_2_code (6 : Nat) (Option.some Jvm.ClassFile.FieldType.boolean), Jvm.Cond.code ({ cls := "com/example/corollary/corollary/saturation/TermSet", name := "add", desc := "(I)Z" } : Jvm.MethodName) prog_50_method_2_code (7 : Nat) (Option.some Jvm.ClassFile.FieldType.boolean)]
set_option maxRecDepth 65536 in
theorem codes_eq : words1.filter isCode = codes1 := rfl
theorem w_codes : ∀ c ∈ words1.filter isCode, c.before args0 about1 = true := by
  rw [codes_eq]
  intro c hc
  simp only [codes1, List.mem_cons, List.not_mem_nil, or_false] at hc
  rcases hc with rfl | rfl | rfl | rfl | rfl | rfl | rfl
  · exact w_c0
  · exact w_c1
  · exact w_c2
  · exact w_c3
  · exact w_c4
  · exact w_c5
  · exact w_c6
set_option maxRecDepth 65536 in
theorem w_t1 : (words1.take 24).all (fun c => isCode c || c.before args0 about1) = true := by decide +kernel
set_option maxRecDepth 65536 in
theorem w_t2 : (words1.drop 24).all (fun c => isCode c || c.before args0 about1) = true := by decide +kernel
theorem w_tables : (allAtoms (Jvm.Cond.code x code maxLocals ret :: tables_1)).before args0 about1 = true := by
  rw [allAtoms_all]
  show words1.all (fun c => c.before args0 about1) = true
  refine all_split ?_ w_codes
  rw [← List.take_append_drop 24 words1, List.all_append, w_t1, w_t2]
  rfl
set_option maxRecDepth 65536 in
theorem w_case : (Jvm.Cond.and given_1 narrow_1).before args0 about1 = true := by decide +kernel
theorem w_applies : (headSpec (Jvm.Cond.code x code maxLocals ret :: tables_1) room_1).applies x e0.platform about1 = true :=
  (Spec.applies_iff w_frames).mpr ⟨w_running, w_runnable, w_alone, w_named, w_hears, w_ripe, w_room, w_tables⟩
theorem atStart : AtStart classFile x code maxLocals ret World_1 tables_1 room_1 Calls_1 rest_1 Pre_1 launch0 p0 e0 about1 theMethod args0 below0 :=
  ⟨lists_1, trivial, launch0.admits_env _ _ _, launch0.least_env, fairChoices_fair.cas, fairChoices_fair.clock, w_frames, w_args, w_heap, w_applies, trivial, trivial, w_case⟩
end start1
theorem witness_1 : WitnessClaimed_1 := ⟨start1.p0, start1.e0, start1.about1, start1.theMethod, start1.args0, start1.below0, start1.atStart⟩
end Jvm.Pilot.@@N@@
