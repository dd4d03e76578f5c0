import JvmDerived
import JvmDerived.Pilot.@@N@@Statement
import JvmDerived.Pilot.@@N@@Code
set_option linter.unusedVariables false
set_option linter.unusedSimpArgs false
/- laws to paste: Road.backV, Road.eqW, Road.codOf (cut by pick.py; bodies as the Statement names them) -/
namespace Jvm.Pilot.@@N@@
namespace StrChars
open Jvm Sem ClassFile Op Lib Jvm.Stand Jvm.Free.XT Jvm.Free.ALB Jvm.Free.JM Jvm.Free
open Jvm.Lib.Cold (StaticIs)
/-- a char array whose places are chars -/
def Ch (a : Addr) (A : Cell) (U : State) : Prop := Arr .char a A U ∧ Typed .char A
theorem Ch.mv {a : Addr} {A : Cell} {U U' : State} (h : Ch a A U) (hal : U.vm.Alike U'.vm) (hh : U'.heap = U.heap) : Ch a A U' := ⟨h.1.mv hal hh, h.2⟩
theorem Ch.keep {a : Addr} {A : Cell} {U U' : State} (h : Ch a A U) (hal : U.vm.Alike U'.vm) (hk : U'.heap[a]? = some A) : Ch a A U' := ⟨h.1.keep hal hk, h.2⟩
/-- what place i of a char[]'s cell holds -/
def cv (A : Cell) (i : Nat) : Int32 := match A.slots[i]? with | some (.int x) => x | _ => 0
theorem Ch.get {a : Addr} {A : Cell} {U : State} (h : Ch a A U) {i : Nat} (hi : i < A.slots.size) : A.slots[i]? = some (.int (cv A i)) := by
  have e := Array.getElem?_eq_getElem hi
  have f := h.2 i _ e
  unfold cv; rw [e]
  generalize A.slots[i] = v at f
  cases v <;> simp [fits] at f ⊢
/-- the byte that i2b leaves of a char -/
def lo8 (x : Int32) : Int32 := x.toInt8.toInt32
theorem fits_lo8 (y : Int32) : fits .byte (.int (lo8 y)) = true := by
  have h1 := y.toInt8.le_toInt
  have h2 := y.toInt8.toInt_lt
  simp only [lo8, fits, Bool.and_eq_true, decide_eq_true_eq, Int32.le_iff_toInt_le, Int8.toInt_toInt32, show (-128 : Int32).toInt = -128 from by decide, show (127 : Int32).toInt = 127 from by decide]
  omega
/-- A' is A but that each place j of lo .. hi - 1 holds f j -/
def Laid (A A' : Cell) (lo hi : Nat) (f : Nat → Value) : Prop := A'.cls = A.cls ∧ A'.vm = A.vm ∧ A'.slots.size = A.slots.size ∧ ∀ i, A'.slots[i]? = if lo ≤ i ∧ i < hi then some (f i) else A.slots[i]?
theorem Laid.zero (A : Cell) (lo : Nat) (f : Nat → Value) : Laid A A lo (lo + 0) f := ⟨rfl, rfl, rfl, fun i => by rw [if_neg (by omega)]⟩
theorem Laid.step {A Ak : Cell} {lo k : Nat} {f : Nat → Value} {v : Value} (h : Laid A Ak lo k f) (hlo : lo ≤ k) (hk : k < Ak.slots.size) (hv : v = f k) : Laid A (Ak.setSlot k v) lo (k + 1) f := by
  refine ⟨h.1, h.2.1, by simpa [Cell.setSlot] using h.2.2.1, fun i => ?_⟩
  by_cases e : k = i
  · subst e; rw [Cell.slots_setSlot_self v hk, if_pos (by omega), hv]
  · rw [Cell.slots_setSlot_ne v e, h.2.2.2 i]
    by_cases q : lo ≤ i ∧ i < k
    · rw [if_pos q, if_pos (by omega)]
    · rw [if_neg q, if_neg (by omega)]
def U16 : String := "java/lang/StringUTF16"
namespace Cmp5
def yN : MethodName := ⟨"java/lang/StringUTF16", "compress", "([CI[BII)I"⟩
abbrev yB : ByteArray := jdk_52_method_21_code
theorem d0 : decode yB 0 = .ok (.iconst 0, 1) := by decide +kernel
theorem d1 : decode yB 1 = .ok (.istore 5, 2) := by decide +kernel
theorem d3 : decode yB 3 = .ok (.iload 5, 2) := by decide +kernel
theorem d5 : decode yB 5 = .ok (.iload 4, 2) := by decide +kernel
theorem d7 : decode yB 7 = .ok (.if_icmp (.ge) 37, 3) := by decide +kernel
theorem d10 : decode yB 10 = .ok (.aload_n 0, 1) := by decide +kernel
theorem d11 : decode yB 11 = .ok (.iload_n 1, 1) := by decide +kernel
theorem d12 : decode yB 12 = .ok (.caload, 1) := by decide +kernel
theorem d13 : decode yB 13 = .ok (.istore 6, 2) := by decide +kernel
theorem d15 : decode yB 15 = .ok (.iload 6, 2) := by decide +kernel
theorem d17 : decode yB 17 = .ok (.sipush 255, 3) := by decide +kernel
theorem d20 : decode yB 20 = .ok (.if_icmp (.le) 6, 3) := by decide +kernel
theorem d26 : decode yB 26 = .ok (.aload_n 2, 1) := by decide +kernel
theorem d27 : decode yB 27 = .ok (.iload_n 3, 1) := by decide +kernel
theorem d28 : decode yB 28 = .ok (.iload 6, 2) := by decide +kernel
theorem d30 : decode yB 30 = .ok (.i2b, 1) := by decide +kernel
theorem d31 : decode yB 31 = .ok (.bastore, 1) := by decide +kernel
theorem d32 : decode yB 32 = .ok (.iinc 1 1, 3) := by decide +kernel
theorem d35 : decode yB 35 = .ok (.iinc 3 1, 3) := by decide +kernel
theorem d38 : decode yB 38 = .ok (.iinc 5 1, 3) := by decide +kernel
theorem d41 : decode yB 41 = .ok (.goto (-38), 3) := by decide +kernel
theorem d44 : decode yB 44 = .ok (.iload 4, 2) := by decide +kernel
theorem d46 : decode yB 46 = .ok (.ireturn, 1) := by decide +kernel
def site : List Cond := []
def tab : Cond := tabOf yN yB 7 (some .int) site
def P (b : Addr) (A : Cell) (d : Addr) (B : Cell) (o q len : Nat) (args : Array Value) (s : State) : Prop := args = #[.ref b, .int (Int32.ofNat o), .ref d, .int (Int32.ofNat q), .int (Int32.ofNat len)] ∧ Ch b A s ∧ Arr .byte d B s ∧ b ≠ d ∧ o + len ≤ A.slots.size ∧ q + len ≤ B.slots.size ∧ ∀ i, i < len → ¬ 255 < cv A (o + i)
def E (b : Addr) (A : Cell) (d : Addr) (B : Cell) (o q len : Nat) (r : Option Value) (s u : State) : Prop := r = some (.int (Int32.ofNat len)) ∧ ∃ B', Put d B' s u ∧ Laid B B' q (q + len) (fun j => Value.int (lo8 (cv A (o + (j - q)))))
/-- no char of the range above 255: len; the places written hold each char's low byte -/
theorem law (l : Launch) (b : Addr) (A : Cell) (d : Addr) (B : Cell) (o q len : Nat) : Law l yN 5 5 0 0 yB 7 (some .int) site (P b A d B o q len) (E b A d B o q len) (copyLocs d q len) 0 0 := by
  refine Law.of_walk (plainFor_of_name (by decide +kernel)) (by decide +kernel) (by decide +kernel) (by decide) (fun _ _ h => by rw [h.1]; rfl) (fun _ U U' hal hh h => ⟨h.1, h.2.1.mv hal hh, h.2.2.1.mv hal hh, h.2.2.2⟩) (fun r U U' V V' h1 hal h2 h => ⟨h.1, h.2.elim fun B' q => ⟨B', q.1.mv h1 h2, q.2⟩⟩) ?_
  intro p e s m args below meth c s₁ X0 hexec hbytes hml hret hlk hnm hown hh0 W hP
  obtain ⟨rfl, hA, hB, hne, l1, l2, hp⟩ := hP
  have c1 : Steps p.tables e below (s₁.setTop (entryFrame m #[.ref b, .int (Int32.ofNat o), .ref d, .int (Int32.ofNat q), .int (Int32.ofNat len)] 7)) (s₁.setTop (mkF m 0 #[.val (.ref b), .val (.int (Int32.ofNat o)), .val (.ref d), .val (.int (Int32.ofNat q)), .val (.int (Int32.ofNat len)), .unset, .unset] [])) := entry rfl
  have hA0 := hA.1.mv X0.warmed.alike hh0
  have hB0 := hB.mv X0.warmed.alike hh0
  have a31 := hA.1.2.2.2
  have c2 : Steps p.tables e below (s₁.setTop (entryFrame m #[.ref b, .int (Int32.ofNat o), .ref d, .int (Int32.ofNat q), .int (Int32.ofNat len)] 7)) (s₁.setTop (mkF m 3 #[.val (.ref b), .val (.int (Int32.ofNat o)), .val (.ref d), .val (.int (Int32.ofNat q)), .val (.int (Int32.ofNat len)), .val (.int 0), .unset] [])) := c1.trans (by
    refine iconstV X0.here hexec rfl 0 (hb hbytes d0) (by decide) ?_
    refine XS.istore X0.here hexec rfl (hb hbytes d1) rfl rfl ?_
    exact Steps.refl _)
  have loop : ∀ (r i : Nat), i + r = len → ∀ (z : Slot), (z = .unset ∨ ∃ w, z = .val w ∧ w.category = 1) → ∀ (Tl : State) (Bk : Cell), Stand p l e { frames := 0, locals := 0, cells := 0, slots := 0 } s m #[.ref b, .int (Int32.ofNat o), .ref d, .int (Int32.ofNat q), .int (Int32.ofNat len)] below meth c Tl ([] ++ copyLocs d q i) 0 0 → Put d Bk s₁ Tl → Laid B Bk q (q + i) (fun j => Value.int (lo8 (cv A (o + (j - q))))) →
      Steps p.tables e below (s₁.setTop (entryFrame m #[.ref b, .int (Int32.ofNat o), .ref d, .int (Int32.ofNat q), .int (Int32.ofNat len)] 7)) (Tl.setTop (mkF m 3 #[.val (.ref b), .val (.int (Int32.ofNat (o + i))), .val (.ref d), .val (.int (Int32.ofNat (q + i))), .val (.int (Int32.ofNat len)), .val (.int (Int32.ofNat i)), z] [])) → ∃ (T' : State) (B' : Cell) (z' : Slot), Stand p l e { frames := 0, locals := 0, cells := 0, slots := 0 } s m #[.ref b, .int (Int32.ofNat o), .ref d, .int (Int32.ofNat q), .int (Int32.ofNat len)] below meth c T' ([] ++ copyLocs d q len) 0 0 ∧ Put d B' s₁ T' ∧ Laid B B' q (q + len) (fun j => Value.int (lo8 (cv A (o + (j - q))))) ∧
      Steps p.tables e below (s₁.setTop (entryFrame m #[.ref b, .int (Int32.ofNat o), .ref d, .int (Int32.ofNat q), .int (Int32.ofNat len)] 7)) (T'.setTop (mkF m 3 #[.val (.ref b), .val (.int (Int32.ofNat (o + len))), .val (.ref d), .val (.int (Int32.ofNat (q + len))), .val (.int (Int32.ofNat len)), .val (.int (Int32.ofNat len)), z'] [])) := by
    intro r
    induction r with
    | zero =>
      intro i hi z hz Tl Bk Xl pl fl cl
      have hil : i = len := by omega
      rw [hil] at Xl fl cl
      exact ⟨Tl, Bk, z, Xl, pl, fl, cl⟩
    | succ r ih =>
      intro i hi z hz Tl Bk Xl pl fl cl
      have all := X0.warmed.alike.symm.trans Xl.warmed.alike
      have hAl := hA0.keep all (pl.other hne hA0.1)
      have hBk := hB0.like all pl.1 fl.1 fl.2.1 fl.2.2.1
      have hlt : q + i < Bk.slots.size := by rw [fl.2.2.1]; omega
      have c3 : Steps p.tables e below (s₁.setTop (entryFrame m #[.ref b, .int (Int32.ofNat o), .ref d, .int (Int32.ofNat q), .int (Int32.ofNat len)] 7)) (Tl.setTop (mkF m 12 #[.val (.ref b), .val (.int (Int32.ofNat (o + i))), .val (.ref d), .val (.int (Int32.ofNat (q + i))), .val (.int (Int32.ofNat len)), .val (.int (Int32.ofNat i)), z] [.int (Int32.ofNat (o + i)), .ref b])) := cl.trans (by
        refine XS.iload Xl.here hexec rfl (hb hbytes d3) rfl ?_
        refine XS.iload Xl.here hexec rfl (hb hbytes d5) rfl ?_
        refine XS.icmpNo Xl.here hexec rfl (hb hbytes d7) rfl (ii_ge_f (lt32 (by omega) (by omega))) ?_
        refine XS.aloadN Xl.here hexec rfl (hb hbytes d10) rfl rfl ?_
        refine XS.iloadN Xl.here hexec rfl (hb hbytes d11) rfl ?_
        exact Steps.refl _)
      have c4 : Steps p.tables e below (s₁.setTop (entryFrame m #[.ref b, .int (Int32.ofNat o), .ref d, .int (Int32.ofNat q), .int (Int32.ofNat len)] 7)) (Tl.setTop (mkF m 13 #[.val (.ref b), .val (.int (Int32.ofNat (o + i))), .val (.ref d), .val (.int (Int32.ofNat (q + i))), .val (.int (Int32.ofNat len)), .val (.int (Int32.ofNat i)), z] [.int (cv A (o + i))])) := c3.trans (by
        refine Xl.aget hexec hAl rfl (hA.get (i := o + i) (by omega)) rfl rfl (hb hbytes d12) ?_
        exact Steps.refl _)
      have c5 : Steps p.tables e below (s₁.setTop (entryFrame m #[.ref b, .int (Int32.ofNat o), .ref d, .int (Int32.ofNat q), .int (Int32.ofNat len)] 7)) (Tl.setTop (mkF m 15 #[.val (.ref b), .val (.int (Int32.ofNat (o + i))), .val (.ref d), .val (.int (Int32.ofNat (q + i))), .val (.int (Int32.ofNat len)), .val (.int (Int32.ofNat i)), .val (.int (cv A (o + i)))] [])) := c4.trans (by
        refine XS.istoreS Xl.here hexec rfl (hb hbytes d13) rfl rfl hz ?_
        exact Steps.refl _)
      have c6 : Steps p.tables e below (s₁.setTop (entryFrame m #[.ref b, .int (Int32.ofNat o), .ref d, .int (Int32.ofNat q), .int (Int32.ofNat len)] 7)) (Tl.setTop (mkF m 31 #[.val (.ref b), .val (.int (Int32.ofNat (o + i))), .val (.ref d), .val (.int (Int32.ofNat (q + i))), .val (.int (Int32.ofNat len)), .val (.int (Int32.ofNat i)), .val (.int (cv A (o + i)))] [.int (lo8 (cv A (o + i))), .int (Int32.ofNat (q + i)), .ref d])) := c5.trans (by
        refine XS.iload Xl.here hexec rfl (hb hbytes d15) rfl ?_
        refine sipushV Xl.here hexec rfl 255 (hb hbytes d17) (by decide) ?_
        refine XS.icmpYes Xl.here hexec rfl (pc0 := 20) rfl (hb hbytes d20) rfl (ii_le_t (hp i (by omega))) (by decide) rfl ?_
        refine XS.aloadN Xl.here hexec rfl (hb hbytes d26) rfl rfl ?_
        refine XS.iloadN Xl.here hexec rfl (hb hbytes d27) rfl ?_
        refine XS.iload Xl.here hexec rfl (hb hbytes d28) rfl ?_
        refine i2b Xl.here hexec rfl (hb hbytes d30) rfl ?_
        exact Steps.refl _)
      obtain ⟨T7, X7, p7, st7⟩ := Xl.aput hexec hBk rfl hlt rfl (fits_lo8 (cv A (o + i))) (g := (mkF m 31 #[.val (.ref b), .val (.int (Int32.ofNat (o + i))), .val (.ref d), .val (.int (Int32.ofNat (q + i))), .val (.int (Int32.ofNat len)), .val (.int (Int32.ofNat i)), .val (.int (cv A (o + i)))] [.int (lo8 (cv A (o + i))), .int (Int32.ofNat (q + i)), .ref d])) rfl (rest := []) rfl (hb hbytes d31)
      have c8 : Steps p.tables e below (s₁.setTop (entryFrame m #[.ref b, .int (Int32.ofNat o), .ref d, .int (Int32.ofNat q), .int (Int32.ofNat len)] 7)) (T7.setTop (mkF m 32 #[.val (.ref b), .val (.int (Int32.ofNat (o + i))), .val (.ref d), .val (.int (Int32.ofNat (q + i))), .val (.int (Int32.ofNat len)), .val (.int (Int32.ofNat i)), .val (.int (cv A (o + i)))] [])) := c6.trans (st7 _ (Steps.refl _))
      have c9 : Steps p.tables e below (s₁.setTop (entryFrame m #[.ref b, .int (Int32.ofNat o), .ref d, .int (Int32.ofNat q), .int (Int32.ofNat len)] 7)) (T7.setTop (mkF m 3 #[.val (.ref b), .val (.int (Int32.ofNat (o + i) + 1)), .val (.ref d), .val (.int (Int32.ofNat (q + i) + 1)), .val (.int (Int32.ofNat len)), .val (.int (Int32.ofNat i + 1)), .val (.int (cv A (o + i)))] [])) := c8.trans (by
        refine iincV X7.here hexec rfl 1 (hb hbytes d32) (by decide) rfl rfl ?_
        refine iincV X7.here hexec rfl 1 (hb hbytes d35) (by decide) rfl rfl ?_
        refine iincV X7.here hexec rfl 1 (hb hbytes d38) (by decide) rfl rfl ?_
        refine XS.goto X7.here hexec rfl (pc0 := 41) rfl (hb hbytes d41) (by decide) rfl ?_
        exact Steps.refl _)
      have c10 : Steps p.tables e below (s₁.setTop (entryFrame m #[.ref b, .int (Int32.ofNat o), .ref d, .int (Int32.ofNat q), .int (Int32.ofNat len)] 7)) (T7.setTop (mkF m 3 #[.val (.ref b), .val (.int (Int32.ofNat (o + (i + 1)))), .val (.ref d), .val (.int (Int32.ofNat (q + (i + 1)))), .val (.int (Int32.ofNat len)), .val (.int (Int32.ofNat (i + 1))), .val (.int (cv A (o + i)))] [])) := by
        have := c9
        rw [succ32, succ32, succ32] at this
        exact this
      exact ih (i + 1) (by omega) _ (Or.inr ⟨_, rfl, rfl⟩) T7 _ (by rw [copyLocs_step, ← List.append_assoc]; exact X7) (pl.trans p7) (fl.step (by omega) hlt (by simp)) c10
  obtain ⟨T9, B9, z9, X9, p9, f9, g9⟩ := loop len 0 (by omega) .unset (Or.inl rfl) s₁ B (by simpa [copyLocs] using X0) ⟨hB0.1, fun _ _ => rfl, rfl⟩ (Laid.zero _ _ _) c2
  have c11 : Steps p.tables e below (s₁.setTop (entryFrame m #[.ref b, .int (Int32.ofNat o), .ref d, .int (Int32.ofNat q), .int (Int32.ofNat len)] 7)) (T9.setTop (mkF m 46 #[.val (.ref b), .val (.int (Int32.ofNat (o + len))), .val (.ref d), .val (.int (Int32.ofNat (q + len))), .val (.int (Int32.ofNat len)), .val (.int (Int32.ofNat len)), z9] [.int (Int32.ofNat len)])) := g9.trans (by
    refine XS.iload X9.here hexec rfl (hb hbytes d3) rfl ?_
    refine XS.iload X9.here hexec rfl (hb hbytes d5) rfl ?_
    refine XS.icmpYes X9.here hexec rfl (pc0 := 7) rfl (hb hbytes d7) rfl (ii_ge_t (nlt32 (by omega) (Nat.le_refl _))) (by decide) rfl ?_
    refine XS.iload X9.here hexec rfl (hb hbytes d44) rfl ?_
    exact Steps.refl _)
  exact ⟨T9, some (.int (Int32.ofNat len)), _, _, _, X9, by simp, rfl, rfl, (fun h => by cases h), ⟨rfl, B9, p9.from hh0, f9⟩, fun fs hl => c11.trans (X9.ireturnOut hexec hret rfl (Or.inl rfl) (hb hbytes d46) hl)⟩
end Cmp5
namespace Cmp3
def yN : MethodName := ⟨"java/lang/StringUTF16", "compress", "([CII)[B"⟩
abbrev yB : ByteArray := jdk_52_method_16_code
theorem d0 : decode yB 0 = .ok (.iload_n 2, 1) := by decide +kernel
theorem d1 : decode yB 1 = .ok (.newarray .byte, 2) := by decide +kernel
theorem d3 : decode yB 3 = .ok (.astore_n 3, 1) := by decide +kernel
theorem d4 : decode yB 4 = .ok (.aload_n 0, 1) := by decide +kernel
theorem d5 : decode yB 5 = .ok (.iload_n 1, 1) := by decide +kernel
theorem d6 : decode yB 6 = .ok (.aload_n 3, 1) := by decide +kernel
theorem d7 : decode yB 7 = .ok (.iconst 0, 1) := by decide +kernel
theorem d8 : decode yB 8 = .ok (.iload_n 2, 1) := by decide +kernel
theorem d9 : decode yB 9 = .ok (.invokestatic 115, 3) := by decide +kernel
theorem d12 : decode yB 12 = .ok (.istore 4, 2) := by decide +kernel
theorem d14 : decode yB 14 = .ok (.iload 4, 2) := by decide +kernel
theorem d16 : decode yB 16 = .ok (.iload_n 2, 1) := by decide +kernel
theorem d17 : decode yB 17 = .ok (.if_icmp (.eq) 40, 3) := by decide +kernel
theorem d57 : decode yB 57 = .ok (.aload_n 3, 1) := by decide +kernel
theorem d58 : decode yB 58 = .ok (.areturn, 1) := by decide +kernel
def site : List Cond := [.arrayClass .byte, Cmp5.tab] ++ staticW U16 115 Cmp5.yN
def tab : Cond := tabOf yN yB 6 (some (.array .byte)) site
def P (b : Addr) (A : Cell) (o len : Nat) (args : Array Value) (s : State) : Prop := args = #[.ref b, .int (Int32.ofNat o), .int (Int32.ofNat len)] ∧ Ch b A s ∧ o + len ≤ A.slots.size ∧ len ≤ 536870912 ∧ ∀ i, i < len → ¬ 255 < cv A (o + i)
def E (b : Addr) (A : Cell) (o len : Nat) (r : Option Value) (s u : State) : Prop := NewArr .byte "[B" len (fun j => .int (lo8 (cv A (o + j)))) r s u ∧ u.heap.size = s.heap.size + 1
/-- no char of the range above 255: a new byte[] of their low bytes -/
theorem law (l : Launch) (b : Addr) (A : Cell) (o len : Nat) : Law l yN 3 3 1 18 yB 6 (some (.array .byte)) site (P b A o len) (E b A o len) [] 1 len := by
  refine Law.of_walk (plainFor_of_name (by decide +kernel)) (by decide +kernel) (by decide +kernel) (by decide) (fun _ _ h => by rw [h.1]; rfl) (fun _ U U' hal hh h => ⟨h.1, h.2.1.mv hal hh, h.2.2⟩) (fun r U U' V V' h1 hal h2 h => ⟨NewArr.mv r U U' V V' h1 hal h2 h.1, by rw [h1, h2]; exact h.2⟩) ?_
  intro p e s m args below meth c s₁ X0 hexec hbytes hml hret hlk hnm hown hh0 W hP
  obtain ⟨rfl, hA, l1, l2, hp⟩ := hP
  have a31 := hA.1.2.2.2
  have c1 : Steps p.tables e below (s₁.setTop (entryFrame m #[.ref b, .int (Int32.ofNat o), .int (Int32.ofNat len)] 6)) (s₁.setTop (mkF m 0 #[.val (.ref b), .val (.int (Int32.ofNat o)), .val (.int (Int32.ofNat len)), .unset, .unset, .unset] [])) := entry rfl
  have c2 : Steps p.tables e below (s₁.setTop (entryFrame m #[.ref b, .int (Int32.ofNat o), .int (Int32.ofNat len)] 6)) (s₁.setTop (mkF m 1 #[.val (.ref b), .val (.int (Int32.ofNat o)), .val (.int (Int32.ofNat len)), .unset, .unset, .unset] [.int (Int32.ofNat len)])) := c1.trans (by
    refine XS.iloadN X0.here hexec rfl (hb hbytes d0) rfl ?_
    exact Steps.refl _)
  obtain ⟨T3, B3, X3, ba3, bs3, bv3, bh3, bf3, st3⟩ := X0.anew hexec (atype := .byte) (wk W (.arrayClass .byte)) rfl (by show len * 1 ≤ _; omega) (by omega) (g := (mkF m 1 #[.val (.ref b), .val (.int (Int32.ofNat o)), .val (.int (Int32.ofNat len)), .unset, .unset, .unset] [.int (Int32.ofNat len)])) rfl (hb hbytes d1) (rest := []) rfl (Nat.le_refl _) (by show 0 + len ≤ len; omega)
  rw [hh0] at ba3 st3
  have kp3 : XT.Kept s T3 := (XT.Kept.of_eq hh0).push bh3
  have hA3 := hA.keep X3.warmed.alike (kp3 _ _ hA.1.1)
  have hne : b ≠ s.heap.size := hA.1.ne
  have c4 : Steps p.tables e below (s₁.setTop (entryFrame m #[.ref b, .int (Int32.ofNat o), .int (Int32.ofNat len)] 6)) (T3.setTop (mkF m 3 #[.val (.ref b), .val (.int (Int32.ofNat o)), .val (.int (Int32.ofNat len)), .unset, .unset, .unset] [.ref s.heap.size])) := c2.trans (st3 _ (Steps.refl _))
  have c5 : Steps p.tables e below (s₁.setTop (entryFrame m #[.ref b, .int (Int32.ofNat o), .int (Int32.ofNat len)] 6)) (T3.setTop (mkF m 9 #[.val (.ref b), .val (.int (Int32.ofNat o)), .val (.int (Int32.ofNat len)), .val (.ref s.heap.size), .unset, .unset] [.int (Int32.ofNat len), .int 0, .ref s.heap.size, .int (Int32.ofNat o), .ref b])) := c4.trans (by
    refine XS.astoreN X3.here hexec rfl (hb hbytes d3) rfl rfl rfl ?_
    refine XS.aloadN X3.here hexec rfl (hb hbytes d4) rfl rfl ?_
    refine XS.iloadN X3.here hexec rfl (hb hbytes d5) rfl ?_
    refine XS.aloadN X3.here hexec rfl (hb hbytes d6) rfl rfl ?_
    refine iconstV X3.here hexec rfl 0 (hb hbytes d7) (by decide) ?_
    refine XS.iloadN X3.here hexec rfl (hb hbytes d8) rfl ?_
    exact Steps.refl _)
  obtain ⟨v6, T6, X6, E6, g6⟩ := X3.callS hexec (Cmp5.law l b A s.heap.size B3 o 0 len) hown (wks W (staticW U16 115 Cmp5.yN)) (wk W Cmp5.tab) (W := 0) (Nat.le_of_ble_eq_true rfl) (Nat.le_of_ble_eq_true rfl) (Nat.le_refl _) (by show 0 + len + 0 ≤ len; omega) (g := (mkF m 9 #[.val (.ref b), .val (.int (Int32.ofNat o)), .val (.int (Int32.ofNat len)), .val (.ref s.heap.size), .unset, .unset] [.int (Int32.ofNat len), .int (Int32.ofNat 0), .ref s.heap.size, .int (Int32.ofNat o), .ref b])) rfl (by rw [hml]; rfl) c5 (argsL := [.ref b, .int (Int32.ofNat o), .ref s.heap.size, .int (Int32.ofNat 0), .int (Int32.ofNat len)]) (rest := []) rfl rfl (by show 2 * 0 + 0 ≤ _; decide) (hb hbytes d9) (⟨rfl, hA3, ba3, hne, l1, by rw [bs3]; simp, hp⟩)
  obtain ⟨rfl, B6, p6, f6⟩ := E6
  have c7 : Steps p.tables e below (s₁.setTop (entryFrame m #[.ref b, .int (Int32.ofNat o), .int (Int32.ofNat len)] 6)) (T6.setTop (mkF m 12 #[.val (.ref b), .val (.int (Int32.ofNat o)), .val (.int (Int32.ofNat len)), .val (.ref s.heap.size), .unset, .unset] [.int (Int32.ofNat len)])) := g6
  have c8 : Steps p.tables e below (s₁.setTop (entryFrame m #[.ref b, .int (Int32.ofNat o), .int (Int32.ofNat len)] 6)) (T6.setTop (mkF m 58 #[.val (.ref b), .val (.int (Int32.ofNat o)), .val (.int (Int32.ofNat len)), .val (.ref s.heap.size), .val (.int (Int32.ofNat len)), .unset] [.ref s.heap.size])) := c7.trans (by
    refine XS.istore X6.here hexec rfl (hb hbytes d12) rfl rfl ?_
    refine XS.iload X6.here hexec rfl (hb hbytes d14) rfl ?_
    refine XS.iloadN X6.here hexec rfl (hb hbytes d16) rfl ?_
    refine XS.icmpYes X6.here hexec rfl (pc0 := 17) rfl (hb hbytes d17) rfl (ii_eq_t rfl) (by decide) rfl ?_
    refine XS.aloadN X6.here hexec rfl (hb hbytes d57) rfl rfl ?_
    exact Steps.refl _)
  have X8 := X6.wide (L' := []) (cells' := 1) (slots' := len) (fun x hx hlt => by
    simp only [List.nil_append, copyLocs, List.mem_map, List.mem_range] at hx
    obtain ⟨i, -, rfl⟩ := hx
    exact absurd hlt (Nat.lt_irrefl _)) (Nat.le_refl _) (by omega)
  exact ⟨T6, some (.ref s.heap.size), _, _, _, X8, rfl, rfl, rfl, (fun h => by cases h), ⟨⟨rfl, B6, ba3.like (X3.warmed.alike.symm.trans X6.warmed.alike) p6.1 f6.1 f6.2.1 f6.2.2.1, f6.2.1.trans bv3, by rw [X6.warmed.alike.findClass, f6.1]; exact bf3, by rw [f6.2.2.1, bs3]; simp, fun j hj => by rw [f6.2.2.2 j, if_pos (by omega)]; rfl, kp3.put p6 (Nat.le_refl _)⟩, by rw [p6.2.2, bh3, hh0]; simp⟩, fun fs hl => c8.trans (X8.areturnOut hexec rfl hret rfl (hb hbytes d58) hl)⟩
end Cmp3
namespace CodL
def yN : MethodName := ⟨"java/lang/StringUTF16", "coderFromArrayLen", "([BI)B"⟩
abbrev yB : ByteArray := jdk_52_method_15_code
theorem d0 : decode yB 0 = .ok (.iload_n 1, 1) := by decide +kernel
theorem d1 : decode yB 1 = .ok (.aload_n 0, 1) := by decide +kernel
theorem d2 : decode yB 2 = .ok (.arraylength, 1) := by decide +kernel
theorem d3 : decode yB 3 = .ok (.isub, 1) := by decide +kernel
theorem d4 : decode yB 4 = .ok (.bipush 31, 2) := by decide +kernel
theorem d6 : decode yB 6 = .ok (.iushr, 1) := by decide +kernel
theorem d7 : decode yB 7 = .ok (.i2b, 1) := by decide +kernel
theorem d8 : decode yB 8 = .ok (.ireturn, 1) := by decide +kernel
def site : List Cond := []
def tab : Cond := tabOf yN yB 2 (some .byte) site
def P (d : Addr) (B : Cell) (args : Array Value) (s : State) : Prop := args = #[.ref d, .int (Int32.ofNat B.slots.size)] ∧ Arr .byte d B s
def E (r : Option Value) (s u : State) : Prop := XT.PureE (some (.int 0)) r s u
/-- an array as long as the number of chars: LATIN1 -/
theorem law (l : Launch) (d : Addr) (B : Cell) : Law l yN 2 2 0 0 yB 2 (some .byte) site (P d B) E [] 0 0 := by
  refine Law.of_walk (plainFor_of_name (by decide +kernel)) (by decide +kernel) (by decide +kernel) (by decide) (fun _ _ h => by rw [h.1]; rfl) (fun _ U U' hal hh h => ⟨h.1, h.2.mv hal hh⟩) (fun r U U' V V' h1 hal h2 h => XT.PureE.mv r U U' V V' h1 hal h2 h) ?_
  intro p e s m args below meth c s₁ X0 hexec hbytes hml hret hlk hnm hown hh0 W hP
  obtain ⟨rfl, hB⟩ := hP
  have hB0 := hB.mv X0.warmed.alike hh0
  have c1 : Steps p.tables e below (s₁.setTop (entryFrame m #[.ref d, .int (Int32.ofNat B.slots.size)] 2)) (s₁.setTop (mkF m 0 #[.val (.ref d), .val (.int (Int32.ofNat B.slots.size))] [])) := entry rfl
  have c2 : Steps p.tables e below (s₁.setTop (entryFrame m #[.ref d, .int (Int32.ofNat B.slots.size)] 2)) (s₁.setTop (mkF m 2 #[.val (.ref d), .val (.int (Int32.ofNat B.slots.size))] [.ref d, .int (Int32.ofNat B.slots.size)])) := c1.trans (by
    refine XS.iloadN X0.here hexec rfl (hb hbytes d0) rfl ?_
    refine XS.aloadN X0.here hexec rfl (hb hbytes d1) rfl rfl ?_
    exact Steps.refl _)
  have c3 : Steps p.tables e below (s₁.setTop (entryFrame m #[.ref d, .int (Int32.ofNat B.slots.size)] 2)) (s₁.setTop (mkF m 8 #[.val (.ref d), .val (.int (Int32.ofNat B.slots.size))] [.int (lo8 (ushr (Int32.ofNat B.slots.size - Int32.ofNat B.slots.size) 31))])) := c2.trans (by
    refine X0.alen hexec hB0 rfl rfl (hb hbytes d2) ?_
    refine XS.isub X0.here hexec rfl (hb hbytes d3) rfl ?_
    refine bipushV X0.here hexec rfl 31 (hb hbytes d4) (by decide) ?_
    refine iushr X0.here hexec rfl (hb hbytes d6) rfl ?_
    refine i2b X0.here hexec rfl (hb hbytes d7) rfl ?_
    exact Steps.refl _)
  have e0 : lo8 (ushr (Int32.ofNat B.slots.size - Int32.ofNat B.slots.size) 31) = 0 := by rw [Int32.sub_self]; decide
  rw [e0] at c3
  exact ⟨s₁, some (.int 0), _, _, _, X0, rfl, rfl, rfl, (fun h => by cases h), ⟨rfl, hh0⟩, fun fs hl => c3.trans (X0.ireturnOut hexec hret rfl (Or.inr (Or.inr (Or.inl rfl))) (hb hbytes d8) hl)⟩
end CodL
/-- the String at a is Latin-1 over a new byte[] (the heap's one new cell): the low bytes of the len chars of A from o on; every cell but a is kept -/
def Got (a : Addr) (D : Cell) (fV fC : Field) (A : Cell) (o len : Nat) (r : Option Value) (s u : State) : Prop := r = none ∧ ∃ D' V : Cell, Blank "java/lang/String" a D' u ∧ Same D D' [fV.slot, fC.slot] ∧ D'.slots[fV.slot]? = some (.ref s.heap.size) ∧ D'.slots[fC.slot]? = some (.int 0) ∧ Arr .byte s.heap.size V u ∧ V.vm = .none ∧ u.vm.findClass "[B" = some V.cls ∧ V.slots.size = len ∧ (∀ j, j < len → V.slots[j]? = some (.int (lo8 (cv A (o + j))))) ∧ (∀ (y : Addr) (c : Cell), y ≠ a → s.heap[y]? = some c → u.heap[y]? = some c) ∧ u.heap.size = s.heap.size + 1
theorem Got.mv {a : Addr} {D A : Cell} {fV fC : Field} {o len : Nat} : ∀ r (U U' V V' : State), U'.heap = U.heap → V.vm.Alike V'.vm → V'.heap = V.heap → Got a D fV fC A o len r U V → Got a D fV fC A o len r U' V' :=
  fun r U U' V V' h1 hal h2 ⟨e0, D', X, a1, a2, a3, a4, a5, a6, a7, a8, a9, a10, a11⟩ => ⟨e0, D', X, a1.mv hal h2, a2, by rw [h1]; exact a3, a4, by rw [h1]; exact a5.mv hal h2, a6, by rw [hal.findClass]; exact a7, a8, a9, by rw [h1, h2]; exact a10, by rw [h1, h2]; exact a11⟩
namespace New4
def yN : MethodName := ⟨"java/lang/String", "<init>", "([CIILjava/lang/Void;)V"⟩
abbrev yB : ByteArray := jdk_42_method_149_code
theorem d0 : decode yB 0 = .ok (.aload_n 0, 1) := by decide +kernel
theorem d1 : decode yB 1 = .ok (.invokespecial 1, 3) := by decide +kernel
theorem d4 : decode yB 4 = .ok (.iload_n 3, 1) := by decide +kernel
theorem d5 : decode yB 5 = .ok (.ifCond (.ne) 22, 3) := by decide +kernel
theorem d27 : decode yB 27 = .ok (.getstatic 38, 3) := by decide +kernel
theorem d30 : decode yB 30 = .ok (.ifCond (.eq) 28, 3) := by decide +kernel
theorem d33 : decode yB 33 = .ok (.aload_n 1, 1) := by decide +kernel
theorem d34 : decode yB 34 = .ok (.iload_n 2, 1) := by decide +kernel
theorem d35 : decode yB 35 = .ok (.iload_n 3, 1) := by decide +kernel
theorem d36 : decode yB 36 = .ok (.invokestatic 177, 3) := by decide +kernel
theorem d39 : decode yB 39 = .ok (.astore 5, 2) := by decide +kernel
theorem d41 : decode yB 41 = .ok (.aload_n 0, 1) := by decide +kernel
theorem d42 : decode yB 42 = .ok (.aload 5, 2) := by decide +kernel
theorem d44 : decode yB 44 = .ok (.iload_n 3, 1) := by decide +kernel
theorem d45 : decode yB 45 = .ok (.invokestatic 47, 3) := by decide +kernel
theorem d48 : decode yB 48 = .ok (.putfield 15, 3) := by decide +kernel
theorem d51 : decode yB 51 = .ok (.aload_n 0, 1) := by decide +kernel
theorem d52 : decode yB 52 = .ok (.aload 5, 2) := by decide +kernel
theorem d54 : decode yB 54 = .ok (.putfield 9, 3) := by decide +kernel
theorem d57 : decode yB 57 = .ok (.return_, 1) := by decide +kernel
def site : List Cond := [.fieldLink "java/lang/String" 38 "java/lang/String" "COMPACT_STRINGS" "Z", Cmp3.tab, CodL.tab, .laysFinal "java/lang/String" "java/lang/String" "value" "[B", .fieldLink "java/lang/String" 9 "java/lang/String" "value" "[B", .laysFinal "java/lang/String" "java/lang/String" "coder" "B", .fieldLink "java/lang/String" 15 "java/lang/String" "coder" "B"] ++ objW "java/lang/String" 1 ++ staticW "java/lang/String" 177 Cmp3.yN ++ staticW "java/lang/String" 47 CodL.yN
def tab : Cond := tabOf yN yB 6 none site
def P (a : Addr) (D : Cell) (fV fC : Field) (b : Addr) (A : Cell) (z : Int32) (o len : Nat) (args : Array Value) (s : State) : Prop := args = #[.ref a, .ref b, .int (Int32.ofNat o), .int (Int32.ofNat len), .null] ∧ Blank "java/lang/String" a D s ∧ Found "java/lang/String" "value" "[B" fV s ∧ Found "java/lang/String" "coder" "B" fC s ∧ Ch b A s ∧ StaticIs s "java/lang/String" "COMPACT_STRINGS" "Z" (.int z) ∧ ¬ z = 0 ∧ 0 < len ∧ o + len ≤ A.slots.size ∧ len ≤ 536870912 ∧ ∀ i, i < len → ¬ 255 < cv A (o + i)
def E (a : Addr) (D : Cell) (fV fC : Field) (A : Cell) (o len : Nat) (r : Option Value) (s u : State) : Prop := Got a D fV fC A o len r s u
/-- len > 0, no char of the range above 255: a Latin-1 String of their low bytes -/
theorem law (l : Launch) (a : Addr) (D : Cell) (fV fC : Field) (b : Addr) (A : Cell) (z : Int32) (o len : Nat) : Law l yN 5 4 2 35 yB 6 none site (P a D fV fC b A z o len) (E a D fV fC A o len) [⟨a, fC.slot⟩, ⟨a, fV.slot⟩] 1 len := by
  refine Law.of_walk (plainFor_of_name (by decide +kernel)) (by decide +kernel) (by decide +kernel) (by decide) (fun _ _ h => by rw [h.1]; rfl) (fun _ U U' hal hh h => ⟨h.1, h.2.1.mv hal hh, h.2.2.1.al hal, h.2.2.2.1.al hal, h.2.2.2.2.1.mv hal hh, h.2.2.2.2.2.1.there hal hh, h.2.2.2.2.2.2⟩) (fun r U U' V V' h1 hal h2 h => Got.mv r U U' V V' h1 hal h2 h) ?_
  intro p e s m args below meth c s₁ X0 hexec hbytes hml hret hlk hnm hown hh0 W hP
  obtain ⟨rfl, hB, f1, f2, hA, s1, hz, l0, l1, l2, hp⟩ := hP
  have a31 := hA.1.2.2.2
  have c1 : Steps p.tables e below (s₁.setTop (entryFrame m #[.ref a, .ref b, .int (Int32.ofNat o), .int (Int32.ofNat len), .null] 6)) (s₁.setTop (mkF m 0 #[.val (.ref a), .val (.ref b), .val (.int (Int32.ofNat o)), .val (.int (Int32.ofNat len)), .val .null, .unset] [])) := entry rfl
  have c2 : Steps p.tables e below (s₁.setTop (entryFrame m #[.ref a, .ref b, .int (Int32.ofNat o), .int (Int32.ofNat len), .null] 6)) (s₁.setTop (mkF m 1 #[.val (.ref a), .val (.ref b), .val (.int (Int32.ofNat o)), .val (.int (Int32.ofNat len)), .val .null, .unset] [.ref a])) := c1.trans (by
    refine XS.aloadN X0.here hexec rfl (hb hbytes d0) rfl rfl ?_
    exact Steps.refl _)
  obtain ⟨T3, X3, q3, st3⟩ := X0.oinit hexec hown (wks W (objW "java/lang/String" 1)) (g := (mkF m 1 #[.val (.ref a), .val (.ref b), .val (.int (Int32.ofNat o)), .val (.int (Int32.ofNat len)), .val .null, .unset] [.ref a])) rfl (by rw [hml]; rfl) (rest := []) rfl (hb hbytes d1) (W := 0) (by show 2 * 0 + 0 ≤ _; decide) (Nat.le_of_ble_eq_true rfl) (Nat.le_of_ble_eq_true rfl)
  have hh3 := q3.trans hh0
  have c4 : Steps p.tables e below (s₁.setTop (entryFrame m #[.ref a, .ref b, .int (Int32.ofNat o), .int (Int32.ofNat len), .null] 6)) (T3.setTop (mkF m 27 #[.val (.ref a), .val (.ref b), .val (.int (Int32.ofNat o)), .val (.int (Int32.ofNat len)), .val .null, .unset] [])) := (c2.trans (st3 _ (Steps.refl _))).trans (by
    refine XS.iloadN X3.here hexec rfl (hb hbytes d4) rfl ?_
    refine XS.ifYes X3.here hexec rfl (pc0 := 5) rfl (hb hbytes d5) rfl (i0_ne_t (nz32 (by omega) l0)) (by decide) rfl ?_
    exact Steps.refl _)
  obtain ⟨T5, X5, q5, st5⟩ := X3.sget hexec hown (wk W (.fieldLink "java/lang/String" 38 "java/lang/String" "COMPACT_STRINGS" "Z")) s1 (fun _ _ h => by rw [hh3]; exact h) (g := (mkF m 27 #[.val (.ref a), .val (.ref b), .val (.int (Int32.ofNat o)), .val (.int (Int32.ofNat len)), .val .null, .unset] [])) rfl (hb hbytes d27)
  have hh5 := q5.trans hh3
  have c6 : Steps p.tables e below (s₁.setTop (entryFrame m #[.ref a, .ref b, .int (Int32.ofNat o), .int (Int32.ofNat len), .null] 6)) (T5.setTop (mkF m 30 #[.val (.ref a), .val (.ref b), .val (.int (Int32.ofNat o)), .val (.int (Int32.ofNat len)), .val .null, .unset] [.int z])) := c4.trans (st5 _ (Steps.refl _))
  have c7 : Steps p.tables e below (s₁.setTop (entryFrame m #[.ref a, .ref b, .int (Int32.ofNat o), .int (Int32.ofNat len), .null] 6)) (T5.setTop (mkF m 36 #[.val (.ref a), .val (.ref b), .val (.int (Int32.ofNat o)), .val (.int (Int32.ofNat len)), .val .null, .unset] [.int (Int32.ofNat len), .int (Int32.ofNat o), .ref b])) := c6.trans (by
    refine XS.ifNo X5.here hexec rfl (hb hbytes d30) rfl (i0_eq_f hz) ?_
    refine XS.aloadN X5.here hexec rfl (hb hbytes d33) rfl rfl ?_
    refine XS.iloadN X5.here hexec rfl (hb hbytes d34) rfl ?_
    refine XS.iloadN X5.here hexec rfl (hb hbytes d35) rfl ?_
    exact Steps.refl _)
  obtain ⟨v8, T8, X8, E8, g8⟩ := X5.callS hexec (Cmp3.law l b A o len) hown (wks W (staticW "java/lang/String" 177 Cmp3.yN)) (wk W Cmp3.tab) (W := 0) (Nat.le_of_ble_eq_true rfl) (Nat.le_of_ble_eq_true rfl) (Nat.le_refl _) (by show 0 + len ≤ len; omega) (g := (mkF m 36 #[.val (.ref a), .val (.ref b), .val (.int (Int32.ofNat o)), .val (.int (Int32.ofNat len)), .val .null, .unset] [.int (Int32.ofNat len), .int (Int32.ofNat o), .ref b])) rfl (by rw [hml]; rfl) c7 (argsL := [.ref b, .int (Int32.ofNat o), .int (Int32.ofNat len)]) (rest := []) rfl rfl (by show 2 * 0 + 0 ≤ _; decide) (hb hbytes d36) (⟨rfl, hA.mv X5.warmed.alike hh5, l1, l2, hp⟩)
  obtain ⟨e8, z8⟩ := E8
  obtain ⟨rfl, N, n1, n2, n3, n4, n5, n6⟩ := NewArr.mv _ T5 s _ _ hh5.symm (Vm.Alike.refl _) rfl e8
  rw [hh5] at z8
  have hB1 := hB.keep X8.warmed.alike (n6 _ _ hB.1)
  have hne : s.heap.size ≠ a := (Nat.ne_of_lt (Array.getElem?_eq_some_iff.mp hB.1).1).symm
  have c9 : Steps p.tables e below (s₁.setTop (entryFrame m #[.ref a, .ref b, .int (Int32.ofNat o), .int (Int32.ofNat len), .null] 6)) (T8.setTop (mkF m 39 #[.val (.ref a), .val (.ref b), .val (.int (Int32.ofNat o)), .val (.int (Int32.ofNat len)), .val .null, .unset] [.ref s.heap.size])) := g8
  have c10 : Steps p.tables e below (s₁.setTop (entryFrame m #[.ref a, .ref b, .int (Int32.ofNat o), .int (Int32.ofNat len), .null] 6)) (T8.setTop (mkF m 45 #[.val (.ref a), .val (.ref b), .val (.int (Int32.ofNat o)), .val (.int (Int32.ofNat len)), .val .null, .val (.ref s.heap.size)] [.int (Int32.ofNat N.slots.size), .ref s.heap.size, .ref a])) := by
    have hc : Steps p.tables e below (s₁.setTop (entryFrame m #[.ref a, .ref b, .int (Int32.ofNat o), .int (Int32.ofNat len), .null] 6)) (T8.setTop (mkF m 45 #[.val (.ref a), .val (.ref b), .val (.int (Int32.ofNat o)), .val (.int (Int32.ofNat len)), .val .null, .val (.ref s.heap.size)] [.int (Int32.ofNat len), .ref s.heap.size, .ref a])) := c9.trans (by
      refine XS.astore X8.here hexec rfl (hb hbytes d39) rfl rfl rfl ?_
      refine XS.aloadN X8.here hexec rfl (hb hbytes d41) rfl rfl ?_
      refine XS.aload X8.here hexec rfl (hb hbytes d42) rfl rfl ?_
      refine XS.iloadN X8.here hexec rfl (hb hbytes d44) rfl ?_
      exact Steps.refl _)
    rw [n4]; exact hc
  obtain ⟨v11, T11, X11, E11, g11⟩ := X8.callS hexec (CodL.law l s.heap.size N) hown (wks W (staticW "java/lang/String" 47 CodL.yN)) (wk W CodL.tab) (W := 1) (Nat.le_of_ble_eq_true rfl) (Nat.le_of_ble_eq_true rfl) (Nat.le_refl _) (by show 0 + len + 0 ≤ len; omega) (g := (mkF m 45 #[.val (.ref a), .val (.ref b), .val (.int (Int32.ofNat o)), .val (.int (Int32.ofNat len)), .val .null, .val (.ref s.heap.size)] [.int (Int32.ofNat N.slots.size), .ref s.heap.size, .ref a])) rfl (by rw [hml]; rfl) c10 (argsL := [.ref s.heap.size, .int (Int32.ofNat N.slots.size)]) (rest := [.ref a]) rfl rfl (by show 2 * 0 + (1 + 0) ≤ _; decide) (hb hbytes d45) (⟨rfl, n1⟩)
  obtain ⟨rfl, q11⟩ := E11
  have hB11 := hB1.mv (X8.warmed.alike.symm.trans X11.warmed.alike) q11
  have c12 : Steps p.tables e below (s₁.setTop (entryFrame m #[.ref a, .ref b, .int (Int32.ofNat o), .int (Int32.ofNat len), .null] 6)) (T11.setTop (mkF m 48 #[.val (.ref a), .val (.ref b), .val (.int (Int32.ofNat o)), .val (.int (Int32.ofNat len)), .val .null, .val (.ref s.heap.size)] [.int 0, .ref a])) := g11
  obtain ⟨T13, X13, p13, bl13, sl13, st13⟩ := X11.finit hexec hown (wk W (.fieldLink "java/lang/String" 15 "java/lang/String" "coder" "B")) (Or.inr ⟨_, (wk W (.laysFinal "java/lang/String" "java/lang/String" "coder" "B"))⟩) (Or.inl ⟨rfl, hnm⟩) f2 (Or.inl rfl) hB11 (t := .byte) (by decide +kernel) rfl (g := (mkF m 48 #[.val (.ref a), .val (.ref b), .val (.int (Int32.ofNat o)), .val (.int (Int32.ofNat len)), .val .null, .val (.ref s.heap.size)] [.int 0, .ref a])) rfl (rest := []) rfl (hb hbytes d48)
  have c14 : Steps p.tables e below (s₁.setTop (entryFrame m #[.ref a, .ref b, .int (Int32.ofNat o), .int (Int32.ofNat len), .null] 6)) (T13.setTop (mkF m 54 #[.val (.ref a), .val (.ref b), .val (.int (Int32.ofNat o)), .val (.int (Int32.ofNat len)), .val .null, .val (.ref s.heap.size)] [.ref s.heap.size, .ref a])) := (c12.trans (st13 _ (Steps.refl _))).trans (by
    refine XS.aloadN X13.here hexec rfl (hb hbytes d51) rfl rfl ?_
    refine XS.aload X13.here hexec rfl (hb hbytes d52) rfl rfl ?_
    exact Steps.refl _)
  obtain ⟨T15, X15, p15, bl15, sl15, st15⟩ := X13.finit hexec hown (wk W (.fieldLink "java/lang/String" 9 "java/lang/String" "value" "[B")) (Or.inr ⟨_, (wk W (.laysFinal "java/lang/String" "java/lang/String" "value" "[B"))⟩) (Or.inl ⟨rfl, hnm⟩) f1 (Or.inl rfl) bl13 (t := (.array .byte)) (by decide +kernel) rfl (g := (mkF m 54 #[.val (.ref a), .val (.ref b), .val (.int (Int32.ofNat o)), .val (.int (Int32.ofNat len)), .val .null, .val (.ref s.heap.size)] [.ref s.heap.size, .ref a])) rfl (rest := []) rfl (hb hbytes d54)
  have c16 : Steps p.tables e below (s₁.setTop (entryFrame m #[.ref a, .ref b, .int (Int32.ofNat o), .int (Int32.ofNat len), .null] 6)) (T15.setTop (mkF m 57 #[.val (.ref a), .val (.ref b), .val (.int (Int32.ofNat o)), .val (.int (Int32.ofNat len)), .val .null, .val (.ref s.heap.size)] [])) := c14.trans (st15 _ (Steps.refl _))
  have ap := apart (Or.inr ⟨_, (wk W (.laysFinal "java/lang/String" "java/lang/String" "value" "[B"))⟩) (Or.inr ⟨_, (wk W (.laysFinal "java/lang/String" "java/lang/String" "coder" "B"))⟩) f1 f2 (t₁ := .array .byte) (t₂ := .byte) (by decide +kernel) (by decide +kernel) (by decide)
  have al := X8.warmed.alike.symm.trans X15.warmed.alike
  have n7 : T11.heap[s.heap.size]? = some N := by rw [q11]; exact n1.1
  exact ⟨T15, none, _, _, _, X15, by simp, rfl, by omega, (fun _ => rfl), ⟨rfl, _, N, bl15, ((Same.refl D _).set _ (by simp)).set _ (by simp), sl15, (Cell.slots_setSlot_ne _ ap).trans sl13, n1.keep al (p15.other hne (p13.other hne n7)), n2, by rw [al.findClass]; exact n3, n4, n5, fun y c h1 h2 => p15.other h1 (p13.other h1 (by rw [q11]; exact n6 y c h2)), by rw [p15.2.2, p13.2.2, q11]; exact z8⟩, fun fs hl => c16.trans (X15.returnOut hexec hret (hb hbytes d57) hl)⟩
end New4
namespace New1
def yN : MethodName := ⟨"java/lang/String", "<init>", "([C)V"⟩
abbrev yB : ByteArray := jdk_42_method_3_code
theorem d0 : decode yB 0 = .ok (.aload_n 0, 1) := by decide +kernel
theorem d1 : decode yB 1 = .ok (.aload_n 1, 1) := by decide +kernel
theorem d2 : decode yB 2 = .ok (.iconst 0, 1) := by decide +kernel
theorem d3 : decode yB 3 = .ok (.aload_n 1, 1) := by decide +kernel
theorem d4 : decode yB 4 = .ok (.arraylength, 1) := by decide +kernel
theorem d5 : decode yB 5 = .ok (.aconst_null, 1) := by decide +kernel
theorem d6 : decode yB 6 = .ok (.invokespecial 27, 3) := by decide +kernel
theorem d9 : decode yB 9 = .ok (.return_, 1) := by decide +kernel
def site : List Cond := [New4.tab] ++ initW "java/lang/String" 27 New4.yN
def tab : Cond := tabOf yN yB 2 none site
def P (a : Addr) (D : Cell) (fV fC : Field) (b : Addr) (A : Cell) (z : Int32) (args : Array Value) (s : State) : Prop := args = #[.ref a, .ref b] ∧ Blank "java/lang/String" a D s ∧ Found "java/lang/String" "value" "[B" fV s ∧ Found "java/lang/String" "coder" "B" fC s ∧ Ch b A s ∧ StaticIs s "java/lang/String" "COMPACT_STRINGS" "Z" (.int z) ∧ ¬ z = 0 ∧ 0 < A.slots.size ∧ A.slots.size ≤ 536870912 ∧ ∀ i, i < A.slots.size → ¬ 255 < cv A i
def E (a : Addr) (D : Cell) (fV fC : Field) (A : Cell) (r : Option Value) (s u : State) : Prop := Got a D fV fC A 0 A.slots.size r s u
/-- new String(chars), not empty, no char above 255: a Latin-1 String of their low bytes -/
theorem law (l : Launch) (a : Addr) (D : Cell) (fV fC : Field) (b : Addr) (A : Cell) (z : Int32) : Law l yN 2 1 3 52 yB 2 none site (P a D fV fC b A z) (E a D fV fC A) [⟨a, fC.slot⟩, ⟨a, fV.slot⟩] 1 A.slots.size := by
  refine Law.of_walk (plainFor_of_name (by decide +kernel)) (by decide +kernel) (by decide +kernel) (by decide) (fun _ _ h => by rw [h.1]; rfl) (fun _ U U' hal hh h => ⟨h.1, h.2.1.mv hal hh, h.2.2.1.al hal, h.2.2.2.1.al hal, h.2.2.2.2.1.mv hal hh, h.2.2.2.2.2.1.there hal hh, h.2.2.2.2.2.2⟩) (fun r U U' V V' h1 hal h2 h => Got.mv r U U' V V' h1 hal h2 h) ?_
  intro p e s m args below meth c s₁ X0 hexec hbytes hml hret hlk hnm hown hh0 W hP
  obtain ⟨rfl, hB, f1, f2, hA, s1, hz, l0, l2, hp⟩ := hP
  have c1 : Steps p.tables e below (s₁.setTop (entryFrame m #[.ref a, .ref b] 2)) (s₁.setTop (mkF m 0 #[.val (.ref a), .val (.ref b)] [])) := entry rfl
  have c2 : Steps p.tables e below (s₁.setTop (entryFrame m #[.ref a, .ref b] 2)) (s₁.setTop (mkF m 6 #[.val (.ref a), .val (.ref b)] [.null, .int (Int32.ofNat A.slots.size), .int 0, .ref b, .ref a])) := c1.trans (by
    refine XS.aloadN X0.here hexec rfl (hb hbytes d0) rfl rfl ?_
    refine XS.aloadN X0.here hexec rfl (hb hbytes d1) rfl rfl ?_
    refine iconstV X0.here hexec rfl 0 (hb hbytes d2) (by decide) ?_
    refine XS.aloadN X0.here hexec rfl (hb hbytes d3) rfl rfl ?_
    refine X0.alen hexec (hA.1.mv X0.warmed.alike hh0) rfl rfl (hb hbytes d4) ?_
    refine XS.aconstNull X0.here hexec rfl (hb hbytes d5) ?_
    exact Steps.refl _)
  obtain ⟨v3, T3, X3, E3, g3⟩ := X0.callN hexec (New4.law l a D fV fC b A z 0 A.slots.size) rfl hown (wks W (initW "java/lang/String" 27 New4.yN)) (W New4.tab (by simp only [site, List.mem_cons, List.mem_append, true_or, or_true])) (W := 0) (Nat.le_of_ble_eq_true rfl) (Nat.le_of_ble_eq_true rfl) (Nat.le_refl _) (by show 0 + A.slots.size ≤ A.slots.size; omega) (g := (mkF m 6 #[.val (.ref a), .val (.ref b)] [.null, .int (Int32.ofNat A.slots.size), .int (Int32.ofNat 0), .ref b, .ref a])) rfl (by rw [hml]; rfl) c2 (argsL := [.ref b, .int (Int32.ofNat 0), .int (Int32.ofNat A.slots.size), .null]) (rest := []) rfl rfl (by show 2 * 0 + 0 ≤ _; decide) (hb hbytes d6) (⟨rfl, hB.mv X0.warmed.alike hh0, f1.al X0.warmed.alike, f2.al X0.warmed.alike, hA.mv X0.warmed.alike hh0, s1.there X0.warmed.alike hh0, hz, l0, by omega, l2, fun i hi => by rw [Nat.zero_add]; exact hp i hi⟩)
  have e0 := Got.mv _ s₁ s _ _ hh0.symm (Vm.Alike.refl _) rfl E3
  obtain rfl := e0.1
  have c4 : Steps p.tables e below (s₁.setTop (entryFrame m #[.ref a, .ref b] 2)) (T3.setTop (mkF m 9 #[.val (.ref a), .val (.ref b)] [])) := g3
  exact ⟨T3, none, _, _, _, X3, by simp, rfl, by omega, (fun _ => rfl), e0, fun fs hl => c4.trans (X3.returnOut hexec hret (hb hbytes d9) hl)⟩
theorem pays {l : Launch} {R : Room} {p : Program} {e : Env} {below : List Frame} {s : State} {sargs : Array Value} {len W : Nat} (a : Addr) (D : Cell) (fV fC : Field) (b : Addr) (A : Cell) (z : Int32) (htab : tab.before sargs s = true) (hfr : 4 ≤ R.frames) (hlo : W + 65 ≤ R.locals) :
    Back l R p e below s sargs yN len W (fun A₁ a₁ => A₁.cells + 1 ≤ R.cells ∧ A₁.slots + A.slots.size ≤ R.slots ∧ P a D fV fC b A z a₁ A₁.U) (fun A₁ _ v₁ B₁ => E a D fV fC A v₁ A₁.U B₁.U ∧ B₁.locs = A₁.locs ++ [⟨a, fC.slot⟩, ⟨a, fV.slot⟩] ∧ B₁.cells = A₁.cells + 1 ∧ B₁.slots = A₁.slots + A.slots.size) :=
  (law l a D fV fC b A z).pays htab hfr (by omega)
end New1
/-- the byte, read back as charAt reads it, is the char -/
theorem lo8_mask {x : Int32} (h0 : ¬ x < 0) (h1 : ¬ 255 < x) : lo8 x &&& 255 = x := by
  have t : ∀ k : Fin 256, lo8 (Int32.ofNat k.val) &&& 255 = Int32.ofNat k.val := by decide +kernel
  rw [Int32.lt_iff_toInt_lt] at h0 h1
  have e0 : (0 : Int32).toInt = 0 := rfl
  have e1 : (255 : Int32).toInt = 255 := rfl
  obtain ⟨k, hk⟩ : ∃ k : Nat, x.toInt = k := ⟨x.toInt.toNat, by omega⟩
  have hx : x = Int32.ofNat k := Int32.toInt_inj.mp (by rw [hk, Int32.toInt_ofNat_small (by omega)])
  rw [hx]
  exact t ⟨k, by omega⟩
end StrChars
namespace StrChars.Road
open Jvm Sem ClassFile Op Lib Jvm.Stand Jvm.Free Jvm.Free.XT
open Jvm.Lib.Cold (StaticIs)
abbrev ST : String := "java/lang/String"
/-- every table word that New1's law asks, flat -/
abbrev words : List Jvm.Cond := [.code New1.yN New1.yB 2 none, .initialized ST, .methodLink ST 27 New4.yN, .instanceMethod New4.yN,
  .code New4.yN New4.yB 6 none, .fieldLink ST 38 ST "COMPACT_STRINGS" "Z", .laysFinal ST ST "value" "[B", .fieldLink ST 9 ST "value" "[B", .laysFinal ST ST "coder" "B", .fieldLink ST 15 ST "coder" "B",
  .methodLink ST 1 Lib.objectInit, .instanceMethod Lib.objectInit, .code Lib.objectInit ⟨#[0xb1]⟩ 1 none, .methodLink ST 177 Cmp3.yN, .static Cmp3.yN, .methodLink ST 47 CodL.yN, .static CodL.yN,
  .code Cmp3.yN Cmp3.yB 6 (some (.array .byte)), .initialized U16, .arrayClass .byte, .methodLink U16 115 Cmp5.yN, .static Cmp5.yN, .code Cmp5.yN Cmp5.yB 7 (some .int), .code CodL.yN CodL.yB 2 (some .byte)]
theorem tab_of {a : Array Value} {s : State} (h : ∀ w ∈ words, w.before a s = true) : New1.tab.before a s = true := by
  have h5 : Cmp5.tab.before a s = true := unparts (wk h (.code Cmp5.yN Cmp5.yB 7 (some .int))) (wks h (.initialized Cmp5.yN.cls :: Cmp5.site))
  have hc : CodL.tab.before a s = true := unparts (wk h (.code CodL.yN CodL.yB 2 (some .byte))) (wks h (.initialized CodL.yN.cls :: CodL.site))
  have q5 : ∀ w ∈ Cmp5.tab :: words, w.before a s = true := fun w hw => (List.mem_cons.mp hw).elim (fun e => e ▸ h5) (h w)
  have h3 : Cmp3.tab.before a s = true := unparts (wk q5 (.code Cmp3.yN Cmp3.yB 6 (some (.array .byte)))) (wks q5 (.initialized Cmp3.yN.cls :: Cmp3.site))
  have q3 : ∀ w ∈ Cmp3.tab :: CodL.tab :: words, w.before a s = true := fun w hw => (List.mem_cons.mp hw).elim (fun e => e ▸ h3) fun hw => (List.mem_cons.mp hw).elim (fun e => e ▸ hc) (h w)
  have h4 : New4.tab.before a s = true := unparts (wk q3 (.code New4.yN New4.yB 6 none)) (wks q3 (.initialized New4.yN.cls :: New4.site))
  have q4 : ∀ w ∈ New4.tab :: words, w.before a s = true := fun w hw => (List.mem_cons.mp hw).elim (fun e => e ▸ h4) (h w)
  exact unparts (wk q4 (.code New1.yN New1.yB 2 none)) (wks q4 (.initialized New1.yN.cls :: New1.site))
/-- the words ride from the start Z to the walk's own state -/
theorem moved {Z s : State} {a0 args : Array Value} (hZ : Z.Warmed39 s.vm) (hw : ∀ d ∈ words, d.before a0 Z = true) : ∀ d ∈ words, d.before args s = true := fun d hd => by
  have q := hw d hd
  have t : ∀ d ∈ words, d = .arrayClass .byte ∨ (d.onTables && d.keepsFace) = true := by decide +kernel
  rcases t d hd with rfl | t
  · exact RoadKit.mvA hZ q
  · exact RoadKit.mv hZ q t
/-- WHAT COMES BACK, over the tables of the start Z: h the heap at the call, h' behind it -/
def Q (Z : State) (x : Addr) (A : Cell) (h : Heap) (v : Option Value) (h' : Heap) (L : List Loc) : Prop := v = none ∧ (∀ y ∈ L, y.base = x) ∧ RoadKit.Keep h h' [x] ∧ h'.size = h.size + 1 ∧ RoadKit.Exa Z h' x ST ∧ RoadKit.Fld Z h' x ST "value" "[B" (.ref h.size) ∧ RoadKit.Fld Z h' x ST "coder" "B" (.int 0) ∧
  (∃ V : Cell, RoadKit.Arr Z h' h.size V .byte ∧ V.vm = .none ∧ Z.vm.findClass "[B" = some V.cls ∧ V.slots.size = A.slots.size ∧ ∀ j, j < A.slots.size → V.slots[j]? = some (.int (lo8 (cv A j)))) ∧
  ∀ (O n d : String) (w : Value), RoadKit.Fld Z h x O n d w → RoadKit.slotOf Z O n d ≠ RoadKit.slotOf Z ST "value" "[B" → RoadKit.slotOf Z O n d ≠ RoadKit.slotOf Z ST "coder" "B" → RoadKit.Fld Z h' x O n d w
/-- **new String(chars) AT A CALL, IN THE ROAD'S FORM**: for specialBack behind newO: x the fresh String, b the char[] with the cell A -/
theorem back {p : Program} {l : Launch} {e : Env} {R : Room} {s : State} {args : Array Value} {below : List Frame} {len W : Nat} {Z : State} {a0 : Array Value} {h : Heap} (hZ : Z.Warmed39 s.vm) (hw : ∀ d ∈ words, d.before a0 Z = true) {kI : Nat} (wi : (Jvm.Cond.instantiable ST kI).before a0 Z = true)
    {x b : Addr} {A : Cell} {z : Int32} {v0 c0 : Value} (E : RoadKit.Exa Z h x ST) (V : RoadKit.Fld Z h x ST "value" "[B" v0) (C : RoadKit.Fld Z h x ST "coder" "B" c0) (K : RoadKit.Arr Z h b A .char) (hty : Typed .char A) (S : RoadKit.Sta Z h ST "COMPACT_STRINGS" "Z" (.int z)) (hz : ¬ z = 0)
    (l0 : 0 < A.slots.size) (l2 : A.slots.size ≤ 536870912) (hp : ∀ i, i < A.slots.size → ¬ 255 < cv A i) (hfr : 4 ≤ R.frames) (hlo : W + 65 ≤ R.locals) :
    Back l R p e below s args New1.yN len W (fun P a => a = #[.ref x, .ref b] ∧ P.U.heap = h ∧ P.cells + 1 ≤ R.cells ∧ P.slots + A.slots.size ≤ R.slots)
      (fun P _ v B => ∃ L, Q Z x A h v B.U.heap L ∧ B.locs = P.locs ++ L ∧ B.cells = P.cells + 1 ∧ B.slots = P.slots + A.slots.size) := by
  intro m meth c P g ig mk a X hg hsize hdg hW hn hp'
  obtain ⟨rfl, rfl, r1, r2⟩ := hp'
  have al : Z.vm.Alike P.U.vm := hZ.alike.trans X.warmed.alike
  obtain ⟨D, cfV, kV, iV, fV, hD, gV, stV, knV, obV, asV, slV⟩ := id V
  obtain ⟨D', cfC, kC, iC, fC, hD', gC, stC, -, -, asC, slC⟩ := id C
  cases hD.symm.trans hD'
  obtain ⟨D2, kD, e1, e2, e3, e4, e5⟩ := id E
  cases hD.symm.trans e1
  obtain ⟨c2, k2, i1, i2, i3, -⟩ := Cond.instantiable_spec wi
  cases e2.symm.trans i1
  cases e3.symm.trans i2
  obtain ⟨kU, u1, u2⟩ := al.2.2 _ _ e3
  have hB : Blank ST x D P.U := ⟨hD, ⟨knV, fun q hq => by rw [hq] at obV; cases obV⟩, by rw [al.findClass]; exact e2, kU, u1, by rw [u2]; exact i3, by rw [u2]; exact e5 i3⟩
  have F1 : Found ST "value" "[B" fV P.U := ⟨SBG.found_only al ⟨cfV, kV, iV, gV⟩, stV⟩
  have F2 : Found ST "coder" "B" fC P.U := ⟨SBG.found_only al ⟨cfC, kC, iC, gC⟩, stC⟩
  have hA : Ch b A P.U := ⟨⟨K.1, State.isArrayOf_alike al K.2.1, K.2.2, by omega⟩, hty⟩
  have hS : StaticIs P.U ST "COMPACT_STRINGS" "Z" (.int z) := by
    obtain ⟨cfS, iS, kS, fS, st, cS, t1, t2, t3, t4, t5, t6, t7⟩ := S
    exact StaticIs.there (s := { Z with heap := P.U.heap }) ⟨cfS, iS, kS, fS, st, cS, t1, t2, t3, t4, t5, (fun q => by rw [q] at t6; cases t6), t7⟩ al rfl
  obtain ⟨v, B, X', ⟨⟨hv, E', V', q1, q2, q3, q4, q5, q6, q7, q8, q9, q10, q11⟩, hl, hc, hs⟩, st⟩ := New1.pays x D fV fC b A z (tab_of (moved hZ hw)) hfr hlo m meth c P g ig mk _ X hg hsize hdg hW hn ⟨r1, r2, rfl, hB, F1, F2, hA, hS, hz, l0, l2, hp⟩
  have al' : Z.vm.Alike B.U.vm := hZ.alike.trans X'.warmed.alike
  have hsz : E'.slots.size = D.slots.size := by
    obtain ⟨-, -, -, kB, w1, w2, w3⟩ := q1
    obtain ⟨kB', y1, y2⟩ := al'.2.2 _ _ e3
    rw [q2.2.1] at w1
    cases w1.symm.trans y1
    rw [w3, e5 i3, y2]
  refine ⟨v, B, X', ⟨_, ⟨hv, ?_, ⟨by omega, fun y cy hy hn' => q10 y cy (by simpa using hn') hy, fun y cy hy => ?_⟩, q11, ⟨E', _, q1.1, by rw [q2.2.1]; exact e2, by rw [q2.2.1]; exact e3, by rw [q2.1]; exact obV, fun _ => by rw [hsz]; exact e5 i3⟩,
    ⟨E', cfV, kV, iV, fV, q1.1, gV, stV, by rw [q2.1]; exact knV, by rw [q2.1]; exact obV, by rw [q2.2.1]; exact asV, q3⟩, ⟨E', cfC, kC, iC, fC, q1.1, gC, stC, by rw [q2.1]; exact knV, by rw [q2.1]; exact obV, by rw [q2.2.1]; exact asC, q4⟩,
    ⟨V', ⟨q5.1, State.isArrayOf_alike al'.symm q5.2.1, q5.2.2.1⟩, q6, by rw [← al'.findClass]; exact q7, q8, fun j hj => by have := q9 j hj; rwa [Nat.zero_add] at this⟩, fun O n d w F n1 n2 => ?_⟩, hl, hc, hs⟩, st⟩
  · intro y hy
    simp only [List.mem_cons, List.not_mem_nil, or_false] at hy
    rcases hy with rfl | rfl <;> rfl
  · by_cases q : y = x
    · subst q
      cases hD.symm.trans hy
      exact ⟨E', q1.1, q2.2.1, q2.1, hsz⟩
    · exact ⟨cy, q10 y cy q hy, rfl, rfl, rfl⟩
  · obtain ⟨D3, cf, k, i, f, g1, g2, g3, g4, g5, g6, g7⟩ := F
    cases hD.symm.trans g1
    simp only [RoadKit.slotOf, g2, gV, gC, Option.map_some, Option.getD_some] at n1 n2
    exact ⟨E', cf, k, i, f, q1.1, g2, g3, by rw [q2.1]; exact g4, by rw [q2.1]; exact g5, by rw [q2.2.1]; exact g6, by rw [q2.2.2 f.slot (by simp [n1, n2])]; exact g7⟩
end StrChars.Road
namespace StrChars.Road
open Jvm Sem ClassFile Op Lib Jvm.Stand Jvm.Free Jvm.Free.XT
/-- WHAT COMES BACK, the byte[] as a list of values -/
def QA (Z : State) (x : Addr) (zn : Int32) (cs : List Int32) (h : Heap) (v : Option Value) (h' : Heap) (L : List Loc) : Prop := v = none ∧ (∀ y ∈ L, y.base = x) ∧ RoadKit.Keep h h' [x] ∧ h'.size = h.size + 1 ∧ RoadKit.Exa Z h' x ST ∧ RoadKit.Fld Z h' x ST "value" "[B" (.ref h.size) ∧ RoadKit.Fld Z h' x ST "coder" "B" (.int 0) ∧
  (∃ kb, Z.vm.findClass "[B" = some kb ∧ RoadKit.Arv Z h' h.size kb .byte zn (cs.map fun c => .int (lo8 c)) (.int 0)) ∧
  ∀ (O n d : String) (w : Value), RoadKit.Fld Z h x O n d w → RoadKit.slotOf Z O n d ≠ RoadKit.slotOf Z ST "value" "[B" → RoadKit.slotOf Z O n d ≠ RoadKit.slotOf Z ST "coder" "B" → RoadKit.Fld Z h' x O n d w
/-- **new String(chars) AT A CALL, THE ARRAYS AS LISTS**: the char[] at b holds cs, not empty, no char above 255 -/
theorem backArv {p : Program} {l : Launch} {e : Env} {R : Room} {s : State} {args : Array Value} {below : List Frame} {len W : Nat} {Z : State} {a0 : Array Value} {h : Heap} (hZ : Z.Warmed39 s.vm) (hw : ∀ d ∈ words, d.before a0 Z = true) {kI : Nat} (wi : (Jvm.Cond.instantiable ST kI).before a0 Z = true)
    {x b : Addr} {k : ClassId} {zn z : Int32} {cs : List Int32} {dv v0 c0 : Value} (E : RoadKit.Exa Z h x ST) (V : RoadKit.Fld Z h x ST "value" "[B" v0) (C : RoadKit.Fld Z h x ST "coder" "B" c0) (K : RoadKit.Arv Z h b k .char zn (cs.map Value.int) dv) (S : RoadKit.Sta Z h ST "COMPACT_STRINGS" "Z" (.int z)) (hz : ¬ z = 0)
    (hlen : zn.toNatClampNeg = cs.length) (h0 : 0 < cs.length) (hbig : cs.length ≤ 536870912) (hall : ∀ c ∈ cs, ¬ 255 < c) (hfr : 4 ≤ R.frames) (hlo : W + 65 ≤ R.locals) :
    Back l R p e below s args New1.yN len W (fun P a => a = #[.ref x, .ref b] ∧ P.U.heap = h ∧ P.cells + 1 ≤ R.cells ∧ P.slots + cs.length ≤ R.slots)
      (fun P _ v B => ∃ L, QA Z x zn cs h v B.U.heap L ∧ B.locs = P.locs ++ L ∧ B.cells = P.cells + 1 ∧ B.slots = P.slots + cs.length) := by
  obtain ⟨A, K1, K2, K3, K4, K5, K6⟩ := K
  have e : A.slots.size = cs.length := K3.trans hlen
  have hat : ∀ (i : Nat) (hi : i < cs.length), A.slots[i]? = some (.int cs[i]) := fun i hi => by rw [K5 i (by omega)]; simp [List.getD_eq_getElem?_getD, hi]
  have hcv : ∀ (i : Nat) (hi : i < cs.length), cv A i = cs[i] := fun i hi => by unfold cv; rw [hat i hi]
  have hty : Typed .char A := fun i v hv => by
    have hi : i < A.slots.size := (Array.getElem?_eq_some_iff.mp hv).1
    have q := K5 i hi
    rw [hv] at q
    rw [Option.some.inj q]
    exact K6 i hi
  refine Back.mono (back hZ hw wi E V C K1 hty S hz (by omega) (by omega) (fun i hi => by rw [hcv i (by omega)]; exact hall _ (List.getElem_mem _)) hfr hlo) (fun P a hp => ⟨hp.1, hp.2.1, hp.2.2.1, by rw [e]; exact hp.2.2.2⟩) (fun P a v B hp hq => ?_)
  obtain ⟨L, ⟨q1, q2, q3, q4, q5, q6, q7, ⟨V', v1, v2, v3, v4, v5⟩, q9⟩, hl, hc, hs⟩ := hq
  refine ⟨L, ⟨q1, q2, q3, q4, q5, q6, q7, ⟨V'.cls, v3, V', v1, rfl, by rw [v4, e, hlen], K4, fun i hi => ?_, fun i hi => ?_⟩, q9⟩, hl, hc, by rw [hs, e]⟩
  · have hi' : i < cs.length := by omega
    rw [v5 i (by omega), hcv i hi']; simp [List.getD_eq_getElem?_getD, hi']
  · have hi' : i < cs.length := by omega
    simp only [List.getD_eq_getElem?_getD, List.getElem?_map, List.getElem?_eq_getElem hi', Option.map_some, Option.getD_some]
    exact fits_lo8 _
end StrChars.Road
namespace StrChars.Road
open Jvm Sem ClassFile Op Lib Jvm.Stand Jvm.Free Jvm.Free.XT
/-- WHAT COMES BACK, in the writer's own shape -/
def QV (Z : State) (x : Addr) (N : Int32) (bs : List Int32) (h : Heap) (n0 : Nat) (v : Option Value) (h' : Heap) (L : List Loc) : Prop := v = none ∧ RoadKit.Fr n0 L ∧ RoadKit.Keep h h' [x] ∧ RoadKit.Exa Z h' x ST ∧ RoadKit.Fld Z h' x ST "coder" "B" (.int 0) ∧
  ∃ (t : Addr) (kb : ClassId), n0 ≤ t ∧ h.size ≤ t ∧ ¬ t = x ∧ RoadKit.Fld Z h' x ST "value" "[B" (.ref t) ∧ RoadKit.Arv Z h' t kb .byte N (bs.map Value.int) (.int 0)
/-- **new String(chars) AT A CALL, FOR THE WRITER**: a char[] of n known ints, each 0 to 255 -/
theorem backV {p : Program} {l : Launch} {e : Env} {R : Room} {s : State} {args : Array Value} {below : List Frame} {len W : Nat} {Z : State} {a0 : Array Value} {h : Heap} (hZ : Z.Warmed39 s.vm) (hw : ∀ d ∈ words, d.before a0 Z = true) {kI : Nat} (wi : (Jvm.Cond.instantiable ST kI).before a0 Z = true)
    {x b : Addr} {kC : ClassId} {cs bs : List Int32} {d v0 c0 : Value} {z N : Int32} {n n0 : Nat} (hx0 : n0 ≤ x) (hh0 : n0 ≤ h.size) (E : RoadKit.Exa Z h x ST) (V : RoadKit.Fld Z h x ST "value" "[B" v0) (C : RoadKit.Fld Z h x ST "coder" "B" c0) (K : RoadKit.Arv Z h b kC .char N (cs.map Value.int) d) (S : RoadKit.Sta Z h ST "COMPACT_STRINGS" "Z" (.int z)) (hz : ¬ z = 0)
    (hn : cs.length = n) (hN : N = Int32.ofNat n) (l0 : 0 < n) (l2 : n ≤ 4000) (hp : ∀ c ∈ cs, ¬ c < 0 ∧ ¬ (255 : Int32) < c) (hb : bs = cs.map (fun c => c.toInt8.toInt32)) (hfr : 4 ≤ R.frames) (hlo : W + 65 ≤ R.locals) :
    Back l R p e below s args (⟨"java/lang/String", "<init>", "([C)V"⟩ : MethodName) len W (fun P a => a = #[.ref x, .ref b] ∧ P.U.heap = h ∧ P.cells + 1 ≤ R.cells ∧ P.slots + n ≤ R.slots)
      (fun P _ v B => ∃ L, QV Z x N bs h n0 v B.U.heap L ∧ B.locs = P.locs ++ L ∧ B.cells = P.cells + 1 ∧ B.slots = P.slots + n) := by
  subst hn hN hb
  refine Back.mono (backArv hZ hw wi E V C K S hz (n32 (by omega)) l0 (by omega) (fun c hc => (hp c hc).2) hfr hlo) (fun P a hp => hp) (fun P a v B hp hq => ?_)
  obtain ⟨L, ⟨q1, q2, q3, q4, q5, q6, q7, ⟨kb, v1, v2⟩, q9⟩, hl, hc, hs⟩ := hq
  exact ⟨L, ⟨q1, fun y hy => by rw [q2 y hy]; exact hx0, q3, q5, q7, h.size, kb, hh0, Nat.le_refl _, Nat.ne_of_gt E.lt, q6, by rw [List.map_map]; exact v2⟩, hl, hc, hs⟩
end StrChars.Road
namespace StrChars
open Jvm Sem ClassFile Op Lib Jvm.Stand Jvm.Free.XT Jvm.Free.ALB Jvm.Free.JM Jvm.Free
open Jvm.Lib.Cold (StaticIs)
def hi8 (x : Int32) : Int32 := lo8 (x >>> ((8 : Int32) &&& 31))
/-- what StringUTF16.getChar makes of two bytes -/
def pairCh (u v : Int32) : Int32 := (((u &&& 255) <<< ((0 : Int32) &&& 31)) ||| ((v &&& 255) <<< ((8 : Int32) &&& 31))).toUInt32.toUInt16.toUInt32.toInt32
theorem lo8_and (x : Int32) : (lo8 x &&& 255).toBitVec.toNat = x.toBitVec.toNat % 256 := by
  have h : (lo8 x).toBitVec = (x.toBitVec.signExtend 8).signExtend 32 := by rw [lo8, Int8.toBitVec_toInt32, Int32.toBitVec_toInt8]
  rw [Int32.toBitVec_and, BitVec.toNat_and, h]
  have e : ((x.toBitVec.signExtend 8).signExtend 32).toNat % 256 = x.toBitVec.toNat % 256 := by
    rw [BitVec.toNat_signExtend]
    have hlt := x.toBitVec.isLt
    simp only [BitVec.toNat_setWidth, BitVec.toNat_signExtend]
    split <;> split <;> omega
  rw [← e]
  exact Nat.and_two_pow_sub_one_eq_mod _ 8
theorem pair_says {c : Int32} (h0 : ¬ c < 0) (h1 : ¬ 65535 < c) : pairCh (lo8 c) (hi8 c) = c := by
  rw [Int32.lt_iff_toInt_lt] at h0 h1
  have e0 : (0 : Int32).toInt = 0 := rfl
  have e1 : (65535 : Int32).toInt = 65535 := rfl
  have hc : c.toInt = c.toBitVec.toNat := by
    have := c.toBitVec.isLt
    have e : c.toInt = c.toBitVec.toInt := rfl
    rw [e] at h0 h1
    rw [e]
    rw [BitVec.toInt_eq_toNat_cond] at h0 h1 ⊢
    split at h0 <;> split <;> omega
  have hn : c.toBitVec.toNat < 65536 := by omega
  have a1 := lo8_and c
  have a2 : (hi8 c &&& 255).toBitVec.toNat = c.toBitVec.toNat / 256 := by
    rw [hi8, lo8_and]
    have e : ((8 : Int32) &&& 31) = 8 := by decide
    rw [e, Int32.toBitVec_shiftRight]
    have e2 : ((8 : Int32).toBitVec.smod 32) = 8#32 := by decide
    rw [e2, BitVec.sshiftRight_eq', BitVec.toNat_sshiftRight_of_msb_false (by rw [BitVec.msb_eq_false_iff_two_mul_lt]; omega)]
    show c.toBitVec.toNat >>> 8 % 256 = _
    rw [Nat.shiftRight_eq_div_pow]
    omega
  unfold pairCh
  apply Int32.toBitVec_inj.mp
  apply BitVec.eq_of_toNat_eq
  have f0 : ((0 : Int32) &&& 31) = 0 := by decide
  have f8 : ((8 : Int32) &&& 31) = 8 := by decide
  rw [f0, f8]
  have g : (((lo8 c &&& 255) <<< (0 : Int32)) ||| ((hi8 c &&& 255) <<< (8 : Int32))).toBitVec.toNat = c.toBitVec.toNat := by
    rw [Int32.toBitVec_or, Int32.toBitVec_shiftLeft, Int32.toBitVec_shiftLeft]
    have s0 : ((0 : Int32).toBitVec.smod 32) = 0#32 := by decide
    have s8 : ((8 : Int32).toBitVec.smod 32) = 8#32 := by decide
    rw [s0, s8, BitVec.toNat_or]
    simp only [BitVec.shiftLeft_eq', BitVec.toNat_shiftLeft, a1, a2]
    show (c.toBitVec.toNat % 256) <<< 0 % 2 ^ 32 ||| (c.toBitVec.toNat / 256) <<< 8 % 2 ^ 32 = _
    rw [Nat.shiftLeft_zero, Nat.mod_eq_of_lt (show c.toBitVec.toNat % 256 < 2 ^ 32 by omega), Nat.mod_eq_of_lt (show (c.toBitVec.toNat / 256) <<< 8 < 2 ^ 32 by rw [Nat.shiftLeft_eq]; omega), Nat.or_comm, ← Nat.shiftLeft_add_eq_or_of_lt (by omega), Nat.shiftLeft_eq]
    omega
  show BitVec.toNat (((((lo8 c &&& 255) <<< (0 : Int32)) ||| ((hi8 c &&& 255) <<< (8 : Int32))).toBitVec.setWidth 16).setWidth 32) = _
  rw [BitVec.toNat_setWidth, BitVec.toNat_setWidth, g]
  omega
end StrChars
namespace StrChars
open Jvm Sem ClassFile Op Lib Jvm.Stand Jvm.Free.XT Jvm.Free.ALB Jvm.Free.JM Jvm.Free
open Jvm.Lib.Cold (StaticIs)
/-- the array's cell V codes the n chars f 0 .. f (n - 1) by the coder cd, as the JDK does: coder 1 just where some char is above 255 -/
def Cod (cd : Int32) (n : Nat) (f : Nat → Int32) (V : Cell) : Prop := (cd = 0 ∧ V.slots.size = n ∧ ∀ j, j < n → V.slots[j]? = some (.int (lo8 (f j))) ∧ ¬ 255 < f j) ∨ (cd = 1 ∧ V.slots.size = 2 * n ∧ (∀ j, j < n → V.slots[2 * j]? = some (.int (lo8 (f j))) ∧ V.slots[2 * j + 1]? = some (.int (hi8 (f j)))) ∧ ∃ j, j < n ∧ 255 < f j)
/-- **x is a String of the n chars f 0 .. f (n - 1)**, Latin-1 or UTF-16; its array at t has the cell V -/
def Txt (x t : Addr) (V : Cell) (cd : Int32) (n : Nat) (f : Nat → Int32) (U : State) : Prop := Exact "java/lang/String" x U ∧ Has x "java/lang/String" "value" "[B" (.ref t) U ∧ Has x "java/lang/String" "coder" "B" (.int cd) U ∧ XT.Arr .byte t V U ∧ Cod cd n f V ∧ ∀ j, j < n → ¬ f j < 0 ∧ ¬ 65535 < f j
theorem Txt.mv {x t : Addr} {V : Cell} {cd : Int32} {n : Nat} {f : Nat → Int32} {U U' : State} (h : Txt x t V cd n f U) (hal : U.vm.Alike U'.vm) (hh : U'.heap = U.heap) : Txt x t V cd n f U' := ⟨h.1.mv hal hh, h.2.1.mv hal hh, h.2.2.1.mv hal hh, h.2.2.2.1.mv hal hh, h.2.2.2.2⟩
end StrChars
namespace StrChars.Road
open Jvm Sem ClassFile Op Lib Jvm.Stand Jvm.Free Jvm.Free.XT
open Jvm.Lib.Cold (StaticIs)
theorem consq {a : Array Value} {s : State} {c : Jvm.Cond} {L : List Jvm.Cond} (h0 : c.before a s = true) (h : ∀ w ∈ L, w.before a s = true) : ∀ w ∈ c :: L, w.before a s = true := fun w hw => (List.mem_cons.mp hw).elim (fun e => e ▸ h0) (h w)
/-- the bytes of the chars cs, low before high -/
def wideBytes : List Int32 → List Value
  | [] => []
  | c :: cs => .int (lo8 c) :: .int (hi8 c) :: wideBytes cs
theorem wide_lo (d : Value) : ∀ (cs : List Int32) (j : Nat), j < cs.length → (wideBytes cs).getD (2 * j) d = .int (lo8 (cs.getD j 0))
  | [], j, h => absurd h (Nat.not_lt_zero j)
  | c :: cs, 0, _ => rfl
  | c :: cs, j + 1, h => by
    have q := wide_lo d cs j (by simpa using h)
    rw [show 2 * (j + 1) = 2 * j + 1 + 1 from by omega]
    simpa [wideBytes] using q
theorem wide_hi (d : Value) : ∀ (cs : List Int32) (j : Nat), j < cs.length → (wideBytes cs).getD (2 * j + 1) d = .int (hi8 (cs.getD j 0))
  | [], j, h => absurd h (Nat.not_lt_zero j)
  | c :: cs, 0, _ => rfl
  | c :: cs, j + 1, h => by
    have q := wide_hi d cs j (by simpa using h)
    rw [show 2 * (j + 1) + 1 = 2 * j + 1 + 1 + 1 from by omega]
    simpa [wideBytes] using q
theorem low_at (d : Value) (cs : List Int32) (j : Nat) (h : j < cs.length) : (cs.map fun c => Value.int (lo8 c)).getD j d = .int (lo8 (cs.getD j 0)) := by
  simp [List.getD_eq_getElem?_getD, h]
/-- an array of N2 bytes vs codes the chars cs by the coder cd -/
def CodA (cs : List Int32) (cd N2 : Int32) (vs : List Value) : Prop := (cd = 0 ∧ N2 = Int32.ofNat cs.length ∧ vs = (cs.map fun c => Value.int (lo8 c)) ∧ ∀ c ∈ cs, ¬ 255 < c) ∨ (cd = 1 ∧ N2 = Int32.ofNat (2 * cs.length) ∧ vs = wideBytes cs ∧ ∃ c ∈ cs, 255 < c)
theorem CodA.cod {cs : List Int32} {cd N2 : Int32} {vs : List Value} {V : Cell} (h : CodA cs cd N2 vs) (hn : 2 * cs.length < 2 ^ 31) (hs : V.slots.size = N2.toNatClampNeg) (hv : RoadKit.Has V vs (.int 0)) : Cod cd cs.length (fun j => cs.getD j 0) V := by
  rcases h with ⟨rfl, rfl, rfl, h⟩ | ⟨rfl, rfl, rfl, c, hc, hw⟩
  · rw [n32 (by omega)] at hs
    exact Or.inl ⟨rfl, hs, fun j hj => ⟨by rw [hv j (by omega), low_at _ _ _ hj], by
      have e : cs.getD j 0 = cs[j] := by simp [List.getD_eq_getElem?_getD, hj]
      show ¬ 255 < cs.getD j 0
      rw [e]; exact h _ (List.getElem_mem _)⟩⟩
  · rw [n32 (by omega)] at hs
    obtain ⟨j, hj, rfl⟩ := List.getElem_of_mem hc
    exact Or.inr ⟨rfl, hs, fun j hj => ⟨by rw [hv _ (by omega), wide_lo _ _ _ hj], by rw [hv _ (by omega), wide_hi _ _ _ hj]⟩, j, hj, by
      have e : cs.getD j 0 = cs[j] := by simp [List.getD_eq_getElem?_getD, hj]
      show 255 < cs.getD j 0
      rw [e]; exact hw⟩
/-- an object of exactly java/lang/String, its two fields found: as the laws ask it -/
theorem strObj {Z U : State} {a0 : Array Value} {kI : Nat} (wi : (Jvm.Cond.instantiable ST kI).before a0 Z = true) (al : Z.vm.Alike U.vm) {x : Addr} {v0 c0 : Value} (E : RoadKit.Exa Z U.heap x ST) (V : RoadKit.Fld Z U.heap x ST "value" "[B" v0) (C : RoadKit.Fld Z U.heap x ST "coder" "B" c0) :
    ∃ (D : Cell) (fV fC : Field), Blank ST x D U ∧ Found ST "value" "[B" fV U ∧ Found ST "coder" "B" fC U ∧ D.slots[fV.slot]? = some v0 ∧ D.slots[fC.slot]? = some c0 ∧ RoadKit.slotOf Z ST "value" "[B" = fV.slot ∧ RoadKit.slotOf Z ST "coder" "B" = fC.slot := by
  obtain ⟨D, cfV, kV, iV, fV, hD, gV, stV, knV, obV, asV, slV⟩ := V
  obtain ⟨D', cfC, kC, iC, fC, hD', gC, stC, -, -, asC, slC⟩ := C
  cases hD.symm.trans hD'
  obtain ⟨D2, kD, e1, e2, e3, e4, e5⟩ := E
  cases hD.symm.trans e1
  obtain ⟨c2, k2, i1, i2, i3, -⟩ := Cond.instantiable_spec wi
  cases e2.symm.trans i1
  cases e3.symm.trans i2
  obtain ⟨kU, u1, u2⟩ := al.2.2 _ _ e3
  exact ⟨D, fV, fC, ⟨hD, ⟨knV, fun q hq => by rw [hq] at obV; cases obV⟩, by rw [al.findClass]; exact e2, kU, u1, by rw [u2]; exact i3, by rw [u2]; exact e5 i3⟩, ⟨SBG.found_only al ⟨cfV, kV, iV, gV⟩, stV⟩, ⟨SBG.found_only al ⟨cfC, kC, iC, gC⟩, stC⟩, slV, slC, by simp [RoadKit.slotOf, gV], by simp [RoadKit.slotOf, gC]⟩
theorem sta_is {Z U : State} (al : Z.vm.Alike U.vm) {C n d : String} {v : Value} (S : RoadKit.Sta Z U.heap C n d v) : StaticIs U C n d v := by
  obtain ⟨cfS, iS, kS, fS, st, cS, t1, t2, t3, t4, t5, t6, t7⟩ := S
  exact StaticIs.there (s := { Z with heap := U.heap }) ⟨cfS, iS, kS, fS, st, cS, t1, t2, t3, t4, t5, (fun q => by rw [q] at t6; cases t6), t7⟩ al rfl
end StrChars.Road
namespace StrChars
open Jvm Sem ClassFile Op Lib Jvm.Stand Jvm.Free.XT Jvm.Free.ALB Jvm.Free.JM Jvm.Free
open Jvm.Lib.Cold (StaticIs)
/-- what place i of a byte[]'s cell holds -/
def yv (A : Cell) (i : Nat) : Int32 := match A.slots[i]? with | some (.int x) => x | _ => 0
theorem yv_get {a : Addr} {A : Cell} {U : State} (h : XT.Arr .byte a A U) (ht : Typed .byte A) {i : Nat} (hi : i < A.slots.size) : A.slots[i]? = some (.int (yv A i)) := by
  have e := Array.getElem?_eq_getElem hi
  have f := ht i _ e
  unfold yv; rw [e]
  generalize A.slots[i] = v at f
  cases v <;> simp [fits] at f ⊢
/-- the two arrays are equal, place for place -/
def EqC (A B : Cell) : Prop := A.slots.size = B.slots.size ∧ ∀ i, i < A.slots.size → yv A i = yv B i
/-- a boolean that says whether p -/
def Says01 (q : Prop) (r : Option Value) (s u : State) : Prop := ∃ v : Int32, r = some (.int v) ∧ u.heap = s.heap ∧ ((v = 1 ∧ q) ∨ (v = 0 ∧ ¬ q))
theorem Says01.mv {q : Prop} : ∀ r (U U' V V' : State), U'.heap = U.heap → V.vm.Alike V'.vm → V'.heap = V.heap → Says01 q r U V → Says01 q r U' V' :=
  fun r U U' V V' h1 _ h2 ⟨v, a, b, c⟩ => ⟨v, a, by rw [h1, h2]; exact b, c⟩
namespace LEq
def yN : MethodName := ⟨"java/lang/StringLatin1", "equals", "([B[B)Z"⟩
abbrev yB : ByteArray := jdk_43_method_13_code
theorem d0 : decode yB 0 = .ok (.aload_n 0, 1) := by decide +kernel
theorem d1 : decode yB 1 = .ok (.arraylength, 1) := by decide +kernel
theorem d2 : decode yB 2 = .ok (.aload_n 1, 1) := by decide +kernel
theorem d3 : decode yB 3 = .ok (.arraylength, 1) := by decide +kernel
theorem d4 : decode yB 4 = .ok (.if_icmp (.ne) 30, 3) := by decide +kernel
theorem d7 : decode yB 7 = .ok (.iconst 0, 1) := by decide +kernel
theorem d8 : decode yB 8 = .ok (.istore_n 2, 1) := by decide +kernel
theorem d9 : decode yB 9 = .ok (.iload_n 2, 1) := by decide +kernel
theorem d10 : decode yB 10 = .ok (.aload_n 0, 1) := by decide +kernel
theorem d11 : decode yB 11 = .ok (.arraylength, 1) := by decide +kernel
theorem d12 : decode yB 12 = .ok (.if_icmp (.ge) 20, 3) := by decide +kernel
theorem d15 : decode yB 15 = .ok (.aload_n 0, 1) := by decide +kernel
theorem d16 : decode yB 16 = .ok (.iload_n 2, 1) := by decide +kernel
theorem d17 : decode yB 17 = .ok (.baload, 1) := by decide +kernel
theorem d18 : decode yB 18 = .ok (.aload_n 1, 1) := by decide +kernel
theorem d19 : decode yB 19 = .ok (.iload_n 2, 1) := by decide +kernel
theorem d20 : decode yB 20 = .ok (.baload, 1) := by decide +kernel
theorem d21 : decode yB 21 = .ok (.if_icmp (.eq) 5, 3) := by decide +kernel
theorem d24 : decode yB 24 = .ok (.iconst 0, 1) := by decide +kernel
theorem d25 : decode yB 25 = .ok (.ireturn, 1) := by decide +kernel
theorem d26 : decode yB 26 = .ok (.iinc 2 1, 3) := by decide +kernel
theorem d29 : decode yB 29 = .ok (.goto (-20), 3) := by decide +kernel
theorem d32 : decode yB 32 = .ok (.iconst 1, 1) := by decide +kernel
theorem d33 : decode yB 33 = .ok (.ireturn, 1) := by decide +kernel
theorem d34 : decode yB 34 = .ok (.iconst 0, 1) := by decide +kernel
theorem d35 : decode yB 35 = .ok (.ireturn, 1) := by decide +kernel
def site : List Cond := []
def tab : Cond := tabOf yN yB 3 (some .boolean) site
def P (a : Addr) (A : Cell) (b : Addr) (B : Cell) (args : Array Value) (s : State) : Prop := args = #[.ref a, .ref b] ∧ XT.Arr .byte a A s ∧ Typed .byte A ∧ XT.Arr .byte b B s ∧ Typed .byte B
/-- whether two byte[] are equal, place for place -/
theorem law (l : Launch) (a : Addr) (A : Cell) (b : Addr) (B : Cell) : Law l yN 2 2 0 0 yB 3 (some .boolean) site (P a A b B) (Says01 (EqC A B)) [] 0 0 := by
  refine Law.of_walk (plainFor_of_name (by decide +kernel)) (by decide +kernel) (by decide +kernel) (by decide) (fun _ _ h => by rw [h.1]; rfl) (fun _ U U' hal hh h => ⟨h.1, h.2.1.mv hal hh, h.2.2.1, h.2.2.2.1.mv hal hh, h.2.2.2.2⟩) (fun r U U' V V' h1 hal h2 h => Says01.mv r U U' V V' h1 hal h2 h) ?_
  intro p e s m args below meth c s₁ X0 hexec hbytes hml hret hlk hnm hown hh0 W hP
  obtain ⟨rfl, hA, tA, hB, tB⟩ := hP
  have a31 := hA.2.2.2
  have b31 := hB.2.2.2
  have hA0 := hA.mv X0.warmed.alike hh0
  have hB0 := hB.mv X0.warmed.alike hh0
  have c1 : Steps p.tables e below (s₁.setTop (entryFrame m #[.ref a, .ref b] 3)) (s₁.setTop (mkF m 0 #[.val (.ref a), .val (.ref b), .unset] [])) := entry rfl
  have c2 : Steps p.tables e below (s₁.setTop (entryFrame m #[.ref a, .ref b] 3)) (s₁.setTop (mkF m 4 #[.val (.ref a), .val (.ref b), .unset] [.int (Int32.ofNat B.slots.size), .int (Int32.ofNat A.slots.size)])) := c1.trans (by
    refine XS.aloadN X0.here hexec rfl (hb hbytes d0) rfl rfl ?_
    refine X0.alen hexec hA0 rfl rfl (hb hbytes d1) ?_
    refine XS.aloadN X0.here hexec rfl (hb hbytes d2) rfl rfl ?_
    refine X0.alen hexec hB0 rfl rfl (hb hbytes d3) ?_
    exact Steps.refl _)
  by_cases hs : A.slots.size = B.slots.size
  · have c3 : Steps p.tables e below (s₁.setTop (entryFrame m #[.ref a, .ref b] 3)) (s₁.setTop (mkF m 9 #[.val (.ref a), .val (.ref b), .val (.int 0)] [])) := c2.trans (by
      refine XS.icmpNo X0.here hexec rfl (hb hbytes d4) rfl (ii_ne_f (by rw [hs])) ?_
      refine iconstV X0.here hexec rfl 0 (hb hbytes d7) (by decide) ?_
      refine XS.istoreN X0.here hexec rfl (hb hbytes d8) rfl rfl ?_
      exact Steps.refl _)
    have loop : ∀ (r i : Nat), i + r = A.slots.size → (∀ j, j < i → yv A j = yv B j) → Steps p.tables e below (s₁.setTop (entryFrame m #[.ref a, .ref b] 3)) (s₁.setTop (mkF m 9 #[.val (.ref a), .val (.ref b), .val (.int (Int32.ofNat i))] [])) → ∃ (pc : Nat) (Ls : Array Slot) (v : Int32), (pc = 25 ∨ pc = 33) ∧ ((v = 1 ∧ EqC A B) ∨ (v = 0 ∧ ¬ EqC A B)) ∧ Steps p.tables e below (s₁.setTop (entryFrame m #[.ref a, .ref b] 3)) (s₁.setTop (mkF m pc Ls [.int v])) := by
      intro r
      induction r with
      | zero =>
        intro i hi he cl
        exact ⟨33, _, 1, Or.inr rfl, Or.inl ⟨rfl, hs, fun j hj => he j (by omega)⟩, cl.trans (by
          refine XS.iloadN X0.here hexec rfl (hb hbytes d9) rfl ?_
          refine XS.aloadN X0.here hexec rfl (hb hbytes d10) rfl rfl ?_
          refine X0.alen hexec hA0 rfl rfl (hb hbytes d11) ?_
          refine XS.icmpYes X0.here hexec rfl (pc0 := 12) rfl (hb hbytes d12) rfl (ii_ge_t (nlt32 (by omega) (by omega))) (by decide) rfl ?_
          refine iconstV X0.here hexec rfl 1 (hb hbytes d32) (by decide) ?_
          exact Steps.refl _)⟩
      | succ r ih =>
        intro i hi he cl
        have c4 : Steps p.tables e below (s₁.setTop (entryFrame m #[.ref a, .ref b] 3)) (s₁.setTop (mkF m 21 #[.val (.ref a), .val (.ref b), .val (.int (Int32.ofNat i))] [.int (yv B i), .int (yv A i)])) := cl.trans (by
          refine XS.iloadN X0.here hexec rfl (hb hbytes d9) rfl ?_
          refine XS.aloadN X0.here hexec rfl (hb hbytes d10) rfl rfl ?_
          refine X0.alen hexec hA0 rfl rfl (hb hbytes d11) ?_
          refine XS.icmpNo X0.here hexec rfl (hb hbytes d12) rfl (ii_ge_f (lt32 (by omega) (by omega))) ?_
          refine XS.aloadN X0.here hexec rfl (hb hbytes d15) rfl rfl ?_
          refine XS.iloadN X0.here hexec rfl (hb hbytes d16) rfl ?_
          refine X0.aget hexec hA0 rfl (yv_get hA tA (i := i) (by omega)) rfl rfl (hb hbytes d17) ?_
          refine XS.aloadN X0.here hexec rfl (hb hbytes d18) rfl rfl ?_
          refine XS.iloadN X0.here hexec rfl (hb hbytes d19) rfl ?_
          refine X0.aget hexec hB0 rfl (yv_get hB tB (i := i) (by omega)) rfl rfl (hb hbytes d20) ?_
          exact Steps.refl _)
        by_cases hv : yv A i = yv B i
        · have c5 : Steps p.tables e below (s₁.setTop (entryFrame m #[.ref a, .ref b] 3)) (s₁.setTop (mkF m 9 #[.val (.ref a), .val (.ref b), .val (.int (Int32.ofNat i + 1))] [])) := c4.trans (by
            refine XS.icmpYes X0.here hexec rfl (pc0 := 21) rfl (hb hbytes d21) rfl (ii_eq_t hv) (by decide) rfl ?_
            refine iincV X0.here hexec rfl 1 (hb hbytes d26) (by decide) rfl rfl ?_
            refine XS.goto X0.here hexec rfl (pc0 := 29) rfl (hb hbytes d29) (by decide) rfl ?_
            exact Steps.refl _)
          rw [succ32] at c5
          exact ih (i + 1) (by omega) (fun j hj => by
            by_cases e : j = i
            · rw [e]; exact hv
            · exact he j (by omega)) c5
        · exact ⟨25, _, 0, Or.inl rfl, Or.inr ⟨rfl, fun q => hv (q.2 i (by omega))⟩, c4.trans (by
            refine XS.icmpNo X0.here hexec rfl (hb hbytes d21) rfl (ii_eq_f hv) ?_
            refine iconstV X0.here hexec rfl 0 (hb hbytes d24) (by decide) ?_
            exact Steps.refl _)⟩
    obtain ⟨pc, Ls, v, hpc, hv, cz⟩ := loop A.slots.size 0 (by omega) (fun j hj => absurd hj (Nat.not_lt_zero j)) c3
    have nv : narrow .boolean (.int v) = .int v := by rcases hv with ⟨rfl, -⟩ | ⟨rfl, -⟩ <;> rfl
    rcases hpc with rfl | rfl
    · exact ⟨s₁, some (.int v), _, _, _, X0, rfl, rfl, rfl, (fun h => by cases h), ⟨v, rfl, hh0, hv⟩, fun fs hl => cz.trans (X0.ireturnOut hexec hret nv (Or.inr (Or.inl rfl)) (hb hbytes d25) hl)⟩
    · exact ⟨s₁, some (.int v), _, _, _, X0, rfl, rfl, rfl, (fun h => by cases h), ⟨v, rfl, hh0, hv⟩, fun fs hl => cz.trans (X0.ireturnOut hexec hret nv (Or.inr (Or.inl rfl)) (hb hbytes d33) hl)⟩
  · have c3 : Steps p.tables e below (s₁.setTop (entryFrame m #[.ref a, .ref b] 3)) (s₁.setTop (mkF m 35 #[.val (.ref a), .val (.ref b), .unset] [.int 0])) := c2.trans (by
      refine XS.icmpYes X0.here hexec rfl (pc0 := 4) rfl (hb hbytes d4) rfl (ii_ne_t (ne32 a31 b31 hs)) (by decide) rfl ?_
      refine iconstV X0.here hexec rfl 0 (hb hbytes d34) (by decide) ?_
      exact Steps.refl _)
    exact ⟨s₁, some (.int 0), _, _, _, X0, rfl, rfl, rfl, (fun h => by cases h), ⟨0, rfl, hh0, Or.inr ⟨rfl, fun q => hs q.1⟩⟩, fun fs hl => c3.trans (X0.ireturnOut hexec hret rfl (Or.inr (Or.inl rfl)) (hb hbytes d35) hl)⟩
end LEq
theorem Cod.ty {cd : Int32} {n : Nat} {f : Nat → Int32} {V : Cell} (h : Cod cd n f V) : Typed .byte V := fun i v hv => by
  have hi : i < V.slots.size := (Array.getElem?_eq_some_iff.mp hv).1
  rcases h with ⟨-, k1, k2⟩ | ⟨-, k1, k2, -⟩
  · rw [(k2 i (by omega)).1] at hv; cases hv; exact fits_lo8 _
  · rcases Nat.mod_two_eq_zero_or_one i with e | e
    · obtain ⟨j, rfl⟩ : ∃ j, i = 2 * j := ⟨i / 2, by omega⟩
      rw [(k2 j (by omega)).1] at hv; cases hv; exact fits_lo8 _
    · obtain ⟨j, rfl⟩ : ∃ j, i = 2 * j + 1 := ⟨i / 2, by omega⟩
      rw [(k2 j (by omega)).2] at hv; cases hv; exact fits_lo8 _
/-- the same text -/
def SameT (n : Nat) (f : Nat → Int32) (k : Nat) (g : Nat → Int32) : Prop := n = k ∧ ∀ j, j < n → f j = g j
theorem lo8_inj {x y : Int32} (h0 : ¬ x < 0) (h1 : ¬ 255 < x) (k0 : ¬ y < 0) (k1 : ¬ 255 < y) (h : lo8 x = lo8 y) : x = y := by
  rw [← lo8_mask h0 h1, ← lo8_mask k0 k1, h]
/-- arrays coded by one coder are equal just where the texts are -/
theorem Cod.eqv {cd : Int32} {n k : Nat} {f g : Nat → Int32} {V V' : Cell} (h : Cod cd n f V) (h' : Cod cd k g V') (hf : ∀ j, j < n → ¬ f j < 0 ∧ ¬ 65535 < f j) (hg : ∀ j, j < k → ¬ g j < 0 ∧ ¬ 65535 < g j) : EqC V V' ↔ SameT n f k g := by
  have yvv : ∀ {W : Cell} {i : Nat} {x : Int32}, W.slots[i]? = some (.int x) → yv W i = x := fun q => by unfold yv; rw [q]
  rcases h with ⟨rfl, k1, k2⟩ | ⟨rfl, k1, k2, -⟩
  · rcases h' with ⟨-, m1, m2⟩ | ⟨e, -⟩
    · constructor
      · rintro ⟨e1, e2⟩
        refine ⟨by omega, fun j hj => ?_⟩
        have q := e2 j (by omega)
        rw [yvv (k2 j hj).1, yvv (m2 j (by omega)).1] at q
        exact lo8_inj (hf j hj).1 (k2 j hj).2 (hg j (by omega)).1 (m2 j (by omega)).2 q
      · rintro ⟨rfl, e2⟩
        refine ⟨by omega, fun j hj => ?_⟩
        rw [yvv (k2 j (by omega)).1, yvv (m2 j (by omega)).1, e2 j (by omega)]
    · exact absurd e (by decide)
  · rcases h' with ⟨e, -⟩ | ⟨-, m1, m2, -⟩
    · exact absurd e (by decide)
    · constructor
      · rintro ⟨e1, e2⟩
        refine ⟨by omega, fun j hj => ?_⟩
        have q1 := e2 (2 * j) (by omega)
        have q2 := e2 (2 * j + 1) (by omega)
        rw [yvv (k2 j hj).1, yvv (m2 j (by omega)).1] at q1
        rw [yvv (k2 j hj).2, yvv (m2 j (by omega)).2] at q2
        rw [← pair_says (hf j hj).1 (hf j hj).2, ← pair_says (hg j (by omega)).1 (hg j (by omega)).2, q1, q2]
      · rintro ⟨rfl, e2⟩
        refine ⟨by omega, fun i hi => ?_⟩
        rcases Nat.mod_two_eq_zero_or_one i with e | e
        · obtain ⟨j, rfl⟩ : ∃ j, i = 2 * j := ⟨i / 2, by omega⟩
          rw [yvv (k2 j (by omega)).1, yvv (m2 j (by omega)).1, e2 j (by omega)]
        · obtain ⟨j, rfl⟩ : ∃ j, i = 2 * j + 1 := ⟨i / 2, by omega⟩
          rw [yvv (k2 j (by omega)).2, yvv (m2 j (by omega)).2, e2 j (by omega)]
/-- two codings differ: so do the texts -/
theorem Cod.dif {cd cd' : Int32} {n k : Nat} {f g : Nat → Int32} {V V' : Cell} (h : Cod cd n f V) (h' : Cod cd' k g V') (hne : ¬ cd = cd') : ¬ SameT n f k g := by
  rintro ⟨rfl, e⟩
  rcases h with ⟨rfl, -, k2⟩ | ⟨rfl, -, -, j, hj, hw⟩
  · rcases h' with ⟨rfl, -⟩ | ⟨-, -, -, j, hj, hw⟩
    · exact hne rfl
    · exact (k2 j hj).2 (by rw [e j hj]; exact hw)
  · rcases h' with ⟨-, -, m2⟩ | ⟨rfl, -⟩
    · exact (m2 j hj).2 (by rw [← e j hj]; exact hw)
    · exact hne rfl
/-- an object of exactly C is an instance of C -/
theorem cinst {p : Program} {l : Launch} {e : Env} {R : Room} {s : State} {m : MethodId} {args : Array Value} {below : List Frame} {meth : Method} {c : Code} {T : State} {locs : List Loc} {cells slots : Nat} (X : Stand p l e R s m args below meth c T locs cells slots) (hexec : p.tables.exec = Jvm.exec) {own C : String} {index : Nat} (hown : s.vm.findClass own = some m.cls) (hlink : (Cond.classLink own index C).before args s = true) {a : Addr} (hE : Exact C a T)
    {g : JFrame} (hg : g.method = m) {rest : List Value} (hstack : g.stack = .ref a :: rest) (hdg : decode c.code g.pc = .ok (.instanceof index, 3)) :
    ∃ T', Stand p l e R s m args below meth c T' locs cells slots ∧ T'.heap = T.heap ∧ ∀ target, Steps p.tables e below (T'.setTop { g with pc := g.pc + 3, stack := .int 1 :: rest }) target → Steps p.tables e below (T.setTop g) target := by
  obtain ⟨cB, h1, D, h2, h3, h4⟩ := hE
  have h1' : s.vm.findClass C = some cB := by rw [← X.warmed.alike.findClass]; exact h1
  obtain ⟨vm', X', st⟩ := X.instanceofYes hexec hown hlink h2 h4 h1' (by rw [h3]; exact Jvm.Free.SB.assignable_self _ _) hg hstack hdg
  exact ⟨_, X', rfl, st⟩
theorem cself {p : Program} {l : Launch} {e : Env} {R : Room} {s : State} {m : MethodId} {args : Array Value} {below : List Frame} {meth : Method} {c : Code} {T : State} {locs : List Loc} {cells slots : Nat} (X : Stand p l e R s m args below meth c T locs cells slots) (hexec : p.tables.exec = Jvm.exec) {own C : String} {index : Nat} (hown : s.vm.findClass own = some m.cls) (hlink : (Cond.classLink own index C).before args s = true) {a : Addr} (hE : Exact C a T)
    {g : JFrame} (hg : g.method = m) {rest : List Value} (hstack : g.stack = .ref a :: rest) (hdg : decode c.code g.pc = .ok (.checkcast index, 3)) :
    ∃ T', Stand p l e R s m args below meth c T' locs cells slots ∧ T'.heap = T.heap ∧ ∀ target, Steps p.tables e below (T'.setTop { g with pc := g.pc + 3, stack := .ref a :: rest }) target → Steps p.tables e below (T.setTop g) target := by
  obtain ⟨cB, h1, D, h2, h3, h4⟩ := hE
  have h1' : s.vm.findClass C = some cB := by rw [← X.warmed.alike.findClass]; exact h1
  obtain ⟨vm', X', st⟩ := X.checkcastYes hexec hown hlink h2 h4 h1' (by rw [h3]; exact Jvm.Free.SB.assignable_self _ _) hg hstack hdg
  exact ⟨_, X', rfl, fun t h => st t (by rw [← hstack] at h; exact h)⟩
namespace SEq
def yN : MethodName := ⟨"java/lang/String", "equals", "(Ljava/lang/Object;)Z"⟩
abbrev yB : ByteArray := jdk_42_method_66_code
theorem d0 : decode yB 0 = .ok (.aload_n 0, 1) := by decide +kernel
theorem d1 : decode yB 1 = .ok (.aload_n 1, 1) := by decide +kernel
theorem d2 : decode yB 2 = .ok (.if_acmp (.ne) 5, 3) := by decide +kernel
theorem d5 : decode yB 5 = .ok (.iconst 1, 1) := by decide +kernel
theorem d6 : decode yB 6 = .ok (.ireturn, 1) := by decide +kernel
theorem d7 : decode yB 7 = .ok (.aload_n 1, 1) := by decide +kernel
theorem d8 : decode yB 8 = .ok (.instanceof 10, 3) := by decide +kernel
theorem d11 : decode yB 11 = .ok (.ifCond (.eq) 43, 3) := by decide +kernel
theorem d14 : decode yB 14 = .ok (.aload_n 1, 1) := by decide +kernel
theorem d15 : decode yB 15 = .ok (.checkcast 10, 3) := by decide +kernel
theorem d18 : decode yB 18 = .ok (.astore_n 2, 1) := by decide +kernel
theorem d19 : decode yB 19 = .ok (.getstatic 38, 3) := by decide +kernel
theorem d22 : decode yB 22 = .ok (.ifCond (.eq) 14, 3) := by decide +kernel
theorem d25 : decode yB 25 = .ok (.aload_n 0, 1) := by decide +kernel
theorem d26 : decode yB 26 = .ok (.getfield 15, 3) := by decide +kernel
theorem d29 : decode yB 29 = .ok (.aload_n 2, 1) := by decide +kernel
theorem d30 : decode yB 30 = .ok (.getfield 15, 3) := by decide +kernel
theorem d33 : decode yB 33 = .ok (.if_icmp (.ne) 21, 3) := by decide +kernel
theorem d36 : decode yB 36 = .ok (.aload_n 0, 1) := by decide +kernel
theorem d37 : decode yB 37 = .ok (.getfield 9, 3) := by decide +kernel
theorem d40 : decode yB 40 = .ok (.aload_n 2, 1) := by decide +kernel
theorem d41 : decode yB 41 = .ok (.getfield 9, 3) := by decide +kernel
theorem d44 : decode yB 44 = .ok (.invokestatic 541, 3) := by decide +kernel
theorem d47 : decode yB 47 = .ok (.ifCond (.eq) 7, 3) := by decide +kernel
theorem d50 : decode yB 50 = .ok (.iconst 1, 1) := by decide +kernel
theorem d51 : decode yB 51 = .ok (.goto 4, 3) := by decide +kernel
theorem d54 : decode yB 54 = .ok (.iconst 0, 1) := by decide +kernel
theorem d55 : decode yB 55 = .ok (.ireturn, 1) := by decide +kernel
def site : List Cond := [.classLink "java/lang/String" 10 "java/lang/String", .fieldLink "java/lang/String" 38 "java/lang/String" "COMPACT_STRINGS" "Z", .fieldLink "java/lang/String" 15 "java/lang/String" "coder" "B", .fieldLink "java/lang/String" 9 "java/lang/String" "value" "[B", LEq.tab] ++ staticW "java/lang/String" 541 LEq.yN
def tab : Cond := tabOf yN yB 3 (some .boolean) site
def P (x t : Addr) (V : Cell) (cd : Int32) (n : Nat) (f : Nat → Int32) (y t' : Addr) (V' : Cell) (cd' : Int32) (k : Nat) (g : Nat → Int32) (z : Int32) (args : Array Value) (s : State) : Prop := args = #[.ref x, .ref y] ∧ Txt x t V cd n f s ∧ Txt y t' V' cd' k g s ∧ StaticIs s "java/lang/String" "COMPACT_STRINGS" "Z" (.int z) ∧ ¬ z = 0
/-- equals(Object) of two Strings: whether the texts are the same -/
theorem law (l : Launch) (x t : Addr) (V : Cell) (cd : Int32) (n : Nat) (f : Nat → Int32) (y t' : Addr) (V' : Cell) (cd' : Int32) (k : Nat) (g : Nat → Int32) (z : Int32) : Law l yN 2 1 1 14 yB 3 (some .boolean) site (P x t V cd n f y t' V' cd' k g z) (Says01 (SameT n f k g)) [] 0 0 := by
  refine Law.of_walk (plainFor_of_name (by decide +kernel)) (by decide +kernel) (by decide +kernel) (by decide) (fun _ _ h => by rw [h.1]; rfl) (fun _ U U' hal hh h => ⟨h.1, h.2.1.mv hal hh, h.2.2.1.mv hal hh, h.2.2.2.1.there hal hh, h.2.2.2.2⟩) (fun r U U' V V' h1 hal h2 h => Says01.mv r U U' V V' h1 hal h2 h) ?_
  intro p e s m args below meth c s₁ X0 hexec hbytes hml hret hlk hnm hown hh0 W hP
  obtain ⟨rfl, hx, hy, s1, hz⟩ := hP
  have c1 : Steps p.tables e below (s₁.setTop (entryFrame m #[.ref x, .ref y] 3)) (s₁.setTop (mkF m 2 #[.val (.ref x), .val (.ref y), .unset] [.ref y, .ref x])) := Steps.trans (entry rfl) (by
    show Steps p.tables e below (s₁.setTop (mkF m 0 #[.val (.ref x), .val (.ref y), .unset] [])) _
    refine XS.aloadN X0.here hexec rfl (hb hbytes d0) rfl rfl ?_
    refine XS.aloadN X0.here hexec rfl (hb hbytes d1) rfl rfl ?_
    exact Steps.refl _)
  by_cases hxy : x = y
  · have c2 : Steps p.tables e below (s₁.setTop (entryFrame m #[.ref x, .ref y] 3)) (s₁.setTop (mkF m 6 #[.val (.ref x), .val (.ref y), .unset] [.int 1])) := c1.trans (by
      refine acmpNo X0.here hexec rfl (hb hbytes d2) rfl rfl rfl (by simp [acmp, hxy]) ?_
      refine iconstV X0.here hexec rfl 1 (hb hbytes d5) (by decide) ?_
      exact Steps.refl _)
    subst hxy
    have ec : cd = cd' := by
      obtain ⟨D, fd, a1, a2, a3⟩ := hx.2.2.1
      obtain ⟨D', fd', b1, b2, b3⟩ := hy.2.2.1
      cases a1.symm.trans b1
      obtain ⟨q1, q2, q3, q4⟩ := a2.1
      obtain ⟨r1, r2, r3, r4⟩ := b2.1
      cases q4.symm.trans r4
      cases a3.symm.trans b3; rfl
    have et : t = t' := by
      obtain ⟨D, fd, a1, a2, a3⟩ := hx.2.1
      obtain ⟨D', fd', b1, b2, b3⟩ := hy.2.1
      cases a1.symm.trans b1
      obtain ⟨q1, q2, q3, q4⟩ := a2.1
      obtain ⟨r1, r2, r3, r4⟩ := b2.1
      cases q4.symm.trans r4
      cases a3.symm.trans b3; rfl
    subst ec et
    have ev : V = V' := by cases hx.2.2.2.1.1.symm.trans hy.2.2.2.1.1; rfl
    subst ev
    have hs : SameT n f k g := (Cod.eqv hx.2.2.2.2.1 hy.2.2.2.2.1 hx.2.2.2.2.2 hy.2.2.2.2.2).mp ⟨rfl, fun _ _ => rfl⟩
    exact ⟨s₁, some (.int 1), _, _, _, X0, rfl, rfl, rfl, (fun h => by cases h), ⟨1, rfl, hh0, Or.inl ⟨rfl, hs⟩⟩, fun fs hl => c2.trans (X0.ireturnOut hexec hret rfl (Or.inr (Or.inl rfl)) (hb hbytes d6) hl)⟩
  · have c2 : Steps p.tables e below (s₁.setTop (entryFrame m #[.ref x, .ref y] 3)) (s₁.setTop (mkF m 8 #[.val (.ref x), .val (.ref y), .unset] [.ref y])) := c1.trans (by
      refine acmpYes X0.here hexec rfl (pc0 := 2) rfl (hb hbytes d2) rfl rfl rfl (by simp [acmp, hxy]) (by decide) rfl ?_
      refine XS.aloadN X0.here hexec rfl (hb hbytes d7) rfl rfl ?_
      exact Steps.refl _)
    obtain ⟨T3, X3, q3, st3⟩ := cinst X0 hexec hown (wk W (.classLink "java/lang/String" 10 "java/lang/String")) (hy.mv X0.warmed.alike hh0).1 (g := (mkF m 8 #[.val (.ref x), .val (.ref y), .unset] [.ref y])) rfl (rest := []) rfl (hb hbytes d8)
    have hh3 := q3.trans hh0
    have c4 : Steps p.tables e below (s₁.setTop (entryFrame m #[.ref x, .ref y] 3)) (T3.setTop (mkF m 15 #[.val (.ref x), .val (.ref y), .unset] [.ref y])) := (c2.trans (st3 _ (Steps.refl _))).trans (by
      refine XS.ifNo X3.here hexec rfl (hb hbytes d11) rfl (i0_eq_f (by decide)) ?_
      refine XS.aloadN X3.here hexec rfl (hb hbytes d14) rfl rfl ?_
      exact Steps.refl _)
    obtain ⟨T5, X5, q5, st5⟩ := cself X3 hexec hown (wk W (.classLink "java/lang/String" 10 "java/lang/String")) (hy.mv X3.warmed.alike hh3).1 (g := (mkF m 15 #[.val (.ref x), .val (.ref y), .unset] [.ref y])) rfl (rest := []) rfl (hb hbytes d15)
    have hh5 := q5.trans hh3
    have c6 : Steps p.tables e below (s₁.setTop (entryFrame m #[.ref x, .ref y] 3)) (T5.setTop (mkF m 19 #[.val (.ref x), .val (.ref y), .val (.ref y)] [])) := (c4.trans (st5 _ (Steps.refl _))).trans (by
      refine XS.astoreN X5.here hexec rfl (hb hbytes d18) rfl rfl rfl ?_
      exact Steps.refl _)
    obtain ⟨T7, X7, q7, st7⟩ := X5.sget hexec hown (wk W (.fieldLink "java/lang/String" 38 "java/lang/String" "COMPACT_STRINGS" "Z")) s1 (fun _ _ h => by rw [hh5]; exact h) (g := (mkF m 19 #[.val (.ref x), .val (.ref y), .val (.ref y)] [])) rfl (hb hbytes d19)
    have hh7 := q7.trans hh5
    have c8 : Steps p.tables e below (s₁.setTop (entryFrame m #[.ref x, .ref y] 3)) (T7.setTop (mkF m 26 #[.val (.ref x), .val (.ref y), .val (.ref y)] [.ref x])) := (c6.trans (st7 _ (Steps.refl _))).trans (by
      refine XS.ifNo X7.here hexec rfl (hb hbytes d22) rfl (i0_eq_f hz) ?_
      refine XS.aloadN X7.here hexec rfl (hb hbytes d25) rfl rfl ?_
      exact Steps.refl _)
    obtain ⟨T9, X9, q9, st9⟩ := X7.hget hexec hown (wk W (.fieldLink "java/lang/String" 15 "java/lang/String" "coder" "B")) (hx.mv X7.warmed.alike hh7).2.2.1 (g := (mkF m 26 #[.val (.ref x), .val (.ref y), .val (.ref y)] [.ref x])) rfl (rest := []) rfl (hb hbytes d26)
    have hh9 := q9.trans hh7
    have c10 : Steps p.tables e below (s₁.setTop (entryFrame m #[.ref x, .ref y] 3)) (T9.setTop (mkF m 30 #[.val (.ref x), .val (.ref y), .val (.ref y)] [.ref y, .int cd])) := (c8.trans (st9 _ (Steps.refl _))).trans (by
      refine XS.aloadN X9.here hexec rfl (hb hbytes d29) rfl rfl ?_
      exact Steps.refl _)
    obtain ⟨T11, X11, q11, st11⟩ := X9.hget hexec hown (wk W (.fieldLink "java/lang/String" 15 "java/lang/String" "coder" "B")) (hy.mv X9.warmed.alike hh9).2.2.1 (g := (mkF m 30 #[.val (.ref x), .val (.ref y), .val (.ref y)] [.ref y, .int cd])) rfl (rest := [.int cd]) rfl (hb hbytes d30)
    have hh11 := q11.trans hh9
    have c12 : Steps p.tables e below (s₁.setTop (entryFrame m #[.ref x, .ref y] 3)) (T11.setTop (mkF m 33 #[.val (.ref x), .val (.ref y), .val (.ref y)] [.int cd', .int cd])) := c10.trans (st11 _ (Steps.refl _))
    by_cases hcd : cd = cd'
    · subst hcd
      have c13 : Steps p.tables e below (s₁.setTop (entryFrame m #[.ref x, .ref y] 3)) (T11.setTop (mkF m 37 #[.val (.ref x), .val (.ref y), .val (.ref y)] [.ref x])) := c12.trans (by
        refine XS.icmpNo X11.here hexec rfl (hb hbytes d33) rfl (ii_ne_f rfl) ?_
        refine XS.aloadN X11.here hexec rfl (hb hbytes d36) rfl rfl ?_
        exact Steps.refl _)
      obtain ⟨T14, X14, q14, st14⟩ := X11.hget hexec hown (wk W (.fieldLink "java/lang/String" 9 "java/lang/String" "value" "[B")) (hx.mv X11.warmed.alike hh11).2.1 (g := (mkF m 37 #[.val (.ref x), .val (.ref y), .val (.ref y)] [.ref x])) rfl (rest := []) rfl (hb hbytes d37)
      have hh14 := q14.trans hh11
      have c15 : Steps p.tables e below (s₁.setTop (entryFrame m #[.ref x, .ref y] 3)) (T14.setTop (mkF m 41 #[.val (.ref x), .val (.ref y), .val (.ref y)] [.ref y, .ref t])) := (c13.trans (st14 _ (Steps.refl _))).trans (by
        refine XS.aloadN X14.here hexec rfl (hb hbytes d40) rfl rfl ?_
        exact Steps.refl _)
      obtain ⟨T16, X16, q16, st16⟩ := X14.hget hexec hown (wk W (.fieldLink "java/lang/String" 9 "java/lang/String" "value" "[B")) (hy.mv X14.warmed.alike hh14).2.1 (g := (mkF m 41 #[.val (.ref x), .val (.ref y), .val (.ref y)] [.ref y, .ref t])) rfl (rest := [.ref t]) rfl (hb hbytes d41)
      have hh16 := q16.trans hh14
      have c17 : Steps p.tables e below (s₁.setTop (entryFrame m #[.ref x, .ref y] 3)) (T16.setTop (mkF m 44 #[.val (.ref x), .val (.ref y), .val (.ref y)] [.ref t', .ref t])) := c15.trans (st16 _ (Steps.refl _))
      obtain ⟨v18, T18, X18, E18, g18⟩ := X16.callS hexec (LEq.law l t V t' V') hown (wks W (staticW "java/lang/String" 541 LEq.yN)) (wk W LEq.tab) (W := 0) (Nat.le_of_ble_eq_true rfl) (Nat.le_of_ble_eq_true rfl) (Nat.le_refl _) (Nat.le_refl _) (g := (mkF m 44 #[.val (.ref x), .val (.ref y), .val (.ref y)] [.ref t', .ref t])) rfl (by rw [hml]; rfl) c17 (argsL := [.ref t, .ref t']) (rest := []) rfl rfl (by show 2 * 0 + 0 ≤ _; decide) (hb hbytes d44) (⟨rfl, hx.2.2.2.1.mv X16.warmed.alike hh16, hx.2.2.2.2.1.ty, hy.2.2.2.1.mv X16.warmed.alike hh16, hy.2.2.2.2.1.ty⟩)
      obtain ⟨v, rfl, q18, hv⟩ := E18
      have iff := Cod.eqv hx.2.2.2.2.1 hy.2.2.2.2.1 hx.2.2.2.2.2 hy.2.2.2.2.2
      rcases hv with ⟨rfl, he⟩ | ⟨rfl, he⟩
      · have c19 : Steps p.tables e below (s₁.setTop (entryFrame m #[.ref x, .ref y] 3)) (T18.setTop (mkF m 55 #[.val (.ref x), .val (.ref y), .val (.ref y)] [.int 1])) := Steps.trans g18 (by
          refine XS.ifNo X18.here hexec rfl (hb hbytes d47) rfl (i0_eq_f (by decide)) ?_
          refine iconstV X18.here hexec rfl 1 (hb hbytes d50) (by decide) ?_
          refine XS.goto X18.here hexec rfl (pc0 := 51) rfl (hb hbytes d51) (by decide) rfl ?_
          exact Steps.refl _)
        exact ⟨T18, some (.int 1), _, _, _, X18, rfl, rfl, rfl, (fun h => by cases h), ⟨1, rfl, q18.trans hh16, Or.inl ⟨rfl, iff.mp he⟩⟩, fun fs hl => c19.trans (X18.ireturnOut hexec hret rfl (Or.inr (Or.inl rfl)) (hb hbytes d55) hl)⟩
      · have c19 : Steps p.tables e below (s₁.setTop (entryFrame m #[.ref x, .ref y] 3)) (T18.setTop (mkF m 55 #[.val (.ref x), .val (.ref y), .val (.ref y)] [.int 0])) := Steps.trans g18 (by
          refine XS.ifYes X18.here hexec rfl (pc0 := 47) rfl (hb hbytes d47) rfl (i0_eq_t rfl) (by decide) rfl ?_
          refine iconstV X18.here hexec rfl 0 (hb hbytes d54) (by decide) ?_
          exact Steps.refl _)
        exact ⟨T18, some (.int 0), _, _, _, X18, rfl, rfl, rfl, (fun h => by cases h), ⟨0, rfl, q18.trans hh16, Or.inr ⟨rfl, fun q => he (iff.mpr q)⟩⟩, fun fs hl => c19.trans (X18.ireturnOut hexec hret rfl (Or.inr (Or.inl rfl)) (hb hbytes d55) hl)⟩
    · have c13 : Steps p.tables e below (s₁.setTop (entryFrame m #[.ref x, .ref y] 3)) (T11.setTop (mkF m 55 #[.val (.ref x), .val (.ref y), .val (.ref y)] [.int 0])) := c12.trans (by
        refine XS.icmpYes X11.here hexec rfl (pc0 := 33) rfl (hb hbytes d33) rfl (ii_ne_t hcd) (by decide) rfl ?_
        refine iconstV X11.here hexec rfl 0 (hb hbytes d54) (by decide) ?_
        exact Steps.refl _)
      exact ⟨T11, some (.int 0), _, _, _, X11, rfl, rfl, rfl, (fun h => by cases h), ⟨0, rfl, hh11, Or.inr ⟨rfl, Cod.dif hx.2.2.2.2.1 hy.2.2.2.2.1 hcd⟩⟩, fun fs hl => c13.trans (X11.ireturnOut hexec hret rfl (Or.inr (Or.inl rfl)) (hb hbytes d55) hl)⟩
theorem pays {l : Launch} {R : Room} {p : Program} {e : Env} {below : List Frame} {s : State} {sargs : Array Value} {len W : Nat} (x t : Addr) (V : Cell) (cd : Int32) (n : Nat) (f : Nat → Int32) (y t' : Addr) (V' : Cell) (cd' : Int32) (k : Nat) (g : Nat → Int32) (z : Int32) (htab : tab.before sargs s = true) (hfr : 2 ≤ R.frames) (hlo : W + 28 ≤ R.locals) :
    Back l R p e below s sargs yN len W (fun A₁ a₁ => A₁.cells + 0 ≤ R.cells ∧ A₁.slots + 0 ≤ R.slots ∧ P x t V cd n f y t' V' cd' k g z a₁ A₁.U) (fun A₁ _ v₁ B₁ => Says01 (SameT n f k g) v₁ A₁.U B₁.U ∧ B₁.locs = A₁.locs ++ [] ∧ B₁.cells = A₁.cells + 0 ∧ B₁.slots = A₁.slots + 0) :=
  (law l x t V cd n f y t' V' cd' k g z).pays htab hfr (by omega)
end SEq
end StrChars
namespace StrChars.Road
open Jvm Sem ClassFile Op Lib Jvm.Stand Jvm.Free Jvm.Free.XT
open Jvm.Lib.Cold (StaticIs)
/-- the words of String.equals(Object) -/
abbrev wordsEq : List Jvm.Cond := [.code SEq.yN SEq.yB 3 (some .boolean), .initialized ST, .classLink ST 10 ST, .fieldLink ST 38 ST "COMPACT_STRINGS" "Z", .fieldLink ST 15 ST "coder" "B", .fieldLink ST 9 ST "value" "[B", .methodLink ST 541 LEq.yN, .static LEq.yN, .code LEq.yN LEq.yB 3 (some .boolean), .initialized "java/lang/StringLatin1"]
theorem tabEq_of {a : Array Value} {s : State} (h : ∀ w ∈ wordsEq, w.before a s = true) : SEq.tab.before a s = true := by
  have hl : LEq.tab.before a s = true := unparts (wk h (.code LEq.yN LEq.yB 3 (some .boolean))) (wks h (.initialized LEq.yN.cls :: LEq.site))
  have q := consq hl h
  exact unparts (wk q (.code SEq.yN SEq.yB 3 (some .boolean))) (wks q (.initialized SEq.yN.cls :: SEq.site))
theorem movedEq {Z s : State} {a0 args : Array Value} (hZ : Z.Warmed39 s.vm) (hw : ∀ d ∈ wordsEq, d.before a0 Z = true) : ∀ d ∈ wordsEq, d.before args s = true := fun d hd => by
  have t : ∀ d ∈ wordsEq, (d.onTables && d.keepsFace) = true := by decide +kernel
  exact RoadKit.mv hZ (hw d hd) (t d hd)
/-- the road's facts of a String, as the laws ask it -/
theorem txt_of {Z U : State} {a0 : Array Value} {kI : Nat} (wi : (Jvm.Cond.instantiable ST kI).before a0 Z = true) (al : Z.vm.Alike U.vm) {x t : Addr} {kb : ClassId} {cs : List Int32} {cd N2 : Int32} {vs : List Value} (E : RoadKit.Exa Z U.heap x ST) (V : RoadKit.Fld Z U.heap x ST "value" "[B" (.ref t)) (C : RoadKit.Fld Z U.heap x ST "coder" "B" (.int cd)) (K : RoadKit.Arv Z U.heap t kb .byte N2 vs (.int 0)) (hc : CodA cs cd N2 vs) (hb : ∀ c ∈ cs, ¬ c < 0 ∧ ¬ (65535 : Int32) < c) (l2 : cs.length ≤ 4000) :
    ∃ A, Txt x t A cd cs.length (fun j => cs.getD j 0) U := by
  obtain ⟨A, K1, K2, K3, K4, K5, K6⟩ := K
  have hcod := hc.cod (by omega) K3 K5
  obtain ⟨D, fV, fC, hB, F1, F2, g1, g2, -, -⟩ := strObj wi al E V C
  exact ⟨A, ⟨_, hB.2.2.1, D, hB.1, rfl, by cases q : D.vm <;> first | rfl | exact absurd q (hB.2.1.2 _)⟩, Has.of hB F1 g1, Has.of hB F2 g2, ⟨K1.1, State.isArrayOf_alike al K1.2.1, K1.2.2, by rcases hcod with ⟨-, q, -⟩ | ⟨-, q, -⟩ <;> omega⟩, hcod, fun j hj => by
    have e : cs.getD j 0 = cs[j] := by simp [List.getD_eq_getElem?_getD, hj]
    show ¬ cs.getD j 0 < 0 ∧ ¬ 65535 < cs.getD j 0
    rw [e]; exact hb _ (List.getElem_mem _)⟩
theorem same_list (cs ds : List Int32) : SameT cs.length (fun j => cs.getD j 0) ds.length (fun j => ds.getD j 0) ↔ cs = ds := by
  constructor
  · rintro ⟨e, q⟩
    refine List.ext_getElem e fun j h1 h2 => ?_
    have := q j h1
    simpa [List.getD_eq_getElem?_getD, h1, h2] using this
  · rintro rfl
    exact ⟨rfl, fun _ _ => rfl⟩
/-- **equals(Object) OF TWO SUCH STRINGS**: 1 just where the chars are the same -/
theorem eqW {p : Program} {l : Launch} {e : Env} {R : Room} {s : State} {args : Array Value} {below : List Frame} {len W : Nat} {Z : State} {a0 : Array Value} {h : Heap} (hZ : Z.Warmed39 s.vm) (hw : ∀ d ∈ wordsEq, d.before a0 Z = true) {kI : Nat} (wi : (Jvm.Cond.instantiable ST kI).before a0 Z = true)
    {x t : Addr} {kb : ClassId} {cs : List Int32} {cd N2 : Int32} {vs : List Value} (E : RoadKit.Exa Z h x ST) (V : RoadKit.Fld Z h x ST "value" "[B" (.ref t)) (C : RoadKit.Fld Z h x ST "coder" "B" (.int cd)) (K : RoadKit.Arv Z h t kb .byte N2 vs (.int 0)) (hc : CodA cs cd N2 vs) (hb : ∀ c ∈ cs, ¬ c < 0 ∧ ¬ (65535 : Int32) < c) (l2 : cs.length ≤ 4000)
    {y t' : Addr} {kb' : ClassId} {ds : List Int32} {cd' N2' : Int32} {vs' : List Value} (E' : RoadKit.Exa Z h y ST) (V' : RoadKit.Fld Z h y ST "value" "[B" (.ref t')) (C' : RoadKit.Fld Z h y ST "coder" "B" (.int cd')) (K' : RoadKit.Arv Z h t' kb' .byte N2' vs' (.int 0)) (hc' : CodA ds cd' N2' vs') (hb' : ∀ c ∈ ds, ¬ c < 0 ∧ ¬ (65535 : Int32) < c) (l2' : ds.length ≤ 4000)
    {z : Int32} (S : RoadKit.Sta Z h ST "COMPACT_STRINGS" "Z" (.int z)) (hz : ¬ z = 0) (hfr : 2 ≤ R.frames) (hlo : W + 28 ≤ R.locals) :
    Back l R p e below s args (⟨"java/lang/String", "equals", "(Ljava/lang/Object;)Z"⟩ : MethodName) len W (fun P a => a = #[.ref x, .ref y] ∧ P.U.heap = h ∧ P.cells + 0 ≤ R.cells ∧ P.slots + 0 ≤ R.slots)
      (fun P _ v B => ∃ L, (((v = some (.int 1) ∧ cs = ds) ∨ (v = some (.int 0) ∧ ¬ cs = ds)) ∧ L = [] ∧ B.U.heap = h) ∧ B.locs = P.locs ++ L ∧ B.cells = P.cells + 0 ∧ B.slots = P.slots + 0) := by
  intro m meth c P g ig mk a X hg hsize hdg hW hn hp'
  obtain ⟨rfl, rfl, r1, r2⟩ := hp'
  have al : Z.vm.Alike P.U.vm := hZ.alike.trans X.warmed.alike
  obtain ⟨A, hx⟩ := txt_of wi al E V C K hc hb l2
  obtain ⟨A', hy⟩ := txt_of wi al E' V' C' K' hc' hb' l2'
  obtain ⟨v, B, X', ⟨⟨w, hv, hh, hq⟩, hl, hk, hs⟩, st⟩ := SEq.pays x t A cd cs.length (fun j => cs.getD j 0) y t' A' cd' ds.length (fun j => ds.getD j 0) z (tabEq_of (movedEq hZ hw)) hfr hlo m meth c P g ig mk _ X hg hsize hdg hW hn ⟨r1, r2, rfl, hx, hy, sta_is al S, hz⟩
  refine ⟨v, B, X', ⟨[], ⟨?_, rfl, hh⟩, hl, hk, hs⟩, st⟩
  rcases hq with ⟨rfl, q⟩ | ⟨rfl, q⟩
  · exact Or.inl ⟨hv, (same_list cs ds).mp q⟩
  · exact Or.inr ⟨hv, fun e => q ((same_list cs ds).mpr e)⟩
end StrChars.Road
namespace StrChars.Road
open Jvm Sem ClassFile Op Lib Jvm.Stand Jvm.Free Jvm.Free.XT
open Jvm.Lib.Cold (StaticIs)
/-- what backV says of its String, as the contracts of this text ask it: cs's low bytes, coder 0 -/
theorem codOf {cs : List Int32} {n : Nat} (hn : cs.length = n) (hb : ∀ c ∈ cs, ¬ 255 < c) : CodA cs 0 (Int32.ofNat n) ((cs.map lo8).map Value.int) := Or.inl ⟨rfl, by rw [hn], by simp [List.map_map, Function.comp_def], hb⟩
end StrChars.Road
end Jvm.Pilot.@@N@@
namespace Jvm.RoadKit
open Sem ClassFile Op Lib Jvm.Stand Jvm.Free Jvm.LawKit
section New
variable {p : Program} {l : Launch} {e : Env} {R : Room} {s : State} {m : MethodId} {args : Array Value} {below : List Frame} {meth : Method} {c : Code} {T : State} {locs : List Loc} {cells slots : Nat}
theorem retI (X : Stand p l e R s m args below meth c T locs cells slots) (hx : p.tables.exec = Jvm.exec) {pc : Nat} {Ls : Array Slot} {z : Int32} {rest : List Value} (hret : meth.sig.returnType = some .int) (hd : decode c.code pc = .ok (.ireturn, 1)) {fs : List Frame}
    (hl : ∀ (f : JFrame) (acts : List Action), f.method = m → f.locked = none → f.entered = [] → (doReturn e (T.setTop f) acts (some (.int z))).1 = T.setFrames fs) : Steps p.tables e below (T.setTop (mkF m pc Ls (.int z :: rest))) (T.setFrames fs) :=
  retOut X hx hret rfl (Or.inl ⟨rfl, Or.inl rfl, _, rfl⟩) hd hl
theorem own_retL (X : Stand p l e R s m args below meth c T locs cells slots) (hx : p.tables.exec = Jvm.exec) {pc : Nat} {Ls : Array Slot} {z : Int64} {rest : List Value} (hret : meth.sig.returnType = some .long) (hd : decode c.code pc = .ok (.lreturn, 1)) {fs : List Frame}
    (hl : ∀ (f : JFrame) (acts : List Action), f.method = m → f.locked = none → f.entered = [] → (doReturn e (T.setTop f) acts (some (.long z))).1 = T.setFrames fs) : Steps p.tables e below (T.setTop (mkF m pc Ls (.long z :: rest))) (T.setFrames fs) :=
  retOut X hx hret rfl (Or.inr (Or.inl ⟨rfl, rfl, _, rfl⟩)) hd hl
theorem own_retA (X : Stand p l e R s m args below meth c T locs cells slots) (hx : p.tables.exec = Jvm.exec) {pc : Nat} {Ls : Array Slot} {z : Addr} {rest : List Value} {t : FieldType} (hret : meth.sig.returnType = some t) (ht : t.isReference = true) (hd : decode c.code pc = .ok (.areturn, 1)) {fs : List Frame}
    (hl : ∀ (f : JFrame) (acts : List Action), f.method = m → f.locked = none → f.entered = [] → (doReturn e (T.setTop f) acts (some (.ref z))).1 = T.setFrames fs) : Steps p.tables e below (T.setTop (mkF m pc Ls (.ref z :: rest))) (T.setFrames fs) :=
  retOut X hx hret (by cases t <;> first | rfl | (cases ht; done)) (Or.inr (Or.inr (Or.inr (Or.inr ⟨rfl, ht, rfl⟩)))) hd hl
theorem own_lrem {g : JFrame} {target : State} (X : Stand p l e R s m args below meth c T locs cells slots) (hx : p.tables.exec = Jvm.exec) (hg : g.method = m) {x y : Int64} {rest : List Value} (hd : decode c.code g.pc = .ok (.lrem, 1)) (hs : g.stack = .long y :: .long x :: rest) (hy : y ≠ 0)
    (hr : Steps p.tables e below (T.setTop { g with pc := g.pc + 1, stack := .long (x % y) :: rest }) target) : Steps p.tables e below (T.setTop g) target :=
  XS.lrem X.here hx hg hd hs hy (by rw [lrem_mod]; exact hr)
theorem own_more (X : Stand p l e R s m args below meth c T locs cells slots) {cells' slots' : Nat} (h1 : cells ≤ cells') (h2 : slots ≤ slots') : Stand p l e R s m args below meth c T locs cells' slots' := { X with same := X.same.mono h1 h2 }
end New
/-- one step of a walk whose end is still to be found -/
theorem own_by {tb : Tables} {e : Env} {below : List Frame} {A A' : State} {P : State → Outcome → Prop} (k : ∀ t, Steps tb e below A' t → Steps tb e below A t) (h : ∃ s₂ o, Steps tb e below A' s₂ ∧ P s₂ o) : ∃ s₂ o, Steps tb e below A s₂ ∧ P s₂ o := by
  obtain ⟨s₂, o, h1, h2⟩ := h; exact ⟨s₂, o, k _ h1, h2⟩
theorem own_stp {tb : Tables} {e : Env} {below : List Frame} {A A' t : State} (k : ∀ t, Steps tb e below A' t → Steps tb e below A t) (h : Steps tb e below A' t) : Steps tb e below A t := k _ h
/-- all roads that meet again -/
theorem own_cut {tb : Tables} {e : Env} {below : List Frame} {A : State} {P : State → Outcome → Prop} {Φ : State → Prop} (h1 : (∀ A', Φ A' → ∃ s₂ o, Steps tb e below A' s₂ ∧ P s₂ o) → ∃ s₂ o, Steps tb e below A s₂ ∧ P s₂ o) (h2 : ∀ A', Φ A' → ∃ s₂ o, Steps tb e below A' s₂ ∧ P s₂ o) : ∃ s₂ o, Steps tb e below A s₂ ∧ P s₂ o := h1 h2
/-- an array: its kind, its length, and what each place holds -/
def AF (Z : State) (h : Heap) (a : Addr) (ty : FieldType) (n : Int32) (f : Nat → Value) : Prop := ∃ c : Cell, Arr Z h a c ty ∧ c.slots.size = n.toNatClampNeg ∧ ¬ n < 0 ∧ ∀ i, i < c.slots.size → c.slots[i]? = some (f i)
section AFs
variable {Z : State} {h h' : Heap} {a b : Addr} {ty : FieldType} {n : Int32} {f f' : Nat → Value} {v : Value} {sl : Nat} {ws : List Addr}
theorem AF.lt (F : AF Z h a ty n f) : a < h.size := by obtain ⟨c, A, -⟩ := F; exact A.lt
theorem AF.ext (F : AF Z h a ty n f) (E : Ext h h') : AF Z h' a ty n f := by obtain ⟨c, A, r⟩ := F; exact ⟨c, A.ext E, r⟩
theorem AF.other (F : AF Z h b ty n f) (W : Wr h h' a sl v) (q : b ≠ a) : AF Z h' b ty n f := by obtain ⟨c, A, r⟩ := F; exact ⟨c, A.other W q, r⟩
theorem AF.keep (F : AF Z h a ty n f) (K : Keep h h' ws) (q : a ∉ ws) : AF Z h' a ty n f := by obtain ⟨c, A, r⟩ := F; exact ⟨c, ⟨K.2.1 a c A.1 q, A.2⟩, r⟩
theorem AF.to (F : AF Z h a ty n f) (q : ∀ i, i < n.toNatClampNeg → f i = f' i) : AF Z h a ty n f' := by
  obtain ⟨c, A, S, M, H⟩ := F; exact ⟨c, A, S, M, fun i hi => by rw [← q i (S ▸ hi)]; exact H i hi⟩
theorem AF.new {k : ClassId} (A : Arr Z h a (newA k ty n) ty) (q : ¬ n < 0) : AF Z h a ty n (fun _ => defaultValue ty) := ⟨_, A, sz_new _ _ _, q, fun i hi => by rw [sz_new] at hi; simp [newA, hi]⟩
theorem AF.set {c : Cell} {j : Int32} (A : Arr Z h a c ty) (S : c.slots.size = n.toNatClampNeg) (M : ¬ n < 0) (H : ∀ i, i < c.slots.size → c.slots[i]? = some (f i)) (hj : ¬ (j < 0 ∨ c.slots.size ≤ j.toNatClampNeg)) (W : Wr h h' a j.toNatClampNeg v) :
    AF Z h' a ty n (fun i => if i = j.toNatClampNeg then v else f i) := by
  refine ⟨_, A.same W, by rw [sz_set]; exact S, M, fun i hi => ?_⟩
  rw [sz_set] at hi
  have hj' : j.toNatClampNeg < c.slots.size := Nat.lt_of_not_le fun q => hj (Or.inr q)
  by_cases u : i = j.toNatClampNeg
  · subst u; simp [Cell.setSlot, hj']
  · have := H i hi; simp only [Cell.setSlot, if_neg u]
    rw [Array.getElem?_setIfInBounds_ne (Ne.symm u)]; exact this
end AFs
end Jvm.RoadKit
namespace Jvm.Pilot.@@N@@
open Jvm Jvm.ClassFile Sem Op Lib Jvm.Free Jvm.Stand Jvm.LawKit Jvm.RoadKit Bundle Jvm.Pilot.@@N@@.Jvm.D
theorem own_staKeep {Z : State} {h h' : Heap} {K n d : String} {v : Value} (F : Sta Z h K n d v) (k : Keep h h' []) : Sta Z h' K n d v := by
  obtain ⟨cf, i, kk, f, st, cell, h1, h2, h3, h4, h5, r⟩ := F
  exact ⟨cf, i, kk, f, st, cell, h1, h2, h3, h4, k.2.1 st cell h5 nin0, r⟩
theorem own_sameV {Z : State} {h h' : Heap} {a b : Addr} {C n d : String} {v : Value} (W : Wr h h' a (Jvm.RoadKit.slotOf Z C n d) v) (F : Fld Z h b C n d v) : Fld Z h' b C n d v := by
  by_cases q : b = a
  · subst q; exact Fld.same W F
  · exact Fld.other W F (Or.inl q)
def own_OS (Z : State) (h : Heap) (a : Addr) (cs : List Int32) : Prop := ∃ (t : Addr) (kb : ClassId), Exa Z h a "java/lang/String" ∧ Fld Z h a "java/lang/String" "value" "[B" (.ref t) ∧ Fld Z h a "java/lang/String" "coder" "B" (.int 0) ∧ Arv Z h t kb .byte (Int32.ofNat cs.length) ((cs.map (fun c => c.toInt8.toInt32)).map Value.int) (.int 0)
theorem own_OSext {Z : State} {h h' : Heap} {a : Addr} {cs : List Int32} (O : own_OS Z h a cs) (E : Ext h h') : own_OS Z h' a cs := by
  obtain ⟨t, kb, h1, h2, h3, h4⟩ := O; exact ⟨t, kb, h1.ext E, h2.ext E, h3.ext E, h4.ext E⟩
theorem own_OSkeep0 {Z : State} {h h' : Heap} {a : Addr} {cs : List Int32} (O : own_OS Z h a cs) (K : Keep h h' []) : own_OS Z h' a cs := by
  obtain ⟨t, kb, h1, h2, h3, h4⟩ := O; exact ⟨t, kb, h1.keep K, h2.keep K nin0, h3.keep K nin0, h4.keep K nin0⟩
theorem own_OSkeep1 {Z : State} {h h' : Heap} {a x : Addr} {cs : List Int32} {C : String} {n : Nat} {aw : Array Value} (O : own_OS Z h a cs) (K : Keep h h' [x]) (E : Exa Z h x C) (w : (Cond.instantiable C n).before aw Z = true) (hne : C ≠ "java/lang/String") : own_OS Z h' a cs := by
  obtain ⟨t, kb, h1, h2, h3, h4⟩ := O
  have n1 : a ∉ [x] := fun q => Exa.ne E h1 hne (List.mem_singleton.mp q).symm
  have n2 : t ∉ [x] := fun q => Exa.neArv E h4 w (List.mem_singleton.mp q).symm
  exact ⟨t, kb, h1.keep K, h2.keep K n1, h3.keep K n1, h4.keep K n2⟩
def own_VI (Z : State) (Ts : List String) (vm : Vm) : Prop := IB Z vm Ts
def own_VL (Z : State) (lt : Addr) (vm : Vm) : Prop := Lit (Z.setVm vm) "java/lang/String" 7 lt
def own_VT (vm : Vm) : Prop := True
theorem own_IBw {Z B : State} {vm : Vm} {Ts : List String} (q : B.WarmedH vm) (I : IB Z B.vm Ts) : IB Z vm Ts := by
  obtain ⟨m, e, r⟩ := I; exact ⟨m, q.interned_eq.trans e, r⟩
theorem own_Lit39 {Z B : State} {vm : Vm} {a : Addr} (q : B.Warmed39 vm) (L : Lit B "java/lang/String" 7 a) : Lit (Z.setVm vm) "java/lang/String" 7 a := State.resolvedAt?_warmed39 (s := B) q L
theorem own_Litw {Z B : State} {vm : Vm} {a : Addr} (q : B.WarmedH vm) (L : Lit B "java/lang/String" 7 a) : Lit (Z.setVm vm) "java/lang/String" 7 a := own_Lit39 q.wide L
theorem own_up (cs : List Int32) (h : ∀ c ∈ cs, ¬ c < 0 ∧ ¬ (255 : Int32) < c) : ∀ c ∈ cs, ¬ c < 0 ∧ ¬ (65535 : Int32) < c := fun c hc => ⟨(h c hc).1, fun q => (h c hc).2 (by rw [Int32.lt_iff_toInt_lt] at q ⊢; have e1 : (65535 : Int32).toInt = 65535 := rfl; have e2 : (255 : Int32).toInt = 255 := rfl; omega)⟩
theorem own_one {c : Int32} (h : 0 ≤ c.toInt ∧ c.toInt ≤ 255) : ¬ c < 0 ∧ ¬ (255 : Int32) < c := by
  rw [Int32.lt_iff_toInt_lt, Int32.lt_iff_toInt_lt, show (0 : Int32).toInt = 0 from by decide, show (255 : Int32).toInt = 255 from by decide]; omega
def own_cs (n a b c : Int32) : List Int32 := if n = 0 then [] else if n = 1 then [a] else if n = 2 then [a, b] else [a, b, c]
theorem own_csb (n : Int32) {a b c : Int32} (ha : 0 ≤ a.toInt ∧ a.toInt ≤ 255) (hb : 0 ≤ b.toInt ∧ b.toInt ≤ 255) (hc : 0 ≤ c.toInt ∧ c.toInt ≤ 255) : ∀ x ∈ own_cs n a b c, ¬ x < 0 ∧ ¬ (255 : Int32) < x := by
  intro x hx
  have k : x = a ∨ x = b ∨ x = c := by
    unfold own_cs at hx
    split at hx
    · cases hx
    split at hx
    · exact Or.inl (List.mem_singleton.mp hx)
    split at hx
    · simp only [List.mem_cons, List.not_mem_nil, or_false] at hx; exact hx.elim Or.inl (fun q => Or.inr (Or.inl q))
    · simp only [List.mem_cons, List.not_mem_nil, or_false] at hx; exact hx
  rcases k with rfl | rfl | rfl
  · exact own_one ha
  · exact own_one hb
  · exact own_one hc
theorem own_csl (n a b c : Int32) : (own_cs n a b c).length ≤ 4000 := by
  unfold own_cs
  repeat' split
  all_goals simp
theorem own_arvC {Z : State} {h : Heap} {x : Addr} {N : Int32} {cs : List Int32} {f : Nat → Value} (F : AF Z h x .char N f) (hN : N.toNatClampNeg = cs.length) (hf : ∀ i, i < cs.length → f i = .int (cs.getD i 0)) (hb : ∀ c ∈ cs, ¬ c < 0 ∧ ¬ (255 : Int32) < c) : ∃ k, Arv Z h x k .char N (cs.map Value.int) (.int 0) := by
  obtain ⟨c, A, S, M, H⟩ := F
  have S2 : c.slots.size = cs.length := by rw [S, hN]
  have gd : ∀ i, i < cs.length → (cs.map Value.int).getD i (.int 0) = .int (cs.getD i 0) := fun i hi => by simp [List.getD, hi]
  refine ⟨c.cls, c, A, rfl, S, M, fun i hi => ?_, fun i hi => ?_⟩
  · have hi' : i < cs.length := S2 ▸ hi
    rw [H i hi, hf i hi', gd i hi']
  · have hi' : i < cs.length := S2 ▸ hi
    rw [gd i hi']
    have hm : cs.getD i 0 ∈ cs := by simp [List.getD, hi']
    have hz := hb _ hm
    generalize cs.getD i 0 = z at hz
    rw [Int32.lt_iff_toInt_lt, Int32.lt_iff_toInt_lt, show (0 : Int32).toInt = 0 from by decide, show (255 : Int32).toInt = 255 from by decide] at hz
    simp only [fits, Bool.and_eq_true, decide_eq_true_eq, Int32.le_iff_toInt_le, show (0 : Int32).toInt = 0 from by decide, show (65535 : Int32).toInt = 65535 from by decide]; omega
theorem own_b (a : Int32) : 0 ≤ ((a &&& (255 : Int32)).toUInt32.toUInt16.toUInt32.toInt32).toInt ∧ ((a &&& (255 : Int32)).toUInt32.toUInt16.toUInt32.toInt32).toInt ≤ 255 := by
  have h := c_mask a 255 8 (by decide) (by decide)
  have h5 := c_i2c (a &&& (255 : Int32))
  omega
theorem own_4 (a : Int32) : (a &&& (3 : Int32)) = 0 ∨ (a &&& (3 : Int32)) = 1 ∨ (a &&& (3 : Int32)) = 2 ∨ (a &&& (3 : Int32)) = 3 := by
  have h := c_mask a 3 2 (by decide) (by decide)
  simp only [← Int32.toInt_inj, Int32.reduceToInt]
  omega
theorem own_nar {c : Int32} (h : 0 ≤ c.toInt ∧ c.toInt ≤ 255) : nar .char c = c := by
  have := c_i2c c
  exact Int32.toInt_inj.mp (by show c.toUInt32.toUInt16.toUInt32.toInt32.toInt = _; omega)
theorem own_eqv {v : Option Value} {p : Prop} [Decidable p] (h : (v = some (.int 1) ∧ p) ∨ (v = some (.int 0) ∧ ¬ p)) : v = some (.int (if p then (1 : Int32) else (0 : Int32))) := by
  rcases h with ⟨rfl, q⟩ | ⟨rfl, q⟩
  · rw [if_pos q]
  · rw [if_neg q]
theorem own_backOfV {l : Launch} {R : Room} {p : Program} {e : Env} {below : List Frame} {s Z : State} {args a0 : Array Value} {h : Heap} {y : MethodName} {bytes : ByteArray} {maxL : Nat} {ret : Option FieldType} {rm : Room} {len W : Nat} {as' : Array Value} {V0 : Vm → Prop} {Q : Option Value → Heap → List Loc → Vm → Prop}
    (hM : MetFree l y (head1 [Cond.code y bytes maxL ret] rm) (fun a U => a = as' ∧ Z.Warmed39 U.vm ∧ U.heap = h ∧ V0 U.vm) (fun _ _ _ _ _ => True) (fun _ U o U' => ∃ v L, o = .returned v ∧ Q v U'.heap L U'.vm ∧ ReturnedEndW U o U' L rm.cells rm.slots))
    (hZ : Z.Warmed39 s.vm) (hV : ∀ vm, s.WarmedH vm → V0 vm) (wc : (Cond.code y bytes maxL ret).before a0 Z = true) (wz : (Cond.initialized y.cls).before a0 Z = true) (hf : rm.frames + 1 ≤ R.frames) (hl : W + (maxL + 11) + rm.locals ≤ R.locals) :
    BackS l R p e below s args y len W (fun A a => a = as' ∧ A.U.heap = h ∧ A.cells + rm.cells ≤ R.cells ∧ A.slots + rm.slots ≤ R.slots)
      (fun A _ v B => ∃ L, Q v B.U.heap L B.U.vm ∧ B.locs = A.locs ++ L ∧ B.cells = A.cells + rm.cells ∧ B.slots = A.slots + rm.slots) := by
  refine BackS.of_freeW (bytes := bytes) (maxL := maxL) (ret := ret) (E := fun _ _ o t L k n => (k = rm.cells ∧ n = rm.slots) ∧ ∃ v, o = .returned v ∧ Q v t.heap L t.vm) hM hf hl ?_ ?_ ?_ ?_ ?_
  · intro m meth c A a Y hp
    have hU := wtrans hZ Y.warmed
    have wcU := mv (args := a) hU wc
    refine ⟨?_, wcU, mv hU wz, hp.2.2.1, hp.2.2.2⟩
    show (Cond.and _ .tt).before a A.U = true
    rw [Cond.before_and, wcU]; rfl
  · intro m meth c A a g mk Y hp
    exact ⟨hp.1, wtrans hZ Y.warmed, hp.2.1, hV _ Y.warmed⟩
  · intros; trivial
  · intro a first o t hq
    obtain ⟨v, L, h1, h2, h3⟩ := hq
    exact ⟨L, rm.cells, rm.slots, h3, ⟨rfl, rfl⟩, v, h1, h2⟩
  · intro m meth c A a g mk v t L k n Y hp _ _ hE
    obtain ⟨⟨rfl, rfl⟩, v', e3, e4⟩ := hE
    cases e3
    exact ⟨L, e4, rfl, rfl, rfl⟩
theorem own_notS {Z : State} {aw : Array Value} (hw : ∀ d ∈ tables_1, d.before aw Z = true) : ∃ c t, Z.vm.findClass "java/lang/String" = some c ∧ Z.vm.findClass "com/example/corollary/corollary/model/NamedClass" = some t ∧ Z.vm.assignable c t = false := by
  obtain ⟨t, kt, g0, g2, g5, g7, -⟩ := Cond.instantiable_spec (hw _ (List.mem_of_getElem? (i := 27) rfl))
  have root : NS Z "java/lang/Object" "com/example/corollary/corollary/model/NamedClass" := by
    obtain ⟨c, k, h1, h2, h3, -, -⟩ := Cond.noSuperclass_spec (hw _ (List.mem_of_getElem? (i := 64) rfl))
    have ne := ids_ne h1 g0 (by decide)
    refine ⟨c, t, h1, g0, fun fuel => ?_⟩
    cases fuel with
    | zero => rfl
    | succ f => simp [Vm.isSubclassAux, ne, h2, h3]
  have n2 := NS.step (hw _ (List.mem_of_getElem? (i := 63) rfl)) root (by decide)
  obtain ⟨c, t', h0, g0', n3⟩ := n2
  obtain ⟨p, k, kp, h1, h2, h3, h4, h5, -, h7⟩ := Cond.superclass_spec h0 (hw _ (List.mem_of_getElem? (i := 63) rfl))
  cases g0.symm.trans g0'
  have ne := ids_ne h0 g0 (by decide)
  refine ⟨c, t, h0, g0, ?_⟩
  have g8 := (Bool.or_eq_false_iff.mp g7).1
  show Z.vm.assignableAux (255 + 1) c t = false
  simp [Vm.assignableAux, ne, h2, g2, h5, g5, g8, Vm.isSubclass, n3]
theorem own_notO {Z : State} {aw : Array Value} (hw : ∀ d ∈ tables_1, d.before aw Z = true) : ∃ c t, Z.vm.findClass "com/example/corollary/corollary/model/ObjectProperty" = some c ∧ Z.vm.findClass "com/example/corollary/corollary/model/NamedClass" = some t ∧ Z.vm.assignable c t = false := by
  obtain ⟨t, kt, g0, g2, g5, g7, -⟩ := Cond.instantiable_spec (hw _ (List.mem_of_getElem? (i := 27) rfl))
  have root : NS Z "java/lang/Object" "com/example/corollary/corollary/model/NamedClass" := by
    obtain ⟨c, k, h1, h2, h3, -, -⟩ := Cond.noSuperclass_spec (hw _ (List.mem_of_getElem? (i := 64) rfl))
    have ne := ids_ne h1 g0 (by decide)
    refine ⟨c, t, h1, g0, fun fuel => ?_⟩
    cases fuel with
    | zero => rfl
    | succ f => simp [Vm.isSubclassAux, ne, h2, h3]
  have n2 := NS.step (hw _ (List.mem_of_getElem? (i := 89) rfl)) (NS.step (hw _ (List.mem_of_getElem? (i := 90) rfl)) root (by decide)) (by decide)
  obtain ⟨c, t', h0, g0', n3⟩ := n2
  obtain ⟨p, k, kp, h1, h2, h3, h4, h5, -, h7⟩ := Cond.superclass_spec h0 (hw _ (List.mem_of_getElem? (i := 89) rfl))
  cases g0.symm.trans g0'
  have ne := ids_ne h0 g0 (by decide)
  refine ⟨c, t, h0, g0, ?_⟩
  have g8 := (Bool.or_eq_false_iff.mp g7).1
  show Z.vm.assignableAux (255 + 1) c t = false
  simp [Vm.assignableAux, ne, h2, g2, h5, g5, g8, Vm.isSubclass, n3]
theorem pn_0 : plainName "java/lang/Record" = true := by first | (simp [plainName, overriddenIn]; done) | decide +kernel
theorem d6_0 : decode jdk_30_method_1_code 0 = .ok (.aload_n 0, 1) := by decide +kernel
theorem d6_1 : decode jdk_30_method_1_code 1 = .ok (.invokespecial 1, 3) := by decide +kernel
theorem d6_4 : decode jdk_30_method_1_code 4 = .ok (.return_, 1) := by decide +kernel
theorem ef_rm6 (m : MethodId) (a0 : Addr) : entryFrame m #[(.ref a0)] 1 = mkF m 0 #[.val (.ref a0)] [] := by first | (simp [entryFrame, mkF, argsToLocals, Value.category]; done) | rfl
def Q6 (Z : State) (a0 : Addr) (h0 : Heap) (n0 : Nat) (v : Option Value) (h : Heap) (L : List Loc) : Prop := v = none ∧ L = [] ∧ h = h0
set_option maxRecDepth 65536 in
set_option maxHeartbeats 40000000 in
theorem rm6 (l : Launch) (Z : State) (aw : Array Value) (hw : ∀ d ∈ tables_1, d.before aw Z = true) (ws : List Jvm.Cond) (a0 : Addr) (h0 : Heap) (n0 : Nat) (Z0 : n0 ≤ h0.size) :
    MetFree l (⟨"java/lang/Record", "<init>", "()V"⟩ : MethodName) (head1 (Jvm.Cond.code (⟨"java/lang/Record", "<init>", "()V"⟩ : MethodName) jdk_30_method_1_code 1 none :: ws) ({ frames := 1, cells := 0, slots := 0, locals := 12 } : Room)) (fun a U => a = #[(.ref a0)] ∧ Z.Warmed39 U.vm ∧ U.heap = h0) (fun _ _ _ _ _ => True) (fun _ U o U' => ∃ v L, o = .returned v ∧ Q6 Z a0 h0 n0 v U'.heap L ∧ FrameEnd U o U' L ({ frames := 1, cells := 0, slots := 0, locals := 12 } : Room).cells ({ frames := 1, cells := 0, slots := 0, locals := 12 } : Room).slots) := by
  refine MetFree.of_bodySF (plainFor_of_name pn_0) hisR ?_
  intro p e s m args below meth c s₁ Bd hml0 hP hK
  obtain ⟨rfl, hZ, hh⟩ := hP
  have hx := Bd.exec
  have hby := Bd.bytes
  have hml : c.maxLocals = 1 := hml0
  have hown : s.vm.findClass "java/lang/Record" = some m.cls := findClass_of_methodNamed Bd.named
  have hnm := (name_of_methodNamed Bd.named Bd.method).1
  have X0 : Stand p l e ({ frames := 1, cells := 0, slots := 0, locals := 12 } : Room) s m #[(.ref a0)] below meth c s₁ [] 0 0 := Stand.of_body Bd
  have e0 : s₁.heap = h0 := by rw [← hh, Bd.state]; rfl
  have N0 := Fr.nil n0
  have K0 : Keep h0 h0 [] := Keep.refl _ _
  refine own_by (A' := s₁.setTop (mkF m 0 #[.val (.ref a0)] [])) (fun t k => castTop (ef_rm6 m a0) k) ?_
  refine own_by (A' := s₁.setTop (mkF m 1 #[.val (.ref a0)] [(.ref a0)])) (fun t kt => ?_) ?_
  · show Steps p.tables e below (s₁.setTop (mkF m 0 #[.val (.ref a0)] [])) t
    refine XS.aloadN X0.here hx rfl (hb hby d6_0) rfl rfl ?_
    exact kt
  obtain ⟨T1, X1, e1, st1⟩ := initO X0 hx hZ hown (hw _ (List.mem_of_getElem? (i := 37) rfl)) (hw _ (List.mem_of_getElem? (i := 16) rfl)) (hw _ (List.mem_of_getElem? (i := 17) rfl)) e0 (g := (mkF m 1 #[.val (.ref a0)] [(.ref a0)])) rfl (by rw [hml]; rfl) rfl (hb hby d6_1) (by decide) (W := 0) (by show 2 * 0 + _ ≤ _; exact Nat.le_of_eq rfl) (by decide)
  refine own_by (A' := T1.setTop (mkF m 4 #[.val (.ref a0)] [])) (fun t kt => st1 t kt) ?_
  obtain ⟨fs, hr, hrun, hended, hW, hsame⟩ := X1.leave (v := none) (fun _ => rfl)
  refine ⟨_, _, ?_, hrun, hended, _, _, rfl, ?_, ⟨_, rfl⟩, hW, hsame.mono (by decide) (by decide)⟩
  · exact X1.returnOut hx Bd.returns (hb hby d6_4) hr
  · show Q6 Z a0 h0 n0 _ T1.heap _
    rw [e1]
    exact ⟨rfl, rfl, rfl⟩
theorem pn_1 : plainName "java/util/Objects" = true := by first | (simp [plainName, overriddenIn]; done) | decide +kernel
theorem d7_0 : decode jdk_31_method_11_code 0 = .ok (.aload_n 0, 1) := by decide +kernel
theorem d7_1 : decode jdk_31_method_11_code 1 = .ok (.ifnonnull 12, 3) := by decide +kernel
theorem d7_13 : decode jdk_31_method_11_code 13 = .ok (.aload_n 0, 1) := by decide +kernel
theorem d7_14 : decode jdk_31_method_11_code 14 = .ok (.areturn, 1) := by decide +kernel
theorem ef_rm7 (m : MethodId) (a0 : Addr) (a1 : Addr) : entryFrame m #[(.ref a0), (.ref a1)] 2 = mkF m 0 #[.val (.ref a0), .val (.ref a1)] [] := by first | (simp [entryFrame, mkF, argsToLocals, Value.category]; done) | rfl
def Q7 (Z : State) (a0 : Addr) (a1 : Addr) (h0 : Heap) (n0 : Nat) (v : Option Value) (h : Heap) (L : List Loc) : Prop := v = some (.ref a0) ∧ Fr n0 L ∧ h = h0
set_option maxRecDepth 65536 in
set_option maxHeartbeats 40000000 in
theorem rm7 (l : Launch) (Z : State) (aw : Array Value) (hw : ∀ d ∈ tables_1, d.before aw Z = true) (ws : List Jvm.Cond) (a0 : Addr) (a1 : Addr) (h0 : Heap) (n0 : Nat) (Z0 : n0 ≤ h0.size) :
    MetFree l (⟨"java/util/Objects", "requireNonNull", "(Ljava/lang/Object;Ljava/lang/String;)Ljava/lang/Object;"⟩ : MethodName) (head1 (Jvm.Cond.code (⟨"java/util/Objects", "requireNonNull", "(Ljava/lang/Object;Ljava/lang/String;)Ljava/lang/Object;"⟩ : MethodName) jdk_31_method_11_code 2 (some (.object "java/lang/Object")) :: ws) ({ frames := 0, cells := 0, slots := 0, locals := 0 } : Room)) (fun a U => a = #[(.ref a0), (.ref a1)] ∧ Z.Warmed39 U.vm ∧ U.heap = h0) (fun _ _ _ _ _ => True) (fun _ U o U' => ∃ v L, o = .returned v ∧ Q7 Z a0 a1 h0 n0 v U'.heap L ∧ FrameEnd U o U' L ({ frames := 0, cells := 0, slots := 0, locals := 0 } : Room).cells ({ frames := 0, cells := 0, slots := 0, locals := 0 } : Room).slots) := by
  refine MetFree.of_bodySF (plainFor_of_name pn_1) hisR ?_
  intro p e s m args below meth c s₁ Bd hml0 hP hK
  obtain ⟨rfl, hZ, hh⟩ := hP
  have hx := Bd.exec
  have hby := Bd.bytes
  have hml : c.maxLocals = 2 := hml0
  have hown : s.vm.findClass "java/util/Objects" = some m.cls := findClass_of_methodNamed Bd.named
  have hnm := (name_of_methodNamed Bd.named Bd.method).1
  have X0 : Stand p l e ({ frames := 0, cells := 0, slots := 0, locals := 0 } : Room) s m #[(.ref a0), (.ref a1)] below meth c s₁ [] 0 0 := Stand.of_body Bd
  have e0 : s₁.heap = h0 := by rw [← hh, Bd.state]; rfl
  have N0 := Fr.nil n0
  have K0 : Keep h0 h0 [] := Keep.refl _ _
  refine own_by (A' := s₁.setTop (mkF m 0 #[.val (.ref a0), .val (.ref a1)] [])) (fun t k => castTop (ef_rm7 m a0 a1) k) ?_
  refine own_by (A' := s₁.setTop (mkF m 14 #[.val (.ref a0), .val (.ref a1)] [(.ref a0)])) (fun t kt => ?_) ?_
  · show Steps p.tables e below (s₁.setTop (mkF m 0 #[.val (.ref a0), .val (.ref a1)] [])) t
    refine XS.aloadN X0.here hx rfl (hb hby d7_0) rfl rfl ?_
    show Steps p.tables e below (s₁.setTop (mkF m 1 #[.val (.ref a0), .val (.ref a1)] [(.ref a0)])) t
    refine XS.ifnonnullYes X0.here hx rfl (pc0 := 1) (pc' := 13) rfl (hb hby d7_1) rfl (by decide) (by decide) ?_
    show Steps p.tables e below (s₁.setTop (mkF m 13 #[.val (.ref a0), .val (.ref a1)] [])) t
    refine XS.aloadN X0.here hx rfl (hb hby d7_13) rfl rfl ?_
    exact kt
  obtain ⟨fs, hr, hrun, hended, hW, hsame⟩ := X0.leave (v := some (.ref a0)) (fun h => by rw [Bd.returns] at h; cases h)
  refine ⟨_, _, ?_, hrun, hended, _, _, rfl, ?_, ⟨_, rfl⟩, hW, hsame.mono (by decide) (by decide)⟩
  · exact own_retA X0 hx Bd.returns rfl (hb hby d7_14) hr
  · show Q7 Z a0 a1 h0 n0 _ s₁.heap _
    rw [e0]
    exact ⟨rfl, N0, rfl⟩
def own_f14 (p0 : Int32) (p1 : Int32) (p2 : Int32) (p3 : Int32) (p4 : Int32) (p5 : Int32) (p6 : Int32) (p7 : Int32) : Int32 := (if p0 = p4 then (if p0 < (1 : Int32) then (if p0 < (2 : Int32) then (if p0 < (3 : Int32) then (1 : Int32) else (if p3 = p7 then (1 : Int32) else (0 : Int32))) else (if p2 = p6 then (if p0 < (3 : Int32) then (1 : Int32) else (if p3 = p7 then (1 : Int32) else (0 : Int32))) else (0 : Int32))) else (if p1 = p5 then (if p0 < (2 : Int32) then (if p0 < (3 : Int32) then (1 : Int32) else (if p3 = p7 then (1 : Int32) else (0 : Int32))) else (if p2 = p6 then (if p0 < (3 : Int32) then (1 : Int32) else (if p3 = p7 then (1 : Int32) else (0 : Int32))) else (0 : Int32))) else (0 : Int32))) else (0 : Int32))
theorem pn_2 : plainName "com/example/corollary/corollary/model/NamedClassEqualsPinLaw" = true := by first | (simp [plainName, overriddenIn]; done) | decide +kernel
theorem d14_0 : decode method_3_code 0 = .ok (.iload_n 0, 1) := by decide +kernel
theorem d14_1 : decode method_3_code 1 = .ok (.iload 4, 2) := by decide +kernel
theorem d14_3 : decode method_3_code 3 = .ok (.if_icmp .eq 5, 3) := by decide +kernel
theorem d14_6 : decode method_3_code 6 = .ok (.iconst 0, 1) := by decide +kernel
theorem d14_7 : decode method_3_code 7 = .ok (.ireturn, 1) := by decide +kernel
theorem d14_8 : decode method_3_code 8 = .ok (.iload_n 0, 1) := by decide +kernel
theorem d14_9 : decode method_3_code 9 = .ok (.iconst 1, 1) := by decide +kernel
theorem d14_10 : decode method_3_code 10 = .ok (.if_icmp .lt 11, 3) := by decide +kernel
theorem d14_13 : decode method_3_code 13 = .ok (.iload_n 1, 1) := by decide +kernel
theorem d14_14 : decode method_3_code 14 = .ok (.iload 5, 2) := by decide +kernel
theorem d14_16 : decode method_3_code 16 = .ok (.if_icmp .eq 5, 3) := by decide +kernel
theorem d14_19 : decode method_3_code 19 = .ok (.iconst 0, 1) := by decide +kernel
theorem d14_20 : decode method_3_code 20 = .ok (.ireturn, 1) := by decide +kernel
theorem d14_21 : decode method_3_code 21 = .ok (.iload_n 0, 1) := by decide +kernel
theorem d14_22 : decode method_3_code 22 = .ok (.iconst 2, 1) := by decide +kernel
theorem d14_23 : decode method_3_code 23 = .ok (.if_icmp .lt 11, 3) := by decide +kernel
theorem d14_26 : decode method_3_code 26 = .ok (.iload_n 2, 1) := by decide +kernel
theorem d14_27 : decode method_3_code 27 = .ok (.iload 6, 2) := by decide +kernel
theorem d14_29 : decode method_3_code 29 = .ok (.if_icmp .eq 5, 3) := by decide +kernel
theorem d14_32 : decode method_3_code 32 = .ok (.iconst 0, 1) := by decide +kernel
theorem d14_33 : decode method_3_code 33 = .ok (.ireturn, 1) := by decide +kernel
theorem d14_34 : decode method_3_code 34 = .ok (.iload_n 0, 1) := by decide +kernel
theorem d14_35 : decode method_3_code 35 = .ok (.iconst 3, 1) := by decide +kernel
theorem d14_36 : decode method_3_code 36 = .ok (.if_icmp .lt 11, 3) := by decide +kernel
theorem d14_39 : decode method_3_code 39 = .ok (.iload_n 3, 1) := by decide +kernel
theorem d14_40 : decode method_3_code 40 = .ok (.iload 7, 2) := by decide +kernel
theorem d14_42 : decode method_3_code 42 = .ok (.if_icmp .eq 5, 3) := by decide +kernel
theorem d14_45 : decode method_3_code 45 = .ok (.iconst 0, 1) := by decide +kernel
theorem d14_46 : decode method_3_code 46 = .ok (.ireturn, 1) := by decide +kernel
theorem d14_47 : decode method_3_code 47 = .ok (.iconst 1, 1) := by decide +kernel
theorem d14_48 : decode method_3_code 48 = .ok (.ireturn, 1) := by decide +kernel
theorem ef_rm14 (m : MethodId) (p0 : Int32) (p1 : Int32) (p2 : Int32) (p3 : Int32) (p4 : Int32) (p5 : Int32) (p6 : Int32) (p7 : Int32) : entryFrame m #[(.int p0), (.int p1), (.int p2), (.int p3), (.int p4), (.int p5), (.int p6), (.int p7)] 8 = mkF m 0 #[.val (.int p0), .val (.int p1), .val (.int p2), .val (.int p3), .val (.int p4), .val (.int p5), .val (.int p6), .val (.int p7)] [] := by first | (simp [entryFrame, mkF, argsToLocals, Value.category]; done) | rfl
def Q14 (Z : State) (p0 : Int32) (p1 : Int32) (p2 : Int32) (p3 : Int32) (p4 : Int32) (p5 : Int32) (p6 : Int32) (p7 : Int32) (h0 : Heap) (n0 : Nat) (v : Option Value) (h : Heap) (L : List Loc) : Prop := v = some (.int (own_f14 p0 p1 p2 p3 p4 p5 p6 p7)) ∧ Fr n0 L ∧ h = h0
set_option maxRecDepth 65536 in
set_option maxHeartbeats 40000000 in
theorem rm14 (l : Launch) (Z : State) (aw : Array Value) (hw : ∀ d ∈ tables_1, d.before aw Z = true) (ws : List Jvm.Cond) (p0 : Int32) (p1 : Int32) (p2 : Int32) (p3 : Int32) (p4 : Int32) (p5 : Int32) (p6 : Int32) (p7 : Int32) (h0 : Heap) (n0 : Nat) (Z0 : n0 ≤ h0.size) :
    MetFree l (⟨"com/example/corollary/corollary/model/NamedClassEqualsPinLaw", "sameStr", "(ICCCICCC)Z"⟩ : MethodName) (head1 (Jvm.Cond.code (⟨"com/example/corollary/corollary/model/NamedClassEqualsPinLaw", "sameStr", "(ICCCICCC)Z"⟩ : MethodName) method_3_code 8 (some .boolean) :: ws) ({ frames := 0, cells := 0, slots := 0, locals := 0 } : Room)) (fun a U => a = #[(.int p0), (.int p1), (.int p2), (.int p3), (.int p4), (.int p5), (.int p6), (.int p7)] ∧ Z.Warmed39 U.vm ∧ U.heap = h0) (fun _ _ _ _ _ => True) (fun _ U o U' => ∃ v L, o = .returned v ∧ Q14 Z p0 p1 p2 p3 p4 p5 p6 p7 h0 n0 v U'.heap L ∧ FrameEnd U o U' L ({ frames := 0, cells := 0, slots := 0, locals := 0 } : Room).cells ({ frames := 0, cells := 0, slots := 0, locals := 0 } : Room).slots) := by
  refine MetFree.of_bodySF (plainFor_of_name pn_2) hisR ?_
  intro p e s m args below meth c s₁ Bd hml0 hP hK
  obtain ⟨rfl, hZ, hh⟩ := hP
  have hx := Bd.exec
  have hby := Bd.bytes
  have hml : c.maxLocals = 8 := hml0
  have hown : s.vm.findClass "com/example/corollary/corollary/model/NamedClassEqualsPinLaw" = some m.cls := findClass_of_methodNamed Bd.named
  have hnm := (name_of_methodNamed Bd.named Bd.method).1
  have X0 : Stand p l e ({ frames := 0, cells := 0, slots := 0, locals := 0 } : Room) s m #[(.int p0), (.int p1), (.int p2), (.int p3), (.int p4), (.int p5), (.int p6), (.int p7)] below meth c s₁ [] 0 0 := Stand.of_body Bd
  have e0 : s₁.heap = h0 := by rw [← hh, Bd.state]; rfl
  have N0 := Fr.nil n0
  have K0 : Keep h0 h0 [] := Keep.refl _ _
  refine own_by (A' := s₁.setTop (mkF m 0 #[.val (.int p0), .val (.int p1), .val (.int p2), .val (.int p3), .val (.int p4), .val (.int p5), .val (.int p6), .val (.int p7)] [])) (fun t k => castTop (ef_rm14 m p0 p1 p2 p3 p4 p5 p6 p7) k) ?_
  refine own_by (A' := s₁.setTop (mkF m 3 #[.val (.int p0), .val (.int p1), .val (.int p2), .val (.int p3), .val (.int p4), .val (.int p5), .val (.int p6), .val (.int p7)] [(.int p4), (.int p0)])) (fun t kt => ?_) ?_
  · show Steps p.tables e below (s₁.setTop (mkF m 0 #[.val (.int p0), .val (.int p1), .val (.int p2), .val (.int p3), .val (.int p4), .val (.int p5), .val (.int p6), .val (.int p7)] [])) t
    refine XS.iloadN X0.here hx rfl (hb hby d14_0) rfl ?_
    show Steps p.tables e below (s₁.setTop (mkF m 1 #[.val (.int p0), .val (.int p1), .val (.int p2), .val (.int p3), .val (.int p4), .val (.int p5), .val (.int p6), .val (.int p7)] [(.int p0)])) t
    refine XS.iload X0.here hx rfl (hb hby d14_1) rfl ?_
    exact kt
  by_cases hc3_1 : p0 = p4
  · refine own_by (A' := s₁.setTop (mkF m 10 #[.val (.int p0), .val (.int p1), .val (.int p2), .val (.int p3), .val (.int p4), .val (.int p5), .val (.int p6), .val (.int p7)] [(.int (1 : Int32)), (.int p0)])) (fun t kt => ?_) ?_
    · show Steps p.tables e below (s₁.setTop (mkF m 3 #[.val (.int p0), .val (.int p1), .val (.int p2), .val (.int p3), .val (.int p4), .val (.int p5), .val (.int p6), .val (.int p7)] [(.int p4), (.int p0)])) t
      refine XS.icmpYes X0.here hx rfl (pc0 := 3) (pc' := 8) rfl (hb hby d14_3) rfl (teq hc3_1).1 (by decide) (by decide) ?_
      show Steps p.tables e below (s₁.setTop (mkF m 8 #[.val (.int p0), .val (.int p1), .val (.int p2), .val (.int p3), .val (.int p4), .val (.int p5), .val (.int p6), .val (.int p7)] [])) t
      refine XS.iloadN X0.here hx rfl (hb hby d14_8) rfl ?_
      show Steps p.tables e below (s₁.setTop (mkF m 9 #[.val (.int p0), .val (.int p1), .val (.int p2), .val (.int p3), .val (.int p4), .val (.int p5), .val (.int p6), .val (.int p7)] [(.int p0)])) t
      refine XS.iconst X0.here hx rfl (hb hby d14_9) ?_
      exact kt
    by_cases hc10_2 : p0 < (1 : Int32)
    · refine own_by (A' := s₁.setTop (mkF m 23 #[.val (.int p0), .val (.int p1), .val (.int p2), .val (.int p3), .val (.int p4), .val (.int p5), .val (.int p6), .val (.int p7)] [(.int (2 : Int32)), (.int p0)])) (fun t kt => ?_) ?_
      · show Steps p.tables e below (s₁.setTop (mkF m 10 #[.val (.int p0), .val (.int p1), .val (.int p2), .val (.int p3), .val (.int p4), .val (.int p5), .val (.int p6), .val (.int p7)] [(.int (1 : Int32)), (.int p0)])) t
        refine XS.icmpYes X0.here hx rfl (pc0 := 10) (pc' := 21) rfl (hb hby d14_10) rfl (tlt hc10_2).1 (by decide) (by decide) ?_
        show Steps p.tables e below (s₁.setTop (mkF m 21 #[.val (.int p0), .val (.int p1), .val (.int p2), .val (.int p3), .val (.int p4), .val (.int p5), .val (.int p6), .val (.int p7)] [])) t
        refine XS.iloadN X0.here hx rfl (hb hby d14_21) rfl ?_
        show Steps p.tables e below (s₁.setTop (mkF m 22 #[.val (.int p0), .val (.int p1), .val (.int p2), .val (.int p3), .val (.int p4), .val (.int p5), .val (.int p6), .val (.int p7)] [(.int p0)])) t
        refine XS.iconst X0.here hx rfl (hb hby d14_22) ?_
        exact kt
      by_cases hc23_3 : p0 < (2 : Int32)
      · refine own_by (A' := s₁.setTop (mkF m 36 #[.val (.int p0), .val (.int p1), .val (.int p2), .val (.int p3), .val (.int p4), .val (.int p5), .val (.int p6), .val (.int p7)] [(.int (3 : Int32)), (.int p0)])) (fun t kt => ?_) ?_
        · show Steps p.tables e below (s₁.setTop (mkF m 23 #[.val (.int p0), .val (.int p1), .val (.int p2), .val (.int p3), .val (.int p4), .val (.int p5), .val (.int p6), .val (.int p7)] [(.int (2 : Int32)), (.int p0)])) t
          refine XS.icmpYes X0.here hx rfl (pc0 := 23) (pc' := 34) rfl (hb hby d14_23) rfl (tlt hc23_3).1 (by decide) (by decide) ?_
          show Steps p.tables e below (s₁.setTop (mkF m 34 #[.val (.int p0), .val (.int p1), .val (.int p2), .val (.int p3), .val (.int p4), .val (.int p5), .val (.int p6), .val (.int p7)] [])) t
          refine XS.iloadN X0.here hx rfl (hb hby d14_34) rfl ?_
          show Steps p.tables e below (s₁.setTop (mkF m 35 #[.val (.int p0), .val (.int p1), .val (.int p2), .val (.int p3), .val (.int p4), .val (.int p5), .val (.int p6), .val (.int p7)] [(.int p0)])) t
          refine XS.iconst X0.here hx rfl (hb hby d14_35) ?_
          exact kt
        by_cases hc36_4 : p0 < (3 : Int32)
        · refine own_by (A' := s₁.setTop (mkF m 48 #[.val (.int p0), .val (.int p1), .val (.int p2), .val (.int p3), .val (.int p4), .val (.int p5), .val (.int p6), .val (.int p7)] [(.int (1 : Int32))])) (fun t kt => ?_) ?_
          · show Steps p.tables e below (s₁.setTop (mkF m 36 #[.val (.int p0), .val (.int p1), .val (.int p2), .val (.int p3), .val (.int p4), .val (.int p5), .val (.int p6), .val (.int p7)] [(.int (3 : Int32)), (.int p0)])) t
            refine XS.icmpYes X0.here hx rfl (pc0 := 36) (pc' := 47) rfl (hb hby d14_36) rfl (tlt hc36_4).1 (by decide) (by decide) ?_
            show Steps p.tables e below (s₁.setTop (mkF m 47 #[.val (.int p0), .val (.int p1), .val (.int p2), .val (.int p3), .val (.int p4), .val (.int p5), .val (.int p6), .val (.int p7)] [])) t
            refine XS.iconst X0.here hx rfl (hb hby d14_47) ?_
            exact kt
          obtain ⟨fs, hr, hrun, hended, hW, hsame⟩ := X0.leave (v := some (.int (1 : Int32))) (fun h => by rw [Bd.returns] at h; cases h)
          refine ⟨_, _, ?_, hrun, hended, _, _, rfl, ?_, ⟨_, rfl⟩, hW, hsame.mono (by decide) (by decide)⟩
          · exact retN X0 hx (t := .boolean) Bd.returns (by simp) (hb hby d14_48) hr
          · show Q14 Z p0 p1 p2 p3 p4 p5 p6 p7 h0 n0 _ s₁.heap _
            rw [e0]
            exact ⟨(by rw [own_f14, if_pos hc3_1, if_pos hc10_2, if_pos hc23_3, if_pos hc36_4]), N0, rfl⟩
        · refine own_by (A' := s₁.setTop (mkF m 42 #[.val (.int p0), .val (.int p1), .val (.int p2), .val (.int p3), .val (.int p4), .val (.int p5), .val (.int p6), .val (.int p7)] [(.int p7), (.int p3)])) (fun t kt => ?_) ?_
          · show Steps p.tables e below (s₁.setTop (mkF m 36 #[.val (.int p0), .val (.int p1), .val (.int p2), .val (.int p3), .val (.int p4), .val (.int p5), .val (.int p6), .val (.int p7)] [(.int (3 : Int32)), (.int p0)])) t
            refine XS.icmpNo X0.here hx rfl (hb hby d14_36) rfl (flt hc36_4).1 ?_
            show Steps p.tables e below (s₁.setTop (mkF m 39 #[.val (.int p0), .val (.int p1), .val (.int p2), .val (.int p3), .val (.int p4), .val (.int p5), .val (.int p6), .val (.int p7)] [])) t
            refine XS.iloadN X0.here hx rfl (hb hby d14_39) rfl ?_
            show Steps p.tables e below (s₁.setTop (mkF m 40 #[.val (.int p0), .val (.int p1), .val (.int p2), .val (.int p3), .val (.int p4), .val (.int p5), .val (.int p6), .val (.int p7)] [(.int p3)])) t
            refine XS.iload X0.here hx rfl (hb hby d14_40) rfl ?_
            exact kt
          by_cases hc42_5 : p3 = p7
          · refine own_by (A' := s₁.setTop (mkF m 48 #[.val (.int p0), .val (.int p1), .val (.int p2), .val (.int p3), .val (.int p4), .val (.int p5), .val (.int p6), .val (.int p7)] [(.int (1 : Int32))])) (fun t kt => ?_) ?_
            · show Steps p.tables e below (s₁.setTop (mkF m 42 #[.val (.int p0), .val (.int p1), .val (.int p2), .val (.int p3), .val (.int p4), .val (.int p5), .val (.int p6), .val (.int p7)] [(.int p7), (.int p3)])) t
              refine XS.icmpYes X0.here hx rfl (pc0 := 42) (pc' := 47) rfl (hb hby d14_42) rfl (teq hc42_5).1 (by decide) (by decide) ?_
              show Steps p.tables e below (s₁.setTop (mkF m 47 #[.val (.int p0), .val (.int p1), .val (.int p2), .val (.int p3), .val (.int p4), .val (.int p5), .val (.int p6), .val (.int p7)] [])) t
              refine XS.iconst X0.here hx rfl (hb hby d14_47) ?_
              exact kt
            obtain ⟨fs, hr, hrun, hended, hW, hsame⟩ := X0.leave (v := some (.int (1 : Int32))) (fun h => by rw [Bd.returns] at h; cases h)
            refine ⟨_, _, ?_, hrun, hended, _, _, rfl, ?_, ⟨_, rfl⟩, hW, hsame.mono (by decide) (by decide)⟩
            · exact retN X0 hx (t := .boolean) Bd.returns (by simp) (hb hby d14_48) hr
            · show Q14 Z p0 p1 p2 p3 p4 p5 p6 p7 h0 n0 _ s₁.heap _
              rw [e0]
              exact ⟨(by rw [own_f14, if_pos hc3_1, if_pos hc10_2, if_pos hc23_3, if_neg hc36_4, if_pos hc42_5]), N0, rfl⟩
          · refine own_by (A' := s₁.setTop (mkF m 46 #[.val (.int p0), .val (.int p1), .val (.int p2), .val (.int p3), .val (.int p4), .val (.int p5), .val (.int p6), .val (.int p7)] [(.int (0 : Int32))])) (fun t kt => ?_) ?_
            · show Steps p.tables e below (s₁.setTop (mkF m 42 #[.val (.int p0), .val (.int p1), .val (.int p2), .val (.int p3), .val (.int p4), .val (.int p5), .val (.int p6), .val (.int p7)] [(.int p7), (.int p3)])) t
              refine XS.icmpNo X0.here hx rfl (hb hby d14_42) rfl (feq hc42_5).1 ?_
              show Steps p.tables e below (s₁.setTop (mkF m 45 #[.val (.int p0), .val (.int p1), .val (.int p2), .val (.int p3), .val (.int p4), .val (.int p5), .val (.int p6), .val (.int p7)] [])) t
              refine XS.iconst X0.here hx rfl (hb hby d14_45) ?_
              exact kt
            obtain ⟨fs, hr, hrun, hended, hW, hsame⟩ := X0.leave (v := some (.int (0 : Int32))) (fun h => by rw [Bd.returns] at h; cases h)
            refine ⟨_, _, ?_, hrun, hended, _, _, rfl, ?_, ⟨_, rfl⟩, hW, hsame.mono (by decide) (by decide)⟩
            · exact retN X0 hx (t := .boolean) Bd.returns (by simp) (hb hby d14_46) hr
            · show Q14 Z p0 p1 p2 p3 p4 p5 p6 p7 h0 n0 _ s₁.heap _
              rw [e0]
              exact ⟨(by rw [own_f14, if_pos hc3_1, if_pos hc10_2, if_pos hc23_3, if_neg hc36_4, if_neg hc42_5]), N0, rfl⟩
      · refine own_by (A' := s₁.setTop (mkF m 29 #[.val (.int p0), .val (.int p1), .val (.int p2), .val (.int p3), .val (.int p4), .val (.int p5), .val (.int p6), .val (.int p7)] [(.int p6), (.int p2)])) (fun t kt => ?_) ?_
        · show Steps p.tables e below (s₁.setTop (mkF m 23 #[.val (.int p0), .val (.int p1), .val (.int p2), .val (.int p3), .val (.int p4), .val (.int p5), .val (.int p6), .val (.int p7)] [(.int (2 : Int32)), (.int p0)])) t
          refine XS.icmpNo X0.here hx rfl (hb hby d14_23) rfl (flt hc23_3).1 ?_
          show Steps p.tables e below (s₁.setTop (mkF m 26 #[.val (.int p0), .val (.int p1), .val (.int p2), .val (.int p3), .val (.int p4), .val (.int p5), .val (.int p6), .val (.int p7)] [])) t
          refine XS.iloadN X0.here hx rfl (hb hby d14_26) rfl ?_
          show Steps p.tables e below (s₁.setTop (mkF m 27 #[.val (.int p0), .val (.int p1), .val (.int p2), .val (.int p3), .val (.int p4), .val (.int p5), .val (.int p6), .val (.int p7)] [(.int p2)])) t
          refine XS.iload X0.here hx rfl (hb hby d14_27) rfl ?_
          exact kt
        by_cases hc29_6 : p2 = p6
        · refine own_by (A' := s₁.setTop (mkF m 36 #[.val (.int p0), .val (.int p1), .val (.int p2), .val (.int p3), .val (.int p4), .val (.int p5), .val (.int p6), .val (.int p7)] [(.int (3 : Int32)), (.int p0)])) (fun t kt => ?_) ?_
          · show Steps p.tables e below (s₁.setTop (mkF m 29 #[.val (.int p0), .val (.int p1), .val (.int p2), .val (.int p3), .val (.int p4), .val (.int p5), .val (.int p6), .val (.int p7)] [(.int p6), (.int p2)])) t
            refine XS.icmpYes X0.here hx rfl (pc0 := 29) (pc' := 34) rfl (hb hby d14_29) rfl (teq hc29_6).1 (by decide) (by decide) ?_
            show Steps p.tables e below (s₁.setTop (mkF m 34 #[.val (.int p0), .val (.int p1), .val (.int p2), .val (.int p3), .val (.int p4), .val (.int p5), .val (.int p6), .val (.int p7)] [])) t
            refine XS.iloadN X0.here hx rfl (hb hby d14_34) rfl ?_
            show Steps p.tables e below (s₁.setTop (mkF m 35 #[.val (.int p0), .val (.int p1), .val (.int p2), .val (.int p3), .val (.int p4), .val (.int p5), .val (.int p6), .val (.int p7)] [(.int p0)])) t
            refine XS.iconst X0.here hx rfl (hb hby d14_35) ?_
            exact kt
          by_cases hc36_7 : p0 < (3 : Int32)
          · refine own_by (A' := s₁.setTop (mkF m 48 #[.val (.int p0), .val (.int p1), .val (.int p2), .val (.int p3), .val (.int p4), .val (.int p5), .val (.int p6), .val (.int p7)] [(.int (1 : Int32))])) (fun t kt => ?_) ?_
            · show Steps p.tables e below (s₁.setTop (mkF m 36 #[.val (.int p0), .val (.int p1), .val (.int p2), .val (.int p3), .val (.int p4), .val (.int p5), .val (.int p6), .val (.int p7)] [(.int (3 : Int32)), (.int p0)])) t
              refine XS.icmpYes X0.here hx rfl (pc0 := 36) (pc' := 47) rfl (hb hby d14_36) rfl (tlt hc36_7).1 (by decide) (by decide) ?_
              show Steps p.tables e below (s₁.setTop (mkF m 47 #[.val (.int p0), .val (.int p1), .val (.int p2), .val (.int p3), .val (.int p4), .val (.int p5), .val (.int p6), .val (.int p7)] [])) t
              refine XS.iconst X0.here hx rfl (hb hby d14_47) ?_
              exact kt
            obtain ⟨fs, hr, hrun, hended, hW, hsame⟩ := X0.leave (v := some (.int (1 : Int32))) (fun h => by rw [Bd.returns] at h; cases h)
            refine ⟨_, _, ?_, hrun, hended, _, _, rfl, ?_, ⟨_, rfl⟩, hW, hsame.mono (by decide) (by decide)⟩
            · exact retN X0 hx (t := .boolean) Bd.returns (by simp) (hb hby d14_48) hr
            · show Q14 Z p0 p1 p2 p3 p4 p5 p6 p7 h0 n0 _ s₁.heap _
              rw [e0]
              exact ⟨(by rw [own_f14, if_pos hc3_1, if_pos hc10_2, if_neg hc23_3, if_pos hc29_6, if_pos hc36_7]), N0, rfl⟩
          · refine own_by (A' := s₁.setTop (mkF m 42 #[.val (.int p0), .val (.int p1), .val (.int p2), .val (.int p3), .val (.int p4), .val (.int p5), .val (.int p6), .val (.int p7)] [(.int p7), (.int p3)])) (fun t kt => ?_) ?_
            · show Steps p.tables e below (s₁.setTop (mkF m 36 #[.val (.int p0), .val (.int p1), .val (.int p2), .val (.int p3), .val (.int p4), .val (.int p5), .val (.int p6), .val (.int p7)] [(.int (3 : Int32)), (.int p0)])) t
              refine XS.icmpNo X0.here hx rfl (hb hby d14_36) rfl (flt hc36_7).1 ?_
              show Steps p.tables e below (s₁.setTop (mkF m 39 #[.val (.int p0), .val (.int p1), .val (.int p2), .val (.int p3), .val (.int p4), .val (.int p5), .val (.int p6), .val (.int p7)] [])) t
              refine XS.iloadN X0.here hx rfl (hb hby d14_39) rfl ?_
              show Steps p.tables e below (s₁.setTop (mkF m 40 #[.val (.int p0), .val (.int p1), .val (.int p2), .val (.int p3), .val (.int p4), .val (.int p5), .val (.int p6), .val (.int p7)] [(.int p3)])) t
              refine XS.iload X0.here hx rfl (hb hby d14_40) rfl ?_
              exact kt
            by_cases hc42_8 : p3 = p7
            · refine own_by (A' := s₁.setTop (mkF m 48 #[.val (.int p0), .val (.int p1), .val (.int p2), .val (.int p3), .val (.int p4), .val (.int p5), .val (.int p6), .val (.int p7)] [(.int (1 : Int32))])) (fun t kt => ?_) ?_
              · show Steps p.tables e below (s₁.setTop (mkF m 42 #[.val (.int p0), .val (.int p1), .val (.int p2), .val (.int p3), .val (.int p4), .val (.int p5), .val (.int p6), .val (.int p7)] [(.int p7), (.int p3)])) t
                refine XS.icmpYes X0.here hx rfl (pc0 := 42) (pc' := 47) rfl (hb hby d14_42) rfl (teq hc42_8).1 (by decide) (by decide) ?_
                show Steps p.tables e below (s₁.setTop (mkF m 47 #[.val (.int p0), .val (.int p1), .val (.int p2), .val (.int p3), .val (.int p4), .val (.int p5), .val (.int p6), .val (.int p7)] [])) t
                refine XS.iconst X0.here hx rfl (hb hby d14_47) ?_
                exact kt
              obtain ⟨fs, hr, hrun, hended, hW, hsame⟩ := X0.leave (v := some (.int (1 : Int32))) (fun h => by rw [Bd.returns] at h; cases h)
              refine ⟨_, _, ?_, hrun, hended, _, _, rfl, ?_, ⟨_, rfl⟩, hW, hsame.mono (by decide) (by decide)⟩
              · exact retN X0 hx (t := .boolean) Bd.returns (by simp) (hb hby d14_48) hr
              · show Q14 Z p0 p1 p2 p3 p4 p5 p6 p7 h0 n0 _ s₁.heap _
                rw [e0]
                exact ⟨(by rw [own_f14, if_pos hc3_1, if_pos hc10_2, if_neg hc23_3, if_pos hc29_6, if_neg hc36_7, if_pos hc42_8]), N0, rfl⟩
            · refine own_by (A' := s₁.setTop (mkF m 46 #[.val (.int p0), .val (.int p1), .val (.int p2), .val (.int p3), .val (.int p4), .val (.int p5), .val (.int p6), .val (.int p7)] [(.int (0 : Int32))])) (fun t kt => ?_) ?_
              · show Steps p.tables e below (s₁.setTop (mkF m 42 #[.val (.int p0), .val (.int p1), .val (.int p2), .val (.int p3), .val (.int p4), .val (.int p5), .val (.int p6), .val (.int p7)] [(.int p7), (.int p3)])) t
                refine XS.icmpNo X0.here hx rfl (hb hby d14_42) rfl (feq hc42_8).1 ?_
                show Steps p.tables e below (s₁.setTop (mkF m 45 #[.val (.int p0), .val (.int p1), .val (.int p2), .val (.int p3), .val (.int p4), .val (.int p5), .val (.int p6), .val (.int p7)] [])) t
                refine XS.iconst X0.here hx rfl (hb hby d14_45) ?_
                exact kt
              obtain ⟨fs, hr, hrun, hended, hW, hsame⟩ := X0.leave (v := some (.int (0 : Int32))) (fun h => by rw [Bd.returns] at h; cases h)
              refine ⟨_, _, ?_, hrun, hended, _, _, rfl, ?_, ⟨_, rfl⟩, hW, hsame.mono (by decide) (by decide)⟩
              · exact retN X0 hx (t := .boolean) Bd.returns (by simp) (hb hby d14_46) hr
              · show Q14 Z p0 p1 p2 p3 p4 p5 p6 p7 h0 n0 _ s₁.heap _
                rw [e0]
                exact ⟨(by rw [own_f14, if_pos hc3_1, if_pos hc10_2, if_neg hc23_3, if_pos hc29_6, if_neg hc36_7, if_neg hc42_8]), N0, rfl⟩
        · refine own_by (A' := s₁.setTop (mkF m 33 #[.val (.int p0), .val (.int p1), .val (.int p2), .val (.int p3), .val (.int p4), .val (.int p5), .val (.int p6), .val (.int p7)] [(.int (0 : Int32))])) (fun t kt => ?_) ?_
          · show Steps p.tables e below (s₁.setTop (mkF m 29 #[.val (.int p0), .val (.int p1), .val (.int p2), .val (.int p3), .val (.int p4), .val (.int p5), .val (.int p6), .val (.int p7)] [(.int p6), (.int p2)])) t
            refine XS.icmpNo X0.here hx rfl (hb hby d14_29) rfl (feq hc29_6).1 ?_
            show Steps p.tables e below (s₁.setTop (mkF m 32 #[.val (.int p0), .val (.int p1), .val (.int p2), .val (.int p3), .val (.int p4), .val (.int p5), .val (.int p6), .val (.int p7)] [])) t
            refine XS.iconst X0.here hx rfl (hb hby d14_32) ?_
            exact kt
          obtain ⟨fs, hr, hrun, hended, hW, hsame⟩ := X0.leave (v := some (.int (0 : Int32))) (fun h => by rw [Bd.returns] at h; cases h)
          refine ⟨_, _, ?_, hrun, hended, _, _, rfl, ?_, ⟨_, rfl⟩, hW, hsame.mono (by decide) (by decide)⟩
          · exact retN X0 hx (t := .boolean) Bd.returns (by simp) (hb hby d14_33) hr
          · show Q14 Z p0 p1 p2 p3 p4 p5 p6 p7 h0 n0 _ s₁.heap _
            rw [e0]
            exact ⟨(by rw [own_f14, if_pos hc3_1, if_pos hc10_2, if_neg hc23_3, if_neg hc29_6]), N0, rfl⟩
    · refine own_by (A' := s₁.setTop (mkF m 16 #[.val (.int p0), .val (.int p1), .val (.int p2), .val (.int p3), .val (.int p4), .val (.int p5), .val (.int p6), .val (.int p7)] [(.int p5), (.int p1)])) (fun t kt => ?_) ?_
      · show Steps p.tables e below (s₁.setTop (mkF m 10 #[.val (.int p0), .val (.int p1), .val (.int p2), .val (.int p3), .val (.int p4), .val (.int p5), .val (.int p6), .val (.int p7)] [(.int (1 : Int32)), (.int p0)])) t
        refine XS.icmpNo X0.here hx rfl (hb hby d14_10) rfl (flt hc10_2).1 ?_
        show Steps p.tables e below (s₁.setTop (mkF m 13 #[.val (.int p0), .val (.int p1), .val (.int p2), .val (.int p3), .val (.int p4), .val (.int p5), .val (.int p6), .val (.int p7)] [])) t
        refine XS.iloadN X0.here hx rfl (hb hby d14_13) rfl ?_
        show Steps p.tables e below (s₁.setTop (mkF m 14 #[.val (.int p0), .val (.int p1), .val (.int p2), .val (.int p3), .val (.int p4), .val (.int p5), .val (.int p6), .val (.int p7)] [(.int p1)])) t
        refine XS.iload X0.here hx rfl (hb hby d14_14) rfl ?_
        exact kt
      by_cases hc16_9 : p1 = p5
      · refine own_by (A' := s₁.setTop (mkF m 23 #[.val (.int p0), .val (.int p1), .val (.int p2), .val (.int p3), .val (.int p4), .val (.int p5), .val (.int p6), .val (.int p7)] [(.int (2 : Int32)), (.int p0)])) (fun t kt => ?_) ?_
        · show Steps p.tables e below (s₁.setTop (mkF m 16 #[.val (.int p0), .val (.int p1), .val (.int p2), .val (.int p3), .val (.int p4), .val (.int p5), .val (.int p6), .val (.int p7)] [(.int p5), (.int p1)])) t
          refine XS.icmpYes X0.here hx rfl (pc0 := 16) (pc' := 21) rfl (hb hby d14_16) rfl (teq hc16_9).1 (by decide) (by decide) ?_
          show Steps p.tables e below (s₁.setTop (mkF m 21 #[.val (.int p0), .val (.int p1), .val (.int p2), .val (.int p3), .val (.int p4), .val (.int p5), .val (.int p6), .val (.int p7)] [])) t
          refine XS.iloadN X0.here hx rfl (hb hby d14_21) rfl ?_
          show Steps p.tables e below (s₁.setTop (mkF m 22 #[.val (.int p0), .val (.int p1), .val (.int p2), .val (.int p3), .val (.int p4), .val (.int p5), .val (.int p6), .val (.int p7)] [(.int p0)])) t
          refine XS.iconst X0.here hx rfl (hb hby d14_22) ?_
          exact kt
        by_cases hc23_10 : p0 < (2 : Int32)
        · refine own_by (A' := s₁.setTop (mkF m 36 #[.val (.int p0), .val (.int p1), .val (.int p2), .val (.int p3), .val (.int p4), .val (.int p5), .val (.int p6), .val (.int p7)] [(.int (3 : Int32)), (.int p0)])) (fun t kt => ?_) ?_
          · show Steps p.tables e below (s₁.setTop (mkF m 23 #[.val (.int p0), .val (.int p1), .val (.int p2), .val (.int p3), .val (.int p4), .val (.int p5), .val (.int p6), .val (.int p7)] [(.int (2 : Int32)), (.int p0)])) t
            refine XS.icmpYes X0.here hx rfl (pc0 := 23) (pc' := 34) rfl (hb hby d14_23) rfl (tlt hc23_10).1 (by decide) (by decide) ?_
            show Steps p.tables e below (s₁.setTop (mkF m 34 #[.val (.int p0), .val (.int p1), .val (.int p2), .val (.int p3), .val (.int p4), .val (.int p5), .val (.int p6), .val (.int p7)] [])) t
            refine XS.iloadN X0.here hx rfl (hb hby d14_34) rfl ?_
            show Steps p.tables e below (s₁.setTop (mkF m 35 #[.val (.int p0), .val (.int p1), .val (.int p2), .val (.int p3), .val (.int p4), .val (.int p5), .val (.int p6), .val (.int p7)] [(.int p0)])) t
            refine XS.iconst X0.here hx rfl (hb hby d14_35) ?_
            exact kt
          by_cases hc36_11 : p0 < (3 : Int32)
          · refine own_by (A' := s₁.setTop (mkF m 48 #[.val (.int p0), .val (.int p1), .val (.int p2), .val (.int p3), .val (.int p4), .val (.int p5), .val (.int p6), .val (.int p7)] [(.int (1 : Int32))])) (fun t kt => ?_) ?_
            · show Steps p.tables e below (s₁.setTop (mkF m 36 #[.val (.int p0), .val (.int p1), .val (.int p2), .val (.int p3), .val (.int p4), .val (.int p5), .val (.int p6), .val (.int p7)] [(.int (3 : Int32)), (.int p0)])) t
              refine XS.icmpYes X0.here hx rfl (pc0 := 36) (pc' := 47) rfl (hb hby d14_36) rfl (tlt hc36_11).1 (by decide) (by decide) ?_
              show Steps p.tables e below (s₁.setTop (mkF m 47 #[.val (.int p0), .val (.int p1), .val (.int p2), .val (.int p3), .val (.int p4), .val (.int p5), .val (.int p6), .val (.int p7)] [])) t
              refine XS.iconst X0.here hx rfl (hb hby d14_47) ?_
              exact kt
            obtain ⟨fs, hr, hrun, hended, hW, hsame⟩ := X0.leave (v := some (.int (1 : Int32))) (fun h => by rw [Bd.returns] at h; cases h)
            refine ⟨_, _, ?_, hrun, hended, _, _, rfl, ?_, ⟨_, rfl⟩, hW, hsame.mono (by decide) (by decide)⟩
            · exact retN X0 hx (t := .boolean) Bd.returns (by simp) (hb hby d14_48) hr
            · show Q14 Z p0 p1 p2 p3 p4 p5 p6 p7 h0 n0 _ s₁.heap _
              rw [e0]
              exact ⟨(by rw [own_f14, if_pos hc3_1, if_neg hc10_2, if_pos hc16_9, if_pos hc23_10, if_pos hc36_11]), N0, rfl⟩
          · refine own_by (A' := s₁.setTop (mkF m 42 #[.val (.int p0), .val (.int p1), .val (.int p2), .val (.int p3), .val (.int p4), .val (.int p5), .val (.int p6), .val (.int p7)] [(.int p7), (.int p3)])) (fun t kt => ?_) ?_
            · show Steps p.tables e below (s₁.setTop (mkF m 36 #[.val (.int p0), .val (.int p1), .val (.int p2), .val (.int p3), .val (.int p4), .val (.int p5), .val (.int p6), .val (.int p7)] [(.int (3 : Int32)), (.int p0)])) t
              refine XS.icmpNo X0.here hx rfl (hb hby d14_36) rfl (flt hc36_11).1 ?_
              show Steps p.tables e below (s₁.setTop (mkF m 39 #[.val (.int p0), .val (.int p1), .val (.int p2), .val (.int p3), .val (.int p4), .val (.int p5), .val (.int p6), .val (.int p7)] [])) t
              refine XS.iloadN X0.here hx rfl (hb hby d14_39) rfl ?_
              show Steps p.tables e below (s₁.setTop (mkF m 40 #[.val (.int p0), .val (.int p1), .val (.int p2), .val (.int p3), .val (.int p4), .val (.int p5), .val (.int p6), .val (.int p7)] [(.int p3)])) t
              refine XS.iload X0.here hx rfl (hb hby d14_40) rfl ?_
              exact kt
            by_cases hc42_12 : p3 = p7
            · refine own_by (A' := s₁.setTop (mkF m 48 #[.val (.int p0), .val (.int p1), .val (.int p2), .val (.int p3), .val (.int p4), .val (.int p5), .val (.int p6), .val (.int p7)] [(.int (1 : Int32))])) (fun t kt => ?_) ?_
              · show Steps p.tables e below (s₁.setTop (mkF m 42 #[.val (.int p0), .val (.int p1), .val (.int p2), .val (.int p3), .val (.int p4), .val (.int p5), .val (.int p6), .val (.int p7)] [(.int p7), (.int p3)])) t
                refine XS.icmpYes X0.here hx rfl (pc0 := 42) (pc' := 47) rfl (hb hby d14_42) rfl (teq hc42_12).1 (by decide) (by decide) ?_
                show Steps p.tables e below (s₁.setTop (mkF m 47 #[.val (.int p0), .val (.int p1), .val (.int p2), .val (.int p3), .val (.int p4), .val (.int p5), .val (.int p6), .val (.int p7)] [])) t
                refine XS.iconst X0.here hx rfl (hb hby d14_47) ?_
                exact kt
              obtain ⟨fs, hr, hrun, hended, hW, hsame⟩ := X0.leave (v := some (.int (1 : Int32))) (fun h => by rw [Bd.returns] at h; cases h)
              refine ⟨_, _, ?_, hrun, hended, _, _, rfl, ?_, ⟨_, rfl⟩, hW, hsame.mono (by decide) (by decide)⟩
              · exact retN X0 hx (t := .boolean) Bd.returns (by simp) (hb hby d14_48) hr
              · show Q14 Z p0 p1 p2 p3 p4 p5 p6 p7 h0 n0 _ s₁.heap _
                rw [e0]
                exact ⟨(by rw [own_f14, if_pos hc3_1, if_neg hc10_2, if_pos hc16_9, if_pos hc23_10, if_neg hc36_11, if_pos hc42_12]), N0, rfl⟩
            · refine own_by (A' := s₁.setTop (mkF m 46 #[.val (.int p0), .val (.int p1), .val (.int p2), .val (.int p3), .val (.int p4), .val (.int p5), .val (.int p6), .val (.int p7)] [(.int (0 : Int32))])) (fun t kt => ?_) ?_
              · show Steps p.tables e below (s₁.setTop (mkF m 42 #[.val (.int p0), .val (.int p1), .val (.int p2), .val (.int p3), .val (.int p4), .val (.int p5), .val (.int p6), .val (.int p7)] [(.int p7), (.int p3)])) t
                refine XS.icmpNo X0.here hx rfl (hb hby d14_42) rfl (feq hc42_12).1 ?_
                show Steps p.tables e below (s₁.setTop (mkF m 45 #[.val (.int p0), .val (.int p1), .val (.int p2), .val (.int p3), .val (.int p4), .val (.int p5), .val (.int p6), .val (.int p7)] [])) t
                refine XS.iconst X0.here hx rfl (hb hby d14_45) ?_
                exact kt
              obtain ⟨fs, hr, hrun, hended, hW, hsame⟩ := X0.leave (v := some (.int (0 : Int32))) (fun h => by rw [Bd.returns] at h; cases h)
              refine ⟨_, _, ?_, hrun, hended, _, _, rfl, ?_, ⟨_, rfl⟩, hW, hsame.mono (by decide) (by decide)⟩
              · exact retN X0 hx (t := .boolean) Bd.returns (by simp) (hb hby d14_46) hr
              · show Q14 Z p0 p1 p2 p3 p4 p5 p6 p7 h0 n0 _ s₁.heap _
                rw [e0]
                exact ⟨(by rw [own_f14, if_pos hc3_1, if_neg hc10_2, if_pos hc16_9, if_pos hc23_10, if_neg hc36_11, if_neg hc42_12]), N0, rfl⟩
        · refine own_by (A' := s₁.setTop (mkF m 29 #[.val (.int p0), .val (.int p1), .val (.int p2), .val (.int p3), .val (.int p4), .val (.int p5), .val (.int p6), .val (.int p7)] [(.int p6), (.int p2)])) (fun t kt => ?_) ?_
          · show Steps p.tables e below (s₁.setTop (mkF m 23 #[.val (.int p0), .val (.int p1), .val (.int p2), .val (.int p3), .val (.int p4), .val (.int p5), .val (.int p6), .val (.int p7)] [(.int (2 : Int32)), (.int p0)])) t
            refine XS.icmpNo X0.here hx rfl (hb hby d14_23) rfl (flt hc23_10).1 ?_
            show Steps p.tables e below (s₁.setTop (mkF m 26 #[.val (.int p0), .val (.int p1), .val (.int p2), .val (.int p3), .val (.int p4), .val (.int p5), .val (.int p6), .val (.int p7)] [])) t
            refine XS.iloadN X0.here hx rfl (hb hby d14_26) rfl ?_
            show Steps p.tables e below (s₁.setTop (mkF m 27 #[.val (.int p0), .val (.int p1), .val (.int p2), .val (.int p3), .val (.int p4), .val (.int p5), .val (.int p6), .val (.int p7)] [(.int p2)])) t
            refine XS.iload X0.here hx rfl (hb hby d14_27) rfl ?_
            exact kt
          by_cases hc29_13 : p2 = p6
          · refine own_by (A' := s₁.setTop (mkF m 36 #[.val (.int p0), .val (.int p1), .val (.int p2), .val (.int p3), .val (.int p4), .val (.int p5), .val (.int p6), .val (.int p7)] [(.int (3 : Int32)), (.int p0)])) (fun t kt => ?_) ?_
            · show Steps p.tables e below (s₁.setTop (mkF m 29 #[.val (.int p0), .val (.int p1), .val (.int p2), .val (.int p3), .val (.int p4), .val (.int p5), .val (.int p6), .val (.int p7)] [(.int p6), (.int p2)])) t
              refine XS.icmpYes X0.here hx rfl (pc0 := 29) (pc' := 34) rfl (hb hby d14_29) rfl (teq hc29_13).1 (by decide) (by decide) ?_
              show Steps p.tables e below (s₁.setTop (mkF m 34 #[.val (.int p0), .val (.int p1), .val (.int p2), .val (.int p3), .val (.int p4), .val (.int p5), .val (.int p6), .val (.int p7)] [])) t
              refine XS.iloadN X0.here hx rfl (hb hby d14_34) rfl ?_
              show Steps p.tables e below (s₁.setTop (mkF m 35 #[.val (.int p0), .val (.int p1), .val (.int p2), .val (.int p3), .val (.int p4), .val (.int p5), .val (.int p6), .val (.int p7)] [(.int p0)])) t
              refine XS.iconst X0.here hx rfl (hb hby d14_35) ?_
              exact kt
            by_cases hc36_14 : p0 < (3 : Int32)
            · refine own_by (A' := s₁.setTop (mkF m 48 #[.val (.int p0), .val (.int p1), .val (.int p2), .val (.int p3), .val (.int p4), .val (.int p5), .val (.int p6), .val (.int p7)] [(.int (1 : Int32))])) (fun t kt => ?_) ?_
              · show Steps p.tables e below (s₁.setTop (mkF m 36 #[.val (.int p0), .val (.int p1), .val (.int p2), .val (.int p3), .val (.int p4), .val (.int p5), .val (.int p6), .val (.int p7)] [(.int (3 : Int32)), (.int p0)])) t
                refine XS.icmpYes X0.here hx rfl (pc0 := 36) (pc' := 47) rfl (hb hby d14_36) rfl (tlt hc36_14).1 (by decide) (by decide) ?_
                show Steps p.tables e below (s₁.setTop (mkF m 47 #[.val (.int p0), .val (.int p1), .val (.int p2), .val (.int p3), .val (.int p4), .val (.int p5), .val (.int p6), .val (.int p7)] [])) t
                refine XS.iconst X0.here hx rfl (hb hby d14_47) ?_
                exact kt
              obtain ⟨fs, hr, hrun, hended, hW, hsame⟩ := X0.leave (v := some (.int (1 : Int32))) (fun h => by rw [Bd.returns] at h; cases h)
              refine ⟨_, _, ?_, hrun, hended, _, _, rfl, ?_, ⟨_, rfl⟩, hW, hsame.mono (by decide) (by decide)⟩
              · exact retN X0 hx (t := .boolean) Bd.returns (by simp) (hb hby d14_48) hr
              · show Q14 Z p0 p1 p2 p3 p4 p5 p6 p7 h0 n0 _ s₁.heap _
                rw [e0]
                exact ⟨(by rw [own_f14, if_pos hc3_1, if_neg hc10_2, if_pos hc16_9, if_neg hc23_10, if_pos hc29_13, if_pos hc36_14]), N0, rfl⟩
            · refine own_by (A' := s₁.setTop (mkF m 42 #[.val (.int p0), .val (.int p1), .val (.int p2), .val (.int p3), .val (.int p4), .val (.int p5), .val (.int p6), .val (.int p7)] [(.int p7), (.int p3)])) (fun t kt => ?_) ?_
              · show Steps p.tables e below (s₁.setTop (mkF m 36 #[.val (.int p0), .val (.int p1), .val (.int p2), .val (.int p3), .val (.int p4), .val (.int p5), .val (.int p6), .val (.int p7)] [(.int (3 : Int32)), (.int p0)])) t
                refine XS.icmpNo X0.here hx rfl (hb hby d14_36) rfl (flt hc36_14).1 ?_
                show Steps p.tables e below (s₁.setTop (mkF m 39 #[.val (.int p0), .val (.int p1), .val (.int p2), .val (.int p3), .val (.int p4), .val (.int p5), .val (.int p6), .val (.int p7)] [])) t
                refine XS.iloadN X0.here hx rfl (hb hby d14_39) rfl ?_
                show Steps p.tables e below (s₁.setTop (mkF m 40 #[.val (.int p0), .val (.int p1), .val (.int p2), .val (.int p3), .val (.int p4), .val (.int p5), .val (.int p6), .val (.int p7)] [(.int p3)])) t
                refine XS.iload X0.here hx rfl (hb hby d14_40) rfl ?_
                exact kt
              by_cases hc42_15 : p3 = p7
              · refine own_by (A' := s₁.setTop (mkF m 48 #[.val (.int p0), .val (.int p1), .val (.int p2), .val (.int p3), .val (.int p4), .val (.int p5), .val (.int p6), .val (.int p7)] [(.int (1 : Int32))])) (fun t kt => ?_) ?_
                · show Steps p.tables e below (s₁.setTop (mkF m 42 #[.val (.int p0), .val (.int p1), .val (.int p2), .val (.int p3), .val (.int p4), .val (.int p5), .val (.int p6), .val (.int p7)] [(.int p7), (.int p3)])) t
                  refine XS.icmpYes X0.here hx rfl (pc0 := 42) (pc' := 47) rfl (hb hby d14_42) rfl (teq hc42_15).1 (by decide) (by decide) ?_
                  show Steps p.tables e below (s₁.setTop (mkF m 47 #[.val (.int p0), .val (.int p1), .val (.int p2), .val (.int p3), .val (.int p4), .val (.int p5), .val (.int p6), .val (.int p7)] [])) t
                  refine XS.iconst X0.here hx rfl (hb hby d14_47) ?_
                  exact kt
                obtain ⟨fs, hr, hrun, hended, hW, hsame⟩ := X0.leave (v := some (.int (1 : Int32))) (fun h => by rw [Bd.returns] at h; cases h)
                refine ⟨_, _, ?_, hrun, hended, _, _, rfl, ?_, ⟨_, rfl⟩, hW, hsame.mono (by decide) (by decide)⟩
                · exact retN X0 hx (t := .boolean) Bd.returns (by simp) (hb hby d14_48) hr
                · show Q14 Z p0 p1 p2 p3 p4 p5 p6 p7 h0 n0 _ s₁.heap _
                  rw [e0]
                  exact ⟨(by rw [own_f14, if_pos hc3_1, if_neg hc10_2, if_pos hc16_9, if_neg hc23_10, if_pos hc29_13, if_neg hc36_14, if_pos hc42_15]), N0, rfl⟩
              · refine own_by (A' := s₁.setTop (mkF m 46 #[.val (.int p0), .val (.int p1), .val (.int p2), .val (.int p3), .val (.int p4), .val (.int p5), .val (.int p6), .val (.int p7)] [(.int (0 : Int32))])) (fun t kt => ?_) ?_
                · show Steps p.tables e below (s₁.setTop (mkF m 42 #[.val (.int p0), .val (.int p1), .val (.int p2), .val (.int p3), .val (.int p4), .val (.int p5), .val (.int p6), .val (.int p7)] [(.int p7), (.int p3)])) t
                  refine XS.icmpNo X0.here hx rfl (hb hby d14_42) rfl (feq hc42_15).1 ?_
                  show Steps p.tables e below (s₁.setTop (mkF m 45 #[.val (.int p0), .val (.int p1), .val (.int p2), .val (.int p3), .val (.int p4), .val (.int p5), .val (.int p6), .val (.int p7)] [])) t
                  refine XS.iconst X0.here hx rfl (hb hby d14_45) ?_
                  exact kt
                obtain ⟨fs, hr, hrun, hended, hW, hsame⟩ := X0.leave (v := some (.int (0 : Int32))) (fun h => by rw [Bd.returns] at h; cases h)
                refine ⟨_, _, ?_, hrun, hended, _, _, rfl, ?_, ⟨_, rfl⟩, hW, hsame.mono (by decide) (by decide)⟩
                · exact retN X0 hx (t := .boolean) Bd.returns (by simp) (hb hby d14_46) hr
                · show Q14 Z p0 p1 p2 p3 p4 p5 p6 p7 h0 n0 _ s₁.heap _
                  rw [e0]
                  exact ⟨(by rw [own_f14, if_pos hc3_1, if_neg hc10_2, if_pos hc16_9, if_neg hc23_10, if_pos hc29_13, if_neg hc36_14, if_neg hc42_15]), N0, rfl⟩
          · refine own_by (A' := s₁.setTop (mkF m 33 #[.val (.int p0), .val (.int p1), .val (.int p2), .val (.int p3), .val (.int p4), .val (.int p5), .val (.int p6), .val (.int p7)] [(.int (0 : Int32))])) (fun t kt => ?_) ?_
            · show Steps p.tables e below (s₁.setTop (mkF m 29 #[.val (.int p0), .val (.int p1), .val (.int p2), .val (.int p3), .val (.int p4), .val (.int p5), .val (.int p6), .val (.int p7)] [(.int p6), (.int p2)])) t
              refine XS.icmpNo X0.here hx rfl (hb hby d14_29) rfl (feq hc29_13).1 ?_
              show Steps p.tables e below (s₁.setTop (mkF m 32 #[.val (.int p0), .val (.int p1), .val (.int p2), .val (.int p3), .val (.int p4), .val (.int p5), .val (.int p6), .val (.int p7)] [])) t
              refine XS.iconst X0.here hx rfl (hb hby d14_32) ?_
              exact kt
            obtain ⟨fs, hr, hrun, hended, hW, hsame⟩ := X0.leave (v := some (.int (0 : Int32))) (fun h => by rw [Bd.returns] at h; cases h)
            refine ⟨_, _, ?_, hrun, hended, _, _, rfl, ?_, ⟨_, rfl⟩, hW, hsame.mono (by decide) (by decide)⟩
            · exact retN X0 hx (t := .boolean) Bd.returns (by simp) (hb hby d14_33) hr
            · show Q14 Z p0 p1 p2 p3 p4 p5 p6 p7 h0 n0 _ s₁.heap _
              rw [e0]
              exact ⟨(by rw [own_f14, if_pos hc3_1, if_neg hc10_2, if_pos hc16_9, if_neg hc23_10, if_neg hc29_13]), N0, rfl⟩
      · refine own_by (A' := s₁.setTop (mkF m 20 #[.val (.int p0), .val (.int p1), .val (.int p2), .val (.int p3), .val (.int p4), .val (.int p5), .val (.int p6), .val (.int p7)] [(.int (0 : Int32))])) (fun t kt => ?_) ?_
        · show Steps p.tables e below (s₁.setTop (mkF m 16 #[.val (.int p0), .val (.int p1), .val (.int p2), .val (.int p3), .val (.int p4), .val (.int p5), .val (.int p6), .val (.int p7)] [(.int p5), (.int p1)])) t
          refine XS.icmpNo X0.here hx rfl (hb hby d14_16) rfl (feq hc16_9).1 ?_
          show Steps p.tables e below (s₁.setTop (mkF m 19 #[.val (.int p0), .val (.int p1), .val (.int p2), .val (.int p3), .val (.int p4), .val (.int p5), .val (.int p6), .val (.int p7)] [])) t
          refine XS.iconst X0.here hx rfl (hb hby d14_19) ?_
          exact kt
        obtain ⟨fs, hr, hrun, hended, hW, hsame⟩ := X0.leave (v := some (.int (0 : Int32))) (fun h => by rw [Bd.returns] at h; cases h)
        refine ⟨_, _, ?_, hrun, hended, _, _, rfl, ?_, ⟨_, rfl⟩, hW, hsame.mono (by decide) (by decide)⟩
        · exact retN X0 hx (t := .boolean) Bd.returns (by simp) (hb hby d14_20) hr
        · show Q14 Z p0 p1 p2 p3 p4 p5 p6 p7 h0 n0 _ s₁.heap _
          rw [e0]
          exact ⟨(by rw [own_f14, if_pos hc3_1, if_neg hc10_2, if_neg hc16_9]), N0, rfl⟩
  · refine own_by (A' := s₁.setTop (mkF m 7 #[.val (.int p0), .val (.int p1), .val (.int p2), .val (.int p3), .val (.int p4), .val (.int p5), .val (.int p6), .val (.int p7)] [(.int (0 : Int32))])) (fun t kt => ?_) ?_
    · show Steps p.tables e below (s₁.setTop (mkF m 3 #[.val (.int p0), .val (.int p1), .val (.int p2), .val (.int p3), .val (.int p4), .val (.int p5), .val (.int p6), .val (.int p7)] [(.int p4), (.int p0)])) t
      refine XS.icmpNo X0.here hx rfl (hb hby d14_3) rfl (feq hc3_1).1 ?_
      show Steps p.tables e below (s₁.setTop (mkF m 6 #[.val (.int p0), .val (.int p1), .val (.int p2), .val (.int p3), .val (.int p4), .val (.int p5), .val (.int p6), .val (.int p7)] [])) t
      refine XS.iconst X0.here hx rfl (hb hby d14_6) ?_
      exact kt
    obtain ⟨fs, hr, hrun, hended, hW, hsame⟩ := X0.leave (v := some (.int (0 : Int32))) (fun h => by rw [Bd.returns] at h; cases h)
    refine ⟨_, _, ?_, hrun, hended, _, _, rfl, ?_, ⟨_, rfl⟩, hW, hsame.mono (by decide) (by decide)⟩
    · exact retN X0 hx (t := .boolean) Bd.returns (by simp) (hb hby d14_7) hr
    · show Q14 Z p0 p1 p2 p3 p4 p5 p6 p7 h0 n0 _ s₁.heap _
      rw [e0]
      exact ⟨(by rw [own_f14, if_neg hc3_1]), N0, rfl⟩
theorem pn_3 : plainName "java/lang/String" = true := by first | (simp [plainName, overriddenIn]; done) | decide +kernel
theorem d3_0 : decode jdk_42_method_149_code 0 = .ok (.aload_n 0, 1) := by decide +kernel
theorem d3_1 : decode jdk_42_method_149_code 1 = .ok (.invokespecial 1, 3) := by decide +kernel
theorem d3_4 : decode jdk_42_method_149_code 4 = .ok (.iload_n 3, 1) := by decide +kernel
theorem d3_5 : decode jdk_42_method_149_code 5 = .ok (.ifCond .ne 22, 3) := by decide +kernel
theorem d3_8 : decode jdk_42_method_149_code 8 = .ok (.aload_n 0, 1) := by decide +kernel
theorem d3_9 : decode jdk_42_method_149_code 9 = .ok (.ldc 7, 2) := by decide +kernel
theorem d3_11 : decode jdk_42_method_149_code 11 = .ok (.getfield 9, 3) := by decide +kernel
theorem d3_14 : decode jdk_42_method_149_code 14 = .ok (.putfield 9, 3) := by decide +kernel
theorem d3_17 : decode jdk_42_method_149_code 17 = .ok (.aload_n 0, 1) := by decide +kernel
theorem d3_18 : decode jdk_42_method_149_code 18 = .ok (.ldc 7, 2) := by decide +kernel
theorem d3_20 : decode jdk_42_method_149_code 20 = .ok (.getfield 15, 3) := by decide +kernel
theorem d3_23 : decode jdk_42_method_149_code 23 = .ok (.putfield 15, 3) := by decide +kernel
theorem d3_26 : decode jdk_42_method_149_code 26 = .ok (.return_, 1) := by decide +kernel
theorem ef_rm149C (m : MethodId) (a0 : Addr) (a1 : Addr) : entryFrame m #[(.ref a0), (.ref a1), (.int (0 : Int32)), (.int (0 : Int32)), .null] 6 = mkF m 0 #[.val (.ref a0), .val (.ref a1), .val (.int (0 : Int32)), .val (.int (0 : Int32)), .val .null, .unset] [] := by first | (simp [entryFrame, mkF, argsToLocals, Value.category]; done) | rfl
def Q149C (Z : State) (a0 : Addr) (a1 : Addr) (Ts : List String) (h0 : Heap) (n0 : Nat) (v : Option Value) (h : Heap) (L : List Loc) (vm : Vm) : Prop := v = none ∧ Fr n0 L ∧ Keep h0 h [a0] ∧ own_OS Z h a0 [] ∧ ∃ lt : Addr, own_OS Z h lt [] ∧ IB Z vm ("" :: Ts) ∧ Lit (Z.setVm vm) "java/lang/String" 7 lt
set_option maxRecDepth 65536 in
set_option maxHeartbeats 40000000 in
theorem rm149C (l : Launch) (Z : State) (aw : Array Value) (hw : ∀ d ∈ tables_1, d.before aw Z = true) (ws : List Jvm.Cond) (a0 : Addr) (a1 : Addr) (Ts : List String) (h0 : Heap) (n0 : Nat) (Z0 : n0 ≤ h0.size) (E_a0 : Exa Z h0 a0 "java/lang/String") (PF_value : Fld Z h0 a0 "java/lang/String" "value" "[B" .null) (PF_coder : Fld Z h0 a0 "java/lang/String" "coder" "B" (.int (0 : Int32))) (g_a0 : n0 ≤ a0) (KZ : ∀ (b : Addr) (cl : Cell), Z.heap[b]? = some cl → h0[b]? = some cl) (HC : Jvm.Lit.constHeld Z "java/lang/String" 7) (HW : Jvm.Lit.compactW.before aw Z = true) (hnt : "" ∉ Ts) :
    MetFree l (⟨"java/lang/String", "<init>", "([CIILjava/lang/Void;)V"⟩ : MethodName) (head1 (Jvm.Cond.code (⟨"java/lang/String", "<init>", "([CIILjava/lang/Void;)V"⟩ : MethodName) jdk_42_method_149_code 6 none :: ws) ({ frames := 1, cells := 2, slots := 4, locals := 12 } : Room)) (fun a U => a = #[(.ref a0), (.ref a1), (.int (0 : Int32)), (.int (0 : Int32)), .null] ∧ Z.Warmed39 U.vm ∧ U.heap = h0 ∧ own_VI Z Ts U.vm) (fun _ _ _ _ _ => True) (fun _ U o U' => ∃ v L, o = .returned v ∧ Q149C Z a0 a1 Ts h0 n0 v U'.heap L U'.vm ∧ ReturnedEndW U o U' L ({ frames := 1, cells := 2, slots := 4, locals := 12 } : Room).cells ({ frames := 1, cells := 2, slots := 4, locals := 12 } : Room).slots) := by
  refine MetFree.of_bodySF (plainFor_of_name pn_3) hisR ?_
  intro p e s m args below meth c s₁ Bd hml0 hP hK
  obtain ⟨rfl, hZ, hh, hIB⟩ := hP
  have hx := Bd.exec
  have hby := Bd.bytes
  have hml : c.maxLocals = 6 := hml0
  have hown : s.vm.findClass "java/lang/String" = some m.cls := findClass_of_methodNamed Bd.named
  have hnm := (name_of_methodNamed Bd.named Bd.method).1
  have X0 : Stand p l e ({ frames := 1, cells := 2, slots := 4, locals := 12 } : Room) s m #[(.ref a0), (.ref a1), (.int (0 : Int32)), (.int (0 : Int32)), .null] below meth c s₁ [] 0 0 := Stand.of_body Bd
  have e0 : s₁.heap = h0 := by rw [← hh, Bd.state]; rfl
  have N0 := Fr.nil n0
  have K0 : Keep h0 h0 [a0] := Keep.refl _ _
  refine own_by (A' := s₁.setTop (mkF m 0 #[.val (.ref a0), .val (.ref a1), .val (.int (0 : Int32)), .val (.int (0 : Int32)), .val .null, .unset] [])) (fun t k => castTop (ef_rm149C m a0 a1) k) ?_
  refine own_by (A' := s₁.setTop (mkF m 1 #[.val (.ref a0), .val (.ref a1), .val (.int (0 : Int32)), .val (.int (0 : Int32)), .val .null, .unset] [(.ref a0)])) (fun t kt => ?_) ?_
  · show Steps p.tables e below (s₁.setTop (mkF m 0 #[.val (.ref a0), .val (.ref a1), .val (.int (0 : Int32)), .val (.int (0 : Int32)), .val .null, .unset] [])) t
    refine XS.aloadN X0.here hx rfl (hb hby d3_0) rfl rfl ?_
    exact kt
  obtain ⟨T1, X1, e1, st1⟩ := initO X0 hx hZ hown (hw _ (List.mem_of_getElem? (i := 15) rfl)) (hw _ (List.mem_of_getElem? (i := 16) rfl)) (hw _ (List.mem_of_getElem? (i := 17) rfl)) e0 (g := (mkF m 1 #[.val (.ref a0), .val (.ref a1), .val (.int (0 : Int32)), .val (.int (0 : Int32)), .val .null, .unset] [(.ref a0)])) rfl (by rw [hml]; rfl) rfl (hb hby d3_1) (by decide) (W := 0) (by show 2 * 0 + _ ≤ _; exact Nat.le_of_eq rfl) (by decide)
  refine own_by (A' := T1.setTop (mkF m 4 #[.val (.ref a0), .val (.ref a1), .val (.int (0 : Int32)), .val (.int (0 : Int32)), .val .null, .unset] [])) (fun t kt => st1 t kt) ?_
  refine own_by (A' := T1.setTop (mkF m 5 #[.val (.ref a0), .val (.ref a1), .val (.int (0 : Int32)), .val (.int (0 : Int32)), .val .null, .unset] [(.int (0 : Int32))])) (fun t kt => ?_) ?_
  · show Steps p.tables e below (T1.setTop (mkF m 4 #[.val (.ref a0), .val (.ref a1), .val (.int (0 : Int32)), .val (.int (0 : Int32)), .val .null, .unset] [])) t
    refine XS.iloadN X1.here hx rfl (hb hby d3_4) rfl ?_
    exact kt
  have hc5_2 : (0 : Int32) = (0 : Int32) := by decide
  refine own_by (A' := T1.setTop (mkF m 9 #[.val (.ref a0), .val (.ref a1), .val (.int (0 : Int32)), .val (.int (0 : Int32)), .val .null, .unset] [(.ref a0)])) (fun t kt => ?_) ?_
  · show Steps p.tables e below (T1.setTop (mkF m 5 #[.val (.ref a0), .val (.ref a1), .val (.int (0 : Int32)), .val (.int (0 : Int32)), .val .null, .unset] [(.int (0 : Int32))])) t
    refine XS.ifNo X1.here hx rfl (hb hby d3_5) rfl ((if0 _ _).trans (teq hc5_2).2) ?_
    show Steps p.tables e below (T1.setTop (mkF m 8 #[.val (.ref a0), .val (.ref a1), .val (.int (0 : Int32)), .val (.int (0 : Int32)), .val .null, .unset] [])) t
    refine XS.aloadN X1.here hx rfl (hb hby d3_8) rfl rfl ?_
    exact kt
  obtain ⟨lt3, T3, h3, ks3, lb3, lk3, X3, e3, E3, hS3, hk3, hZ, hown, A3, FC3, FV3, AR3, -, -, IB3, Li_lt3, st3⟩ := Jvm.RoadKit.ldcSVL (s := s) (vm0 := s.vm) (Ts := Ts) X1 hx hZ hown (hw _ (List.mem_of_getElem? (i := 18) rfl)) (fun d hd => hw d ((by decide +kernel : ∀ d ∈ Bundle.stringAtoms, d ∈ tables_1) d hd)) e1 ((State.WarmedH.refl s).since 0) (Nat.zero_le _) (Fr.nil _) (fun b cl q => by rw [hh]; exact KZ b cl q) hIB hnt HC HW (vs := []) (z := 0) ⟨by decide, rfl⟩ (by decide) rfl (g := (mkF m 9 #[.val (.ref a0), .val (.ref a1), .val (.int (0 : Int32)), .val (.int (0 : Int32)), .val .null, .unset] [(.ref a0)])) rfl (hb hby d3_9) (n := 0) (by decide) (by decide) (by decide) (by decide)
  have K3 : Keep h0 h3 [a0] := K0.ext E3
  refine own_by (A' := T3.setTop (mkF m 11 #[.val (.ref a0), .val (.ref a1), .val (.int (0 : Int32)), .val (.int (0 : Int32)), .val .null, .unset] [(.ref lt3), (.ref a0)])) (fun t kt => st3 t kt) ?_
  have hlb := Exa.neArv (E_a0.ext E3) AR3 (hw _ (List.mem_of_getElem? (i := 5) rfl))
  obtain ⟨T4, X4, e4, st4⟩ := getF X3 hx hZ hown (host := "") (Or.inl (hw _ (List.mem_of_getElem? (i := 24) rfl))) Via.refl e3 FV3 (g := (mkF m 11 #[.val (.ref a0), .val (.ref a1), .val (.int (0 : Int32)), .val (.int (0 : Int32)), .val .null, .unset] [(.ref lt3), (.ref a0)])) rfl rfl (hb hby d3_11)
  refine own_by (A' := T4.setTop (mkF m 14 #[.val (.ref a0), .val (.ref a1), .val (.int (0 : Int32)), .val (.int (0 : Int32)), .val .null, .unset] [(.ref lb3), (.ref a0)])) (fun t kt => st4 t kt) ?_
  obtain ⟨T5, h5, X5, e5, W5, st5⟩ := putF X4 hx hZ hown (host := "") (Or.inl (hw _ (List.mem_of_getElem? (i := 24) rfl))) Via.refl e4 (PF_value.ext E3) (E_a0.ext E3) (Or.inr ⟨(hw _ (List.mem_of_getElem? (i := 20) rfl)), rfl, hnm⟩) (hw _ (List.mem_of_getElem? (i := 5) rfl)) (ty := (.array .byte)) (by decide) rfl rfl (g := (mkF m 14 #[.val (.ref a0), .val (.ref a1), .val (.int (0 : Int32)), .val (.int (0 : Int32)), .val .null, .unset] [(.ref lb3), (.ref a0)])) rfl rfl (hb hby d3_14)
  have F5 := Fld.same W5 (PF_value.ext E3)
  have N5 := Fr.snoc X5 N0 g_a0
  have gr5 := Nat.le_trans hk3 (Keep.of_wr W5).1
  have K5 : Keep h0 h5 [a0] := K3.wr W5 (Or.inl (List.mem_of_getElem? (i := 0) rfl))
  refine own_by (A' := T5.setTop (mkF m 17 #[.val (.ref a0), .val (.ref a1), .val (.int (0 : Int32)), .val (.int (0 : Int32)), .val .null, .unset] [])) (fun t kt => st5 t kt) ?_
  refine own_by (A' := T5.setTop (mkF m 18 #[.val (.ref a0), .val (.ref a1), .val (.int (0 : Int32)), .val (.int (0 : Int32)), .val .null, .unset] [(.ref a0)])) (fun t kt => ?_) ?_
  · show Steps p.tables e below (T5.setTop (mkF m 17 #[.val (.ref a0), .val (.ref a1), .val (.int (0 : Int32)), .val (.int (0 : Int32)), .val .null, .unset] [])) t
    refine XS.aloadN X5.here hx rfl (hb hby d3_17) rfl rfl ?_
    exact kt
  refine own_by (A' := T5.setTop (mkF m 20 #[.val (.ref a0), .val (.ref a1), .val (.int (0 : Int32)), .val (.int (0 : Int32)), .val .null, .unset] [(.ref lt3), (.ref a0)])) (fun t kt => ?_) ?_
  · show Steps p.tables e below (T5.setTop (mkF m 18 #[.val (.ref a0), .val (.ref a1), .val (.int (0 : Int32)), .val (.int (0 : Int32)), .val .null, .unset] [(.ref a0)])) t
    refine Jvm.RoadKit.ldcAgain (s := s) X5 hx hZ hown (hw _ (List.mem_of_getElem? (i := 18) rfl)) Li_lt3 (g := (mkF m 18 #[.val (.ref a0), .val (.ref a1), .val (.int (0 : Int32)), .val (.int (0 : Int32)), .val .null, .unset] [(.ref a0)])) rfl (hb hby d3_18) _ ?_
    exact kt
  obtain ⟨T6, X6, e6, st6⟩ := getF X5 hx hZ hown (host := "") (Or.inl (hw _ (List.mem_of_getElem? (i := 25) rfl))) Via.refl e5 (FC3.other W5 (Or.inr (slot_ne (Or.inr (hw _ (List.mem_of_getElem? (i := 21) rfl))) (Or.inr (hw _ (List.mem_of_getElem? (i := 20) rfl))) (by decide) (t := .byte) (t' := (.array .byte)) (by decide) (by decide)))) (g := (mkF m 20 #[.val (.ref a0), .val (.ref a1), .val (.int (0 : Int32)), .val (.int (0 : Int32)), .val .null, .unset] [(.ref lt3), (.ref a0)])) rfl rfl (hb hby d3_20)
  refine own_by (A' := T6.setTop (mkF m 23 #[.val (.ref a0), .val (.ref a1), .val (.int (0 : Int32)), .val (.int (0 : Int32)), .val .null, .unset] [(.int (0 : Int32)), (.ref a0)])) (fun t kt => st6 t kt) ?_
  obtain ⟨T7, h7, X7, e7, W7, st7⟩ := putF X6 hx hZ hown (host := "") (Or.inl (hw _ (List.mem_of_getElem? (i := 25) rfl))) Via.refl e6 ((PF_coder.ext E3).other W5 (Or.inr (slot_ne (Or.inr (hw _ (List.mem_of_getElem? (i := 21) rfl))) (Or.inr (hw _ (List.mem_of_getElem? (i := 20) rfl))) (by decide) (t := .byte) (t' := (.array .byte)) (by decide) (by decide)))) ((E_a0.ext E3).wr W5) (Or.inr ⟨(hw _ (List.mem_of_getElem? (i := 21) rfl)), rfl, hnm⟩) (hw _ (List.mem_of_getElem? (i := 5) rfl)) (ty := .byte) (by decide) rfl rfl (g := (mkF m 23 #[.val (.ref a0), .val (.ref a1), .val (.int (0 : Int32)), .val (.int (0 : Int32)), .val .null, .unset] [(.int (0 : Int32)), (.ref a0)])) rfl rfl (hb hby d3_23)
  have F7 := Fld.same W7 ((PF_coder.ext E3).other W5 (Or.inr (slot_ne (Or.inr (hw _ (List.mem_of_getElem? (i := 21) rfl))) (Or.inr (hw _ (List.mem_of_getElem? (i := 20) rfl))) (by decide) (t := .byte) (t' := (.array .byte)) (by decide) (by decide))))
  have N7 := Fr.snoc X7 N5 g_a0
  have gr7 := Nat.le_trans gr5 (Keep.of_wr W7).1
  have K7 : Keep h0 h7 [a0] := K5.wr W7 (Or.inl (List.mem_of_getElem? (i := 0) rfl))
  refine own_by (A' := T7.setTop (mkF m 26 #[.val (.ref a0), .val (.ref a1), .val (.int (0 : Int32)), .val (.int (0 : Int32)), .val .null, .unset] [])) (fun t kt => st7 t kt) ?_
  obtain ⟨fs, hr, hrun, hended, hEnd⟩ := X7.leaveW (s := s) hS3 (by rw [e7]; exact gr7) (v := none) (fun _ => rfl)
  refine ⟨_, _, ?_, hrun, hended, _, _, rfl, ?_, hEnd.1, hEnd.2.1, hEnd.2.2.1, hEnd.2.2.2.mono (by decide) (by decide)⟩
  · exact X7.returnOut hx Bd.returns (hb hby d3_26) hr
  · show Q149C Z a0 a1 Ts h0 n0 _ T7.heap _ T7.vm
    rw [e7]
    exact ⟨rfl, N7, K7, ⟨lb3, lk3, (((E_a0.ext E3).wr W5).wr W7), (F5.other W7 (Or.inr (slot_ne (Or.inr (hw _ (List.mem_of_getElem? (i := 20) rfl))) (Or.inr (hw _ (List.mem_of_getElem? (i := 21) rfl))) (by decide) (t := (.array .byte)) (t' := .byte) (by decide) (by decide)))), F7, ((AR3.other W5 (Ne.symm hlb)).other W7 (Ne.symm hlb))⟩, lt3, ⟨lb3, lk3, ((A3.wr W5).wr W7), ((own_sameV W5 FV3).other W7 (Or.inr (slot_ne (Or.inr (hw _ (List.mem_of_getElem? (i := 20) rfl))) (Or.inr (hw _ (List.mem_of_getElem? (i := 21) rfl))) (by decide) (t := (.array .byte)) (t' := .byte) (by decide) (by decide)))), (own_sameV W7 (FC3.other W5 (Or.inr (slot_ne (Or.inr (hw _ (List.mem_of_getElem? (i := 21) rfl))) (Or.inr (hw _ (List.mem_of_getElem? (i := 20) rfl))) (by decide) (t := .byte) (t' := (.array .byte)) (by decide) (by decide))))), ((AR3.other W5 (Ne.symm hlb)).other W7 (Ne.symm hlb))⟩, own_IBw X7.warmed IB3, own_Litw X7.warmed Li_lt3⟩
theorem ef_rm149A (m : MethodId) (a0 : Addr) (a1 : Addr) : entryFrame m #[(.ref a0), (.ref a1), (.int (0 : Int32)), (.int (0 : Int32)), .null] 6 = mkF m 0 #[.val (.ref a0), .val (.ref a1), .val (.int (0 : Int32)), .val (.int (0 : Int32)), .val .null, .unset] [] := by first | (simp [entryFrame, mkF, argsToLocals, Value.category]; done) | rfl
def Q149A (Z : State) (a0 : Addr) (a1 : Addr) (lt0 : Addr) (h0 : Heap) (n0 : Nat) (v : Option Value) (h : Heap) (L : List Loc) (vm : Vm) : Prop := v = none ∧ Fr n0 L ∧ Keep h0 h [a0] ∧ own_OS Z h a0 []
set_option maxRecDepth 65536 in
set_option maxHeartbeats 40000000 in
theorem rm149A (l : Launch) (Z : State) (aw : Array Value) (hw : ∀ d ∈ tables_1, d.before aw Z = true) (ws : List Jvm.Cond) (a0 : Addr) (a1 : Addr) (lt0 : Addr) (h0 : Heap) (n0 : Nat) (Z0 : n0 ≤ h0.size) (E_a0 : Exa Z h0 a0 "java/lang/String") (PF_value : Fld Z h0 a0 "java/lang/String" "value" "[B" .null) (PF_coder : Fld Z h0 a0 "java/lang/String" "coder" "B" (.int (0 : Int32))) (g_a0 : n0 ≤ a0) (O_lt : own_OS Z h0 lt0 []) :
    MetFree l (⟨"java/lang/String", "<init>", "([CIILjava/lang/Void;)V"⟩ : MethodName) (head1 (Jvm.Cond.code (⟨"java/lang/String", "<init>", "([CIILjava/lang/Void;)V"⟩ : MethodName) jdk_42_method_149_code 6 none :: ws) ({ frames := 1, cells := 0, slots := 0, locals := 12 } : Room)) (fun a U => a = #[(.ref a0), (.ref a1), (.int (0 : Int32)), (.int (0 : Int32)), .null] ∧ Z.Warmed39 U.vm ∧ U.heap = h0 ∧ own_VL Z lt0 U.vm) (fun _ _ _ _ _ => True) (fun _ U o U' => ∃ v L, o = .returned v ∧ Q149A Z a0 a1 lt0 h0 n0 v U'.heap L U'.vm ∧ ReturnedEndW U o U' L ({ frames := 1, cells := 0, slots := 0, locals := 12 } : Room).cells ({ frames := 1, cells := 0, slots := 0, locals := 12 } : Room).slots) := by
  refine MetFree.of_bodySF (plainFor_of_name pn_3) hisR ?_
  intro p e s m args below meth c s₁ Bd hml0 hP hK
  obtain ⟨rfl, hZ, hh, Li_lt0⟩ := hP
  have hx := Bd.exec
  have hby := Bd.bytes
  have hml : c.maxLocals = 6 := hml0
  have hown : s.vm.findClass "java/lang/String" = some m.cls := findClass_of_methodNamed Bd.named
  have hnm := (name_of_methodNamed Bd.named Bd.method).1
  have X0 : Stand p l e ({ frames := 1, cells := 0, slots := 0, locals := 12 } : Room) s m #[(.ref a0), (.ref a1), (.int (0 : Int32)), (.int (0 : Int32)), .null] below meth c s₁ [] 0 0 := Stand.of_body Bd
  have e0 : s₁.heap = h0 := by rw [← hh, Bd.state]; rfl
  have N0 := Fr.nil n0
  have K0 : Keep h0 h0 [a0] := Keep.refl _ _
  refine own_by (A' := s₁.setTop (mkF m 0 #[.val (.ref a0), .val (.ref a1), .val (.int (0 : Int32)), .val (.int (0 : Int32)), .val .null, .unset] [])) (fun t k => castTop (ef_rm149A m a0 a1) k) ?_
  obtain ⟨lb, lk, E_lt, F_ltv, F_ltc, A_lb⟩ := O_lt
  have hlb := Exa.neArv E_a0 A_lb (hw _ (List.mem_of_getElem? (i := 5) rfl))
  refine own_by (A' := s₁.setTop (mkF m 1 #[.val (.ref a0), .val (.ref a1), .val (.int (0 : Int32)), .val (.int (0 : Int32)), .val .null, .unset] [(.ref a0)])) (fun t kt => ?_) ?_
  · show Steps p.tables e below (s₁.setTop (mkF m 0 #[.val (.ref a0), .val (.ref a1), .val (.int (0 : Int32)), .val (.int (0 : Int32)), .val .null, .unset] [])) t
    refine XS.aloadN X0.here hx rfl (hb hby d3_0) rfl rfl ?_
    exact kt
  obtain ⟨T1, X1, e1, st1⟩ := initO X0 hx hZ hown (hw _ (List.mem_of_getElem? (i := 15) rfl)) (hw _ (List.mem_of_getElem? (i := 16) rfl)) (hw _ (List.mem_of_getElem? (i := 17) rfl)) e0 (g := (mkF m 1 #[.val (.ref a0), .val (.ref a1), .val (.int (0 : Int32)), .val (.int (0 : Int32)), .val .null, .unset] [(.ref a0)])) rfl (by rw [hml]; rfl) rfl (hb hby d3_1) (by decide) (W := 0) (by show 2 * 0 + _ ≤ _; exact Nat.le_of_eq rfl) (by decide)
  refine own_by (A' := T1.setTop (mkF m 4 #[.val (.ref a0), .val (.ref a1), .val (.int (0 : Int32)), .val (.int (0 : Int32)), .val .null, .unset] [])) (fun t kt => st1 t kt) ?_
  refine own_by (A' := T1.setTop (mkF m 5 #[.val (.ref a0), .val (.ref a1), .val (.int (0 : Int32)), .val (.int (0 : Int32)), .val .null, .unset] [(.int (0 : Int32))])) (fun t kt => ?_) ?_
  · show Steps p.tables e below (T1.setTop (mkF m 4 #[.val (.ref a0), .val (.ref a1), .val (.int (0 : Int32)), .val (.int (0 : Int32)), .val .null, .unset] [])) t
    refine XS.iloadN X1.here hx rfl (hb hby d3_4) rfl ?_
    exact kt
  have hc5_2 : (0 : Int32) = (0 : Int32) := by decide
  refine own_by (A' := T1.setTop (mkF m 9 #[.val (.ref a0), .val (.ref a1), .val (.int (0 : Int32)), .val (.int (0 : Int32)), .val .null, .unset] [(.ref a0)])) (fun t kt => ?_) ?_
  · show Steps p.tables e below (T1.setTop (mkF m 5 #[.val (.ref a0), .val (.ref a1), .val (.int (0 : Int32)), .val (.int (0 : Int32)), .val .null, .unset] [(.int (0 : Int32))])) t
    refine XS.ifNo X1.here hx rfl (hb hby d3_5) rfl ((if0 _ _).trans (teq hc5_2).2) ?_
    show Steps p.tables e below (T1.setTop (mkF m 8 #[.val (.ref a0), .val (.ref a1), .val (.int (0 : Int32)), .val (.int (0 : Int32)), .val .null, .unset] [])) t
    refine XS.aloadN X1.here hx rfl (hb hby d3_8) rfl rfl ?_
    exact kt
  refine own_by (A' := T1.setTop (mkF m 11 #[.val (.ref a0), .val (.ref a1), .val (.int (0 : Int32)), .val (.int (0 : Int32)), .val .null, .unset] [(.ref lt0), (.ref a0)])) (fun t kt => ?_) ?_
  · show Steps p.tables e below (T1.setTop (mkF m 9 #[.val (.ref a0), .val (.ref a1), .val (.int (0 : Int32)), .val (.int (0 : Int32)), .val .null, .unset] [(.ref a0)])) t
    refine Jvm.RoadKit.ldcAgain (s := s) (vm0 := s.vm) X1 hx hZ hown (hw _ (List.mem_of_getElem? (i := 18) rfl)) Li_lt0 (g := (mkF m 9 #[.val (.ref a0), .val (.ref a1), .val (.int (0 : Int32)), .val (.int (0 : Int32)), .val .null, .unset] [(.ref a0)])) rfl (hb hby d3_9) _ ?_
    exact kt
  obtain ⟨T3, X3, e3, st3⟩ := getF X1 hx hZ hown (host := "") (Or.inl (hw _ (List.mem_of_getElem? (i := 24) rfl))) Via.refl e1 F_ltv (g := (mkF m 11 #[.val (.ref a0), .val (.ref a1), .val (.int (0 : Int32)), .val (.int (0 : Int32)), .val .null, .unset] [(.ref lt0), (.ref a0)])) rfl rfl (hb hby d3_11)
  refine own_by (A' := T3.setTop (mkF m 14 #[.val (.ref a0), .val (.ref a1), .val (.int (0 : Int32)), .val (.int (0 : Int32)), .val .null, .unset] [(.ref lb), (.ref a0)])) (fun t kt => st3 t kt) ?_
  obtain ⟨T4, h4, X4, e4, W4, st4⟩ := putF X3 hx hZ hown (host := "") (Or.inl (hw _ (List.mem_of_getElem? (i := 24) rfl))) Via.refl e3 PF_value E_a0 (Or.inr ⟨(hw _ (List.mem_of_getElem? (i := 20) rfl)), rfl, hnm⟩) (hw _ (List.mem_of_getElem? (i := 5) rfl)) (ty := (.array .byte)) (by decide) rfl rfl (g := (mkF m 14 #[.val (.ref a0), .val (.ref a1), .val (.int (0 : Int32)), .val (.int (0 : Int32)), .val .null, .unset] [(.ref lb), (.ref a0)])) rfl rfl (hb hby d3_14)
  have F4 := Fld.same W4 PF_value
  have N4 := Fr.snoc X4 N0 g_a0
  have K4 : Keep h0 h4 [a0] := K0.wr W4 (Or.inl (List.mem_of_getElem? (i := 0) rfl))
  refine own_by (A' := T4.setTop (mkF m 17 #[.val (.ref a0), .val (.ref a1), .val (.int (0 : Int32)), .val (.int (0 : Int32)), .val .null, .unset] [])) (fun t kt => st4 t kt) ?_
  refine own_by (A' := T4.setTop (mkF m 18 #[.val (.ref a0), .val (.ref a1), .val (.int (0 : Int32)), .val (.int (0 : Int32)), .val .null, .unset] [(.ref a0)])) (fun t kt => ?_) ?_
  · show Steps p.tables e below (T4.setTop (mkF m 17 #[.val (.ref a0), .val (.ref a1), .val (.int (0 : Int32)), .val (.int (0 : Int32)), .val .null, .unset] [])) t
    refine XS.aloadN X4.here hx rfl (hb hby d3_17) rfl rfl ?_
    exact kt
  refine own_by (A' := T4.setTop (mkF m 20 #[.val (.ref a0), .val (.ref a1), .val (.int (0 : Int32)), .val (.int (0 : Int32)), .val .null, .unset] [(.ref lt0), (.ref a0)])) (fun t kt => ?_) ?_
  · show Steps p.tables e below (T4.setTop (mkF m 18 #[.val (.ref a0), .val (.ref a1), .val (.int (0 : Int32)), .val (.int (0 : Int32)), .val .null, .unset] [(.ref a0)])) t
    refine Jvm.RoadKit.ldcAgain (s := s) (vm0 := s.vm) X4 hx hZ hown (hw _ (List.mem_of_getElem? (i := 18) rfl)) Li_lt0 (g := (mkF m 18 #[.val (.ref a0), .val (.ref a1), .val (.int (0 : Int32)), .val (.int (0 : Int32)), .val .null, .unset] [(.ref a0)])) rfl (hb hby d3_18) _ ?_
    exact kt
  obtain ⟨T5, X5, e5, st5⟩ := getF X4 hx hZ hown (host := "") (Or.inl (hw _ (List.mem_of_getElem? (i := 25) rfl))) Via.refl e4 (F_ltc.other W4 (Or.inr (slot_ne (Or.inr (hw _ (List.mem_of_getElem? (i := 21) rfl))) (Or.inr (hw _ (List.mem_of_getElem? (i := 20) rfl))) (by decide) (t := .byte) (t' := (.array .byte)) (by decide) (by decide)))) (g := (mkF m 20 #[.val (.ref a0), .val (.ref a1), .val (.int (0 : Int32)), .val (.int (0 : Int32)), .val .null, .unset] [(.ref lt0), (.ref a0)])) rfl rfl (hb hby d3_20)
  refine own_by (A' := T5.setTop (mkF m 23 #[.val (.ref a0), .val (.ref a1), .val (.int (0 : Int32)), .val (.int (0 : Int32)), .val .null, .unset] [(.int (0 : Int32)), (.ref a0)])) (fun t kt => st5 t kt) ?_
  obtain ⟨T6, h6, X6, e6, W6, st6⟩ := putF X5 hx hZ hown (host := "") (Or.inl (hw _ (List.mem_of_getElem? (i := 25) rfl))) Via.refl e5 (PF_coder.other W4 (Or.inr (slot_ne (Or.inr (hw _ (List.mem_of_getElem? (i := 21) rfl))) (Or.inr (hw _ (List.mem_of_getElem? (i := 20) rfl))) (by decide) (t := .byte) (t' := (.array .byte)) (by decide) (by decide)))) (E_a0.wr W4) (Or.inr ⟨(hw _ (List.mem_of_getElem? (i := 21) rfl)), rfl, hnm⟩) (hw _ (List.mem_of_getElem? (i := 5) rfl)) (ty := .byte) (by decide) rfl rfl (g := (mkF m 23 #[.val (.ref a0), .val (.ref a1), .val (.int (0 : Int32)), .val (.int (0 : Int32)), .val .null, .unset] [(.int (0 : Int32)), (.ref a0)])) rfl rfl (hb hby d3_23)
  have F6 := Fld.same W6 (PF_coder.other W4 (Or.inr (slot_ne (Or.inr (hw _ (List.mem_of_getElem? (i := 21) rfl))) (Or.inr (hw _ (List.mem_of_getElem? (i := 20) rfl))) (by decide) (t := .byte) (t' := (.array .byte)) (by decide) (by decide))))
  have N6 := Fr.snoc X6 N4 g_a0
  have K6 : Keep h0 h6 [a0] := K4.wr W6 (Or.inl (List.mem_of_getElem? (i := 0) rfl))
  refine own_by (A' := T6.setTop (mkF m 26 #[.val (.ref a0), .val (.ref a1), .val (.int (0 : Int32)), .val (.int (0 : Int32)), .val .null, .unset] [])) (fun t kt => st6 t kt) ?_
  obtain ⟨fs, hr, hrun, hended, hW, hsame⟩ := X6.leave (v := none) (fun _ => rfl)
  refine ⟨_, _, ?_, hrun, hended, _, _, rfl, ?_, ⟨_, rfl⟩, hW.wide, hW.no_new_pair _, hsame.mono (by decide) (by decide)⟩
  · exact X6.returnOut hx Bd.returns (hb hby d3_26) hr
  · show Q149A Z a0 a1 lt0 h0 n0 _ T6.heap _ T6.vm
    rw [e6]
    exact ⟨rfl, N6, K6, ⟨lb, lk, ((E_a0.wr W4).wr W6), (F4.other W6 (Or.inr (slot_ne (Or.inr (hw _ (List.mem_of_getElem? (i := 20) rfl))) (Or.inr (hw _ (List.mem_of_getElem? (i := 21) rfl))) (by decide) (t := (.array .byte)) (t' := .byte) (by decide) (by decide)))), F6, ((A_lb.other W4 (Ne.symm hlb)).other W6 (Ne.symm hlb))⟩⟩
theorem pd_4 : parseMethodDescriptor "([CIILjava/lang/Void;)V" = some ⟨[(.array .char), .int, .int, (.object "java/lang/Void")], none⟩ := by decide +kernel
theorem d2_0 : decode jdk_42_method_3_code 0 = .ok (.aload_n 0, 1) := by decide +kernel
theorem d2_1 : decode jdk_42_method_3_code 1 = .ok (.aload_n 1, 1) := by decide +kernel
theorem d2_2 : decode jdk_42_method_3_code 2 = .ok (.iconst 0, 1) := by decide +kernel
theorem d2_3 : decode jdk_42_method_3_code 3 = .ok (.aload_n 1, 1) := by decide +kernel
theorem d2_4 : decode jdk_42_method_3_code 4 = .ok (.arraylength, 1) := by decide +kernel
theorem d2_5 : decode jdk_42_method_3_code 5 = .ok (.aconst_null, 1) := by decide +kernel
theorem d2_6 : decode jdk_42_method_3_code 6 = .ok (.invokespecial 27, 3) := by decide +kernel
theorem d2_9 : decode jdk_42_method_3_code 9 = .ok (.return_, 1) := by decide +kernel
theorem ef_rm3C (m : MethodId) (a0 : Addr) (a1 : Addr) : entryFrame m #[(.ref a0), (.ref a1)] 2 = mkF m 0 #[.val (.ref a0), .val (.ref a1)] [] := by first | (simp [entryFrame, mkF, argsToLocals, Value.category]; done) | rfl
def Q3C (Z : State) (a0 : Addr) (a1 : Addr) (Ts : List String) (h0 : Heap) (n0 : Nat) (v : Option Value) (h : Heap) (L : List Loc) (vm : Vm) : Prop := v = none ∧ Fr n0 L ∧ Keep h0 h [a0] ∧ own_OS Z h a0 [] ∧ ∃ lt : Addr, own_OS Z h lt [] ∧ IB Z vm ("" :: Ts) ∧ Lit (Z.setVm vm) "java/lang/String" 7 lt
set_option maxRecDepth 65536 in
set_option maxHeartbeats 40000000 in
theorem rm3C (l : Launch) (Z : State) (aw : Array Value) (hw : ∀ d ∈ tables_1, d.before aw Z = true) (ws : List Jvm.Cond) (a0 : Addr) (a1 : Addr) (Ts : List String) (h0 : Heap) (n0 : Nat) (Z0 : n0 ≤ h0.size) (E_a0 : Exa Z h0 a0 "java/lang/String") (PF_value : Fld Z h0 a0 "java/lang/String" "value" "[B" .null) (PF_coder : Fld Z h0 a0 "java/lang/String" "coder" "B" (.int (0 : Int32))) (g_a0 : n0 ≤ a0) (KZ : ∀ (b : Addr) (cl : Cell), Z.heap[b]? = some cl → h0[b]? = some cl) (HC : Jvm.Lit.constHeld Z "java/lang/String" 7) (HW : Jvm.Lit.compactW.before aw Z = true) (hnt : "" ∉ Ts) (V_a1 : AF Z h0 a1 .char (0 : Int32) (fun _ => .int (0 : Int32))) :
    MetFree l (⟨"java/lang/String", "<init>", "([C)V"⟩ : MethodName) (head1 (Jvm.Cond.code (⟨"java/lang/String", "<init>", "([C)V"⟩ : MethodName) jdk_42_method_3_code 2 none :: ws) ({ frames := 2, cells := 2, slots := 4, locals := 29 } : Room)) (fun a U => a = #[(.ref a0), (.ref a1)] ∧ Z.Warmed39 U.vm ∧ U.heap = h0 ∧ own_VI Z Ts U.vm) (fun _ _ _ _ _ => True) (fun _ U o U' => ∃ v L, o = .returned v ∧ Q3C Z a0 a1 Ts h0 n0 v U'.heap L U'.vm ∧ ReturnedEndW U o U' L ({ frames := 2, cells := 2, slots := 4, locals := 29 } : Room).cells ({ frames := 2, cells := 2, slots := 4, locals := 29 } : Room).slots) := by
  refine MetFree.of_bodySF (plainFor_of_name pn_3) hisR ?_
  intro p e s m args below meth c s₁ Bd hml0 hP hK
  obtain ⟨rfl, hZ, hh, hIB⟩ := hP
  have hx := Bd.exec
  have hby := Bd.bytes
  have hml : c.maxLocals = 2 := hml0
  have hown : s.vm.findClass "java/lang/String" = some m.cls := findClass_of_methodNamed Bd.named
  have hnm := (name_of_methodNamed Bd.named Bd.method).1
  have X0 : Stand p l e ({ frames := 2, cells := 2, slots := 4, locals := 29 } : Room) s m #[(.ref a0), (.ref a1)] below meth c s₁ [] 0 0 := Stand.of_body Bd
  have e0 : s₁.heap = h0 := by rw [← hh, Bd.state]; rfl
  have N0 := Fr.nil n0
  have K0 : Keep h0 h0 [a0] := Keep.refl _ _
  refine own_by (A' := s₁.setTop (mkF m 0 #[.val (.ref a0), .val (.ref a1)] [])) (fun t k => castTop (ef_rm3C m a0 a1) k) ?_
  refine own_by (A' := s₁.setTop (mkF m 4 #[.val (.ref a0), .val (.ref a1)] [(.ref a1), (.int (0 : Int32)), (.ref a1), (.ref a0)])) (fun t kt => ?_) ?_
  · show Steps p.tables e below (s₁.setTop (mkF m 0 #[.val (.ref a0), .val (.ref a1)] [])) t
    refine XS.aloadN X0.here hx rfl (hb hby d2_0) rfl rfl ?_
    show Steps p.tables e below (s₁.setTop (mkF m 1 #[.val (.ref a0), .val (.ref a1)] [(.ref a0)])) t
    refine XS.aloadN X0.here hx rfl (hb hby d2_1) rfl rfl ?_
    show Steps p.tables e below (s₁.setTop (mkF m 2 #[.val (.ref a0), .val (.ref a1)] [(.ref a1), (.ref a0)])) t
    refine XS.iconst X0.here hx rfl (hb hby d2_2) ?_
    show Steps p.tables e below (s₁.setTop (mkF m 3 #[.val (.ref a0), .val (.ref a1)] [(.int (0 : Int32)), (.ref a1), (.ref a0)])) t
    refine XS.aloadN X0.here hx rfl (hb hby d2_3) rfl rfl ?_
    exact kt
  obtain ⟨cl1, Ar1, Sz1, Mn1, -⟩ := id V_a1
  refine own_by (A' := s₁.setTop (mkF m 6 #[.val (.ref a0), .val (.ref a1)] [.null, (.int (0 : Int32)), (.int (0 : Int32)), (.ref a1), (.ref a0)])) (fun t kt => ?_) ?_
  · show Steps p.tables e below (s₁.setTop (mkF m 4 #[.val (.ref a0), .val (.ref a1)] [(.ref a1), (.int (0 : Int32)), (.ref a1), (.ref a0)])) t
    refine X0.arraylength hx (by rw [e0]; exact Ar1.1) (State.isArrayOf_alike hZ.alike Ar1.2.1) (g := (mkF m 4 #[.val (.ref a0), .val (.ref a1)] [(.ref a1), (.int (0 : Int32)), (.ref a1), (.ref a0)])) rfl rfl (hb hby d2_4) _ ?_
    rw [len_of Sz1 Mn1]
    show Steps p.tables e below (s₁.setTop (mkF m 5 #[.val (.ref a0), .val (.ref a1)] [(.int (0 : Int32)), (.int (0 : Int32)), (.ref a1), (.ref a0)])) t
    refine XS.aconstNull X0.here hx rfl (hb hby d2_5) ?_
    exact kt
  obtain ⟨_, _, ⟨T2, L2, k2, n2⟩, -, X2, hS2, hgr2, ⟨Lc2, hQ2, l2, y2, z2⟩, st2⟩ := X0.specialBackS hx (y := (⟨"java/lang/String", "<init>", "([CIILjava/lang/Void;)V"⟩ : MethodName)) rfl hown (mvT hZ (hw _ (List.mem_of_getElem? (i := 11) rfl))) (mvT hZ (hw _ (List.mem_of_getElem? (i := 12) rfl))) (mvT hZ (hw _ (List.mem_of_getElem? (i := 14) rfl))) (by decide) (own_backOfV (W := 0) (rm149C l Z aw hw [] a0 a1 Ts h0 n0 (Nat.le_trans Z0 K0.1) E_a0 PF_value PF_coder g_a0 KZ HC HW hnt) hZ (fun vm q => own_IBw q hIB) (hw _ (List.mem_of_getElem? (i := 14) rfl)) (hw _ (List.mem_of_getElem? (i := 6) rfl)) (by decide) (by decide)) (g := (mkF m 6 #[.val (.ref a0), .val (.ref a1)] [.null, (.int (0 : Int32)), (.int (0 : Int32)), (.ref a1), (.ref a0)])) rfl (by rw [hml]; rfl) (Steps.refl _) (a := a0) (argsL := [(.ref a1), (.int (0 : Int32)), (.int (0 : Int32)), .null]) (rest := []) (lenOf pd_4 rfl) rfl (by show 2 * 0 + _ ≤ _; exact Nat.le_of_eq rfl) (hb hby d2_6) (fun _ _ => ⟨rfl, e0, (by decide : 0 + 2 ≤ _), (by decide : 0 + 4 ≤ _)⟩)
  dsimp only [Pt.U, Pt.locs, Pt.cells, Pt.slots] at hS2 hgr2
  dsimp only [Pt.U, Pt.locs, Pt.cells, Pt.slots] at X2 l2 y2 z2 st2 hQ2
  subst l2 y2 z2
  have hown : (s.setVm T2.vm).vm.findClass "java/lang/String" = some m.cls := by
    show T2.vm.findClass _ = _
    rw [hS2.1.alike.findClass]; exact hown
  have hZ : Z.Warmed39 (s.setVm T2.vm).vm := State.Warmed39.trans hZ hS2.1
  obtain ⟨rfl, N2q, Kq2, GO2, lt2, GOl2, GI2, GL2⟩ := hQ2
  have N2 := Fr.app N0 N2q
  have K2 : Keep h0 T2.heap [a0] := K0.trans Kq2 (allS (Or.inl (List.mem_of_getElem? (i := 0) rfl)) all0)
  refine own_by (A' := T2.setTop (mkF m 9 #[.val (.ref a0), .val (.ref a1)] [])) (fun t kt => st2.trans kt) ?_
  obtain ⟨fs, hr, hrun, hended, hEnd⟩ := X2.leaveW (s := s) hS2 (by exact (Nat.le_refl T2.heap.size)) (v := none) (fun _ => rfl)
  refine ⟨_, _, ?_, hrun, hended, _, _, rfl, ?_, hEnd.1, hEnd.2.1, hEnd.2.2.1, hEnd.2.2.2.mono (by decide) (by decide)⟩
  · exact X2.returnOut hx Bd.returns (hb hby d2_9) hr
  · show Q3C Z a0 a1 Ts h0 n0 _ T2.heap _ T2.vm
    exact ⟨rfl, N2, K2, GO2, lt2, GOl2, own_IBw X2.warmed GI2, own_Litw X2.warmed GL2⟩
theorem ef_rm3A (m : MethodId) (a0 : Addr) (a1 : Addr) : entryFrame m #[(.ref a0), (.ref a1)] 2 = mkF m 0 #[.val (.ref a0), .val (.ref a1)] [] := by first | (simp [entryFrame, mkF, argsToLocals, Value.category]; done) | rfl
def Q3A (Z : State) (a0 : Addr) (a1 : Addr) (lt0 : Addr) (h0 : Heap) (n0 : Nat) (v : Option Value) (h : Heap) (L : List Loc) (vm : Vm) : Prop := v = none ∧ Fr n0 L ∧ Keep h0 h [a0] ∧ own_OS Z h a0 []
set_option maxRecDepth 65536 in
set_option maxHeartbeats 40000000 in
theorem rm3A (l : Launch) (Z : State) (aw : Array Value) (hw : ∀ d ∈ tables_1, d.before aw Z = true) (ws : List Jvm.Cond) (a0 : Addr) (a1 : Addr) (lt0 : Addr) (h0 : Heap) (n0 : Nat) (Z0 : n0 ≤ h0.size) (E_a0 : Exa Z h0 a0 "java/lang/String") (PF_value : Fld Z h0 a0 "java/lang/String" "value" "[B" .null) (PF_coder : Fld Z h0 a0 "java/lang/String" "coder" "B" (.int (0 : Int32))) (g_a0 : n0 ≤ a0) (O_lt : own_OS Z h0 lt0 []) (V_a1 : AF Z h0 a1 .char (0 : Int32) (fun _ => .int (0 : Int32))) :
    MetFree l (⟨"java/lang/String", "<init>", "([C)V"⟩ : MethodName) (head1 (Jvm.Cond.code (⟨"java/lang/String", "<init>", "([C)V"⟩ : MethodName) jdk_42_method_3_code 2 none :: ws) ({ frames := 2, cells := 0, slots := 0, locals := 29 } : Room)) (fun a U => a = #[(.ref a0), (.ref a1)] ∧ Z.Warmed39 U.vm ∧ U.heap = h0 ∧ own_VL Z lt0 U.vm) (fun _ _ _ _ _ => True) (fun _ U o U' => ∃ v L, o = .returned v ∧ Q3A Z a0 a1 lt0 h0 n0 v U'.heap L U'.vm ∧ ReturnedEndW U o U' L ({ frames := 2, cells := 0, slots := 0, locals := 29 } : Room).cells ({ frames := 2, cells := 0, slots := 0, locals := 29 } : Room).slots) := by
  refine MetFree.of_bodySF (plainFor_of_name pn_3) hisR ?_
  intro p e s m args below meth c s₁ Bd hml0 hP hK
  obtain ⟨rfl, hZ, hh, Li_lt0⟩ := hP
  have hx := Bd.exec
  have hby := Bd.bytes
  have hml : c.maxLocals = 2 := hml0
  have hown : s.vm.findClass "java/lang/String" = some m.cls := findClass_of_methodNamed Bd.named
  have hnm := (name_of_methodNamed Bd.named Bd.method).1
  have X0 : Stand p l e ({ frames := 2, cells := 0, slots := 0, locals := 29 } : Room) s m #[(.ref a0), (.ref a1)] below meth c s₁ [] 0 0 := Stand.of_body Bd
  have e0 : s₁.heap = h0 := by rw [← hh, Bd.state]; rfl
  have N0 := Fr.nil n0
  have K0 : Keep h0 h0 [a0] := Keep.refl _ _
  refine own_by (A' := s₁.setTop (mkF m 0 #[.val (.ref a0), .val (.ref a1)] [])) (fun t k => castTop (ef_rm3A m a0 a1) k) ?_
  refine own_by (A' := s₁.setTop (mkF m 4 #[.val (.ref a0), .val (.ref a1)] [(.ref a1), (.int (0 : Int32)), (.ref a1), (.ref a0)])) (fun t kt => ?_) ?_
  · show Steps p.tables e below (s₁.setTop (mkF m 0 #[.val (.ref a0), .val (.ref a1)] [])) t
    refine XS.aloadN X0.here hx rfl (hb hby d2_0) rfl rfl ?_
    show Steps p.tables e below (s₁.setTop (mkF m 1 #[.val (.ref a0), .val (.ref a1)] [(.ref a0)])) t
    refine XS.aloadN X0.here hx rfl (hb hby d2_1) rfl rfl ?_
    show Steps p.tables e below (s₁.setTop (mkF m 2 #[.val (.ref a0), .val (.ref a1)] [(.ref a1), (.ref a0)])) t
    refine XS.iconst X0.here hx rfl (hb hby d2_2) ?_
    show Steps p.tables e below (s₁.setTop (mkF m 3 #[.val (.ref a0), .val (.ref a1)] [(.int (0 : Int32)), (.ref a1), (.ref a0)])) t
    refine XS.aloadN X0.here hx rfl (hb hby d2_3) rfl rfl ?_
    exact kt
  obtain ⟨cl1, Ar1, Sz1, Mn1, -⟩ := id V_a1
  refine own_by (A' := s₁.setTop (mkF m 6 #[.val (.ref a0), .val (.ref a1)] [.null, (.int (0 : Int32)), (.int (0 : Int32)), (.ref a1), (.ref a0)])) (fun t kt => ?_) ?_
  · show Steps p.tables e below (s₁.setTop (mkF m 4 #[.val (.ref a0), .val (.ref a1)] [(.ref a1), (.int (0 : Int32)), (.ref a1), (.ref a0)])) t
    refine X0.arraylength hx (by rw [e0]; exact Ar1.1) (State.isArrayOf_alike hZ.alike Ar1.2.1) (g := (mkF m 4 #[.val (.ref a0), .val (.ref a1)] [(.ref a1), (.int (0 : Int32)), (.ref a1), (.ref a0)])) rfl rfl (hb hby d2_4) _ ?_
    rw [len_of Sz1 Mn1]
    show Steps p.tables e below (s₁.setTop (mkF m 5 #[.val (.ref a0), .val (.ref a1)] [(.int (0 : Int32)), (.int (0 : Int32)), (.ref a1), (.ref a0)])) t
    refine XS.aconstNull X0.here hx rfl (hb hby d2_5) ?_
    exact kt
  obtain ⟨_, _, ⟨T2, L2, k2, n2⟩, -, X2, hS2, hgr2, ⟨Lc2, hQ2, l2, y2, z2⟩, st2⟩ := X0.specialBackS hx (y := (⟨"java/lang/String", "<init>", "([CIILjava/lang/Void;)V"⟩ : MethodName)) rfl hown (mvT hZ (hw _ (List.mem_of_getElem? (i := 11) rfl))) (mvT hZ (hw _ (List.mem_of_getElem? (i := 12) rfl))) (mvT hZ (hw _ (List.mem_of_getElem? (i := 14) rfl))) (by decide) (own_backOfV (W := 0) (rm149A l Z aw hw [] a0 a1 lt0 h0 n0 (Nat.le_trans Z0 K0.1) E_a0 PF_value PF_coder g_a0 O_lt) hZ (fun vm q => own_Litw q Li_lt0) (hw _ (List.mem_of_getElem? (i := 14) rfl)) (hw _ (List.mem_of_getElem? (i := 6) rfl)) (by decide) (by decide)) (g := (mkF m 6 #[.val (.ref a0), .val (.ref a1)] [.null, (.int (0 : Int32)), (.int (0 : Int32)), (.ref a1), (.ref a0)])) rfl (by rw [hml]; rfl) (Steps.refl _) (a := a0) (argsL := [(.ref a1), (.int (0 : Int32)), (.int (0 : Int32)), .null]) (rest := []) (lenOf pd_4 rfl) rfl (by show 2 * 0 + _ ≤ _; exact Nat.le_of_eq rfl) (hb hby d2_6) (fun _ _ => ⟨rfl, e0, (by decide : 0 + 0 ≤ _), (by decide : 0 + 0 ≤ _)⟩)
  dsimp only [Pt.U, Pt.locs, Pt.cells, Pt.slots] at hS2 hgr2
  dsimp only [Pt.U, Pt.locs, Pt.cells, Pt.slots] at X2 l2 y2 z2 st2 hQ2
  subst l2 y2 z2
  have hown : (s.setVm T2.vm).vm.findClass "java/lang/String" = some m.cls := by
    show T2.vm.findClass _ = _
    rw [hS2.1.alike.findClass]; exact hown
  have hZ : Z.Warmed39 (s.setVm T2.vm).vm := State.Warmed39.trans hZ hS2.1
  obtain ⟨rfl, N2q, Kq2, GO2⟩ := hQ2
  have N2 := Fr.app N0 N2q
  have K2 : Keep h0 T2.heap [a0] := K0.trans Kq2 (allS (Or.inl (List.mem_of_getElem? (i := 0) rfl)) all0)
  refine own_by (A' := T2.setTop (mkF m 9 #[.val (.ref a0), .val (.ref a1)] [])) (fun t kt => st2.trans kt) ?_
  obtain ⟨fs, hr, hrun, hended, hEnd⟩ := X2.leaveW (s := s) hS2 (by exact (Nat.le_refl T2.heap.size)) (v := none) (fun _ => rfl)
  refine ⟨_, _, ?_, hrun, hended, _, _, rfl, ?_, hEnd.1, hEnd.2.1, hEnd.2.2.1, hEnd.2.2.2.mono (by decide) (by decide)⟩
  · exact X2.returnOut hx Bd.returns (hb hby d2_9) hr
  · show Q3A Z a0 a1 lt0 h0 n0 _ T2.heap _ T2.vm
    exact ⟨rfl, N2, K2, GO2⟩
theorem pd_5 : parseMethodDescriptor "([C)V" = some ⟨[(.array .char)], none⟩ := by decide +kernel
theorem d1_0 : decode method_2_code 0 = .ok (.iload_n 0, 1) := by decide +kernel
theorem d1_1 : decode method_2_code 1 = .ok (.ifCond .ne 14, 3) := by decide +kernel
theorem d1_15 : decode method_2_code 15 = .ok (.iload_n 0, 1) := by decide +kernel
theorem d1_16 : decode method_2_code 16 = .ok (.iconst 1, 1) := by decide +kernel
theorem d1_17 : decode method_2_code 17 = .ok (.if_icmp .ne 18, 3) := by decide +kernel
theorem d1_20 : decode method_2_code 20 = .ok (.new 7, 3) := by decide +kernel
theorem d1_23 : decode method_2_code 23 = .ok (.dup, 1) := by decide +kernel
theorem d1_24 : decode method_2_code 24 = .ok (.iconst 1, 1) := by decide +kernel
theorem d1_25 : decode method_2_code 25 = .ok (.newarray .char, 2) := by decide +kernel
theorem d1_27 : decode method_2_code 27 = .ok (.dup, 1) := by decide +kernel
theorem d1_28 : decode method_2_code 28 = .ok (.iconst 0, 1) := by decide +kernel
theorem d1_29 : decode method_2_code 29 = .ok (.iload_n 1, 1) := by decide +kernel
theorem d1_30 : decode method_2_code 30 = .ok (.castore, 1) := by decide +kernel
theorem d1_31 : decode method_2_code 31 = .ok (.invokespecial 9, 3) := by decide +kernel
theorem d1_34 : decode method_2_code 34 = .ok (.areturn, 1) := by decide +kernel
theorem d1_35 : decode method_2_code 35 = .ok (.iload_n 0, 1) := by decide +kernel
theorem d1_36 : decode method_2_code 36 = .ok (.iconst 2, 1) := by decide +kernel
theorem d1_37 : decode method_2_code 37 = .ok (.if_icmp .ne 22, 3) := by decide +kernel
theorem d1_40 : decode method_2_code 40 = .ok (.new 7, 3) := by decide +kernel
theorem d1_43 : decode method_2_code 43 = .ok (.dup, 1) := by decide +kernel
theorem d1_44 : decode method_2_code 44 = .ok (.iconst 2, 1) := by decide +kernel
theorem d1_45 : decode method_2_code 45 = .ok (.newarray .char, 2) := by decide +kernel
theorem d1_47 : decode method_2_code 47 = .ok (.dup, 1) := by decide +kernel
theorem d1_48 : decode method_2_code 48 = .ok (.iconst 0, 1) := by decide +kernel
theorem d1_49 : decode method_2_code 49 = .ok (.iload_n 1, 1) := by decide +kernel
theorem d1_50 : decode method_2_code 50 = .ok (.castore, 1) := by decide +kernel
theorem d1_51 : decode method_2_code 51 = .ok (.dup, 1) := by decide +kernel
theorem d1_52 : decode method_2_code 52 = .ok (.iconst 1, 1) := by decide +kernel
theorem d1_53 : decode method_2_code 53 = .ok (.iload_n 2, 1) := by decide +kernel
theorem d1_54 : decode method_2_code 54 = .ok (.castore, 1) := by decide +kernel
theorem d1_55 : decode method_2_code 55 = .ok (.invokespecial 9, 3) := by decide +kernel
theorem d1_58 : decode method_2_code 58 = .ok (.areturn, 1) := by decide +kernel
theorem d1_59 : decode method_2_code 59 = .ok (.new 7, 3) := by decide +kernel
theorem d1_62 : decode method_2_code 62 = .ok (.dup, 1) := by decide +kernel
theorem d1_63 : decode method_2_code 63 = .ok (.iconst 3, 1) := by decide +kernel
theorem d1_64 : decode method_2_code 64 = .ok (.newarray .char, 2) := by decide +kernel
theorem d1_66 : decode method_2_code 66 = .ok (.dup, 1) := by decide +kernel
theorem d1_67 : decode method_2_code 67 = .ok (.iconst 0, 1) := by decide +kernel
theorem d1_68 : decode method_2_code 68 = .ok (.iload_n 1, 1) := by decide +kernel
theorem d1_69 : decode method_2_code 69 = .ok (.castore, 1) := by decide +kernel
theorem d1_70 : decode method_2_code 70 = .ok (.dup, 1) := by decide +kernel
theorem d1_71 : decode method_2_code 71 = .ok (.iconst 1, 1) := by decide +kernel
theorem d1_72 : decode method_2_code 72 = .ok (.iload_n 2, 1) := by decide +kernel
theorem d1_73 : decode method_2_code 73 = .ok (.castore, 1) := by decide +kernel
theorem d1_74 : decode method_2_code 74 = .ok (.dup, 1) := by decide +kernel
theorem d1_75 : decode method_2_code 75 = .ok (.iconst 2, 1) := by decide +kernel
theorem d1_76 : decode method_2_code 76 = .ok (.iload_n 3, 1) := by decide +kernel
theorem d1_77 : decode method_2_code 77 = .ok (.castore, 1) := by decide +kernel
theorem d1_78 : decode method_2_code 78 = .ok (.invokespecial 9, 3) := by decide +kernel
theorem d1_81 : decode method_2_code 81 = .ok (.areturn, 1) := by decide +kernel
theorem ef_rmmkN (m : MethodId) (p0 : Int32) (p1 : Int32) (p2 : Int32) (p3 : Int32) : entryFrame m #[(.int p0), (.int p1), (.int p2), (.int p3)] 4 = mkF m 0 #[.val (.int p0), .val (.int p1), .val (.int p2), .val (.int p3)] [] := by first | (simp [entryFrame, mkF, argsToLocals, Value.category]; done) | rfl
def QmkN (Z : State) (p0 : Int32) (p1 : Int32) (p2 : Int32) (p3 : Int32) (G1 : Int32) (h0 : Heap) (n0 : Nat) (v : Option Value) (h : Heap) (L : List Loc) : Prop := ∃ b : Addr, v = some (.ref b) ∧ Fr n0 L ∧ Keep h0 h [] ∧ own_OS Z h b (own_cs p0 p1 p2 p3)
set_option maxRecDepth 65536 in
set_option maxHeartbeats 40000000 in
theorem rmmkN (l : Launch) (Z : State) (aw : Array Value) (hw : ∀ d ∈ tables_1, d.before aw Z = true) (ws : List Jvm.Cond) (p0 : Int32) (p1 : Int32) (p2 : Int32) (p3 : Int32) (G1 : Int32) (h0 : Heap) (n0 : Nat) (Z0 : n0 ≤ h0.size) (hl : ¬ p0 = (0 : Int32)) (hp1 : 0 ≤ p1.toInt ∧ p1.toInt ≤ 255) (hp2 : 0 ≤ p2.toInt ∧ p2.toInt ≤ 255) (hp3 : 0 ≤ p3.toInt ∧ p3.toInt ≤ 255) (S_cs : Sta Z h0 "java/lang/String" "COMPACT_STRINGS" "Z" (.int G1)) (P5 : ¬ (G1 = (0 : Int32))) :
    MetFree l (⟨"com/example/corollary/corollary/model/NamedClassEqualsPinLaw", "mk", "(ICCC)Ljava/lang/String;"⟩ : MethodName) (head1 (Jvm.Cond.code (⟨"com/example/corollary/corollary/model/NamedClassEqualsPinLaw", "mk", "(ICCC)Ljava/lang/String;"⟩ : MethodName) method_2_code 4 (some (.object "java/lang/String")) :: ws) ({ frames := 4, cells := 3, slots := 10, locals := 66 } : Room)) (fun a U => a = #[(.int p0), (.int p1), (.int p2), (.int p3)] ∧ Z.Warmed39 U.vm ∧ U.heap = h0) (fun _ _ _ _ _ => True) (fun _ U o U' => ∃ v L, o = .returned v ∧ QmkN Z p0 p1 p2 p3 G1 h0 n0 v U'.heap L ∧ FrameEnd U o U' L ({ frames := 4, cells := 3, slots := 10, locals := 66 } : Room).cells ({ frames := 4, cells := 3, slots := 10, locals := 66 } : Room).slots) := by
  refine MetFree.of_bodySF (plainFor_of_name pn_2) hisR ?_
  intro p e s m args below meth c s₁ Bd hml0 hP hK
  obtain ⟨rfl, hZ, hh⟩ := hP
  have hx := Bd.exec
  have hby := Bd.bytes
  have hml : c.maxLocals = 4 := hml0
  have hown : s.vm.findClass "com/example/corollary/corollary/model/NamedClassEqualsPinLaw" = some m.cls := findClass_of_methodNamed Bd.named
  have hnm := (name_of_methodNamed Bd.named Bd.method).1
  have X0 : Stand p l e ({ frames := 4, cells := 3, slots := 10, locals := 66 } : Room) s m #[(.int p0), (.int p1), (.int p2), (.int p3)] below meth c s₁ [] 0 0 := Stand.of_body Bd
  have e0 : s₁.heap = h0 := by rw [← hh, Bd.state]; rfl
  have N0 := Fr.nil n0
  have K0 : Keep h0 h0 [] := Keep.refl _ _
  refine own_by (A' := s₁.setTop (mkF m 0 #[.val (.int p0), .val (.int p1), .val (.int p2), .val (.int p3)] [])) (fun t k => castTop (ef_rmmkN m p0 p1 p2 p3) k) ?_
  refine own_by (A' := s₁.setTop (mkF m 1 #[.val (.int p0), .val (.int p1), .val (.int p2), .val (.int p3)] [(.int p0)])) (fun t kt => ?_) ?_
  · show Steps p.tables e below (s₁.setTop (mkF m 0 #[.val (.int p0), .val (.int p1), .val (.int p2), .val (.int p3)] [])) t
    refine XS.iloadN X0.here hx rfl (hb hby d1_0) rfl ?_
    exact kt
  have hc1_1 : ¬ (p0 = (0 : Int32)) := hl
  refine own_by (A' := s₁.setTop (mkF m 17 #[.val (.int p0), .val (.int p1), .val (.int p2), .val (.int p3)] [(.int (1 : Int32)), (.int p0)])) (fun t kt => ?_) ?_
  · show Steps p.tables e below (s₁.setTop (mkF m 1 #[.val (.int p0), .val (.int p1), .val (.int p2), .val (.int p3)] [(.int p0)])) t
    refine XS.ifYes X0.here hx rfl (pc0 := 1) (pc' := 15) rfl (hb hby d1_1) rfl ((if0 _ _).trans (feq hc1_1).2) (by decide) (by decide) ?_
    show Steps p.tables e below (s₁.setTop (mkF m 15 #[.val (.int p0), .val (.int p1), .val (.int p2), .val (.int p3)] [])) t
    refine XS.iloadN X0.here hx rfl (hb hby d1_15) rfl ?_
    show Steps p.tables e below (s₁.setTop (mkF m 16 #[.val (.int p0), .val (.int p1), .val (.int p2), .val (.int p3)] [(.int p0)])) t
    refine XS.iconst X0.here hx rfl (hb hby d1_16) ?_
    exact kt
  by_cases hc17_2 : p0 = (1 : Int32)
  · refine own_by (A' := s₁.setTop (mkF m 20 #[.val (.int p0), .val (.int p1), .val (.int p2), .val (.int p3)] [])) (fun t kt => ?_) ?_
    · show Steps p.tables e below (s₁.setTop (mkF m 17 #[.val (.int p0), .val (.int p1), .val (.int p2), .val (.int p3)] [(.int (1 : Int32)), (.int p0)])) t
      refine XS.icmpNo X0.here hx rfl (hb hby d1_17) rfl (teq hc17_2).2 ?_
      exact kt
    obtain ⟨T3, h3, X3, e3, E3, A3, D3, -, st3⟩ := newO X0 hx hZ hown (hw _ (List.mem_of_getElem? (i := 4) rfl)) (hw _ (List.mem_of_getElem? (i := 5) rfl)) (hw _ (List.mem_of_getElem? (i := 6) rfl)) e0 (g := (mkF m 20 #[.val (.int p0), .val (.int p1), .val (.int p2), .val (.int p3)] [])) rfl (hb hby d1_20) (by decide) (by decide)
    obtain ⟨b3, g3⟩ : ∃ z, z = h0.size := ⟨_, rfl⟩
    rw [← g3] at A3 D3 st3
    have sz_b3 : h0.size ≤ b3 := Nat.le_trans K0.1 (Nat.le_of_eq g3.symm)
    have g_b3 : n0 ≤ b3 := Nat.le_trans Z0 sz_b3
    have K3 : Keep h0 h3 [] := K0.ext E3
    have F_value_b3 : Fld Z h3 b3 "java/lang/String" "value" "[B" .null := D3 (Or.inr (hw _ (List.mem_of_getElem? (i := 20) rfl))) (ty := (.array .byte)) (by decide)
    have F_coder_b3 : Fld Z h3 b3 "java/lang/String" "coder" "B" (.int (0 : Int32)) := D3 (Or.inr (hw _ (List.mem_of_getElem? (i := 21) rfl))) (ty := .byte) (by decide)
    refine own_by (A' := T3.setTop (mkF m 23 #[.val (.int p0), .val (.int p1), .val (.int p2), .val (.int p3)] [(.ref b3)])) (fun t kt => st3 t kt) ?_
    refine own_by (A' := T3.setTop (mkF m 25 #[.val (.int p0), .val (.int p1), .val (.int p2), .val (.int p3)] [(.int (1 : Int32)), (.ref b3), (.ref b3)])) (fun t kt => ?_) ?_
    · show Steps p.tables e below (T3.setTop (mkF m 23 #[.val (.int p0), .val (.int p1), .val (.int p2), .val (.int p3)] [(.ref b3)])) t
      refine XS.dup X3.here hx rfl (hb hby d1_23) rfl rfl ?_
      show Steps p.tables e below (T3.setTop (mkF m 24 #[.val (.int p0), .val (.int p1), .val (.int p2), .val (.int p3)] [(.ref b3), (.ref b3)])) t
      refine XS.iconst X3.here hx rfl (hb hby d1_24) ?_
      exact kt
    obtain ⟨T4, h4, k4, X4, e4, E4, A4, st4⟩ := newP X3 hx hZ (hw _ (List.mem_of_getElem? (i := 7) rfl)) e3 (g := (mkF m 25 #[.val (.int p0), .val (.int p1), .val (.int p2), .val (.int p3)] [(.int (1 : Int32)), (.ref b3), (.ref b3)])) rfl (hb hby d1_25) rfl (by decide) (cap := 1) (by decide) (by decide) (by decide) (by decide)
    obtain ⟨b4, g4⟩ : ∃ z, z = h3.size := ⟨_, rfl⟩
    rw [← g4] at A4 st4
    have sz_b4 : h0.size ≤ b4 := Nat.le_trans K3.1 (Nat.le_of_eq g4.symm)
    have g_b4 : n0 ≤ b4 := Nat.le_trans Z0 sz_b4
    have K4 : Keep h0 h4 [] := K3.ext E4
    have V4 : AF Z h4 b4 .char (1 : Int32) (fun _ => .int (0 : Int32)) := AF.new A4 (by decide)
    refine own_by (A' := T4.setTop (mkF m 27 #[.val (.int p0), .val (.int p1), .val (.int p2), .val (.int p3)] [(.ref b4), (.ref b3), (.ref b3)])) (fun t kt => st4 t kt) ?_
    refine own_by (A' := T4.setTop (mkF m 30 #[.val (.int p0), .val (.int p1), .val (.int p2), .val (.int p3)] [(.int p1), (.int (0 : Int32)), (.ref b4), (.ref b4), (.ref b3), (.ref b3)])) (fun t kt => ?_) ?_
    · show Steps p.tables e below (T4.setTop (mkF m 27 #[.val (.int p0), .val (.int p1), .val (.int p2), .val (.int p3)] [(.ref b4), (.ref b3), (.ref b3)])) t
      refine XS.dup X4.here hx rfl (hb hby d1_27) rfl rfl ?_
      show Steps p.tables e below (T4.setTop (mkF m 28 #[.val (.int p0), .val (.int p1), .val (.int p2), .val (.int p3)] [(.ref b4), (.ref b4), (.ref b3), (.ref b3)])) t
      refine XS.iconst X4.here hx rfl (hb hby d1_28) ?_
      show Steps p.tables e below (T4.setTop (mkF m 29 #[.val (.int p0), .val (.int p1), .val (.int p2), .val (.int p3)] [(.int (0 : Int32)), (.ref b4), (.ref b4), (.ref b3), (.ref b3)])) t
      refine XS.iloadN X4.here hx rfl (hb hby d1_29) rfl ?_
      exact kt
    obtain ⟨cl5, Ar5, Sz5, Mn5, Ha5⟩ := id V4
    have hin5 := inb_of (j := (0 : Int32)) Sz5 ⟨by decide, by decide⟩
    obtain ⟨T5, h5, X5, e5, W5, st5⟩ := stC X4 hx hZ e4 Ar5 (j := (0 : Int32)) hin5 (g := (mkF m 30 #[.val (.int p0), .val (.int p1), .val (.int p2), .val (.int p3)] [(.int p1), (.int (0 : Int32)), (.ref b4), (.ref b4), (.ref b3), (.ref b3)])) rfl rfl (hb hby d1_30)
    have V5 : AF Z h5 b4 .char (1 : Int32) (fun i => if i = ((0 : Int32)).toNatClampNeg then (.int (nar .char p1)) else .int (0 : Int32)) := AF.set Ar5 Sz5 Mn5 Ha5 hin5 W5
    have N5 := Fr.snoc X5 N0 g_b4
    have K5 : Keep h0 h5 [] := K4.wr W5 (Or.inr sz_b4)
    refine own_by (A' := T5.setTop (mkF m 31 #[.val (.int p0), .val (.int p1), .val (.int p2), .val (.int p3)] [(.ref b4), (.ref b3), (.ref b3)])) (fun t kt => st5 t kt) ?_
    have hws : ∀ d ∈ StrChars.Road.words, d.before aw Z = true := fun d hd => hw d ((by decide +kernel : ∀ d ∈ StrChars.Road.words, d ∈ tables_1) d hd)
    have hlat : ∀ c ∈ ([p1] : List Int32), ¬ c < 0 ∧ ¬ (255 : Int32) < c := by
      intro c hc
      simp only [List.mem_cons, List.not_mem_nil, or_false] at hc
      rcases hc with rfl
      · exact own_one hp1
    obtain ⟨kC, VC⟩ := own_arvC (cs := ([p1] : List Int32)) V5 rfl (fun i hi => by
      have hi' : i < 1 := hi
      match i, hi' with
      | 0, _ => show Value.int (nar .char p1) = _; rw [own_nar hp1]; rfl) hlat
    obtain ⟨_, _, ⟨T6, L6, k6, n6⟩, -, X6, ⟨Lc6, hQ6, l6, y6, z6⟩, st6⟩ := X5.specialBack hx (y := (⟨"java/lang/String", "<init>", "([C)V"⟩ : MethodName)) rfl hown (mvT hZ (hw _ (List.mem_of_getElem? (i := 8) rfl))) (mvT hZ (hw _ (List.mem_of_getElem? (i := 9) rfl))) (mvT hZ (hw _ (List.mem_of_getElem? (i := 10) rfl))) (by decide) (StrChars.Road.backV (W := 1) hZ hws (kI := 4) (hw _ (List.mem_of_getElem? (i := 5) rfl)) (cs := ([p1] : List Int32)) (bs := (([p1] : List Int32).map (fun c => c.toInt8.toInt32))) (n := 1) g_b3 (Nat.le_trans Z0 K5.1) ((A3.ext E4).wr W5) ((F_value_b3.ext E4).other W5 (Or.inl (Nat.ne_of_lt (Nat.lt_of_lt_of_le (A3).lt (Nat.le_of_eq g4.symm))))) ((F_coder_b3.ext E4).other W5 (Or.inl (Nat.ne_of_lt (Nat.lt_of_lt_of_le (A3).lt (Nat.le_of_eq g4.symm))))) VC (Sta.wr W5 (Sta.ext E4 (Sta.ext E3 S_cs))) P5 rfl rfl (by decide) (by decide) hlat rfl (by decide) (by decide)) (g := (mkF m 31 #[.val (.int p0), .val (.int p1), .val (.int p2), .val (.int p3)] [(.ref b4), (.ref b3), (.ref b3)])) rfl (by rw [hml]; rfl) (Steps.refl _) (a := b3) (argsL := [(.ref b4)]) (rest := [(.ref b3)]) (lenOf pd_5 rfl) rfl (by show 2 * 0 + _ ≤ _; exact Nat.le_of_eq rfl) (hb hby d1_31) (fun _ _ => ⟨rfl, e5, (by decide : 2 + 1 ≤ _), (by decide : 5 + 1 ≤ _)⟩)
    dsimp only [Pt.U, Pt.locs, Pt.cells, Pt.slots] at X6 l6 y6 z6 st6 hQ6
    subst l6 y6 z6
    obtain ⟨rfl, N6q, Kq6, GE6, GC6, tb6, kb6, _, _, _, GV6, VT6⟩ := hQ6
    have N6 := Fr.app N5 N6q
    have K6 : Keep h0 T6.heap [] := K5.trans Kq6 (allS (Or.inr sz_b3) all0)
    have GO6 : own_OS Z T6.heap b3 ([p1] : List Int32) := ⟨tb6, kb6, GE6, GV6, GC6, VT6⟩
    refine own_by (A' := T6.setTop (mkF m 34 #[.val (.int p0), .val (.int p1), .val (.int p2), .val (.int p3)] [(.ref b3)])) (fun t kt => st6.trans kt) ?_
    obtain ⟨fs, hr, hrun, hended, hW, hsame⟩ := X6.leave (v := some (.ref b3)) (fun h => by rw [Bd.returns] at h; cases h)
    refine ⟨_, _, ?_, hrun, hended, _, _, rfl, ?_, ⟨_, rfl⟩, hW, hsame.mono (by decide) (by decide)⟩
    · exact own_retA X6 hx Bd.returns rfl (hb hby d1_34) hr
    · show QmkN Z p0 p1 p2 p3 G1 h0 n0 _ T6.heap _
      exact ⟨_, rfl, N6, K6, (by rw [own_cs, if_neg hl, if_pos hc17_2]; exact GO6)⟩
  · refine own_by (A' := s₁.setTop (mkF m 37 #[.val (.int p0), .val (.int p1), .val (.int p2), .val (.int p3)] [(.int (2 : Int32)), (.int p0)])) (fun t kt => ?_) ?_
    · show Steps p.tables e below (s₁.setTop (mkF m 17 #[.val (.int p0), .val (.int p1), .val (.int p2), .val (.int p3)] [(.int (1 : Int32)), (.int p0)])) t
      refine XS.icmpYes X0.here hx rfl (pc0 := 17) (pc' := 35) rfl (hb hby d1_17) rfl (feq hc17_2).2 (by decide) (by decide) ?_
      show Steps p.tables e below (s₁.setTop (mkF m 35 #[.val (.int p0), .val (.int p1), .val (.int p2), .val (.int p3)] [])) t
      refine XS.iloadN X0.here hx rfl (hb hby d1_35) rfl ?_
      show Steps p.tables e below (s₁.setTop (mkF m 36 #[.val (.int p0), .val (.int p1), .val (.int p2), .val (.int p3)] [(.int p0)])) t
      refine XS.iconst X0.here hx rfl (hb hby d1_36) ?_
      exact kt
    by_cases hc37_7 : p0 = (2 : Int32)
    · refine own_by (A' := s₁.setTop (mkF m 40 #[.val (.int p0), .val (.int p1), .val (.int p2), .val (.int p3)] [])) (fun t kt => ?_) ?_
      · show Steps p.tables e below (s₁.setTop (mkF m 37 #[.val (.int p0), .val (.int p1), .val (.int p2), .val (.int p3)] [(.int (2 : Int32)), (.int p0)])) t
        refine XS.icmpNo X0.here hx rfl (hb hby d1_37) rfl (teq hc37_7).2 ?_
        exact kt
      obtain ⟨T8, h8, X8, e8, E8, A8, D8, -, st8⟩ := newO X0 hx hZ hown (hw _ (List.mem_of_getElem? (i := 4) rfl)) (hw _ (List.mem_of_getElem? (i := 5) rfl)) (hw _ (List.mem_of_getElem? (i := 6) rfl)) e0 (g := (mkF m 40 #[.val (.int p0), .val (.int p1), .val (.int p2), .val (.int p3)] [])) rfl (hb hby d1_40) (by decide) (by decide)
      obtain ⟨b8, g8⟩ : ∃ z, z = h0.size := ⟨_, rfl⟩
      rw [← g8] at A8 D8 st8
      have sz_b8 : h0.size ≤ b8 := Nat.le_trans K0.1 (Nat.le_of_eq g8.symm)
      have g_b8 : n0 ≤ b8 := Nat.le_trans Z0 sz_b8
      have K8 : Keep h0 h8 [] := K0.ext E8
      have F_value_b8 : Fld Z h8 b8 "java/lang/String" "value" "[B" .null := D8 (Or.inr (hw _ (List.mem_of_getElem? (i := 20) rfl))) (ty := (.array .byte)) (by decide)
      have F_coder_b8 : Fld Z h8 b8 "java/lang/String" "coder" "B" (.int (0 : Int32)) := D8 (Or.inr (hw _ (List.mem_of_getElem? (i := 21) rfl))) (ty := .byte) (by decide)
      refine own_by (A' := T8.setTop (mkF m 43 #[.val (.int p0), .val (.int p1), .val (.int p2), .val (.int p3)] [(.ref b8)])) (fun t kt => st8 t kt) ?_
      refine own_by (A' := T8.setTop (mkF m 45 #[.val (.int p0), .val (.int p1), .val (.int p2), .val (.int p3)] [(.int (2 : Int32)), (.ref b8), (.ref b8)])) (fun t kt => ?_) ?_
      · show Steps p.tables e below (T8.setTop (mkF m 43 #[.val (.int p0), .val (.int p1), .val (.int p2), .val (.int p3)] [(.ref b8)])) t
        refine XS.dup X8.here hx rfl (hb hby d1_43) rfl rfl ?_
        show Steps p.tables e below (T8.setTop (mkF m 44 #[.val (.int p0), .val (.int p1), .val (.int p2), .val (.int p3)] [(.ref b8), (.ref b8)])) t
        refine XS.iconst X8.here hx rfl (hb hby d1_44) ?_
        exact kt
      obtain ⟨T9, h9, k9, X9, e9, E9, A9, st9⟩ := newP X8 hx hZ (hw _ (List.mem_of_getElem? (i := 7) rfl)) e8 (g := (mkF m 45 #[.val (.int p0), .val (.int p1), .val (.int p2), .val (.int p3)] [(.int (2 : Int32)), (.ref b8), (.ref b8)])) rfl (hb hby d1_45) rfl (by decide) (cap := 2) (by decide) (by decide) (by decide) (by decide)
      obtain ⟨b9, g9⟩ : ∃ z, z = h8.size := ⟨_, rfl⟩
      rw [← g9] at A9 st9
      have sz_b9 : h0.size ≤ b9 := Nat.le_trans K8.1 (Nat.le_of_eq g9.symm)
      have g_b9 : n0 ≤ b9 := Nat.le_trans Z0 sz_b9
      have K9 : Keep h0 h9 [] := K8.ext E9
      have V9 : AF Z h9 b9 .char (2 : Int32) (fun _ => .int (0 : Int32)) := AF.new A9 (by decide)
      refine own_by (A' := T9.setTop (mkF m 47 #[.val (.int p0), .val (.int p1), .val (.int p2), .val (.int p3)] [(.ref b9), (.ref b8), (.ref b8)])) (fun t kt => st9 t kt) ?_
      refine own_by (A' := T9.setTop (mkF m 50 #[.val (.int p0), .val (.int p1), .val (.int p2), .val (.int p3)] [(.int p1), (.int (0 : Int32)), (.ref b9), (.ref b9), (.ref b8), (.ref b8)])) (fun t kt => ?_) ?_
      · show Steps p.tables e below (T9.setTop (mkF m 47 #[.val (.int p0), .val (.int p1), .val (.int p2), .val (.int p3)] [(.ref b9), (.ref b8), (.ref b8)])) t
        refine XS.dup X9.here hx rfl (hb hby d1_47) rfl rfl ?_
        show Steps p.tables e below (T9.setTop (mkF m 48 #[.val (.int p0), .val (.int p1), .val (.int p2), .val (.int p3)] [(.ref b9), (.ref b9), (.ref b8), (.ref b8)])) t
        refine XS.iconst X9.here hx rfl (hb hby d1_48) ?_
        show Steps p.tables e below (T9.setTop (mkF m 49 #[.val (.int p0), .val (.int p1), .val (.int p2), .val (.int p3)] [(.int (0 : Int32)), (.ref b9), (.ref b9), (.ref b8), (.ref b8)])) t
        refine XS.iloadN X9.here hx rfl (hb hby d1_49) rfl ?_
        exact kt
      obtain ⟨cl10, Ar10, Sz10, Mn10, Ha10⟩ := id V9
      have hin10 := inb_of (j := (0 : Int32)) Sz10 ⟨by decide, by decide⟩
      obtain ⟨T10, h10, X10, e10, W10, st10⟩ := stC X9 hx hZ e9 Ar10 (j := (0 : Int32)) hin10 (g := (mkF m 50 #[.val (.int p0), .val (.int p1), .val (.int p2), .val (.int p3)] [(.int p1), (.int (0 : Int32)), (.ref b9), (.ref b9), (.ref b8), (.ref b8)])) rfl rfl (hb hby d1_50)
      have V10 : AF Z h10 b9 .char (2 : Int32) (fun i => if i = ((0 : Int32)).toNatClampNeg then (.int (nar .char p1)) else .int (0 : Int32)) := AF.set Ar10 Sz10 Mn10 Ha10 hin10 W10
      have N10 := Fr.snoc X10 N0 g_b9
      have K10 : Keep h0 h10 [] := K9.wr W10 (Or.inr sz_b9)
      refine own_by (A' := T10.setTop (mkF m 51 #[.val (.int p0), .val (.int p1), .val (.int p2), .val (.int p3)] [(.ref b9), (.ref b8), (.ref b8)])) (fun t kt => st10 t kt) ?_
      refine own_by (A' := T10.setTop (mkF m 54 #[.val (.int p0), .val (.int p1), .val (.int p2), .val (.int p3)] [(.int p2), (.int (1 : Int32)), (.ref b9), (.ref b9), (.ref b8), (.ref b8)])) (fun t kt => ?_) ?_
      · show Steps p.tables e below (T10.setTop (mkF m 51 #[.val (.int p0), .val (.int p1), .val (.int p2), .val (.int p3)] [(.ref b9), (.ref b8), (.ref b8)])) t
        refine XS.dup X10.here hx rfl (hb hby d1_51) rfl rfl ?_
        show Steps p.tables e below (T10.setTop (mkF m 52 #[.val (.int p0), .val (.int p1), .val (.int p2), .val (.int p3)] [(.ref b9), (.ref b9), (.ref b8), (.ref b8)])) t
        refine XS.iconst X10.here hx rfl (hb hby d1_52) ?_
        show Steps p.tables e below (T10.setTop (mkF m 53 #[.val (.int p0), .val (.int p1), .val (.int p2), .val (.int p3)] [(.int (1 : Int32)), (.ref b9), (.ref b9), (.ref b8), (.ref b8)])) t
        refine XS.iloadN X10.here hx rfl (hb hby d1_53) rfl ?_
        exact kt
      obtain ⟨cl11, Ar11, Sz11, Mn11, Ha11⟩ := id V10
      have hin11 := inb_of (j := (1 : Int32)) Sz11 ⟨by decide, by decide⟩
      obtain ⟨T11, h11, X11, e11, W11, st11⟩ := stC X10 hx hZ e10 Ar11 (j := (1 : Int32)) hin11 (g := (mkF m 54 #[.val (.int p0), .val (.int p1), .val (.int p2), .val (.int p3)] [(.int p2), (.int (1 : Int32)), (.ref b9), (.ref b9), (.ref b8), (.ref b8)])) rfl rfl (hb hby d1_54)
      have V11 : AF Z h11 b9 .char (2 : Int32) (fun i => if i = ((1 : Int32)).toNatClampNeg then (.int (nar .char p2)) else if i = ((0 : Int32)).toNatClampNeg then (.int (nar .char p1)) else .int (0 : Int32)) := AF.set Ar11 Sz11 Mn11 Ha11 hin11 W11
      have N11 := Fr.snoc X11 N10 g_b9
      have K11 : Keep h0 h11 [] := K10.wr W11 (Or.inr sz_b9)
      refine own_by (A' := T11.setTop (mkF m 55 #[.val (.int p0), .val (.int p1), .val (.int p2), .val (.int p3)] [(.ref b9), (.ref b8), (.ref b8)])) (fun t kt => st11 t kt) ?_
      have hws : ∀ d ∈ StrChars.Road.words, d.before aw Z = true := fun d hd => hw d ((by decide +kernel : ∀ d ∈ StrChars.Road.words, d ∈ tables_1) d hd)
      have hlat : ∀ c ∈ ([p1, p2] : List Int32), ¬ c < 0 ∧ ¬ (255 : Int32) < c := by
        intro c hc
        simp only [List.mem_cons, List.not_mem_nil, or_false] at hc
        rcases hc with rfl | rfl
        · exact own_one hp1
        · exact own_one hp2
      obtain ⟨kC, VC⟩ := own_arvC (cs := ([p1, p2] : List Int32)) V11 rfl (fun i hi => by
        have hi' : i < 2 := hi
        match i, hi' with
        | 0, _ => show Value.int (nar .char p1) = _; rw [own_nar hp1]; rfl
        | 1, _ => show Value.int (nar .char p2) = _; rw [own_nar hp2]; rfl) hlat
      obtain ⟨_, _, ⟨T12, L12, k12, n12⟩, -, X12, ⟨Lc12, hQ12, l12, y12, z12⟩, st12⟩ := X11.specialBack hx (y := (⟨"java/lang/String", "<init>", "([C)V"⟩ : MethodName)) rfl hown (mvT hZ (hw _ (List.mem_of_getElem? (i := 8) rfl))) (mvT hZ (hw _ (List.mem_of_getElem? (i := 9) rfl))) (mvT hZ (hw _ (List.mem_of_getElem? (i := 10) rfl))) (by decide) (StrChars.Road.backV (W := 1) hZ hws (kI := 4) (hw _ (List.mem_of_getElem? (i := 5) rfl)) (cs := ([p1, p2] : List Int32)) (bs := (([p1, p2] : List Int32).map (fun c => c.toInt8.toInt32))) (n := 2) g_b8 (Nat.le_trans Z0 K11.1) (((A8.ext E9).wr W10).wr W11) (((F_value_b8.ext E9).other W10 (Or.inl (Nat.ne_of_lt (Nat.lt_of_lt_of_le (A8).lt (Nat.le_of_eq g9.symm))))).other W11 (Or.inl (Nat.ne_of_lt (Nat.lt_of_lt_of_le (A8).lt (Nat.le_of_eq g9.symm))))) (((F_coder_b8.ext E9).other W10 (Or.inl (Nat.ne_of_lt (Nat.lt_of_lt_of_le (A8).lt (Nat.le_of_eq g9.symm))))).other W11 (Or.inl (Nat.ne_of_lt (Nat.lt_of_lt_of_le (A8).lt (Nat.le_of_eq g9.symm))))) VC (Sta.wr W11 (Sta.wr W10 (Sta.ext E9 (Sta.ext E8 S_cs)))) P5 rfl rfl (by decide) (by decide) hlat rfl (by decide) (by decide)) (g := (mkF m 55 #[.val (.int p0), .val (.int p1), .val (.int p2), .val (.int p3)] [(.ref b9), (.ref b8), (.ref b8)])) rfl (by rw [hml]; rfl) (Steps.refl _) (a := b8) (argsL := [(.ref b9)]) (rest := [(.ref b8)]) (lenOf pd_5 rfl) rfl (by show 2 * 0 + _ ≤ _; exact Nat.le_of_eq rfl) (hb hby d1_55) (fun _ _ => ⟨rfl, e11, (by decide : 2 + 1 ≤ _), (by decide : 6 + 2 ≤ _)⟩)
      dsimp only [Pt.U, Pt.locs, Pt.cells, Pt.slots] at X12 l12 y12 z12 st12 hQ12
      subst l12 y12 z12
      obtain ⟨rfl, N12q, Kq12, GE12, GC12, tb12, kb12, _, _, _, GV12, VT12⟩ := hQ12
      have N12 := Fr.app N11 N12q
      have K12 : Keep h0 T12.heap [] := K11.trans Kq12 (allS (Or.inr sz_b8) all0)
      have GO12 : own_OS Z T12.heap b8 ([p1, p2] : List Int32) := ⟨tb12, kb12, GE12, GV12, GC12, VT12⟩
      refine own_by (A' := T12.setTop (mkF m 58 #[.val (.int p0), .val (.int p1), .val (.int p2), .val (.int p3)] [(.ref b8)])) (fun t kt => st12.trans kt) ?_
      obtain ⟨fs, hr, hrun, hended, hW, hsame⟩ := X12.leave (v := some (.ref b8)) (fun h => by rw [Bd.returns] at h; cases h)
      refine ⟨_, _, ?_, hrun, hended, _, _, rfl, ?_, ⟨_, rfl⟩, hW, hsame.mono (by decide) (by decide)⟩
      · exact own_retA X12 hx Bd.returns rfl (hb hby d1_58) hr
      · show QmkN Z p0 p1 p2 p3 G1 h0 n0 _ T12.heap _
        exact ⟨_, rfl, N12, K12, (by rw [own_cs, if_neg hl, if_neg hc17_2, if_pos hc37_7]; exact GO12)⟩
    · refine own_by (A' := s₁.setTop (mkF m 59 #[.val (.int p0), .val (.int p1), .val (.int p2), .val (.int p3)] [])) (fun t kt => ?_) ?_
      · show Steps p.tables e below (s₁.setTop (mkF m 37 #[.val (.int p0), .val (.int p1), .val (.int p2), .val (.int p3)] [(.int (2 : Int32)), (.int p0)])) t
        refine XS.icmpYes X0.here hx rfl (pc0 := 37) (pc' := 59) rfl (hb hby d1_37) rfl (feq hc37_7).2 (by decide) (by decide) ?_
        exact kt
      obtain ⟨T13, h13, X13, e13, E13, A13, D13, -, st13⟩ := newO X0 hx hZ hown (hw _ (List.mem_of_getElem? (i := 4) rfl)) (hw _ (List.mem_of_getElem? (i := 5) rfl)) (hw _ (List.mem_of_getElem? (i := 6) rfl)) e0 (g := (mkF m 59 #[.val (.int p0), .val (.int p1), .val (.int p2), .val (.int p3)] [])) rfl (hb hby d1_59) (by decide) (by decide)
      obtain ⟨b13, g13⟩ : ∃ z, z = h0.size := ⟨_, rfl⟩
      rw [← g13] at A13 D13 st13
      have sz_b13 : h0.size ≤ b13 := Nat.le_trans K0.1 (Nat.le_of_eq g13.symm)
      have g_b13 : n0 ≤ b13 := Nat.le_trans Z0 sz_b13
      have K13 : Keep h0 h13 [] := K0.ext E13
      have F_value_b13 : Fld Z h13 b13 "java/lang/String" "value" "[B" .null := D13 (Or.inr (hw _ (List.mem_of_getElem? (i := 20) rfl))) (ty := (.array .byte)) (by decide)
      have F_coder_b13 : Fld Z h13 b13 "java/lang/String" "coder" "B" (.int (0 : Int32)) := D13 (Or.inr (hw _ (List.mem_of_getElem? (i := 21) rfl))) (ty := .byte) (by decide)
      refine own_by (A' := T13.setTop (mkF m 62 #[.val (.int p0), .val (.int p1), .val (.int p2), .val (.int p3)] [(.ref b13)])) (fun t kt => st13 t kt) ?_
      refine own_by (A' := T13.setTop (mkF m 64 #[.val (.int p0), .val (.int p1), .val (.int p2), .val (.int p3)] [(.int (3 : Int32)), (.ref b13), (.ref b13)])) (fun t kt => ?_) ?_
      · show Steps p.tables e below (T13.setTop (mkF m 62 #[.val (.int p0), .val (.int p1), .val (.int p2), .val (.int p3)] [(.ref b13)])) t
        refine XS.dup X13.here hx rfl (hb hby d1_62) rfl rfl ?_
        show Steps p.tables e below (T13.setTop (mkF m 63 #[.val (.int p0), .val (.int p1), .val (.int p2), .val (.int p3)] [(.ref b13), (.ref b13)])) t
        refine XS.iconst X13.here hx rfl (hb hby d1_63) ?_
        exact kt
      obtain ⟨T14, h14, k14, X14, e14, E14, A14, st14⟩ := newP X13 hx hZ (hw _ (List.mem_of_getElem? (i := 7) rfl)) e13 (g := (mkF m 64 #[.val (.int p0), .val (.int p1), .val (.int p2), .val (.int p3)] [(.int (3 : Int32)), (.ref b13), (.ref b13)])) rfl (hb hby d1_64) rfl (by decide) (cap := 3) (by decide) (by decide) (by decide) (by decide)
      obtain ⟨b14, g14⟩ : ∃ z, z = h13.size := ⟨_, rfl⟩
      rw [← g14] at A14 st14
      have sz_b14 : h0.size ≤ b14 := Nat.le_trans K13.1 (Nat.le_of_eq g14.symm)
      have g_b14 : n0 ≤ b14 := Nat.le_trans Z0 sz_b14
      have K14 : Keep h0 h14 [] := K13.ext E14
      have V14 : AF Z h14 b14 .char (3 : Int32) (fun _ => .int (0 : Int32)) := AF.new A14 (by decide)
      refine own_by (A' := T14.setTop (mkF m 66 #[.val (.int p0), .val (.int p1), .val (.int p2), .val (.int p3)] [(.ref b14), (.ref b13), (.ref b13)])) (fun t kt => st14 t kt) ?_
      refine own_by (A' := T14.setTop (mkF m 69 #[.val (.int p0), .val (.int p1), .val (.int p2), .val (.int p3)] [(.int p1), (.int (0 : Int32)), (.ref b14), (.ref b14), (.ref b13), (.ref b13)])) (fun t kt => ?_) ?_
      · show Steps p.tables e below (T14.setTop (mkF m 66 #[.val (.int p0), .val (.int p1), .val (.int p2), .val (.int p3)] [(.ref b14), (.ref b13), (.ref b13)])) t
        refine XS.dup X14.here hx rfl (hb hby d1_66) rfl rfl ?_
        show Steps p.tables e below (T14.setTop (mkF m 67 #[.val (.int p0), .val (.int p1), .val (.int p2), .val (.int p3)] [(.ref b14), (.ref b14), (.ref b13), (.ref b13)])) t
        refine XS.iconst X14.here hx rfl (hb hby d1_67) ?_
        show Steps p.tables e below (T14.setTop (mkF m 68 #[.val (.int p0), .val (.int p1), .val (.int p2), .val (.int p3)] [(.int (0 : Int32)), (.ref b14), (.ref b14), (.ref b13), (.ref b13)])) t
        refine XS.iloadN X14.here hx rfl (hb hby d1_68) rfl ?_
        exact kt
      obtain ⟨cl15, Ar15, Sz15, Mn15, Ha15⟩ := id V14
      have hin15 := inb_of (j := (0 : Int32)) Sz15 ⟨by decide, by decide⟩
      obtain ⟨T15, h15, X15, e15, W15, st15⟩ := stC X14 hx hZ e14 Ar15 (j := (0 : Int32)) hin15 (g := (mkF m 69 #[.val (.int p0), .val (.int p1), .val (.int p2), .val (.int p3)] [(.int p1), (.int (0 : Int32)), (.ref b14), (.ref b14), (.ref b13), (.ref b13)])) rfl rfl (hb hby d1_69)
      have V15 : AF Z h15 b14 .char (3 : Int32) (fun i => if i = ((0 : Int32)).toNatClampNeg then (.int (nar .char p1)) else .int (0 : Int32)) := AF.set Ar15 Sz15 Mn15 Ha15 hin15 W15
      have N15 := Fr.snoc X15 N0 g_b14
      have K15 : Keep h0 h15 [] := K14.wr W15 (Or.inr sz_b14)
      refine own_by (A' := T15.setTop (mkF m 70 #[.val (.int p0), .val (.int p1), .val (.int p2), .val (.int p3)] [(.ref b14), (.ref b13), (.ref b13)])) (fun t kt => st15 t kt) ?_
      refine own_by (A' := T15.setTop (mkF m 73 #[.val (.int p0), .val (.int p1), .val (.int p2), .val (.int p3)] [(.int p2), (.int (1 : Int32)), (.ref b14), (.ref b14), (.ref b13), (.ref b13)])) (fun t kt => ?_) ?_
      · show Steps p.tables e below (T15.setTop (mkF m 70 #[.val (.int p0), .val (.int p1), .val (.int p2), .val (.int p3)] [(.ref b14), (.ref b13), (.ref b13)])) t
        refine XS.dup X15.here hx rfl (hb hby d1_70) rfl rfl ?_
        show Steps p.tables e below (T15.setTop (mkF m 71 #[.val (.int p0), .val (.int p1), .val (.int p2), .val (.int p3)] [(.ref b14), (.ref b14), (.ref b13), (.ref b13)])) t
        refine XS.iconst X15.here hx rfl (hb hby d1_71) ?_
        show Steps p.tables e below (T15.setTop (mkF m 72 #[.val (.int p0), .val (.int p1), .val (.int p2), .val (.int p3)] [(.int (1 : Int32)), (.ref b14), (.ref b14), (.ref b13), (.ref b13)])) t
        refine XS.iloadN X15.here hx rfl (hb hby d1_72) rfl ?_
        exact kt
      obtain ⟨cl16, Ar16, Sz16, Mn16, Ha16⟩ := id V15
      have hin16 := inb_of (j := (1 : Int32)) Sz16 ⟨by decide, by decide⟩
      obtain ⟨T16, h16, X16, e16, W16, st16⟩ := stC X15 hx hZ e15 Ar16 (j := (1 : Int32)) hin16 (g := (mkF m 73 #[.val (.int p0), .val (.int p1), .val (.int p2), .val (.int p3)] [(.int p2), (.int (1 : Int32)), (.ref b14), (.ref b14), (.ref b13), (.ref b13)])) rfl rfl (hb hby d1_73)
      have V16 : AF Z h16 b14 .char (3 : Int32) (fun i => if i = ((1 : Int32)).toNatClampNeg then (.int (nar .char p2)) else if i = ((0 : Int32)).toNatClampNeg then (.int (nar .char p1)) else .int (0 : Int32)) := AF.set Ar16 Sz16 Mn16 Ha16 hin16 W16
      have N16 := Fr.snoc X16 N15 g_b14
      have K16 : Keep h0 h16 [] := K15.wr W16 (Or.inr sz_b14)
      refine own_by (A' := T16.setTop (mkF m 74 #[.val (.int p0), .val (.int p1), .val (.int p2), .val (.int p3)] [(.ref b14), (.ref b13), (.ref b13)])) (fun t kt => st16 t kt) ?_
      refine own_by (A' := T16.setTop (mkF m 77 #[.val (.int p0), .val (.int p1), .val (.int p2), .val (.int p3)] [(.int p3), (.int (2 : Int32)), (.ref b14), (.ref b14), (.ref b13), (.ref b13)])) (fun t kt => ?_) ?_
      · show Steps p.tables e below (T16.setTop (mkF m 74 #[.val (.int p0), .val (.int p1), .val (.int p2), .val (.int p3)] [(.ref b14), (.ref b13), (.ref b13)])) t
        refine XS.dup X16.here hx rfl (hb hby d1_74) rfl rfl ?_
        show Steps p.tables e below (T16.setTop (mkF m 75 #[.val (.int p0), .val (.int p1), .val (.int p2), .val (.int p3)] [(.ref b14), (.ref b14), (.ref b13), (.ref b13)])) t
        refine XS.iconst X16.here hx rfl (hb hby d1_75) ?_
        show Steps p.tables e below (T16.setTop (mkF m 76 #[.val (.int p0), .val (.int p1), .val (.int p2), .val (.int p3)] [(.int (2 : Int32)), (.ref b14), (.ref b14), (.ref b13), (.ref b13)])) t
        refine XS.iloadN X16.here hx rfl (hb hby d1_76) rfl ?_
        exact kt
      obtain ⟨cl17, Ar17, Sz17, Mn17, Ha17⟩ := id V16
      have hin17 := inb_of (j := (2 : Int32)) Sz17 ⟨by decide, by decide⟩
      obtain ⟨T17, h17, X17, e17, W17, st17⟩ := stC X16 hx hZ e16 Ar17 (j := (2 : Int32)) hin17 (g := (mkF m 77 #[.val (.int p0), .val (.int p1), .val (.int p2), .val (.int p3)] [(.int p3), (.int (2 : Int32)), (.ref b14), (.ref b14), (.ref b13), (.ref b13)])) rfl rfl (hb hby d1_77)
      have V17 : AF Z h17 b14 .char (3 : Int32) (fun i => if i = ((2 : Int32)).toNatClampNeg then (.int (nar .char p3)) else if i = ((1 : Int32)).toNatClampNeg then (.int (nar .char p2)) else if i = ((0 : Int32)).toNatClampNeg then (.int (nar .char p1)) else .int (0 : Int32)) := AF.set Ar17 Sz17 Mn17 Ha17 hin17 W17
      have N17 := Fr.snoc X17 N16 g_b14
      have K17 : Keep h0 h17 [] := K16.wr W17 (Or.inr sz_b14)
      refine own_by (A' := T17.setTop (mkF m 78 #[.val (.int p0), .val (.int p1), .val (.int p2), .val (.int p3)] [(.ref b14), (.ref b13), (.ref b13)])) (fun t kt => st17 t kt) ?_
      have hws : ∀ d ∈ StrChars.Road.words, d.before aw Z = true := fun d hd => hw d ((by decide +kernel : ∀ d ∈ StrChars.Road.words, d ∈ tables_1) d hd)
      have hlat : ∀ c ∈ ([p1, p2, p3] : List Int32), ¬ c < 0 ∧ ¬ (255 : Int32) < c := by
        intro c hc
        simp only [List.mem_cons, List.not_mem_nil, or_false] at hc
        rcases hc with rfl | rfl | rfl
        · exact own_one hp1
        · exact own_one hp2
        · exact own_one hp3
      obtain ⟨kC, VC⟩ := own_arvC (cs := ([p1, p2, p3] : List Int32)) V17 rfl (fun i hi => by
        have hi' : i < 3 := hi
        match i, hi' with
        | 0, _ => show Value.int (nar .char p1) = _; rw [own_nar hp1]; rfl
        | 1, _ => show Value.int (nar .char p2) = _; rw [own_nar hp2]; rfl
        | 2, _ => show Value.int (nar .char p3) = _; rw [own_nar hp3]; rfl) hlat
      obtain ⟨_, _, ⟨T18, L18, k18, n18⟩, -, X18, ⟨Lc18, hQ18, l18, y18, z18⟩, st18⟩ := X17.specialBack hx (y := (⟨"java/lang/String", "<init>", "([C)V"⟩ : MethodName)) rfl hown (mvT hZ (hw _ (List.mem_of_getElem? (i := 8) rfl))) (mvT hZ (hw _ (List.mem_of_getElem? (i := 9) rfl))) (mvT hZ (hw _ (List.mem_of_getElem? (i := 10) rfl))) (by decide) (StrChars.Road.backV (W := 1) hZ hws (kI := 4) (hw _ (List.mem_of_getElem? (i := 5) rfl)) (cs := ([p1, p2, p3] : List Int32)) (bs := (([p1, p2, p3] : List Int32).map (fun c => c.toInt8.toInt32))) (n := 3) g_b13 (Nat.le_trans Z0 K17.1) ((((A13.ext E14).wr W15).wr W16).wr W17) ((((F_value_b13.ext E14).other W15 (Or.inl (Nat.ne_of_lt (Nat.lt_of_lt_of_le (A13).lt (Nat.le_of_eq g14.symm))))).other W16 (Or.inl (Nat.ne_of_lt (Nat.lt_of_lt_of_le (A13).lt (Nat.le_of_eq g14.symm))))).other W17 (Or.inl (Nat.ne_of_lt (Nat.lt_of_lt_of_le (A13).lt (Nat.le_of_eq g14.symm))))) ((((F_coder_b13.ext E14).other W15 (Or.inl (Nat.ne_of_lt (Nat.lt_of_lt_of_le (A13).lt (Nat.le_of_eq g14.symm))))).other W16 (Or.inl (Nat.ne_of_lt (Nat.lt_of_lt_of_le (A13).lt (Nat.le_of_eq g14.symm))))).other W17 (Or.inl (Nat.ne_of_lt (Nat.lt_of_lt_of_le (A13).lt (Nat.le_of_eq g14.symm))))) VC (Sta.wr W17 (Sta.wr W16 (Sta.wr W15 (Sta.ext E14 (Sta.ext E13 S_cs))))) P5 rfl rfl (by decide) (by decide) hlat rfl (by decide) (by decide)) (g := (mkF m 78 #[.val (.int p0), .val (.int p1), .val (.int p2), .val (.int p3)] [(.ref b14), (.ref b13), (.ref b13)])) rfl (by rw [hml]; rfl) (Steps.refl _) (a := b13) (argsL := [(.ref b14)]) (rest := [(.ref b13)]) (lenOf pd_5 rfl) rfl (by show 2 * 0 + _ ≤ _; exact Nat.le_of_eq rfl) (hb hby d1_78) (fun _ _ => ⟨rfl, e17, (by decide : 2 + 1 ≤ _), (by decide : 7 + 3 ≤ _)⟩)
      dsimp only [Pt.U, Pt.locs, Pt.cells, Pt.slots] at X18 l18 y18 z18 st18 hQ18
      subst l18 y18 z18
      obtain ⟨rfl, N18q, Kq18, GE18, GC18, tb18, kb18, _, _, _, GV18, VT18⟩ := hQ18
      have N18 := Fr.app N17 N18q
      have K18 : Keep h0 T18.heap [] := K17.trans Kq18 (allS (Or.inr sz_b13) all0)
      have GO18 : own_OS Z T18.heap b13 ([p1, p2, p3] : List Int32) := ⟨tb18, kb18, GE18, GV18, GC18, VT18⟩
      refine own_by (A' := T18.setTop (mkF m 81 #[.val (.int p0), .val (.int p1), .val (.int p2), .val (.int p3)] [(.ref b13)])) (fun t kt => st18.trans kt) ?_
      obtain ⟨fs, hr, hrun, hended, hW, hsame⟩ := X18.leave (v := some (.ref b13)) (fun h => by rw [Bd.returns] at h; cases h)
      refine ⟨_, _, ?_, hrun, hended, _, _, rfl, ?_, ⟨_, rfl⟩, hW, hsame.mono (by decide) (by decide)⟩
      · exact own_retA X18 hx Bd.returns rfl (hb hby d1_81) hr
      · show QmkN Z p0 p1 p2 p3 G1 h0 n0 _ T18.heap _
        exact ⟨_, rfl, N18, K18, (by rw [own_cs, if_neg hl, if_neg hc17_2, if_neg hc37_7]; exact GO18)⟩
theorem d1_4 : decode method_2_code 4 = .ok (.new 7, 3) := by decide +kernel
theorem d1_7 : decode method_2_code 7 = .ok (.dup, 1) := by decide +kernel
theorem d1_8 : decode method_2_code 8 = .ok (.iconst 0, 1) := by decide +kernel
theorem d1_9 : decode method_2_code 9 = .ok (.newarray .char, 2) := by decide +kernel
theorem d1_11 : decode method_2_code 11 = .ok (.invokespecial 9, 3) := by decide +kernel
theorem d1_14 : decode method_2_code 14 = .ok (.areturn, 1) := by decide +kernel
theorem ef_rmmkC (m : MethodId) (p1 : Int32) (p2 : Int32) (p3 : Int32) : entryFrame m #[(.int (0 : Int32)), (.int p1), (.int p2), (.int p3)] 4 = mkF m 0 #[.val (.int (0 : Int32)), .val (.int p1), .val (.int p2), .val (.int p3)] [] := by first | (simp [entryFrame, mkF, argsToLocals, Value.category]; done) | rfl
def QmkC (Z : State) (p1 : Int32) (p2 : Int32) (p3 : Int32) (Ts : List String) (h0 : Heap) (n0 : Nat) (v : Option Value) (h : Heap) (L : List Loc) (vm : Vm) : Prop := ∃ b : Addr, v = some (.ref b) ∧ Fr n0 L ∧ Keep h0 h [] ∧ own_OS Z h b [] ∧ ∃ lt : Addr, own_OS Z h lt [] ∧ IB Z vm ("" :: Ts) ∧ Lit (Z.setVm vm) "java/lang/String" 7 lt
set_option maxRecDepth 65536 in
set_option maxHeartbeats 40000000 in
theorem rmmkC (l : Launch) (Z : State) (aw : Array Value) (hw : ∀ d ∈ tables_1, d.before aw Z = true) (ws : List Jvm.Cond) (p1 : Int32) (p2 : Int32) (p3 : Int32) (Ts : List String) (h0 : Heap) (n0 : Nat) (Z0 : n0 ≤ h0.size) (KZ : ∀ (b : Addr) (cl : Cell), Z.heap[b]? = some cl → h0[b]? = some cl) (HC : Jvm.Lit.constHeld Z "java/lang/String" 7) (HW : Jvm.Lit.compactW.before aw Z = true) (hnt : "" ∉ Ts) :
    MetFree l (⟨"com/example/corollary/corollary/model/NamedClassEqualsPinLaw", "mk", "(ICCC)Ljava/lang/String;"⟩ : MethodName) (head1 (Jvm.Cond.code (⟨"com/example/corollary/corollary/model/NamedClassEqualsPinLaw", "mk", "(ICCC)Ljava/lang/String;"⟩ : MethodName) method_2_code 4 (some (.object "java/lang/String")) :: ws) ({ frames := 3, cells := 4, slots := 8, locals := 43 } : Room)) (fun a U => a = #[(.int (0 : Int32)), (.int p1), (.int p2), (.int p3)] ∧ Z.Warmed39 U.vm ∧ U.heap = h0 ∧ own_VI Z Ts U.vm) (fun _ _ _ _ _ => True) (fun _ U o U' => ∃ v L, o = .returned v ∧ QmkC Z p1 p2 p3 Ts h0 n0 v U'.heap L U'.vm ∧ ReturnedEndW U o U' L ({ frames := 3, cells := 4, slots := 8, locals := 43 } : Room).cells ({ frames := 3, cells := 4, slots := 8, locals := 43 } : Room).slots) := by
  refine MetFree.of_bodySF (plainFor_of_name pn_2) hisR ?_
  intro p e s m args below meth c s₁ Bd hml0 hP hK
  obtain ⟨rfl, hZ, hh, hIB⟩ := hP
  have hx := Bd.exec
  have hby := Bd.bytes
  have hml : c.maxLocals = 4 := hml0
  have hown : s.vm.findClass "com/example/corollary/corollary/model/NamedClassEqualsPinLaw" = some m.cls := findClass_of_methodNamed Bd.named
  have hnm := (name_of_methodNamed Bd.named Bd.method).1
  have X0 : Stand p l e ({ frames := 3, cells := 4, slots := 8, locals := 43 } : Room) s m #[(.int (0 : Int32)), (.int p1), (.int p2), (.int p3)] below meth c s₁ [] 0 0 := Stand.of_body Bd
  have e0 : s₁.heap = h0 := by rw [← hh, Bd.state]; rfl
  have N0 := Fr.nil n0
  have K0 : Keep h0 h0 [] := Keep.refl _ _
  refine own_by (A' := s₁.setTop (mkF m 0 #[.val (.int (0 : Int32)), .val (.int p1), .val (.int p2), .val (.int p3)] [])) (fun t k => castTop (ef_rmmkC m p1 p2 p3) k) ?_
  refine own_by (A' := s₁.setTop (mkF m 1 #[.val (.int (0 : Int32)), .val (.int p1), .val (.int p2), .val (.int p3)] [(.int (0 : Int32))])) (fun t kt => ?_) ?_
  · show Steps p.tables e below (s₁.setTop (mkF m 0 #[.val (.int (0 : Int32)), .val (.int p1), .val (.int p2), .val (.int p3)] [])) t
    refine XS.iloadN X0.here hx rfl (hb hby d1_0) rfl ?_
    exact kt
  have hc1_1 : (0 : Int32) = (0 : Int32) := by decide
  refine own_by (A' := s₁.setTop (mkF m 4 #[.val (.int (0 : Int32)), .val (.int p1), .val (.int p2), .val (.int p3)] [])) (fun t kt => ?_) ?_
  · show Steps p.tables e below (s₁.setTop (mkF m 1 #[.val (.int (0 : Int32)), .val (.int p1), .val (.int p2), .val (.int p3)] [(.int (0 : Int32))])) t
    refine XS.ifNo X0.here hx rfl (hb hby d1_1) rfl ((if0 _ _).trans (teq hc1_1).2) ?_
    exact kt
  obtain ⟨T2, h2, X2, e2, E2, A2, D2, -, st2⟩ := newO X0 hx hZ hown (hw _ (List.mem_of_getElem? (i := 4) rfl)) (hw _ (List.mem_of_getElem? (i := 5) rfl)) (hw _ (List.mem_of_getElem? (i := 6) rfl)) e0 (g := (mkF m 4 #[.val (.int (0 : Int32)), .val (.int p1), .val (.int p2), .val (.int p3)] [])) rfl (hb hby d1_4) (by decide) (by decide)
  obtain ⟨b2, g2⟩ : ∃ z, z = h0.size := ⟨_, rfl⟩
  rw [← g2] at A2 D2 st2
  have sz_b2 : h0.size ≤ b2 := Nat.le_trans K0.1 (Nat.le_of_eq g2.symm)
  have g_b2 : n0 ≤ b2 := Nat.le_trans Z0 sz_b2
  have K2 : Keep h0 h2 [] := K0.ext E2
  have F_value_b2 : Fld Z h2 b2 "java/lang/String" "value" "[B" .null := D2 (Or.inr (hw _ (List.mem_of_getElem? (i := 20) rfl))) (ty := (.array .byte)) (by decide)
  have F_coder_b2 : Fld Z h2 b2 "java/lang/String" "coder" "B" (.int (0 : Int32)) := D2 (Or.inr (hw _ (List.mem_of_getElem? (i := 21) rfl))) (ty := .byte) (by decide)
  refine own_by (A' := T2.setTop (mkF m 7 #[.val (.int (0 : Int32)), .val (.int p1), .val (.int p2), .val (.int p3)] [(.ref b2)])) (fun t kt => st2 t kt) ?_
  refine own_by (A' := T2.setTop (mkF m 9 #[.val (.int (0 : Int32)), .val (.int p1), .val (.int p2), .val (.int p3)] [(.int (0 : Int32)), (.ref b2), (.ref b2)])) (fun t kt => ?_) ?_
  · show Steps p.tables e below (T2.setTop (mkF m 7 #[.val (.int (0 : Int32)), .val (.int p1), .val (.int p2), .val (.int p3)] [(.ref b2)])) t
    refine XS.dup X2.here hx rfl (hb hby d1_7) rfl rfl ?_
    show Steps p.tables e below (T2.setTop (mkF m 8 #[.val (.int (0 : Int32)), .val (.int p1), .val (.int p2), .val (.int p3)] [(.ref b2), (.ref b2)])) t
    refine XS.iconst X2.here hx rfl (hb hby d1_8) ?_
    exact kt
  obtain ⟨T3, h3, k3, X3, e3, E3, A3, st3⟩ := newP X2 hx hZ (hw _ (List.mem_of_getElem? (i := 7) rfl)) e2 (g := (mkF m 9 #[.val (.int (0 : Int32)), .val (.int p1), .val (.int p2), .val (.int p3)] [(.int (0 : Int32)), (.ref b2), (.ref b2)])) rfl (hb hby d1_9) rfl (by decide) (cap := 0) (by decide) (by decide) (by decide) (by decide)
  obtain ⟨b3, g3⟩ : ∃ z, z = h2.size := ⟨_, rfl⟩
  rw [← g3] at A3 st3
  have sz_b3 : h0.size ≤ b3 := Nat.le_trans K2.1 (Nat.le_of_eq g3.symm)
  have g_b3 : n0 ≤ b3 := Nat.le_trans Z0 sz_b3
  have K3 : Keep h0 h3 [] := K2.ext E3
  have V3 : AF Z h3 b3 .char (0 : Int32) (fun _ => .int (0 : Int32)) := AF.new A3 (by decide)
  refine own_by (A' := T3.setTop (mkF m 11 #[.val (.int (0 : Int32)), .val (.int p1), .val (.int p2), .val (.int p3)] [(.ref b3), (.ref b2), (.ref b2)])) (fun t kt => st3 t kt) ?_
  obtain ⟨_, _, ⟨T4, L4, k4, n4⟩, -, X4, hS4, hgr4, ⟨Lc4, hQ4, l4, y4, z4⟩, st4⟩ := X3.specialBackS hx (y := (⟨"java/lang/String", "<init>", "([C)V"⟩ : MethodName)) rfl hown (mvT hZ (hw _ (List.mem_of_getElem? (i := 8) rfl))) (mvT hZ (hw _ (List.mem_of_getElem? (i := 9) rfl))) (mvT hZ (hw _ (List.mem_of_getElem? (i := 10) rfl))) (by decide) (own_backOfV (W := 1) (rm3C l Z aw hw [] b2 b3 Ts h3 n0 (Nat.le_trans Z0 K3.1) (A2.ext E3) (F_value_b2.ext E3) (F_coder_b2.ext E3) g_b2 (fun b cl q => K3.2.1 b cl (KZ b cl q) nin0) HC HW hnt V3) hZ (fun vm q => own_IBw q hIB) (hw _ (List.mem_of_getElem? (i := 10) rfl)) (hw _ (List.mem_of_getElem? (i := 6) rfl)) (by decide) (by decide)) (g := (mkF m 11 #[.val (.int (0 : Int32)), .val (.int p1), .val (.int p2), .val (.int p3)] [(.ref b3), (.ref b2), (.ref b2)])) rfl (by rw [hml]; rfl) (Steps.refl _) (a := b2) (argsL := [(.ref b3)]) (rest := [(.ref b2)]) (lenOf pd_5 rfl) rfl (by show 2 * 0 + _ ≤ _; exact Nat.le_of_eq rfl) (hb hby d1_11) (fun _ _ => ⟨rfl, e3, (by decide : 2 + 2 ≤ _), (by decide : 4 + 4 ≤ _)⟩)
  dsimp only [Pt.U, Pt.locs, Pt.cells, Pt.slots] at hS4 hgr4
  dsimp only [Pt.U, Pt.locs, Pt.cells, Pt.slots] at X4 l4 y4 z4 st4 hQ4
  subst l4 y4 z4
  have hown : (s.setVm T4.vm).vm.findClass "com/example/corollary/corollary/model/NamedClassEqualsPinLaw" = some m.cls := by
    show T4.vm.findClass _ = _
    rw [hS4.1.alike.findClass]; exact hown
  have hZ : Z.Warmed39 (s.setVm T4.vm).vm := State.Warmed39.trans hZ hS4.1
  obtain ⟨rfl, N4q, Kq4, GO4, lt4, GOl4, GI4, GL4⟩ := hQ4
  have N4 := Fr.app N0 N4q
  have K4 : Keep h0 T4.heap [] := K3.trans Kq4 (allS (Or.inr sz_b2) all0)
  refine own_by (A' := T4.setTop (mkF m 14 #[.val (.int (0 : Int32)), .val (.int p1), .val (.int p2), .val (.int p3)] [(.ref b2)])) (fun t kt => st4.trans kt) ?_
  obtain ⟨fs, hr, hrun, hended, hEnd⟩ := X4.leaveW (s := s) hS4 (by exact (Nat.le_refl T4.heap.size)) (v := some (.ref b2)) (fun h => by rw [Bd.returns] at h; cases h)
  refine ⟨_, _, ?_, hrun, hended, _, _, rfl, ?_, hEnd.1, hEnd.2.1, hEnd.2.2.1, hEnd.2.2.2.mono (by decide) (by decide)⟩
  · exact own_retA X4 hx Bd.returns rfl (hb hby d1_14) hr
  · show QmkC Z p1 p2 p3 Ts h0 n0 _ T4.heap _ T4.vm
    exact ⟨_, rfl, N4, K4, GO4, lt4, GOl4, own_IBw X4.warmed GI4, own_Litw X4.warmed GL4⟩
theorem ef_rmmkA (m : MethodId) (p1 : Int32) (p2 : Int32) (p3 : Int32) : entryFrame m #[(.int (0 : Int32)), (.int p1), (.int p2), (.int p3)] 4 = mkF m 0 #[.val (.int (0 : Int32)), .val (.int p1), .val (.int p2), .val (.int p3)] [] := by first | (simp [entryFrame, mkF, argsToLocals, Value.category]; done) | rfl
def QmkA (Z : State) (p1 : Int32) (p2 : Int32) (p3 : Int32) (lt0 : Addr) (h0 : Heap) (n0 : Nat) (v : Option Value) (h : Heap) (L : List Loc) (vm : Vm) : Prop := ∃ b : Addr, v = some (.ref b) ∧ Fr n0 L ∧ Keep h0 h [] ∧ own_OS Z h b []
set_option maxRecDepth 65536 in
set_option maxHeartbeats 40000000 in
theorem rmmkA (l : Launch) (Z : State) (aw : Array Value) (hw : ∀ d ∈ tables_1, d.before aw Z = true) (ws : List Jvm.Cond) (p1 : Int32) (p2 : Int32) (p3 : Int32) (lt0 : Addr) (h0 : Heap) (n0 : Nat) (Z0 : n0 ≤ h0.size) (O_lt : own_OS Z h0 lt0 []) :
    MetFree l (⟨"com/example/corollary/corollary/model/NamedClassEqualsPinLaw", "mk", "(ICCC)Ljava/lang/String;"⟩ : MethodName) (head1 (Jvm.Cond.code (⟨"com/example/corollary/corollary/model/NamedClassEqualsPinLaw", "mk", "(ICCC)Ljava/lang/String;"⟩ : MethodName) method_2_code 4 (some (.object "java/lang/String")) :: ws) ({ frames := 3, cells := 2, slots := 4, locals := 43 } : Room)) (fun a U => a = #[(.int (0 : Int32)), (.int p1), (.int p2), (.int p3)] ∧ Z.Warmed39 U.vm ∧ U.heap = h0 ∧ own_VL Z lt0 U.vm) (fun _ _ _ _ _ => True) (fun _ U o U' => ∃ v L, o = .returned v ∧ QmkA Z p1 p2 p3 lt0 h0 n0 v U'.heap L U'.vm ∧ ReturnedEndW U o U' L ({ frames := 3, cells := 2, slots := 4, locals := 43 } : Room).cells ({ frames := 3, cells := 2, slots := 4, locals := 43 } : Room).slots) := by
  refine MetFree.of_bodySF (plainFor_of_name pn_2) hisR ?_
  intro p e s m args below meth c s₁ Bd hml0 hP hK
  obtain ⟨rfl, hZ, hh, Li_lt0⟩ := hP
  have hx := Bd.exec
  have hby := Bd.bytes
  have hml : c.maxLocals = 4 := hml0
  have hown : s.vm.findClass "com/example/corollary/corollary/model/NamedClassEqualsPinLaw" = some m.cls := findClass_of_methodNamed Bd.named
  have hnm := (name_of_methodNamed Bd.named Bd.method).1
  have X0 : Stand p l e ({ frames := 3, cells := 2, slots := 4, locals := 43 } : Room) s m #[(.int (0 : Int32)), (.int p1), (.int p2), (.int p3)] below meth c s₁ [] 0 0 := Stand.of_body Bd
  have e0 : s₁.heap = h0 := by rw [← hh, Bd.state]; rfl
  have N0 := Fr.nil n0
  have K0 : Keep h0 h0 [] := Keep.refl _ _
  refine own_by (A' := s₁.setTop (mkF m 0 #[.val (.int (0 : Int32)), .val (.int p1), .val (.int p2), .val (.int p3)] [])) (fun t k => castTop (ef_rmmkA m p1 p2 p3) k) ?_
  refine own_by (A' := s₁.setTop (mkF m 1 #[.val (.int (0 : Int32)), .val (.int p1), .val (.int p2), .val (.int p3)] [(.int (0 : Int32))])) (fun t kt => ?_) ?_
  · show Steps p.tables e below (s₁.setTop (mkF m 0 #[.val (.int (0 : Int32)), .val (.int p1), .val (.int p2), .val (.int p3)] [])) t
    refine XS.iloadN X0.here hx rfl (hb hby d1_0) rfl ?_
    exact kt
  have hc1_1 : (0 : Int32) = (0 : Int32) := by decide
  refine own_by (A' := s₁.setTop (mkF m 4 #[.val (.int (0 : Int32)), .val (.int p1), .val (.int p2), .val (.int p3)] [])) (fun t kt => ?_) ?_
  · show Steps p.tables e below (s₁.setTop (mkF m 1 #[.val (.int (0 : Int32)), .val (.int p1), .val (.int p2), .val (.int p3)] [(.int (0 : Int32))])) t
    refine XS.ifNo X0.here hx rfl (hb hby d1_1) rfl ((if0 _ _).trans (teq hc1_1).2) ?_
    exact kt
  obtain ⟨T2, h2, X2, e2, E2, A2, D2, -, st2⟩ := newO X0 hx hZ hown (hw _ (List.mem_of_getElem? (i := 4) rfl)) (hw _ (List.mem_of_getElem? (i := 5) rfl)) (hw _ (List.mem_of_getElem? (i := 6) rfl)) e0 (g := (mkF m 4 #[.val (.int (0 : Int32)), .val (.int p1), .val (.int p2), .val (.int p3)] [])) rfl (hb hby d1_4) (by decide) (by decide)
  obtain ⟨b2, g2⟩ : ∃ z, z = h0.size := ⟨_, rfl⟩
  rw [← g2] at A2 D2 st2
  have sz_b2 : h0.size ≤ b2 := Nat.le_trans K0.1 (Nat.le_of_eq g2.symm)
  have g_b2 : n0 ≤ b2 := Nat.le_trans Z0 sz_b2
  have K2 : Keep h0 h2 [] := K0.ext E2
  have F_value_b2 : Fld Z h2 b2 "java/lang/String" "value" "[B" .null := D2 (Or.inr (hw _ (List.mem_of_getElem? (i := 20) rfl))) (ty := (.array .byte)) (by decide)
  have F_coder_b2 : Fld Z h2 b2 "java/lang/String" "coder" "B" (.int (0 : Int32)) := D2 (Or.inr (hw _ (List.mem_of_getElem? (i := 21) rfl))) (ty := .byte) (by decide)
  refine own_by (A' := T2.setTop (mkF m 7 #[.val (.int (0 : Int32)), .val (.int p1), .val (.int p2), .val (.int p3)] [(.ref b2)])) (fun t kt => st2 t kt) ?_
  refine own_by (A' := T2.setTop (mkF m 9 #[.val (.int (0 : Int32)), .val (.int p1), .val (.int p2), .val (.int p3)] [(.int (0 : Int32)), (.ref b2), (.ref b2)])) (fun t kt => ?_) ?_
  · show Steps p.tables e below (T2.setTop (mkF m 7 #[.val (.int (0 : Int32)), .val (.int p1), .val (.int p2), .val (.int p3)] [(.ref b2)])) t
    refine XS.dup X2.here hx rfl (hb hby d1_7) rfl rfl ?_
    show Steps p.tables e below (T2.setTop (mkF m 8 #[.val (.int (0 : Int32)), .val (.int p1), .val (.int p2), .val (.int p3)] [(.ref b2), (.ref b2)])) t
    refine XS.iconst X2.here hx rfl (hb hby d1_8) ?_
    exact kt
  obtain ⟨T3, h3, k3, X3, e3, E3, A3, st3⟩ := newP X2 hx hZ (hw _ (List.mem_of_getElem? (i := 7) rfl)) e2 (g := (mkF m 9 #[.val (.int (0 : Int32)), .val (.int p1), .val (.int p2), .val (.int p3)] [(.int (0 : Int32)), (.ref b2), (.ref b2)])) rfl (hb hby d1_9) rfl (by decide) (cap := 0) (by decide) (by decide) (by decide) (by decide)
  obtain ⟨b3, g3⟩ : ∃ z, z = h2.size := ⟨_, rfl⟩
  rw [← g3] at A3 st3
  have sz_b3 : h0.size ≤ b3 := Nat.le_trans K2.1 (Nat.le_of_eq g3.symm)
  have g_b3 : n0 ≤ b3 := Nat.le_trans Z0 sz_b3
  have K3 : Keep h0 h3 [] := K2.ext E3
  have V3 : AF Z h3 b3 .char (0 : Int32) (fun _ => .int (0 : Int32)) := AF.new A3 (by decide)
  refine own_by (A' := T3.setTop (mkF m 11 #[.val (.int (0 : Int32)), .val (.int p1), .val (.int p2), .val (.int p3)] [(.ref b3), (.ref b2), (.ref b2)])) (fun t kt => st3 t kt) ?_
  obtain ⟨_, _, ⟨T4, L4, k4, n4⟩, -, X4, hS4, hgr4, ⟨Lc4, hQ4, l4, y4, z4⟩, st4⟩ := X3.specialBackS hx (y := (⟨"java/lang/String", "<init>", "([C)V"⟩ : MethodName)) rfl hown (mvT hZ (hw _ (List.mem_of_getElem? (i := 8) rfl))) (mvT hZ (hw _ (List.mem_of_getElem? (i := 9) rfl))) (mvT hZ (hw _ (List.mem_of_getElem? (i := 10) rfl))) (by decide) (own_backOfV (W := 1) (rm3A l Z aw hw [] b2 b3 lt0 h3 n0 (Nat.le_trans Z0 K3.1) (A2.ext E3) (F_value_b2.ext E3) (F_coder_b2.ext E3) g_b2 (own_OSext (own_OSext O_lt E2) E3) V3) hZ (fun vm q => own_Litw q Li_lt0) (hw _ (List.mem_of_getElem? (i := 10) rfl)) (hw _ (List.mem_of_getElem? (i := 6) rfl)) (by decide) (by decide)) (g := (mkF m 11 #[.val (.int (0 : Int32)), .val (.int p1), .val (.int p2), .val (.int p3)] [(.ref b3), (.ref b2), (.ref b2)])) rfl (by rw [hml]; rfl) (Steps.refl _) (a := b2) (argsL := [(.ref b3)]) (rest := [(.ref b2)]) (lenOf pd_5 rfl) rfl (by show 2 * 0 + _ ≤ _; exact Nat.le_of_eq rfl) (hb hby d1_11) (fun _ _ => ⟨rfl, e3, (by decide : 2 + 0 ≤ _), (by decide : 4 + 0 ≤ _)⟩)
  dsimp only [Pt.U, Pt.locs, Pt.cells, Pt.slots] at hS4 hgr4
  dsimp only [Pt.U, Pt.locs, Pt.cells, Pt.slots] at X4 l4 y4 z4 st4 hQ4
  subst l4 y4 z4
  have hown : (s.setVm T4.vm).vm.findClass "com/example/corollary/corollary/model/NamedClassEqualsPinLaw" = some m.cls := by
    show T4.vm.findClass _ = _
    rw [hS4.1.alike.findClass]; exact hown
  have hZ : Z.Warmed39 (s.setVm T4.vm).vm := State.Warmed39.trans hZ hS4.1
  obtain ⟨rfl, N4q, Kq4, GO4⟩ := hQ4
  have N4 := Fr.app N0 N4q
  have K4 : Keep h0 T4.heap [] := K3.trans Kq4 (allS (Or.inr sz_b2) all0)
  refine own_by (A' := T4.setTop (mkF m 14 #[.val (.int (0 : Int32)), .val (.int p1), .val (.int p2), .val (.int p3)] [(.ref b2)])) (fun t kt => st4.trans kt) ?_
  obtain ⟨fs, hr, hrun, hended, hEnd⟩ := X4.leaveW (s := s) hS4 (by exact (Nat.le_refl T4.heap.size)) (v := some (.ref b2)) (fun h => by rw [Bd.returns] at h; cases h)
  refine ⟨_, _, ?_, hrun, hended, _, _, rfl, ?_, hEnd.1, hEnd.2.1, hEnd.2.2.1, hEnd.2.2.2.mono (by decide) (by decide)⟩
  · exact own_retA X4 hx Bd.returns rfl (hb hby d1_14) hr
  · show QmkA Z p1 p2 p3 lt0 h0 n0 _ T4.heap _ T4.vm
    exact ⟨_, rfl, N4, K4, GO4⟩
theorem pn_6 : plainName "com/example/corollary/corollary/model/NamedClass" = true := by first | (simp [plainName, overriddenIn]; done) | decide +kernel
theorem pd_7 : parseMethodDescriptor "()V" = some ⟨[], none⟩ := by decide +kernel
theorem pd_8 : parseMethodDescriptor "(Ljava/lang/Object;Ljava/lang/String;)Ljava/lang/Object;" = some ⟨[(.object "java/lang/Object"), (.object "java/lang/String")], some (.object "java/lang/Object")⟩ := by decide +kernel
theorem d5_0 : decode prog_11_method_1_code 0 = .ok (.aload_n 0, 1) := by decide +kernel
theorem d5_1 : decode prog_11_method_1_code 1 = .ok (.invokespecial 1, 3) := by decide +kernel
theorem d5_4 : decode prog_11_method_1_code 4 = .ok (.aload_n 1, 1) := by decide +kernel
theorem d5_5 : decode prog_11_method_1_code 5 = .ok (.ldc 7, 2) := by decide +kernel
theorem d5_7 : decode prog_11_method_1_code 7 = .ok (.invokestatic 9, 3) := by decide +kernel
theorem d5_10 : decode prog_11_method_1_code 10 = .ok (.pop, 1) := by decide +kernel
theorem d5_11 : decode prog_11_method_1_code 11 = .ok (.aload_n 0, 1) := by decide +kernel
theorem d5_12 : decode prog_11_method_1_code 12 = .ok (.aload_n 1, 1) := by decide +kernel
theorem d5_13 : decode prog_11_method_1_code 13 = .ok (.putfield 15, 3) := by decide +kernel
theorem d5_16 : decode prog_11_method_1_code 16 = .ok (.return_, 1) := by decide +kernel
theorem ef_rmnew5F (m : MethodId) (a0 : Addr) (a1 : Addr) : entryFrame m #[(.ref a0), (.ref a1)] 2 = mkF m 0 #[.val (.ref a0), .val (.ref a1)] [] := by first | (simp [entryFrame, mkF, argsToLocals, Value.category]; done) | rfl
def Qnew5F (Z : State) (a0 : Addr) (a1 : Addr) (Ts : List String) (h0 : Heap) (n0 : Nat) (v : Option Value) (h : Heap) (L : List Loc) (vm : Vm) : Prop := v = none ∧ Fr n0 L ∧ Keep h0 h [a0] ∧ Exa Z h a0 "com/example/corollary/corollary/model/NamedClass" ∧ Fld Z h a0 "com/example/corollary/corollary/model/NamedClass" "iri" "Ljava/lang/String;" (.ref a1) ∧ IB Z vm ("iri" :: Ts)
set_option maxRecDepth 65536 in
set_option maxHeartbeats 40000000 in
theorem rmnew5F (l : Launch) (Z : State) (aw : Array Value) (hw : ∀ d ∈ tables_1, d.before aw Z = true) (ws : List Jvm.Cond) (a0 : Addr) (a1 : Addr) (Ts : List String) (h0 : Heap) (n0 : Nat) (Z0 : n0 ≤ h0.size) (E_a0 : Exa Z h0 a0 "com/example/corollary/corollary/model/NamedClass") (PF_iri : Fld Z h0 a0 "com/example/corollary/corollary/model/NamedClass" "iri" "Ljava/lang/String;" .null) (g_a0 : n0 ≤ a0) (KZ : ∀ (b : Addr) (cl : Cell), Z.heap[b]? = some cl → h0[b]? = some cl) (HC : Jvm.Lit.constHeld Z "com/example/corollary/corollary/model/NamedClass" 7) (HW : Jvm.Lit.compactW.before aw Z = true) (hnt : "iri" ∉ Ts) :
    MetFree l (⟨"com/example/corollary/corollary/model/NamedClass", "<init>", "(Ljava/lang/String;)V"⟩ : MethodName) (head1 (Jvm.Cond.code (⟨"com/example/corollary/corollary/model/NamedClass", "<init>", "(Ljava/lang/String;)V"⟩ : MethodName) prog_11_method_1_code 2 none :: ws) ({ frames := 2, cells := 2, slots := 16, locals := 24 } : Room)) (fun a U => a = #[(.ref a0), (.ref a1)] ∧ Z.Warmed39 U.vm ∧ U.heap = h0 ∧ own_VI Z Ts U.vm) (fun _ _ _ _ _ => True) (fun _ U o U' => ∃ v L, o = .returned v ∧ Qnew5F Z a0 a1 Ts h0 n0 v U'.heap L U'.vm ∧ ReturnedEndW U o U' L ({ frames := 2, cells := 2, slots := 16, locals := 24 } : Room).cells ({ frames := 2, cells := 2, slots := 16, locals := 24 } : Room).slots) := by
  refine MetFree.of_bodySF (plainFor_of_name pn_6) hisR ?_
  intro p e s m args below meth c s₁ Bd hml0 hP hK
  obtain ⟨rfl, hZ, hh, hIB⟩ := hP
  have hx := Bd.exec
  have hby := Bd.bytes
  have hml : c.maxLocals = 2 := hml0
  have hown : s.vm.findClass "com/example/corollary/corollary/model/NamedClass" = some m.cls := findClass_of_methodNamed Bd.named
  have hnm := (name_of_methodNamed Bd.named Bd.method).1
  have X0 : Stand p l e ({ frames := 2, cells := 2, slots := 16, locals := 24 } : Room) s m #[(.ref a0), (.ref a1)] below meth c s₁ [] 0 0 := Stand.of_body Bd
  have e0 : s₁.heap = h0 := by rw [← hh, Bd.state]; rfl
  have N0 := Fr.nil n0
  have K0 : Keep h0 h0 [a0] := Keep.refl _ _
  refine own_by (A' := s₁.setTop (mkF m 0 #[.val (.ref a0), .val (.ref a1)] [])) (fun t k => castTop (ef_rmnew5F m a0 a1) k) ?_
  refine own_by (A' := s₁.setTop (mkF m 1 #[.val (.ref a0), .val (.ref a1)] [(.ref a0)])) (fun t kt => ?_) ?_
  · show Steps p.tables e below (s₁.setTop (mkF m 0 #[.val (.ref a0), .val (.ref a1)] [])) t
    refine XS.aloadN X0.here hx rfl (hb hby d5_0) rfl rfl ?_
    exact kt
  obtain ⟨_, _, ⟨T1, L1, k1, n1⟩, -, X1, ⟨Lc1, hQ1, l1, y1, z1⟩, st1⟩ := X0.specialBack hx (y := (⟨"java/lang/Record", "<init>", "()V"⟩ : MethodName)) rfl hown (mvT hZ (hw _ (List.mem_of_getElem? (i := 32) rfl))) (mvT hZ (hw _ (List.mem_of_getElem? (i := 33) rfl))) (mvT hZ (hw _ (List.mem_of_getElem? (i := 36) rfl))) (by decide) (backOf (W := 0) (rm6 l Z aw hw [] a0 h0 n0 (Nat.le_trans Z0 K0.1) ) hZ (hw _ (List.mem_of_getElem? (i := 36) rfl)) (hw _ (List.mem_of_getElem? (i := 35) rfl)) (by decide) (by decide)) (g := (mkF m 1 #[.val (.ref a0), .val (.ref a1)] [(.ref a0)])) rfl (by rw [hml]; rfl) (Steps.refl _) (a := a0) (argsL := []) (rest := []) (lenOf pd_7 rfl) rfl (by show 2 * 0 + _ ≤ _; exact Nat.le_of_eq rfl) (hb hby d5_1) (fun _ _ => ⟨rfl, e0, (by decide : 0 + 0 ≤ _), (by decide : 0 + 0 ≤ _)⟩)
  dsimp only [Pt.U, Pt.locs, Pt.cells, Pt.slots] at X1 l1 y1 z1 st1 hQ1
  subst l1 y1 z1
  obtain ⟨rfl, rfl, e1⟩ := hQ1
  have N1 := Fr.app N0 (Fr.nil n0)
  refine own_by (A' := T1.setTop (mkF m 4 #[.val (.ref a0), .val (.ref a1)] [])) (fun t kt => st1.trans kt) ?_
  refine own_by (A' := T1.setTop (mkF m 5 #[.val (.ref a0), .val (.ref a1)] [(.ref a1)])) (fun t kt => ?_) ?_
  · show Steps p.tables e below (T1.setTop (mkF m 4 #[.val (.ref a0), .val (.ref a1)] [])) t
    refine XS.aloadN X1.here hx rfl (hb hby d5_4) rfl rfl ?_
    exact kt
  obtain ⟨lt2, T2, h2, ks2, lb2, lk2, X2, e2, E2, hS2, hk2, hZ, hown, A2, FC2, FV2, AR2, -, -, IB2, Li_lt2, st2⟩ := Jvm.RoadKit.ldcSVL (s := s) (vm0 := s.vm) (Ts := Ts) X1 hx hZ hown (hw _ (List.mem_of_getElem? (i := 38) rfl)) (fun d hd => hw d ((by decide +kernel : ∀ d ∈ Bundle.stringAtoms, d ∈ tables_1) d hd)) e1 ((State.WarmedH.refl s).since 0) (Nat.zero_le _) (Fr.nil _) (fun b cl q => by rw [hh]; exact KZ b cl q) hIB hnt HC HW (vs := [.int (105 : Int32), .int (114 : Int32), .int (105 : Int32)]) (z := 3) ⟨by decide, rfl⟩ (by decide) rfl (g := (mkF m 5 #[.val (.ref a0), .val (.ref a1)] [(.ref a1)])) rfl (hb hby d5_5) (n := 12) (by decide) (by decide) (by decide) (by decide)
  have K2 : Keep h0 h2 [a0] := K0.ext E2
  refine own_by (A' := T2.setTop (mkF m 7 #[.val (.ref a0), .val (.ref a1)] [(.ref lt2), (.ref a1)])) (fun t kt => st2 t kt) ?_
  obtain ⟨_, _, ⟨T3, L3, k3, n3⟩, -, X3, ⟨Lc3, hQ3, l3, y3, z3⟩, st3⟩ := Jvm.LawKit.callS X2 hx (y := (⟨"java/util/Objects", "requireNonNull", "(Ljava/lang/Object;Ljava/lang/String;)Ljava/lang/Object;"⟩ : MethodName)) hown (mvT hZ (hw _ (List.mem_of_getElem? (i := 39) rfl))) (mvT hZ (hw _ (List.mem_of_getElem? (i := 40) rfl))) (mvT hZ (hw _ (List.mem_of_getElem? (i := 41) rfl))) (mvT hZ (hw _ (List.mem_of_getElem? (i := 42) rfl))) (by decide) (backOf (W := 0) (rm7 l Z aw hw [] a1 lt2 h2 n0 (Nat.le_trans Z0 K2.1) ) hZ (hw _ (List.mem_of_getElem? (i := 42) rfl)) (hw _ (List.mem_of_getElem? (i := 41) rfl)) (by decide) (by decide)) (g := (mkF m 7 #[.val (.ref a0), .val (.ref a1)] [(.ref lt2), (.ref a1)])) rfl (by rw [hml]; rfl) (argsL := [(.ref a1), (.ref lt2)]) (rest := []) (lenOf pd_8 rfl) rfl (by show 2 * 0 + _ ≤ _; exact Nat.le_of_eq rfl) (hb hby d5_7) (fun _ _ => ⟨rfl, e2, (by decide : 2 + 0 ≤ _), (by decide : 16 + 0 ≤ _)⟩)
  dsimp only [Pt.U, Pt.locs, Pt.cells, Pt.slots] at X3 l3 y3 z3 st3 hQ3
  subst l3 y3 z3
  obtain ⟨rfl, N3q, e3⟩ := hQ3
  have N3 := Fr.app N1 N3q
  refine own_by (A' := T3.setTop (mkF m 10 #[.val (.ref a0), .val (.ref a1)] [(.ref a1)])) (fun t kt => st3 t kt) ?_
  refine own_by (A' := T3.setTop (mkF m 13 #[.val (.ref a0), .val (.ref a1)] [(.ref a1), (.ref a0)])) (fun t kt => ?_) ?_
  · show Steps p.tables e below (T3.setTop (mkF m 10 #[.val (.ref a0), .val (.ref a1)] [(.ref a1)])) t
    refine XS.pop X3.here hx rfl (hb hby d5_10) rfl rfl ?_
    show Steps p.tables e below (T3.setTop (mkF m 11 #[.val (.ref a0), .val (.ref a1)] [])) t
    refine XS.aloadN X3.here hx rfl (hb hby d5_11) rfl rfl ?_
    show Steps p.tables e below (T3.setTop (mkF m 12 #[.val (.ref a0), .val (.ref a1)] [(.ref a0)])) t
    refine XS.aloadN X3.here hx rfl (hb hby d5_12) rfl rfl ?_
    exact kt
  obtain ⟨T4, h4, X4, e4, W4, st4⟩ := putF X3 hx hZ hown (host := "") (Or.inl (hw _ (List.mem_of_getElem? (i := 43) rfl))) Via.refl e3 (PF_iri.ext E2) (E_a0.ext E2) (Or.inr ⟨(hw _ (List.mem_of_getElem? (i := 44) rfl)), rfl, hnm⟩) (hw _ (List.mem_of_getElem? (i := 27) rfl)) (ty := (.object "java/lang/String")) (by decide) rfl rfl (g := (mkF m 13 #[.val (.ref a0), .val (.ref a1)] [(.ref a1), (.ref a0)])) rfl rfl (hb hby d5_13)
  have F4 := Fld.same W4 (PF_iri.ext E2)
  have N4 := Fr.snoc X4 N3 g_a0
  have gr4 := Nat.le_trans hk2 (Keep.of_wr W4).1
  have K4 : Keep h0 h4 [a0] := K2.wr W4 (Or.inl (List.mem_of_getElem? (i := 0) rfl))
  refine own_by (A' := T4.setTop (mkF m 16 #[.val (.ref a0), .val (.ref a1)] [])) (fun t kt => st4 t kt) ?_
  obtain ⟨fs, hr, hrun, hended, hEnd⟩ := X4.leaveW (s := s) hS2 (by rw [e4]; exact gr4) (v := none) (fun _ => rfl)
  refine ⟨_, _, ?_, hrun, hended, _, _, rfl, ?_, hEnd.1, hEnd.2.1, hEnd.2.2.1, hEnd.2.2.2.mono (by decide) (by decide)⟩
  · exact X4.returnOut hx Bd.returns (hb hby d5_16) hr
  · show Qnew5F Z a0 a1 Ts h0 n0 _ T4.heap _ T4.vm
    rw [e4]
    exact ⟨rfl, N4, K4, ((E_a0.ext E2).wr W4), F4, own_IBw X4.warmed IB2⟩
theorem ef_rmnew5S (m : MethodId) (a0 : Addr) (a1 : Addr) : entryFrame m #[(.ref a0), (.ref a1)] 2 = mkF m 0 #[.val (.ref a0), .val (.ref a1)] [] := by first | (simp [entryFrame, mkF, argsToLocals, Value.category]; done) | rfl
def Qnew5S (Z : State) (a0 : Addr) (a1 : Addr) (h0 : Heap) (n0 : Nat) (v : Option Value) (h : Heap) (L : List Loc) (vm : Vm) : Prop := v = none ∧ Fr n0 L ∧ Keep h0 h [a0] ∧ Exa Z h a0 "com/example/corollary/corollary/model/NamedClass" ∧ Fld Z h a0 "com/example/corollary/corollary/model/NamedClass" "iri" "Ljava/lang/String;" (.ref a1)
set_option maxRecDepth 65536 in
set_option maxHeartbeats 40000000 in
theorem rmnew5S (l : Launch) (Z : State) (aw : Array Value) (hw : ∀ d ∈ tables_1, d.before aw Z = true) (ws : List Jvm.Cond) (a0 : Addr) (a1 : Addr) (h0 : Heap) (n0 : Nat) (Z0 : n0 ≤ h0.size) (E_a0 : Exa Z h0 a0 "com/example/corollary/corollary/model/NamedClass") (PF_iri : Fld Z h0 a0 "com/example/corollary/corollary/model/NamedClass" "iri" "Ljava/lang/String;" .null) (g_a0 : n0 ≤ a0) :
    MetFree l (⟨"com/example/corollary/corollary/model/NamedClass", "<init>", "(Ljava/lang/String;)V"⟩ : MethodName) (head1 (Jvm.Cond.code (⟨"com/example/corollary/corollary/model/NamedClass", "<init>", "(Ljava/lang/String;)V"⟩ : MethodName) prog_11_method_1_code 2 none :: ws) ({ frames := 2, cells := 2, slots := 16, locals := 24 } : Room)) (fun a U => a = #[(.ref a0), (.ref a1)] ∧ Z.Warmed39 U.vm ∧ U.heap = h0 ∧ own_VT U.vm) (fun _ _ _ _ _ => True) (fun _ U o U' => ∃ v L, o = .returned v ∧ Qnew5S Z a0 a1 h0 n0 v U'.heap L U'.vm ∧ ReturnedEndW U o U' L ({ frames := 2, cells := 2, slots := 16, locals := 24 } : Room).cells ({ frames := 2, cells := 2, slots := 16, locals := 24 } : Room).slots) := by
  refine MetFree.of_bodySF (plainFor_of_name pn_6) hisR ?_
  intro p e s m args below meth c s₁ Bd hml0 hP hK
  obtain ⟨rfl, hZ, hh, -⟩ := hP
  have hx := Bd.exec
  have hby := Bd.bytes
  have hml : c.maxLocals = 2 := hml0
  have hown : s.vm.findClass "com/example/corollary/corollary/model/NamedClass" = some m.cls := findClass_of_methodNamed Bd.named
  have hnm := (name_of_methodNamed Bd.named Bd.method).1
  have X0 : Stand p l e ({ frames := 2, cells := 2, slots := 16, locals := 24 } : Room) s m #[(.ref a0), (.ref a1)] below meth c s₁ [] 0 0 := Stand.of_body Bd
  have e0 : s₁.heap = h0 := by rw [← hh, Bd.state]; rfl
  have N0 := Fr.nil n0
  have K0 : Keep h0 h0 [a0] := Keep.refl _ _
  refine own_by (A' := s₁.setTop (mkF m 0 #[.val (.ref a0), .val (.ref a1)] [])) (fun t k => castTop (ef_rmnew5S m a0 a1) k) ?_
  refine own_by (A' := s₁.setTop (mkF m 1 #[.val (.ref a0), .val (.ref a1)] [(.ref a0)])) (fun t kt => ?_) ?_
  · show Steps p.tables e below (s₁.setTop (mkF m 0 #[.val (.ref a0), .val (.ref a1)] [])) t
    refine XS.aloadN X0.here hx rfl (hb hby d5_0) rfl rfl ?_
    exact kt
  obtain ⟨_, _, ⟨T1, L1, k1, n1⟩, -, X1, ⟨Lc1, hQ1, l1, y1, z1⟩, st1⟩ := X0.specialBack hx (y := (⟨"java/lang/Record", "<init>", "()V"⟩ : MethodName)) rfl hown (mvT hZ (hw _ (List.mem_of_getElem? (i := 32) rfl))) (mvT hZ (hw _ (List.mem_of_getElem? (i := 33) rfl))) (mvT hZ (hw _ (List.mem_of_getElem? (i := 36) rfl))) (by decide) (backOf (W := 0) (rm6 l Z aw hw [] a0 h0 n0 (Nat.le_trans Z0 K0.1) ) hZ (hw _ (List.mem_of_getElem? (i := 36) rfl)) (hw _ (List.mem_of_getElem? (i := 35) rfl)) (by decide) (by decide)) (g := (mkF m 1 #[.val (.ref a0), .val (.ref a1)] [(.ref a0)])) rfl (by rw [hml]; rfl) (Steps.refl _) (a := a0) (argsL := []) (rest := []) (lenOf pd_7 rfl) rfl (by show 2 * 0 + _ ≤ _; exact Nat.le_of_eq rfl) (hb hby d5_1) (fun _ _ => ⟨rfl, e0, (by decide : 0 + 0 ≤ _), (by decide : 0 + 0 ≤ _)⟩)
  dsimp only [Pt.U, Pt.locs, Pt.cells, Pt.slots] at X1 l1 y1 z1 st1 hQ1
  subst l1 y1 z1
  obtain ⟨rfl, rfl, e1⟩ := hQ1
  have N1 := Fr.app N0 (Fr.nil n0)
  refine own_by (A' := T1.setTop (mkF m 4 #[.val (.ref a0), .val (.ref a1)] [])) (fun t kt => st1.trans kt) ?_
  refine own_by (A' := T1.setTop (mkF m 5 #[.val (.ref a0), .val (.ref a1)] [(.ref a1)])) (fun t kt => ?_) ?_
  · show Steps p.tables e below (T1.setTop (mkF m 4 #[.val (.ref a0), .val (.ref a1)] [])) t
    refine XS.aloadN X1.here hx rfl (hb hby d5_4) rfl rfl ?_
    exact kt
  obtain ⟨lt2, T2, h2, ks2, X2, e2, E2, hS2, hk2, hZ, hown, st2⟩ := Jvm.RoadKit.ldcS (s := s) (vm0 := s.vm) X1 hx hZ hown (hw _ (List.mem_of_getElem? (i := 38) rfl)) (fun d hd => hw d ((by decide +kernel : ∀ d ∈ Bundle.stringAtoms, d ∈ tables_1) d hd)) e1 ((State.WarmedH.refl s).since 0) (Nat.zero_le _) (g := (mkF m 5 #[.val (.ref a0), .val (.ref a1)] [(.ref a1)])) rfl (hb hby d5_5) (n := 12) (by decide) (by decide) (by decide) (by decide)
  have K2 : Keep h0 h2 [a0] := K0.ext E2
  refine own_by (A' := T2.setTop (mkF m 7 #[.val (.ref a0), .val (.ref a1)] [(.ref lt2), (.ref a1)])) (fun t kt => st2 t kt) ?_
  obtain ⟨_, _, ⟨T3, L3, k3, n3⟩, -, X3, ⟨Lc3, hQ3, l3, y3, z3⟩, st3⟩ := Jvm.LawKit.callS X2 hx (y := (⟨"java/util/Objects", "requireNonNull", "(Ljava/lang/Object;Ljava/lang/String;)Ljava/lang/Object;"⟩ : MethodName)) hown (mvT hZ (hw _ (List.mem_of_getElem? (i := 39) rfl))) (mvT hZ (hw _ (List.mem_of_getElem? (i := 40) rfl))) (mvT hZ (hw _ (List.mem_of_getElem? (i := 41) rfl))) (mvT hZ (hw _ (List.mem_of_getElem? (i := 42) rfl))) (by decide) (backOf (W := 0) (rm7 l Z aw hw [] a1 lt2 h2 n0 (Nat.le_trans Z0 K2.1) ) hZ (hw _ (List.mem_of_getElem? (i := 42) rfl)) (hw _ (List.mem_of_getElem? (i := 41) rfl)) (by decide) (by decide)) (g := (mkF m 7 #[.val (.ref a0), .val (.ref a1)] [(.ref lt2), (.ref a1)])) rfl (by rw [hml]; rfl) (argsL := [(.ref a1), (.ref lt2)]) (rest := []) (lenOf pd_8 rfl) rfl (by show 2 * 0 + _ ≤ _; exact Nat.le_of_eq rfl) (hb hby d5_7) (fun _ _ => ⟨rfl, e2, (by decide : 2 + 0 ≤ _), (by decide : 16 + 0 ≤ _)⟩)
  dsimp only [Pt.U, Pt.locs, Pt.cells, Pt.slots] at X3 l3 y3 z3 st3 hQ3
  subst l3 y3 z3
  obtain ⟨rfl, N3q, e3⟩ := hQ3
  have N3 := Fr.app N1 N3q
  refine own_by (A' := T3.setTop (mkF m 10 #[.val (.ref a0), .val (.ref a1)] [(.ref a1)])) (fun t kt => st3 t kt) ?_
  refine own_by (A' := T3.setTop (mkF m 13 #[.val (.ref a0), .val (.ref a1)] [(.ref a1), (.ref a0)])) (fun t kt => ?_) ?_
  · show Steps p.tables e below (T3.setTop (mkF m 10 #[.val (.ref a0), .val (.ref a1)] [(.ref a1)])) t
    refine XS.pop X3.here hx rfl (hb hby d5_10) rfl rfl ?_
    show Steps p.tables e below (T3.setTop (mkF m 11 #[.val (.ref a0), .val (.ref a1)] [])) t
    refine XS.aloadN X3.here hx rfl (hb hby d5_11) rfl rfl ?_
    show Steps p.tables e below (T3.setTop (mkF m 12 #[.val (.ref a0), .val (.ref a1)] [(.ref a0)])) t
    refine XS.aloadN X3.here hx rfl (hb hby d5_12) rfl rfl ?_
    exact kt
  obtain ⟨T4, h4, X4, e4, W4, st4⟩ := putF X3 hx hZ hown (host := "") (Or.inl (hw _ (List.mem_of_getElem? (i := 43) rfl))) Via.refl e3 (PF_iri.ext E2) (E_a0.ext E2) (Or.inr ⟨(hw _ (List.mem_of_getElem? (i := 44) rfl)), rfl, hnm⟩) (hw _ (List.mem_of_getElem? (i := 27) rfl)) (ty := (.object "java/lang/String")) (by decide) rfl rfl (g := (mkF m 13 #[.val (.ref a0), .val (.ref a1)] [(.ref a1), (.ref a0)])) rfl rfl (hb hby d5_13)
  have F4 := Fld.same W4 (PF_iri.ext E2)
  have N4 := Fr.snoc X4 N3 g_a0
  have gr4 := Nat.le_trans hk2 (Keep.of_wr W4).1
  have K4 : Keep h0 h4 [a0] := K2.wr W4 (Or.inl (List.mem_of_getElem? (i := 0) rfl))
  refine own_by (A' := T4.setTop (mkF m 16 #[.val (.ref a0), .val (.ref a1)] [])) (fun t kt => st4 t kt) ?_
  obtain ⟨fs, hr, hrun, hended, hEnd⟩ := X4.leaveW (s := s) hS2 (by rw [e4]; exact gr4) (v := none) (fun _ => rfl)
  refine ⟨_, _, ?_, hrun, hended, _, _, rfl, ?_, hEnd.1, hEnd.2.1, hEnd.2.2.1, hEnd.2.2.2.mono (by decide) (by decide)⟩
  · exact X4.returnOut hx Bd.returns (hb hby d5_16) hr
  · show Qnew5S Z a0 a1 h0 n0 _ T4.heap _ T4.vm
    rw [e4]
    exact ⟨rfl, N4, K4, ((E_a0.ext E2).wr W4), F4⟩
theorem pn_9 : plainName "com/example/corollary/corollary/model/ObjectProperty" = true := by first | (simp [plainName, overriddenIn]; done) | decide +kernel
theorem d15_0 : decode prog_20_method_1_code 0 = .ok (.aload_n 0, 1) := by decide +kernel
theorem d15_1 : decode prog_20_method_1_code 1 = .ok (.invokespecial 1, 3) := by decide +kernel
theorem d15_4 : decode prog_20_method_1_code 4 = .ok (.aload_n 1, 1) := by decide +kernel
theorem d15_5 : decode prog_20_method_1_code 5 = .ok (.ldc 7, 2) := by decide +kernel
theorem d15_7 : decode prog_20_method_1_code 7 = .ok (.invokestatic 9, 3) := by decide +kernel
theorem d15_10 : decode prog_20_method_1_code 10 = .ok (.pop, 1) := by decide +kernel
theorem d15_11 : decode prog_20_method_1_code 11 = .ok (.aload_n 0, 1) := by decide +kernel
theorem d15_12 : decode prog_20_method_1_code 12 = .ok (.aload_n 1, 1) := by decide +kernel
theorem d15_13 : decode prog_20_method_1_code 13 = .ok (.putfield 15, 3) := by decide +kernel
theorem d15_16 : decode prog_20_method_1_code 16 = .ok (.return_, 1) := by decide +kernel
theorem ef_rmnew15S (m : MethodId) (a0 : Addr) (a1 : Addr) : entryFrame m #[(.ref a0), (.ref a1)] 2 = mkF m 0 #[.val (.ref a0), .val (.ref a1)] [] := by first | (simp [entryFrame, mkF, argsToLocals, Value.category]; done) | rfl
def Qnew15S (Z : State) (a0 : Addr) (a1 : Addr) (h0 : Heap) (n0 : Nat) (v : Option Value) (h : Heap) (L : List Loc) (vm : Vm) : Prop := v = none ∧ Fr n0 L ∧ Keep h0 h [a0] ∧ Exa Z h a0 "com/example/corollary/corollary/model/ObjectProperty" ∧ Fld Z h a0 "com/example/corollary/corollary/model/ObjectProperty" "iri" "Ljava/lang/String;" (.ref a1)
set_option maxRecDepth 65536 in
set_option maxHeartbeats 40000000 in
theorem rmnew15S (l : Launch) (Z : State) (aw : Array Value) (hw : ∀ d ∈ tables_1, d.before aw Z = true) (ws : List Jvm.Cond) (a0 : Addr) (a1 : Addr) (h0 : Heap) (n0 : Nat) (Z0 : n0 ≤ h0.size) (E_a0 : Exa Z h0 a0 "com/example/corollary/corollary/model/ObjectProperty") (PF_iri : Fld Z h0 a0 "com/example/corollary/corollary/model/ObjectProperty" "iri" "Ljava/lang/String;" .null) (g_a0 : n0 ≤ a0) :
    MetFree l (⟨"com/example/corollary/corollary/model/ObjectProperty", "<init>", "(Ljava/lang/String;)V"⟩ : MethodName) (head1 (Jvm.Cond.code (⟨"com/example/corollary/corollary/model/ObjectProperty", "<init>", "(Ljava/lang/String;)V"⟩ : MethodName) prog_20_method_1_code 2 none :: ws) ({ frames := 2, cells := 2, slots := 16, locals := 24 } : Room)) (fun a U => a = #[(.ref a0), (.ref a1)] ∧ Z.Warmed39 U.vm ∧ U.heap = h0 ∧ own_VT U.vm) (fun _ _ _ _ _ => True) (fun _ U o U' => ∃ v L, o = .returned v ∧ Qnew15S Z a0 a1 h0 n0 v U'.heap L U'.vm ∧ ReturnedEndW U o U' L ({ frames := 2, cells := 2, slots := 16, locals := 24 } : Room).cells ({ frames := 2, cells := 2, slots := 16, locals := 24 } : Room).slots) := by
  refine MetFree.of_bodySF (plainFor_of_name pn_9) hisR ?_
  intro p e s m args below meth c s₁ Bd hml0 hP hK
  obtain ⟨rfl, hZ, hh, -⟩ := hP
  have hx := Bd.exec
  have hby := Bd.bytes
  have hml : c.maxLocals = 2 := hml0
  have hown : s.vm.findClass "com/example/corollary/corollary/model/ObjectProperty" = some m.cls := findClass_of_methodNamed Bd.named
  have hnm := (name_of_methodNamed Bd.named Bd.method).1
  have X0 : Stand p l e ({ frames := 2, cells := 2, slots := 16, locals := 24 } : Room) s m #[(.ref a0), (.ref a1)] below meth c s₁ [] 0 0 := Stand.of_body Bd
  have e0 : s₁.heap = h0 := by rw [← hh, Bd.state]; rfl
  have N0 := Fr.nil n0
  have K0 : Keep h0 h0 [a0] := Keep.refl _ _
  refine own_by (A' := s₁.setTop (mkF m 0 #[.val (.ref a0), .val (.ref a1)] [])) (fun t k => castTop (ef_rmnew15S m a0 a1) k) ?_
  refine own_by (A' := s₁.setTop (mkF m 1 #[.val (.ref a0), .val (.ref a1)] [(.ref a0)])) (fun t kt => ?_) ?_
  · show Steps p.tables e below (s₁.setTop (mkF m 0 #[.val (.ref a0), .val (.ref a1)] [])) t
    refine XS.aloadN X0.here hx rfl (hb hby d15_0) rfl rfl ?_
    exact kt
  obtain ⟨_, _, ⟨T1, L1, k1, n1⟩, -, X1, ⟨Lc1, hQ1, l1, y1, z1⟩, st1⟩ := X0.specialBack hx (y := (⟨"java/lang/Record", "<init>", "()V"⟩ : MethodName)) rfl hown (mvT hZ (hw _ (List.mem_of_getElem? (i := 84) rfl))) (mvT hZ (hw _ (List.mem_of_getElem? (i := 33) rfl))) (mvT hZ (hw _ (List.mem_of_getElem? (i := 36) rfl))) (by decide) (backOf (W := 0) (rm6 l Z aw hw [] a0 h0 n0 (Nat.le_trans Z0 K0.1) ) hZ (hw _ (List.mem_of_getElem? (i := 36) rfl)) (hw _ (List.mem_of_getElem? (i := 35) rfl)) (by decide) (by decide)) (g := (mkF m 1 #[.val (.ref a0), .val (.ref a1)] [(.ref a0)])) rfl (by rw [hml]; rfl) (Steps.refl _) (a := a0) (argsL := []) (rest := []) (lenOf pd_7 rfl) rfl (by show 2 * 0 + _ ≤ _; exact Nat.le_of_eq rfl) (hb hby d15_1) (fun _ _ => ⟨rfl, e0, (by decide : 0 + 0 ≤ _), (by decide : 0 + 0 ≤ _)⟩)
  dsimp only [Pt.U, Pt.locs, Pt.cells, Pt.slots] at X1 l1 y1 z1 st1 hQ1
  subst l1 y1 z1
  obtain ⟨rfl, rfl, e1⟩ := hQ1
  have N1 := Fr.app N0 (Fr.nil n0)
  refine own_by (A' := T1.setTop (mkF m 4 #[.val (.ref a0), .val (.ref a1)] [])) (fun t kt => st1.trans kt) ?_
  refine own_by (A' := T1.setTop (mkF m 5 #[.val (.ref a0), .val (.ref a1)] [(.ref a1)])) (fun t kt => ?_) ?_
  · show Steps p.tables e below (T1.setTop (mkF m 4 #[.val (.ref a0), .val (.ref a1)] [])) t
    refine XS.aloadN X1.here hx rfl (hb hby d15_4) rfl rfl ?_
    exact kt
  obtain ⟨lt2, T2, h2, ks2, X2, e2, E2, hS2, hk2, hZ, hown, st2⟩ := Jvm.RoadKit.ldcS (s := s) (vm0 := s.vm) X1 hx hZ hown (hw _ (List.mem_of_getElem? (i := 85) rfl)) (fun d hd => hw d ((by decide +kernel : ∀ d ∈ Bundle.stringAtoms, d ∈ tables_1) d hd)) e1 ((State.WarmedH.refl s).since 0) (Nat.zero_le _) (g := (mkF m 5 #[.val (.ref a0), .val (.ref a1)] [(.ref a1)])) rfl (hb hby d15_5) (n := 12) (by decide) (by decide) (by decide) (by decide)
  have K2 : Keep h0 h2 [a0] := K0.ext E2
  refine own_by (A' := T2.setTop (mkF m 7 #[.val (.ref a0), .val (.ref a1)] [(.ref lt2), (.ref a1)])) (fun t kt => st2 t kt) ?_
  obtain ⟨_, _, ⟨T3, L3, k3, n3⟩, -, X3, ⟨Lc3, hQ3, l3, y3, z3⟩, st3⟩ := Jvm.LawKit.callS X2 hx (y := (⟨"java/util/Objects", "requireNonNull", "(Ljava/lang/Object;Ljava/lang/String;)Ljava/lang/Object;"⟩ : MethodName)) hown (mvT hZ (hw _ (List.mem_of_getElem? (i := 86) rfl))) (mvT hZ (hw _ (List.mem_of_getElem? (i := 40) rfl))) (mvT hZ (hw _ (List.mem_of_getElem? (i := 41) rfl))) (mvT hZ (hw _ (List.mem_of_getElem? (i := 42) rfl))) (by decide) (backOf (W := 0) (rm7 l Z aw hw [] a1 lt2 h2 n0 (Nat.le_trans Z0 K2.1) ) hZ (hw _ (List.mem_of_getElem? (i := 42) rfl)) (hw _ (List.mem_of_getElem? (i := 41) rfl)) (by decide) (by decide)) (g := (mkF m 7 #[.val (.ref a0), .val (.ref a1)] [(.ref lt2), (.ref a1)])) rfl (by rw [hml]; rfl) (argsL := [(.ref a1), (.ref lt2)]) (rest := []) (lenOf pd_8 rfl) rfl (by show 2 * 0 + _ ≤ _; exact Nat.le_of_eq rfl) (hb hby d15_7) (fun _ _ => ⟨rfl, e2, (by decide : 2 + 0 ≤ _), (by decide : 16 + 0 ≤ _)⟩)
  dsimp only [Pt.U, Pt.locs, Pt.cells, Pt.slots] at X3 l3 y3 z3 st3 hQ3
  subst l3 y3 z3
  obtain ⟨rfl, N3q, e3⟩ := hQ3
  have N3 := Fr.app N1 N3q
  refine own_by (A' := T3.setTop (mkF m 10 #[.val (.ref a0), .val (.ref a1)] [(.ref a1)])) (fun t kt => st3 t kt) ?_
  refine own_by (A' := T3.setTop (mkF m 13 #[.val (.ref a0), .val (.ref a1)] [(.ref a1), (.ref a0)])) (fun t kt => ?_) ?_
  · show Steps p.tables e below (T3.setTop (mkF m 10 #[.val (.ref a0), .val (.ref a1)] [(.ref a1)])) t
    refine XS.pop X3.here hx rfl (hb hby d15_10) rfl rfl ?_
    show Steps p.tables e below (T3.setTop (mkF m 11 #[.val (.ref a0), .val (.ref a1)] [])) t
    refine XS.aloadN X3.here hx rfl (hb hby d15_11) rfl rfl ?_
    show Steps p.tables e below (T3.setTop (mkF m 12 #[.val (.ref a0), .val (.ref a1)] [(.ref a0)])) t
    refine XS.aloadN X3.here hx rfl (hb hby d15_12) rfl rfl ?_
    exact kt
  obtain ⟨T4, h4, X4, e4, W4, st4⟩ := putF X3 hx hZ hown (host := "") (Or.inl (hw _ (List.mem_of_getElem? (i := 87) rfl))) Via.refl e3 (PF_iri.ext E2) (E_a0.ext E2) (Or.inr ⟨(hw _ (List.mem_of_getElem? (i := 88) rfl)), rfl, hnm⟩) (hw _ (List.mem_of_getElem? (i := 79) rfl)) (ty := (.object "java/lang/String")) (by decide) rfl rfl (g := (mkF m 13 #[.val (.ref a0), .val (.ref a1)] [(.ref a1), (.ref a0)])) rfl rfl (hb hby d15_13)
  have F4 := Fld.same W4 (PF_iri.ext E2)
  have N4 := Fr.snoc X4 N3 g_a0
  have gr4 := Nat.le_trans hk2 (Keep.of_wr W4).1
  have K4 : Keep h0 h4 [a0] := K2.wr W4 (Or.inl (List.mem_of_getElem? (i := 0) rfl))
  refine own_by (A' := T4.setTop (mkF m 16 #[.val (.ref a0), .val (.ref a1)] [])) (fun t kt => st4 t kt) ?_
  obtain ⟨fs, hr, hrun, hended, hEnd⟩ := X4.leaveW (s := s) hS2 (by rw [e4]; exact gr4) (v := none) (fun _ => rfl)
  refine ⟨_, _, ?_, hrun, hended, _, _, rfl, ?_, hEnd.1, hEnd.2.1, hEnd.2.2.1, hEnd.2.2.2.mono (by decide) (by decide)⟩
  · exact X4.returnOut hx Bd.returns (hb hby d15_16) hr
  · show Qnew15S Z a0 a1 h0 n0 _ T4.heap _ T4.vm
    rw [e4]
    exact ⟨rfl, N4, K4, ((E_a0.ext E2).wr W4), F4⟩
def own_eqr (cs ds : List Int32) : Int32 := (if (if cs = ds then (1 : Int32) else (0 : Int32)) = (0 : Int32) then (0 : Int32) else (1 : Int32))
theorem pd_10 : parseMethodDescriptor "(Ljava/lang/Object;)Z" = some ⟨[(.object "java/lang/Object")], some .boolean⟩ := by decide +kernel
theorem d8_0 : decode prog_11_method_2_code 0 = .ok (.aload_n 1, 1) := by decide +kernel
theorem d8_1 : decode prog_11_method_2_code 1 = .ok (.instanceof 16, 3) := by decide +kernel
theorem d8_4 : decode prog_11_method_2_code 4 = .ok (.ifCond .eq 26, 3) := by decide +kernel
theorem d8_7 : decode prog_11_method_2_code 7 = .ok (.aload_n 1, 1) := by decide +kernel
theorem d8_8 : decode prog_11_method_2_code 8 = .ok (.checkcast 16, 3) := by decide +kernel
theorem d8_11 : decode prog_11_method_2_code 11 = .ok (.astore_n 2, 1) := by decide +kernel
theorem d8_12 : decode prog_11_method_2_code 12 = .ok (.aload_n 0, 1) := by decide +kernel
theorem d8_13 : decode prog_11_method_2_code 13 = .ok (.getfield 15, 3) := by decide +kernel
theorem d8_16 : decode prog_11_method_2_code 16 = .ok (.aload_n 2, 1) := by decide +kernel
theorem d8_17 : decode prog_11_method_2_code 17 = .ok (.getfield 15, 3) := by decide +kernel
theorem d8_20 : decode prog_11_method_2_code 20 = .ok (.invokevirtual 20, 3) := by decide +kernel
theorem d8_23 : decode prog_11_method_2_code 23 = .ok (.ifCond .eq 7, 3) := by decide +kernel
theorem d8_26 : decode prog_11_method_2_code 26 = .ok (.iconst 1, 1) := by decide +kernel
theorem d8_27 : decode prog_11_method_2_code 27 = .ok (.goto 4, 3) := by decide +kernel
theorem d8_30 : decode prog_11_method_2_code 30 = .ok (.iconst 0, 1) := by decide +kernel
theorem d8_31 : decode prog_11_method_2_code 31 = .ok (.ireturn, 1) := by decide +kernel
theorem ef_rmeqN (m : MethodId) (a0 : Addr) (a1 : Addr) : entryFrame m #[(.ref a0), (.ref a1)] 3 = mkF m 0 #[.val (.ref a0), .val (.ref a1), .unset] [] := by first | (simp [entryFrame, mkF, argsToLocals, Value.category]; done) | rfl
def QeqN (Z : State) (a0 : Addr) (a1 : Addr) (sa : Addr) (sb : Addr) (cs : List Int32) (ds : List Int32) (G1 : Int32) (h0 : Heap) (n0 : Nat) (v : Option Value) (h : Heap) (L : List Loc) : Prop := v = some (.int (own_eqr cs ds)) ∧ Fr n0 L ∧ h = h0
set_option maxRecDepth 65536 in
set_option maxHeartbeats 40000000 in
theorem rmeqN (l : Launch) (Z : State) (aw : Array Value) (hw : ∀ d ∈ tables_1, d.before aw Z = true) (ws : List Jvm.Cond) (a0 : Addr) (a1 : Addr) (sa : Addr) (sb : Addr) (cs : List Int32) (ds : List Int32) (G1 : Int32) (h0 : Heap) (n0 : Nat) (Z0 : n0 ≤ h0.size) (F_0 : Fld Z h0 a0 "com/example/corollary/corollary/model/NamedClass" "iri" "Ljava/lang/String;" (.ref sa)) (E_1 : Exa Z h0 a1 "com/example/corollary/corollary/model/NamedClass") (F_1 : Fld Z h0 a1 "com/example/corollary/corollary/model/NamedClass" "iri" "Ljava/lang/String;" (.ref sb)) (O_1 : own_OS Z h0 sa cs) (O_2 : own_OS Z h0 sb ds) (hbc : ∀ c ∈ cs, ¬ c < 0 ∧ ¬ (255 : Int32) < c) (hbd : ∀ c ∈ ds, ¬ c < 0 ∧ ¬ (255 : Int32) < c) (hl1 : cs.length ≤ 4000) (hl2 : ds.length ≤ 4000) (S_cs : Sta Z h0 "java/lang/String" "COMPACT_STRINGS" "Z" (.int G1)) (P5 : ¬ (G1 = (0 : Int32))) :
    MetFree l (⟨"com/example/corollary/corollary/model/NamedClass", "equals", "(Ljava/lang/Object;)Z"⟩ : MethodName) (head1 (Jvm.Cond.code (⟨"com/example/corollary/corollary/model/NamedClass", "equals", "(Ljava/lang/Object;)Z"⟩ : MethodName) prog_11_method_2_code 3 (some .boolean) :: ws) ({ frames := 2, cells := 0, slots := 0, locals := 28 } : Room)) (fun a U => a = #[(.ref a0), (.ref a1)] ∧ Z.Warmed39 U.vm ∧ U.heap = h0) (fun _ _ _ _ _ => True) (fun _ U o U' => ∃ v L, o = .returned v ∧ QeqN Z a0 a1 sa sb cs ds G1 h0 n0 v U'.heap L ∧ FrameEnd U o U' L ({ frames := 2, cells := 0, slots := 0, locals := 28 } : Room).cells ({ frames := 2, cells := 0, slots := 0, locals := 28 } : Room).slots) := by
  refine MetFree.of_bodySF (plainFor_of_name pn_6) hisR ?_
  intro p e s m args below meth c s₁ Bd hml0 hP hK
  obtain ⟨rfl, hZ, hh⟩ := hP
  have hx := Bd.exec
  have hby := Bd.bytes
  have hml : c.maxLocals = 3 := hml0
  have hown : s.vm.findClass "com/example/corollary/corollary/model/NamedClass" = some m.cls := findClass_of_methodNamed Bd.named
  have hnm := (name_of_methodNamed Bd.named Bd.method).1
  have X0 : Stand p l e ({ frames := 2, cells := 0, slots := 0, locals := 28 } : Room) s m #[(.ref a0), (.ref a1)] below meth c s₁ [] 0 0 := Stand.of_body Bd
  have e0 : s₁.heap = h0 := by rw [← hh, Bd.state]; rfl
  have N0 := Fr.nil n0
  have K0 : Keep h0 h0 [] := Keep.refl _ _
  refine own_by (A' := s₁.setTop (mkF m 0 #[.val (.ref a0), .val (.ref a1), .unset] [])) (fun t k => castTop (ef_rmeqN m a0 a1) k) ?_
  obtain ⟨t1, kb1, EA1, FV1, FC1, AV1⟩ := O_1
  obtain ⟨t2, kb2, EA2, FV2, FC2, AV2⟩ := O_2
  have hwe : ∀ d ∈ StrChars.Road.wordsEq, d.before aw Z = true := fun d hd => hw d ((by decide +kernel : ∀ d ∈ StrChars.Road.wordsEq, d ∈ tables_1) d hd)
  refine own_by (A' := s₁.setTop (mkF m 1 #[.val (.ref a0), .val (.ref a1), .unset] [(.ref a1)])) (fun t kt => ?_) ?_
  · show Steps p.tables e below (s₁.setTop (mkF m 0 #[.val (.ref a0), .val (.ref a1), .unset] [])) t
    refine XS.aloadN X0.here hx rfl (hb hby d8_0) rfl rfl ?_
    exact kt
  obtain ⟨T1, X1, e1, st1⟩ := instY X0 hx hZ hown (hw _ (List.mem_of_getElem? (i := 50) rfl)) e0 (Ins.self E_1) (g := (mkF m 1 #[.val (.ref a0), .val (.ref a1), .unset] [(.ref a1)])) rfl rfl (hb hby d8_1)
  refine own_by (A' := T1.setTop (mkF m 4 #[.val (.ref a0), .val (.ref a1), .unset] [(.int (1 : Int32))])) (fun t kt => st1 t kt) ?_
  have hc4_2 : ¬ ((1 : Int32) = (0 : Int32)) := by decide
  refine own_by (A' := T1.setTop (mkF m 8 #[.val (.ref a0), .val (.ref a1), .unset] [(.ref a1)])) (fun t kt => ?_) ?_
  · show Steps p.tables e below (T1.setTop (mkF m 4 #[.val (.ref a0), .val (.ref a1), .unset] [(.int (1 : Int32))])) t
    refine XS.ifNo X1.here hx rfl (hb hby d8_4) rfl ((if0 _ _).trans (feq hc4_2).1) ?_
    show Steps p.tables e below (T1.setTop (mkF m 7 #[.val (.ref a0), .val (.ref a1), .unset] [])) t
    refine XS.aloadN X1.here hx rfl (hb hby d8_7) rfl rfl ?_
    exact kt
  obtain ⟨T3, X3, e3, st3⟩ := castY X1 hx hZ hown (hw _ (List.mem_of_getElem? (i := 50) rfl)) e1 (Ins.self E_1) (g := (mkF m 8 #[.val (.ref a0), .val (.ref a1), .unset] [(.ref a1)])) rfl rfl (hb hby d8_8)
  refine own_by (A' := T3.setTop (mkF m 11 #[.val (.ref a0), .val (.ref a1), .unset] [(.ref a1)])) (fun t kt => st3 t kt) ?_
  refine own_by (A' := T3.setTop (mkF m 13 #[.val (.ref a0), .val (.ref a1), .val (.ref a1)] [(.ref a0)])) (fun t kt => ?_) ?_
  · show Steps p.tables e below (T3.setTop (mkF m 11 #[.val (.ref a0), .val (.ref a1), .unset] [(.ref a1)])) t
    refine XS.astoreN X3.here hx rfl (hb hby d8_11) rfl rfl (l' := #[.val (.ref a0), .val (.ref a1), .val (.ref a1)]) rfl ?_
    show Steps p.tables e below (T3.setTop (mkF m 12 #[.val (.ref a0), .val (.ref a1), .val (.ref a1)] [])) t
    refine XS.aloadN X3.here hx rfl (hb hby d8_12) rfl rfl ?_
    exact kt
  obtain ⟨T4, X4, e4, st4⟩ := getF X3 hx hZ hown (host := "") (Or.inl (hw _ (List.mem_of_getElem? (i := 43) rfl))) Via.refl e3 F_0 (g := (mkF m 13 #[.val (.ref a0), .val (.ref a1), .val (.ref a1)] [(.ref a0)])) rfl rfl (hb hby d8_13)
  refine own_by (A' := T4.setTop (mkF m 16 #[.val (.ref a0), .val (.ref a1), .val (.ref a1)] [(.ref sa)])) (fun t kt => st4 t kt) ?_
  refine own_by (A' := T4.setTop (mkF m 17 #[.val (.ref a0), .val (.ref a1), .val (.ref a1)] [(.ref a1), (.ref sa)])) (fun t kt => ?_) ?_
  · show Steps p.tables e below (T4.setTop (mkF m 16 #[.val (.ref a0), .val (.ref a1), .val (.ref a1)] [(.ref sa)])) t
    refine XS.aloadN X4.here hx rfl (hb hby d8_16) rfl rfl ?_
    exact kt
  obtain ⟨T5, X5, e5, st5⟩ := getF X4 hx hZ hown (host := "") (Or.inl (hw _ (List.mem_of_getElem? (i := 43) rfl))) Via.refl e4 F_1 (g := (mkF m 17 #[.val (.ref a0), .val (.ref a1), .val (.ref a1)] [(.ref a1), (.ref sa)])) rfl rfl (hb hby d8_17)
  refine own_by (A' := T5.setTop (mkF m 20 #[.val (.ref a0), .val (.ref a1), .val (.ref a1)] [(.ref sb), (.ref sa)])) (fun t kt => st5 t kt) ?_
  obtain ⟨cq6, kq6, q6a, q6b, q6c⟩ := isOf hZ e5 EA1
  obtain ⟨_, _, ⟨T6, L6, k6, n6⟩, -, X6, ⟨Lc6, hQ6, l6, y6, z6⟩, st6⟩ := X5.virtualBack hx (y := (⟨"java/lang/String", "equals", "(Ljava/lang/Object;)Z"⟩ : MethodName)) (z := (⟨"java/lang/String", "equals", "(Ljava/lang/Object;)Z"⟩ : MethodName)) hown (mvT hZ (hw _ (List.mem_of_getElem? (i := 52) rfl))) (mvT hZ (hw _ (List.mem_of_getElem? (i := 53) rfl))) (notFace_of_selects (args := #[]) (mvT hZ (hw _ (List.mem_of_getElem? (i := 55) rfl)))) (mvT hZ (hw _ (List.mem_of_getElem? (i := 55) rfl))) (mvT hZ (hw _ (List.mem_of_getElem? (i := 54) rfl))) (by decide) (StrChars.Road.eqW (W := 0) hZ hwe (kI := 4) (hw _ (List.mem_of_getElem? (i := 5) rfl)) EA1 FV1 FC1 AV1 (StrChars.Road.codOf rfl (fun c hc => (hbc c hc).2)) (own_up _ hbc) hl1 EA2 FV2 FC2 AV2 (StrChars.Road.codOf rfl (fun c hc => (hbd c hc).2)) (own_up _ hbd) hl2 S_cs P5 (by decide) (by decide)) q6a q6c (g := (mkF m 20 #[.val (.ref a0), .val (.ref a1), .val (.ref a1)] [(.ref sb), (.ref sa)])) rfl (by rw [hml]; rfl) (Steps.refl _) (argsL := [(.ref sb)]) (rest := []) (lenOf pd_10 rfl) rfl (by show 2 * 0 + _ ≤ _; exact Nat.le_of_eq rfl) (hb hby d8_20) (fun _ _ => ⟨rfl, e5, (by decide : 0 + 0 ≤ _), (by decide : 0 + 0 ≤ _)⟩)
  dsimp only [Pt.U, Pt.locs, Pt.cells, Pt.slots] at X6 l6 y6 z6 st6 hQ6
  subst l6 y6 z6
  obtain ⟨hv6, rfl, e6⟩ := hQ6
  obtain rfl := own_eqv hv6
  have N6 := Fr.app N0 (Fr.nil n0)
  refine own_by (A' := T6.setTop (mkF m 23 #[.val (.ref a0), .val (.ref a1), .val (.ref a1)] [(.int (if cs = ds then (1 : Int32) else (0 : Int32)))])) (fun t kt => st6.trans kt) ?_
  by_cases hc23_7 : (if cs = ds then (1 : Int32) else (0 : Int32)) = (0 : Int32)
  · refine own_by (A' := T6.setTop (mkF m 31 #[.val (.ref a0), .val (.ref a1), .val (.ref a1)] [(.int (0 : Int32))])) (fun t kt => ?_) ?_
    · show Steps p.tables e below (T6.setTop (mkF m 23 #[.val (.ref a0), .val (.ref a1), .val (.ref a1)] [(.int (if cs = ds then (1 : Int32) else (0 : Int32)))])) t
      refine XS.ifYes X6.here hx rfl (pc0 := 23) (pc' := 30) rfl (hb hby d8_23) rfl ((if0 _ _).trans (teq hc23_7).1) (by decide) (by decide) ?_
      show Steps p.tables e below (T6.setTop (mkF m 30 #[.val (.ref a0), .val (.ref a1), .val (.ref a1)] [])) t
      refine XS.iconst X6.here hx rfl (hb hby d8_30) ?_
      exact kt
    obtain ⟨fs, hr, hrun, hended, hW, hsame⟩ := X6.leave (v := some (.int (0 : Int32))) (fun h => by rw [Bd.returns] at h; cases h)
    refine ⟨_, _, ?_, hrun, hended, _, _, rfl, ?_, ⟨_, rfl⟩, hW, hsame.mono (by decide) (by decide)⟩
    · exact retN X6 hx (t := .boolean) Bd.returns (by simp) (hb hby d8_31) hr
    · show QeqN Z a0 a1 sa sb cs ds G1 h0 n0 _ T6.heap _
      rw [e6]
      exact ⟨(by rw [own_eqr, if_pos hc23_7]), N6, rfl⟩
  · refine own_by (A' := T6.setTop (mkF m 31 #[.val (.ref a0), .val (.ref a1), .val (.ref a1)] [(.int (1 : Int32))])) (fun t kt => ?_) ?_
    · show Steps p.tables e below (T6.setTop (mkF m 23 #[.val (.ref a0), .val (.ref a1), .val (.ref a1)] [(.int (if cs = ds then (1 : Int32) else (0 : Int32)))])) t
      refine XS.ifNo X6.here hx rfl (hb hby d8_23) rfl ((if0 _ _).trans (feq hc23_7).1) ?_
      show Steps p.tables e below (T6.setTop (mkF m 26 #[.val (.ref a0), .val (.ref a1), .val (.ref a1)] [])) t
      refine XS.iconst X6.here hx rfl (hb hby d8_26) ?_
      show Steps p.tables e below (T6.setTop (mkF m 27 #[.val (.ref a0), .val (.ref a1), .val (.ref a1)] [(.int (1 : Int32))])) t
      refine XS.goto X6.here hx rfl (pc0 := 27) (pc' := 31) rfl (hb hby d8_27) (by decide) (by decide) ?_
      exact kt
    obtain ⟨fs, hr, hrun, hended, hW, hsame⟩ := X6.leave (v := some (.int (1 : Int32))) (fun h => by rw [Bd.returns] at h; cases h)
    refine ⟨_, _, ?_, hrun, hended, _, _, rfl, ?_, ⟨_, rfl⟩, hW, hsame.mono (by decide) (by decide)⟩
    · exact retN X6 hx (t := .boolean) Bd.returns (by simp) (hb hby d8_31) hr
    · show QeqN Z a0 a1 sa sb cs ds G1 h0 n0 _ T6.heap _
      rw [e6]
      exact ⟨(by rw [own_eqr, if_neg hc23_7]), N6, rfl⟩
def own_fEqN  : Int32 := (0 : Int32)
theorem ef_rmEqN (m : MethodId) (a0 : Addr) : entryFrame m #[(.ref a0), .null] 3 = mkF m 0 #[.val (.ref a0), .val .null, .unset] [] := by first | (simp [entryFrame, mkF, argsToLocals, Value.category]; done) | rfl
def QEqN (Z : State) (a0 : Addr) (h0 : Heap) (n0 : Nat) (v : Option Value) (h : Heap) (L : List Loc) : Prop := v = some (.int (own_fEqN)) ∧ Fr n0 L ∧ h = h0
set_option maxRecDepth 65536 in
set_option maxHeartbeats 40000000 in
theorem rmEqN (l : Launch) (Z : State) (aw : Array Value) (hw : ∀ d ∈ tables_1, d.before aw Z = true) (ws : List Jvm.Cond) (a0 : Addr) (h0 : Heap) (n0 : Nat) (Z0 : n0 ≤ h0.size) :
    MetFree l (⟨"com/example/corollary/corollary/model/NamedClass", "equals", "(Ljava/lang/Object;)Z"⟩ : MethodName) (head1 (Jvm.Cond.code (⟨"com/example/corollary/corollary/model/NamedClass", "equals", "(Ljava/lang/Object;)Z"⟩ : MethodName) prog_11_method_2_code 3 (some .boolean) :: ws) ({ frames := 0, cells := 0, slots := 0, locals := 0 } : Room)) (fun a U => a = #[(.ref a0), .null] ∧ Z.Warmed39 U.vm ∧ U.heap = h0) (fun _ _ _ _ _ => True) (fun _ U o U' => ∃ v L, o = .returned v ∧ QEqN Z a0 h0 n0 v U'.heap L ∧ FrameEnd U o U' L ({ frames := 0, cells := 0, slots := 0, locals := 0 } : Room).cells ({ frames := 0, cells := 0, slots := 0, locals := 0 } : Room).slots) := by
  refine MetFree.of_bodySF (plainFor_of_name pn_6) hisR ?_
  intro p e s m args below meth c s₁ Bd hml0 hP hK
  obtain ⟨rfl, hZ, hh⟩ := hP
  have hx := Bd.exec
  have hby := Bd.bytes
  have hml : c.maxLocals = 3 := hml0
  have hown : s.vm.findClass "com/example/corollary/corollary/model/NamedClass" = some m.cls := findClass_of_methodNamed Bd.named
  have hnm := (name_of_methodNamed Bd.named Bd.method).1
  have X0 : Stand p l e ({ frames := 0, cells := 0, slots := 0, locals := 0 } : Room) s m #[(.ref a0), .null] below meth c s₁ [] 0 0 := Stand.of_body Bd
  have e0 : s₁.heap = h0 := by rw [← hh, Bd.state]; rfl
  have N0 := Fr.nil n0
  have K0 : Keep h0 h0 [] := Keep.refl _ _
  refine own_by (A' := s₁.setTop (mkF m 0 #[.val (.ref a0), .val .null, .unset] [])) (fun t k => castTop (ef_rmEqN m a0) k) ?_
  refine own_by (A' := s₁.setTop (mkF m 1 #[.val (.ref a0), .val .null, .unset] [.null])) (fun t kt => ?_) ?_
  · show Steps p.tables e below (s₁.setTop (mkF m 0 #[.val (.ref a0), .val .null, .unset] [])) t
    refine XS.aloadN X0.here hx rfl (hb hby d8_0) rfl rfl ?_
    exact kt
  refine own_by (A' := s₁.setTop (mkF m 4 #[.val (.ref a0), .val .null, .unset] [(.int (0 : Int32))])) (fun t kt => ?_) ?_
  · show Steps p.tables e below (s₁.setTop (mkF m 1 #[.val (.ref a0), .val .null, .unset] [.null])) t
    refine X0.instanceofNull hx (g := (mkF m 1 #[.val (.ref a0), .val .null, .unset] [.null])) rfl rfl (hb hby d8_1) _ ?_
    exact kt
  have hc4_2 : (0 : Int32) = (0 : Int32) := by decide
  refine own_by (A' := s₁.setTop (mkF m 31 #[.val (.ref a0), .val .null, .unset] [(.int (0 : Int32))])) (fun t kt => ?_) ?_
  · show Steps p.tables e below (s₁.setTop (mkF m 4 #[.val (.ref a0), .val .null, .unset] [(.int (0 : Int32))])) t
    refine XS.ifYes X0.here hx rfl (pc0 := 4) (pc' := 30) rfl (hb hby d8_4) rfl ((if0 _ _).trans (teq hc4_2).1) (by decide) (by decide) ?_
    show Steps p.tables e below (s₁.setTop (mkF m 30 #[.val (.ref a0), .val .null, .unset] [])) t
    refine XS.iconst X0.here hx rfl (hb hby d8_30) ?_
    exact kt
  obtain ⟨fs, hr, hrun, hended, hW, hsame⟩ := X0.leave (v := some (.int (0 : Int32))) (fun h => by rw [Bd.returns] at h; cases h)
  refine ⟨_, _, ?_, hrun, hended, _, _, rfl, ?_, ⟨_, rfl⟩, hW, hsame.mono (by decide) (by decide)⟩
  · exact retN X0 hx (t := .boolean) Bd.returns (by simp) (hb hby d8_31) hr
  · show QEqN Z a0 h0 n0 _ s₁.heap _
    rw [e0]
    exact ⟨rfl, N0, rfl⟩
def own_fEqS  : Int32 := (0 : Int32)
theorem ef_rmEqS (m : MethodId) (a0 : Addr) (a1 : Addr) : entryFrame m #[(.ref a0), (.ref a1)] 3 = mkF m 0 #[.val (.ref a0), .val (.ref a1), .unset] [] := by first | (simp [entryFrame, mkF, argsToLocals, Value.category]; done) | rfl
def QEqS (Z : State) (a0 : Addr) (a1 : Addr) (h0 : Heap) (n0 : Nat) (v : Option Value) (h : Heap) (L : List Loc) : Prop := v = some (.int (own_fEqS)) ∧ Fr n0 L ∧ h = h0
set_option maxRecDepth 65536 in
set_option maxHeartbeats 40000000 in
theorem rmEqS (l : Launch) (Z : State) (aw : Array Value) (hw : ∀ d ∈ tables_1, d.before aw Z = true) (ws : List Jvm.Cond) (a0 : Addr) (a1 : Addr) (h0 : Heap) (n0 : Nat) (Z0 : n0 ≤ h0.size) (E_a1 : Exa Z h0 a1 "java/lang/String") :
    MetFree l (⟨"com/example/corollary/corollary/model/NamedClass", "equals", "(Ljava/lang/Object;)Z"⟩ : MethodName) (head1 (Jvm.Cond.code (⟨"com/example/corollary/corollary/model/NamedClass", "equals", "(Ljava/lang/Object;)Z"⟩ : MethodName) prog_11_method_2_code 3 (some .boolean) :: ws) ({ frames := 0, cells := 0, slots := 0, locals := 0 } : Room)) (fun a U => a = #[(.ref a0), (.ref a1)] ∧ Z.Warmed39 U.vm ∧ U.heap = h0) (fun _ _ _ _ _ => True) (fun _ U o U' => ∃ v L, o = .returned v ∧ QEqS Z a0 a1 h0 n0 v U'.heap L ∧ FrameEnd U o U' L ({ frames := 0, cells := 0, slots := 0, locals := 0 } : Room).cells ({ frames := 0, cells := 0, slots := 0, locals := 0 } : Room).slots) := by
  refine MetFree.of_bodySF (plainFor_of_name pn_6) hisR ?_
  intro p e s m args below meth c s₁ Bd hml0 hP hK
  obtain ⟨rfl, hZ, hh⟩ := hP
  have hx := Bd.exec
  have hby := Bd.bytes
  have hml : c.maxLocals = 3 := hml0
  have hown : s.vm.findClass "com/example/corollary/corollary/model/NamedClass" = some m.cls := findClass_of_methodNamed Bd.named
  have hnm := (name_of_methodNamed Bd.named Bd.method).1
  have X0 : Stand p l e ({ frames := 0, cells := 0, slots := 0, locals := 0 } : Room) s m #[(.ref a0), (.ref a1)] below meth c s₁ [] 0 0 := Stand.of_body Bd
  have e0 : s₁.heap = h0 := by rw [← hh, Bd.state]; rfl
  have N0 := Fr.nil n0
  have K0 : Keep h0 h0 [] := Keep.refl _ _
  refine own_by (A' := s₁.setTop (mkF m 0 #[.val (.ref a0), .val (.ref a1), .unset] [])) (fun t k => castTop (ef_rmEqS m a0 a1) k) ?_
  refine own_by (A' := s₁.setTop (mkF m 1 #[.val (.ref a0), .val (.ref a1), .unset] [(.ref a1)])) (fun t kt => ?_) ?_
  · show Steps p.tables e below (s₁.setTop (mkF m 0 #[.val (.ref a0), .val (.ref a1), .unset] [])) t
    refine XS.aloadN X0.here hx rfl (hb hby d8_0) rfl rfl ?_
    exact kt
  obtain ⟨T1, X1, e1, st1⟩ := instNo X0 hx hZ hown (hw _ (List.mem_of_getElem? (i := 50) rfl)) e0 E_a1 (own_notS hw) (g := (mkF m 1 #[.val (.ref a0), .val (.ref a1), .unset] [(.ref a1)])) rfl rfl (hb hby d8_1)
  refine own_by (A' := T1.setTop (mkF m 4 #[.val (.ref a0), .val (.ref a1), .unset] [(.int (0 : Int32))])) (fun t kt => st1 t kt) ?_
  have hc4_2 : (0 : Int32) = (0 : Int32) := by decide
  refine own_by (A' := T1.setTop (mkF m 31 #[.val (.ref a0), .val (.ref a1), .unset] [(.int (0 : Int32))])) (fun t kt => ?_) ?_
  · show Steps p.tables e below (T1.setTop (mkF m 4 #[.val (.ref a0), .val (.ref a1), .unset] [(.int (0 : Int32))])) t
    refine XS.ifYes X1.here hx rfl (pc0 := 4) (pc' := 30) rfl (hb hby d8_4) rfl ((if0 _ _).trans (teq hc4_2).1) (by decide) (by decide) ?_
    show Steps p.tables e below (T1.setTop (mkF m 30 #[.val (.ref a0), .val (.ref a1), .unset] [])) t
    refine XS.iconst X1.here hx rfl (hb hby d8_30) ?_
    exact kt
  obtain ⟨fs, hr, hrun, hended, hW, hsame⟩ := X1.leave (v := some (.int (0 : Int32))) (fun h => by rw [Bd.returns] at h; cases h)
  refine ⟨_, _, ?_, hrun, hended, _, _, rfl, ?_, ⟨_, rfl⟩, hW, hsame.mono (by decide) (by decide)⟩
  · exact retN X1 hx (t := .boolean) Bd.returns (by simp) (hb hby d8_31) hr
  · show QEqS Z a0 a1 h0 n0 _ T1.heap _
    rw [e1]
    exact ⟨rfl, N0, rfl⟩
def own_fEqO  : Int32 := (0 : Int32)
theorem ef_rmEqO (m : MethodId) (a0 : Addr) (a1 : Addr) : entryFrame m #[(.ref a0), (.ref a1)] 3 = mkF m 0 #[.val (.ref a0), .val (.ref a1), .unset] [] := by first | (simp [entryFrame, mkF, argsToLocals, Value.category]; done) | rfl
def QEqO (Z : State) (a0 : Addr) (a1 : Addr) (h0 : Heap) (n0 : Nat) (v : Option Value) (h : Heap) (L : List Loc) : Prop := v = some (.int (own_fEqO)) ∧ Fr n0 L ∧ h = h0
set_option maxRecDepth 65536 in
set_option maxHeartbeats 40000000 in
theorem rmEqO (l : Launch) (Z : State) (aw : Array Value) (hw : ∀ d ∈ tables_1, d.before aw Z = true) (ws : List Jvm.Cond) (a0 : Addr) (a1 : Addr) (h0 : Heap) (n0 : Nat) (Z0 : n0 ≤ h0.size) (E_a1 : Exa Z h0 a1 "com/example/corollary/corollary/model/ObjectProperty") :
    MetFree l (⟨"com/example/corollary/corollary/model/NamedClass", "equals", "(Ljava/lang/Object;)Z"⟩ : MethodName) (head1 (Jvm.Cond.code (⟨"com/example/corollary/corollary/model/NamedClass", "equals", "(Ljava/lang/Object;)Z"⟩ : MethodName) prog_11_method_2_code 3 (some .boolean) :: ws) ({ frames := 0, cells := 0, slots := 0, locals := 0 } : Room)) (fun a U => a = #[(.ref a0), (.ref a1)] ∧ Z.Warmed39 U.vm ∧ U.heap = h0) (fun _ _ _ _ _ => True) (fun _ U o U' => ∃ v L, o = .returned v ∧ QEqO Z a0 a1 h0 n0 v U'.heap L ∧ FrameEnd U o U' L ({ frames := 0, cells := 0, slots := 0, locals := 0 } : Room).cells ({ frames := 0, cells := 0, slots := 0, locals := 0 } : Room).slots) := by
  refine MetFree.of_bodySF (plainFor_of_name pn_6) hisR ?_
  intro p e s m args below meth c s₁ Bd hml0 hP hK
  obtain ⟨rfl, hZ, hh⟩ := hP
  have hx := Bd.exec
  have hby := Bd.bytes
  have hml : c.maxLocals = 3 := hml0
  have hown : s.vm.findClass "com/example/corollary/corollary/model/NamedClass" = some m.cls := findClass_of_methodNamed Bd.named
  have hnm := (name_of_methodNamed Bd.named Bd.method).1
  have X0 : Stand p l e ({ frames := 0, cells := 0, slots := 0, locals := 0 } : Room) s m #[(.ref a0), (.ref a1)] below meth c s₁ [] 0 0 := Stand.of_body Bd
  have e0 : s₁.heap = h0 := by rw [← hh, Bd.state]; rfl
  have N0 := Fr.nil n0
  have K0 : Keep h0 h0 [] := Keep.refl _ _
  refine own_by (A' := s₁.setTop (mkF m 0 #[.val (.ref a0), .val (.ref a1), .unset] [])) (fun t k => castTop (ef_rmEqO m a0 a1) k) ?_
  refine own_by (A' := s₁.setTop (mkF m 1 #[.val (.ref a0), .val (.ref a1), .unset] [(.ref a1)])) (fun t kt => ?_) ?_
  · show Steps p.tables e below (s₁.setTop (mkF m 0 #[.val (.ref a0), .val (.ref a1), .unset] [])) t
    refine XS.aloadN X0.here hx rfl (hb hby d8_0) rfl rfl ?_
    exact kt
  obtain ⟨T1, X1, e1, st1⟩ := instNo X0 hx hZ hown (hw _ (List.mem_of_getElem? (i := 50) rfl)) e0 E_a1 (own_notO hw) (g := (mkF m 1 #[.val (.ref a0), .val (.ref a1), .unset] [(.ref a1)])) rfl rfl (hb hby d8_1)
  refine own_by (A' := T1.setTop (mkF m 4 #[.val (.ref a0), .val (.ref a1), .unset] [(.int (0 : Int32))])) (fun t kt => st1 t kt) ?_
  have hc4_2 : (0 : Int32) = (0 : Int32) := by decide
  refine own_by (A' := T1.setTop (mkF m 31 #[.val (.ref a0), .val (.ref a1), .unset] [(.int (0 : Int32))])) (fun t kt => ?_) ?_
  · show Steps p.tables e below (T1.setTop (mkF m 4 #[.val (.ref a0), .val (.ref a1), .unset] [(.int (0 : Int32))])) t
    refine XS.ifYes X1.here hx rfl (pc0 := 4) (pc' := 30) rfl (hb hby d8_4) rfl ((if0 _ _).trans (teq hc4_2).1) (by decide) (by decide) ?_
    show Steps p.tables e below (T1.setTop (mkF m 30 #[.val (.ref a0), .val (.ref a1), .unset] [])) t
    refine XS.iconst X1.here hx rfl (hb hby d8_30) ?_
    exact kt
  obtain ⟨fs, hr, hrun, hended, hW, hsame⟩ := X1.leave (v := some (.int (0 : Int32))) (fun h => by rw [Bd.returns] at h; cases h)
  refine ⟨_, _, ?_, hrun, hended, _, _, rfl, ?_, ⟨_, rfl⟩, hW, hsame.mono (by decide) (by decide)⟩
  · exact retN X1 hx (t := .boolean) Bd.returns (by simp) (hb hby d8_31) hr
  · show QEqO Z a0 a1 h0 n0 _ T1.heap _
    rw [e1]
    exact ⟨rfl, N0, rfl⟩
theorem own_eqrS (cs : List Int32) : own_eqr cs cs = 1 := by
  simp [own_eqr]
theorem own_final {n m : Int32} (hn : n = 0 ∨ n = 1 ∨ n = 2 ∨ n = 3) (hm : m = 0 ∨ m = 1 ∨ m = 2 ∨ m = 3) (a b c d e f : Int32) : own_eqr (own_cs n a b c) (own_cs m d e f) = own_f14 n a b c m d e f := by
  rcases hn with rfl | rfl | rfl | rfl <;> rcases hm with rfl | rfl | rfl | rfl <;> simp only [own_eqr, own_cs, own_f14] <;> simp <;> (try (repeat' split)) <;> simp_all
theorem pd_11 : parseMethodDescriptor "(ICCC)Ljava/lang/String;" = some ⟨[.int, .char, .char, .char], some (.object "java/lang/String")⟩ := by decide +kernel
theorem pd_12 : parseMethodDescriptor "(Ljava/lang/String;)V" = some ⟨[(.object "java/lang/String")], none⟩ := by decide +kernel
theorem pd_13 : parseMethodDescriptor "(ICCCICCC)Z" = some ⟨[.int, .char, .char, .char, .int, .char, .char, .char], some .boolean⟩ := by decide +kernel
theorem ef_rm0 (m : MethodId) (p0 : Int32) (p1 : Int32) (p2 : Int32) : entryFrame m #[(.int p0), (.int p1), (.int p2)] maxLocals = mkF m 0 #[.val (.int p0), .val (.int p1), .val (.int p2), .unset, .unset, .unset, .unset, .unset, .unset, .unset, .unset, .unset, .unset, .unset, .unset, .unset] [] := by first | (simp [entryFrame, mkF, argsToLocals, Value.category, maxLocals]; done) | rfl
def Q0 (Z : State) (p0 : Int32) (p1 : Int32) (p2 : Int32) (G1 : Int32) (h0 : Heap) (n0 : Nat) (v : Option Value) (h : Heap) (L : List Loc) (vm : Vm) : Prop := v = some (.int 1) ∧ Fr n0 L
set_option maxRecDepth 65536 in
set_option maxHeartbeats 40000000 in
theorem rm0 (l : Launch) (Z : State) (aw : Array Value) (hw : ∀ d ∈ tables_1, d.before aw Z = true) (ws : List Jvm.Cond) (p0 : Int32) (p1 : Int32) (p2 : Int32) (G1 : Int32) (h0 : Heap) (n0 : Nat) (Z0 : n0 ≤ h0.size) (S_cs : Sta Z h0 "java/lang/String" "COMPACT_STRINGS" "Z" (.int G1)) (P5 : ¬ (G1 = (0 : Int32))) (hZh : Z.heap = h0) (HCS : Jvm.Lit.constHeld Z "java/lang/String" 7) (HCN : Jvm.Lit.constHeld Z "com/example/corollary/corollary/model/NamedClass" 7) (HW : Jvm.Lit.compactW.before aw Z = true) :
    MetFree l x (head1 (Jvm.Cond.code x code maxLocals ret :: ws) room_1) (fun a U => a = #[(.int p0), (.int p1), (.int p2)] ∧ Z.Warmed39 U.vm ∧ U.heap = h0 ∧ own_VI Z [] U.vm) (fun _ _ _ _ _ => True) (fun _ U o U' => ∃ v L, o = .returned v ∧ Q0 Z p0 p1 p2 G1 h0 n0 v U'.heap L U'.vm ∧ ReturnedEndW U o U' L 13 54) := by
  refine MetFree.of_bodySF (plainFor_of_name pn_2) hisR ?_
  intro p e s m args below meth c s₁ Bd hml0 hP hK
  obtain ⟨rfl, hZ, hh, hIB⟩ := hP
  have hx := Bd.exec
  have hby := Bd.bytes
  have hml : c.maxLocals = 16 := hml0
  have hown : s.vm.findClass "com/example/corollary/corollary/model/NamedClassEqualsPinLaw" = some m.cls := findClass_of_methodNamed Bd.named
  have hnm := (name_of_methodNamed Bd.named Bd.method).1
  have X0 : Stand p l e room_1 s m #[(.int p0), (.int p1), (.int p2)] below meth c s₁ [] 0 0 := Stand.of_body Bd
  have e0 : s₁.heap = h0 := by rw [← hh, Bd.state]; rfl
  have N0 := Fr.nil n0
  have K0 : Keep h0 h0 [] := Keep.refl _ _
  refine own_by (A' := s₁.setTop (mkF m 0 #[.val (.int p0), .val (.int p1), .val (.int p2), .unset, .unset, .unset, .unset, .unset, .unset, .unset, .unset, .unset, .unset, .unset, .unset, .unset] [])) (fun t k => castTop (ef_rm0 m p0 p1 p2) k) ?_
  refine own_by (A' := s₁.setTop (mkF m 75 #[.val (.int p0), .val (.int p1), .val (.int p2), .val (.int (((p0.toUInt32 >>> ((24 : Int32) &&& 31).toUInt32).toInt32) &&& (3 : Int32))), .val (.int ((p0 &&& (255 : Int32)).toUInt32.toUInt16.toUInt32.toInt32)), .val (.int ((((p0.toUInt32 >>> ((8 : Int32) &&& 31).toUInt32).toInt32) &&& (255 : Int32)).toUInt32.toUInt16.toUInt32.toInt32)), .val (.int ((((p0.toUInt32 >>> ((16 : Int32) &&& 31).toUInt32).toInt32) &&& (255 : Int32)).toUInt32.toUInt16.toUInt32.toInt32)), .val (.int (((p1.toUInt32 >>> ((24 : Int32) &&& 31).toUInt32).toInt32) &&& (3 : Int32))), .val (.int ((p1 &&& (255 : Int32)).toUInt32.toUInt16.toUInt32.toInt32)), .val (.int ((((p1.toUInt32 >>> ((8 : Int32) &&& 31).toUInt32).toInt32) &&& (255 : Int32)).toUInt32.toUInt16.toUInt32.toInt32)), .val (.int ((((p1.toUInt32 >>> ((16 : Int32) &&& 31).toUInt32).toInt32) &&& (255 : Int32)).toUInt32.toUInt16.toUInt32.toInt32)), .unset, .unset, .unset, .unset, .unset] [])) (fun t kt => ?_) ?_
  · show Steps p.tables e below (s₁.setTop (mkF m 0 #[.val (.int p0), .val (.int p1), .val (.int p2), .unset, .unset, .unset, .unset, .unset, .unset, .unset, .unset, .unset, .unset, .unset, .unset, .unset] [])) t
    refine XS.iloadN X0.here hx rfl (hb hby at_0) rfl ?_
    show Steps p.tables e below (s₁.setTop (mkF m 1 #[.val (.int p0), .val (.int p1), .val (.int p2), .unset, .unset, .unset, .unset, .unset, .unset, .unset, .unset, .unset, .unset, .unset, .unset, .unset] [(.int p0)])) t
    refine XS.bipush X0.here hx rfl (hb hby at_1) ?_
    show Steps p.tables e below (s₁.setTop (mkF m 3 #[.val (.int p0), .val (.int p1), .val (.int p2), .unset, .unset, .unset, .unset, .unset, .unset, .unset, .unset, .unset, .unset, .unset, .unset, .unset] [(.int (24 : Int32)), (.int p0)])) t
    refine XS.iushr X0.here hx rfl (hb hby at_3) rfl ?_
    show Steps p.tables e below (s₁.setTop (mkF m 4 #[.val (.int p0), .val (.int p1), .val (.int p2), .unset, .unset, .unset, .unset, .unset, .unset, .unset, .unset, .unset, .unset, .unset, .unset, .unset] [(.int ((p0.toUInt32 >>> ((24 : Int32) &&& 31).toUInt32).toInt32))])) t
    refine XS.iconst X0.here hx rfl (hb hby at_4) ?_
    show Steps p.tables e below (s₁.setTop (mkF m 5 #[.val (.int p0), .val (.int p1), .val (.int p2), .unset, .unset, .unset, .unset, .unset, .unset, .unset, .unset, .unset, .unset, .unset, .unset, .unset] [(.int (3 : Int32)), (.int ((p0.toUInt32 >>> ((24 : Int32) &&& 31).toUInt32).toInt32))])) t
    refine XS.iand X0.here hx rfl (hb hby at_5) rfl ?_
    show Steps p.tables e below (s₁.setTop (mkF m 6 #[.val (.int p0), .val (.int p1), .val (.int p2), .unset, .unset, .unset, .unset, .unset, .unset, .unset, .unset, .unset, .unset, .unset, .unset, .unset] [(.int (((p0.toUInt32 >>> ((24 : Int32) &&& 31).toUInt32).toInt32) &&& (3 : Int32)))])) t
    refine XS.istoreN X0.here hx rfl (hb hby at_6) rfl (l' := #[.val (.int p0), .val (.int p1), .val (.int p2), .val (.int (((p0.toUInt32 >>> ((24 : Int32) &&& 31).toUInt32).toInt32) &&& (3 : Int32))), .unset, .unset, .unset, .unset, .unset, .unset, .unset, .unset, .unset, .unset, .unset, .unset]) rfl ?_
    show Steps p.tables e below (s₁.setTop (mkF m 7 #[.val (.int p0), .val (.int p1), .val (.int p2), .val (.int (((p0.toUInt32 >>> ((24 : Int32) &&& 31).toUInt32).toInt32) &&& (3 : Int32))), .unset, .unset, .unset, .unset, .unset, .unset, .unset, .unset, .unset, .unset, .unset, .unset] [])) t
    refine XS.iloadN X0.here hx rfl (hb hby at_7) rfl ?_
    show Steps p.tables e below (s₁.setTop (mkF m 8 #[.val (.int p0), .val (.int p1), .val (.int p2), .val (.int (((p0.toUInt32 >>> ((24 : Int32) &&& 31).toUInt32).toInt32) &&& (3 : Int32))), .unset, .unset, .unset, .unset, .unset, .unset, .unset, .unset, .unset, .unset, .unset, .unset] [(.int p0)])) t
    refine XS.sipush X0.here hx rfl (hb hby at_8) ?_
    show Steps p.tables e below (s₁.setTop (mkF m 11 #[.val (.int p0), .val (.int p1), .val (.int p2), .val (.int (((p0.toUInt32 >>> ((24 : Int32) &&& 31).toUInt32).toInt32) &&& (3 : Int32))), .unset, .unset, .unset, .unset, .unset, .unset, .unset, .unset, .unset, .unset, .unset, .unset] [(.int (255 : Int32)), (.int p0)])) t
    refine XS.iand X0.here hx rfl (hb hby at_11) rfl ?_
    show Steps p.tables e below (s₁.setTop (mkF m 12 #[.val (.int p0), .val (.int p1), .val (.int p2), .val (.int (((p0.toUInt32 >>> ((24 : Int32) &&& 31).toUInt32).toInt32) &&& (3 : Int32))), .unset, .unset, .unset, .unset, .unset, .unset, .unset, .unset, .unset, .unset, .unset, .unset] [(.int (p0 &&& (255 : Int32)))])) t
    refine XS.i2c X0.here hx rfl (hb hby at_12) rfl ?_
    show Steps p.tables e below (s₁.setTop (mkF m 13 #[.val (.int p0), .val (.int p1), .val (.int p2), .val (.int (((p0.toUInt32 >>> ((24 : Int32) &&& 31).toUInt32).toInt32) &&& (3 : Int32))), .unset, .unset, .unset, .unset, .unset, .unset, .unset, .unset, .unset, .unset, .unset, .unset] [(.int ((p0 &&& (255 : Int32)).toUInt32.toUInt16.toUInt32.toInt32))])) t
    refine XS.istore X0.here hx rfl (hb hby at_13) rfl (l' := #[.val (.int p0), .val (.int p1), .val (.int p2), .val (.int (((p0.toUInt32 >>> ((24 : Int32) &&& 31).toUInt32).toInt32) &&& (3 : Int32))), .val (.int ((p0 &&& (255 : Int32)).toUInt32.toUInt16.toUInt32.toInt32)), .unset, .unset, .unset, .unset, .unset, .unset, .unset, .unset, .unset, .unset, .unset]) rfl ?_
    show Steps p.tables e below (s₁.setTop (mkF m 15 #[.val (.int p0), .val (.int p1), .val (.int p2), .val (.int (((p0.toUInt32 >>> ((24 : Int32) &&& 31).toUInt32).toInt32) &&& (3 : Int32))), .val (.int ((p0 &&& (255 : Int32)).toUInt32.toUInt16.toUInt32.toInt32)), .unset, .unset, .unset, .unset, .unset, .unset, .unset, .unset, .unset, .unset, .unset] [])) t
    refine XS.iloadN X0.here hx rfl (hb hby at_15) rfl ?_
    show Steps p.tables e below (s₁.setTop (mkF m 16 #[.val (.int p0), .val (.int p1), .val (.int p2), .val (.int (((p0.toUInt32 >>> ((24 : Int32) &&& 31).toUInt32).toInt32) &&& (3 : Int32))), .val (.int ((p0 &&& (255 : Int32)).toUInt32.toUInt16.toUInt32.toInt32)), .unset, .unset, .unset, .unset, .unset, .unset, .unset, .unset, .unset, .unset, .unset] [(.int p0)])) t
    refine XS.bipush X0.here hx rfl (hb hby at_16) ?_
    show Steps p.tables e below (s₁.setTop (mkF m 18 #[.val (.int p0), .val (.int p1), .val (.int p2), .val (.int (((p0.toUInt32 >>> ((24 : Int32) &&& 31).toUInt32).toInt32) &&& (3 : Int32))), .val (.int ((p0 &&& (255 : Int32)).toUInt32.toUInt16.toUInt32.toInt32)), .unset, .unset, .unset, .unset, .unset, .unset, .unset, .unset, .unset, .unset, .unset] [(.int (8 : Int32)), (.int p0)])) t
    refine XS.iushr X0.here hx rfl (hb hby at_18) rfl ?_
    show Steps p.tables e below (s₁.setTop (mkF m 19 #[.val (.int p0), .val (.int p1), .val (.int p2), .val (.int (((p0.toUInt32 >>> ((24 : Int32) &&& 31).toUInt32).toInt32) &&& (3 : Int32))), .val (.int ((p0 &&& (255 : Int32)).toUInt32.toUInt16.toUInt32.toInt32)), .unset, .unset, .unset, .unset, .unset, .unset, .unset, .unset, .unset, .unset, .unset] [(.int ((p0.toUInt32 >>> ((8 : Int32) &&& 31).toUInt32).toInt32))])) t
    refine XS.sipush X0.here hx rfl (hb hby at_19) ?_
    show Steps p.tables e below (s₁.setTop (mkF m 22 #[.val (.int p0), .val (.int p1), .val (.int p2), .val (.int (((p0.toUInt32 >>> ((24 : Int32) &&& 31).toUInt32).toInt32) &&& (3 : Int32))), .val (.int ((p0 &&& (255 : Int32)).toUInt32.toUInt16.toUInt32.toInt32)), .unset, .unset, .unset, .unset, .unset, .unset, .unset, .unset, .unset, .unset, .unset] [(.int (255 : Int32)), (.int ((p0.toUInt32 >>> ((8 : Int32) &&& 31).toUInt32).toInt32))])) t
    refine XS.iand X0.here hx rfl (hb hby at_22) rfl ?_
    show Steps p.tables e below (s₁.setTop (mkF m 23 #[.val (.int p0), .val (.int p1), .val (.int p2), .val (.int (((p0.toUInt32 >>> ((24 : Int32) &&& 31).toUInt32).toInt32) &&& (3 : Int32))), .val (.int ((p0 &&& (255 : Int32)).toUInt32.toUInt16.toUInt32.toInt32)), .unset, .unset, .unset, .unset, .unset, .unset, .unset, .unset, .unset, .unset, .unset] [(.int (((p0.toUInt32 >>> ((8 : Int32) &&& 31).toUInt32).toInt32) &&& (255 : Int32)))])) t
    refine XS.i2c X0.here hx rfl (hb hby at_23) rfl ?_
    show Steps p.tables e below (s₁.setTop (mkF m 24 #[.val (.int p0), .val (.int p1), .val (.int p2), .val (.int (((p0.toUInt32 >>> ((24 : Int32) &&& 31).toUInt32).toInt32) &&& (3 : Int32))), .val (.int ((p0 &&& (255 : Int32)).toUInt32.toUInt16.toUInt32.toInt32)), .unset, .unset, .unset, .unset, .unset, .unset, .unset, .unset, .unset, .unset, .unset] [(.int ((((p0.toUInt32 >>> ((8 : Int32) &&& 31).toUInt32).toInt32) &&& (255 : Int32)).toUInt32.toUInt16.toUInt32.toInt32))])) t
    refine XS.istore X0.here hx rfl (hb hby at_24) rfl (l' := #[.val (.int p0), .val (.int p1), .val (.int p2), .val (.int (((p0.toUInt32 >>> ((24 : Int32) &&& 31).toUInt32).toInt32) &&& (3 : Int32))), .val (.int ((p0 &&& (255 : Int32)).toUInt32.toUInt16.toUInt32.toInt32)), .val (.int ((((p0.toUInt32 >>> ((8 : Int32) &&& 31).toUInt32).toInt32) &&& (255 : Int32)).toUInt32.toUInt16.toUInt32.toInt32)), .unset, .unset, .unset, .unset, .unset, .unset, .unset, .unset, .unset, .unset]) rfl ?_
    show Steps p.tables e below (s₁.setTop (mkF m 26 #[.val (.int p0), .val (.int p1), .val (.int p2), .val (.int (((p0.toUInt32 >>> ((24 : Int32) &&& 31).toUInt32).toInt32) &&& (3 : Int32))), .val (.int ((p0 &&& (255 : Int32)).toUInt32.toUInt16.toUInt32.toInt32)), .val (.int ((((p0.toUInt32 >>> ((8 : Int32) &&& 31).toUInt32).toInt32) &&& (255 : Int32)).toUInt32.toUInt16.toUInt32.toInt32)), .unset, .unset, .unset, .unset, .unset, .unset, .unset, .unset, .unset, .unset] [])) t
    refine XS.iloadN X0.here hx rfl (hb hby at_26) rfl ?_
    show Steps p.tables e below (s₁.setTop (mkF m 27 #[.val (.int p0), .val (.int p1), .val (.int p2), .val (.int (((p0.toUInt32 >>> ((24 : Int32) &&& 31).toUInt32).toInt32) &&& (3 : Int32))), .val (.int ((p0 &&& (255 : Int32)).toUInt32.toUInt16.toUInt32.toInt32)), .val (.int ((((p0.toUInt32 >>> ((8 : Int32) &&& 31).toUInt32).toInt32) &&& (255 : Int32)).toUInt32.toUInt16.toUInt32.toInt32)), .unset, .unset, .unset, .unset, .unset, .unset, .unset, .unset, .unset, .unset] [(.int p0)])) t
    refine XS.bipush X0.here hx rfl (hb hby at_27) ?_
    show Steps p.tables e below (s₁.setTop (mkF m 29 #[.val (.int p0), .val (.int p1), .val (.int p2), .val (.int (((p0.toUInt32 >>> ((24 : Int32) &&& 31).toUInt32).toInt32) &&& (3 : Int32))), .val (.int ((p0 &&& (255 : Int32)).toUInt32.toUInt16.toUInt32.toInt32)), .val (.int ((((p0.toUInt32 >>> ((8 : Int32) &&& 31).toUInt32).toInt32) &&& (255 : Int32)).toUInt32.toUInt16.toUInt32.toInt32)), .unset, .unset, .unset, .unset, .unset, .unset, .unset, .unset, .unset, .unset] [(.int (16 : Int32)), (.int p0)])) t
    refine XS.iushr X0.here hx rfl (hb hby at_29) rfl ?_
    show Steps p.tables e below (s₁.setTop (mkF m 30 #[.val (.int p0), .val (.int p1), .val (.int p2), .val (.int (((p0.toUInt32 >>> ((24 : Int32) &&& 31).toUInt32).toInt32) &&& (3 : Int32))), .val (.int ((p0 &&& (255 : Int32)).toUInt32.toUInt16.toUInt32.toInt32)), .val (.int ((((p0.toUInt32 >>> ((8 : Int32) &&& 31).toUInt32).toInt32) &&& (255 : Int32)).toUInt32.toUInt16.toUInt32.toInt32)), .unset, .unset, .unset, .unset, .unset, .unset, .unset, .unset, .unset, .unset] [(.int ((p0.toUInt32 >>> ((16 : Int32) &&& 31).toUInt32).toInt32))])) t
    refine XS.sipush X0.here hx rfl (hb hby at_30) ?_
    show Steps p.tables e below (s₁.setTop (mkF m 33 #[.val (.int p0), .val (.int p1), .val (.int p2), .val (.int (((p0.toUInt32 >>> ((24 : Int32) &&& 31).toUInt32).toInt32) &&& (3 : Int32))), .val (.int ((p0 &&& (255 : Int32)).toUInt32.toUInt16.toUInt32.toInt32)), .val (.int ((((p0.toUInt32 >>> ((8 : Int32) &&& 31).toUInt32).toInt32) &&& (255 : Int32)).toUInt32.toUInt16.toUInt32.toInt32)), .unset, .unset, .unset, .unset, .unset, .unset, .unset, .unset, .unset, .unset] [(.int (255 : Int32)), (.int ((p0.toUInt32 >>> ((16 : Int32) &&& 31).toUInt32).toInt32))])) t
    refine XS.iand X0.here hx rfl (hb hby at_33) rfl ?_
    show Steps p.tables e below (s₁.setTop (mkF m 34 #[.val (.int p0), .val (.int p1), .val (.int p2), .val (.int (((p0.toUInt32 >>> ((24 : Int32) &&& 31).toUInt32).toInt32) &&& (3 : Int32))), .val (.int ((p0 &&& (255 : Int32)).toUInt32.toUInt16.toUInt32.toInt32)), .val (.int ((((p0.toUInt32 >>> ((8 : Int32) &&& 31).toUInt32).toInt32) &&& (255 : Int32)).toUInt32.toUInt16.toUInt32.toInt32)), .unset, .unset, .unset, .unset, .unset, .unset, .unset, .unset, .unset, .unset] [(.int (((p0.toUInt32 >>> ((16 : Int32) &&& 31).toUInt32).toInt32) &&& (255 : Int32)))])) t
    refine XS.i2c X0.here hx rfl (hb hby at_34) rfl ?_
    show Steps p.tables e below (s₁.setTop (mkF m 35 #[.val (.int p0), .val (.int p1), .val (.int p2), .val (.int (((p0.toUInt32 >>> ((24 : Int32) &&& 31).toUInt32).toInt32) &&& (3 : Int32))), .val (.int ((p0 &&& (255 : Int32)).toUInt32.toUInt16.toUInt32.toInt32)), .val (.int ((((p0.toUInt32 >>> ((8 : Int32) &&& 31).toUInt32).toInt32) &&& (255 : Int32)).toUInt32.toUInt16.toUInt32.toInt32)), .unset, .unset, .unset, .unset, .unset, .unset, .unset, .unset, .unset, .unset] [(.int ((((p0.toUInt32 >>> ((16 : Int32) &&& 31).toUInt32).toInt32) &&& (255 : Int32)).toUInt32.toUInt16.toUInt32.toInt32))])) t
    refine XS.istore X0.here hx rfl (hb hby at_35) rfl (l' := #[.val (.int p0), .val (.int p1), .val (.int p2), .val (.int (((p0.toUInt32 >>> ((24 : Int32) &&& 31).toUInt32).toInt32) &&& (3 : Int32))), .val (.int ((p0 &&& (255 : Int32)).toUInt32.toUInt16.toUInt32.toInt32)), .val (.int ((((p0.toUInt32 >>> ((8 : Int32) &&& 31).toUInt32).toInt32) &&& (255 : Int32)).toUInt32.toUInt16.toUInt32.toInt32)), .val (.int ((((p0.toUInt32 >>> ((16 : Int32) &&& 31).toUInt32).toInt32) &&& (255 : Int32)).toUInt32.toUInt16.toUInt32.toInt32)), .unset, .unset, .unset, .unset, .unset, .unset, .unset, .unset, .unset]) rfl ?_
    show Steps p.tables e below (s₁.setTop (mkF m 37 #[.val (.int p0), .val (.int p1), .val (.int p2), .val (.int (((p0.toUInt32 >>> ((24 : Int32) &&& 31).toUInt32).toInt32) &&& (3 : Int32))), .val (.int ((p0 &&& (255 : Int32)).toUInt32.toUInt16.toUInt32.toInt32)), .val (.int ((((p0.toUInt32 >>> ((8 : Int32) &&& 31).toUInt32).toInt32) &&& (255 : Int32)).toUInt32.toUInt16.toUInt32.toInt32)), .val (.int ((((p0.toUInt32 >>> ((16 : Int32) &&& 31).toUInt32).toInt32) &&& (255 : Int32)).toUInt32.toUInt16.toUInt32.toInt32)), .unset, .unset, .unset, .unset, .unset, .unset, .unset, .unset, .unset] [])) t
    refine XS.iloadN X0.here hx rfl (hb hby at_37) rfl ?_
    show Steps p.tables e below (s₁.setTop (mkF m 38 #[.val (.int p0), .val (.int p1), .val (.int p2), .val (.int (((p0.toUInt32 >>> ((24 : Int32) &&& 31).toUInt32).toInt32) &&& (3 : Int32))), .val (.int ((p0 &&& (255 : Int32)).toUInt32.toUInt16.toUInt32.toInt32)), .val (.int ((((p0.toUInt32 >>> ((8 : Int32) &&& 31).toUInt32).toInt32) &&& (255 : Int32)).toUInt32.toUInt16.toUInt32.toInt32)), .val (.int ((((p0.toUInt32 >>> ((16 : Int32) &&& 31).toUInt32).toInt32) &&& (255 : Int32)).toUInt32.toUInt16.toUInt32.toInt32)), .unset, .unset, .unset, .unset, .unset, .unset, .unset, .unset, .unset] [(.int p1)])) t
    refine XS.bipush X0.here hx rfl (hb hby at_38) ?_
    show Steps p.tables e below (s₁.setTop (mkF m 40 #[.val (.int p0), .val (.int p1), .val (.int p2), .val (.int (((p0.toUInt32 >>> ((24 : Int32) &&& 31).toUInt32).toInt32) &&& (3 : Int32))), .val (.int ((p0 &&& (255 : Int32)).toUInt32.toUInt16.toUInt32.toInt32)), .val (.int ((((p0.toUInt32 >>> ((8 : Int32) &&& 31).toUInt32).toInt32) &&& (255 : Int32)).toUInt32.toUInt16.toUInt32.toInt32)), .val (.int ((((p0.toUInt32 >>> ((16 : Int32) &&& 31).toUInt32).toInt32) &&& (255 : Int32)).toUInt32.toUInt16.toUInt32.toInt32)), .unset, .unset, .unset, .unset, .unset, .unset, .unset, .unset, .unset] [(.int (24 : Int32)), (.int p1)])) t
    refine XS.iushr X0.here hx rfl (hb hby at_40) rfl ?_
    show Steps p.tables e below (s₁.setTop (mkF m 41 #[.val (.int p0), .val (.int p1), .val (.int p2), .val (.int (((p0.toUInt32 >>> ((24 : Int32) &&& 31).toUInt32).toInt32) &&& (3 : Int32))), .val (.int ((p0 &&& (255 : Int32)).toUInt32.toUInt16.toUInt32.toInt32)), .val (.int ((((p0.toUInt32 >>> ((8 : Int32) &&& 31).toUInt32).toInt32) &&& (255 : Int32)).toUInt32.toUInt16.toUInt32.toInt32)), .val (.int ((((p0.toUInt32 >>> ((16 : Int32) &&& 31).toUInt32).toInt32) &&& (255 : Int32)).toUInt32.toUInt16.toUInt32.toInt32)), .unset, .unset, .unset, .unset, .unset, .unset, .unset, .unset, .unset] [(.int ((p1.toUInt32 >>> ((24 : Int32) &&& 31).toUInt32).toInt32))])) t
    refine XS.iconst X0.here hx rfl (hb hby at_41) ?_
    show Steps p.tables e below (s₁.setTop (mkF m 42 #[.val (.int p0), .val (.int p1), .val (.int p2), .val (.int (((p0.toUInt32 >>> ((24 : Int32) &&& 31).toUInt32).toInt32) &&& (3 : Int32))), .val (.int ((p0 &&& (255 : Int32)).toUInt32.toUInt16.toUInt32.toInt32)), .val (.int ((((p0.toUInt32 >>> ((8 : Int32) &&& 31).toUInt32).toInt32) &&& (255 : Int32)).toUInt32.toUInt16.toUInt32.toInt32)), .val (.int ((((p0.toUInt32 >>> ((16 : Int32) &&& 31).toUInt32).toInt32) &&& (255 : Int32)).toUInt32.toUInt16.toUInt32.toInt32)), .unset, .unset, .unset, .unset, .unset, .unset, .unset, .unset, .unset] [(.int (3 : Int32)), (.int ((p1.toUInt32 >>> ((24 : Int32) &&& 31).toUInt32).toInt32))])) t
    refine XS.iand X0.here hx rfl (hb hby at_42) rfl ?_
    show Steps p.tables e below (s₁.setTop (mkF m 43 #[.val (.int p0), .val (.int p1), .val (.int p2), .val (.int (((p0.toUInt32 >>> ((24 : Int32) &&& 31).toUInt32).toInt32) &&& (3 : Int32))), .val (.int ((p0 &&& (255 : Int32)).toUInt32.toUInt16.toUInt32.toInt32)), .val (.int ((((p0.toUInt32 >>> ((8 : Int32) &&& 31).toUInt32).toInt32) &&& (255 : Int32)).toUInt32.toUInt16.toUInt32.toInt32)), .val (.int ((((p0.toUInt32 >>> ((16 : Int32) &&& 31).toUInt32).toInt32) &&& (255 : Int32)).toUInt32.toUInt16.toUInt32.toInt32)), .unset, .unset, .unset, .unset, .unset, .unset, .unset, .unset, .unset] [(.int (((p1.toUInt32 >>> ((24 : Int32) &&& 31).toUInt32).toInt32) &&& (3 : Int32)))])) t
    refine XS.istore X0.here hx rfl (hb hby at_43) rfl (l' := #[.val (.int p0), .val (.int p1), .val (.int p2), .val (.int (((p0.toUInt32 >>> ((24 : Int32) &&& 31).toUInt32).toInt32) &&& (3 : Int32))), .val (.int ((p0 &&& (255 : Int32)).toUInt32.toUInt16.toUInt32.toInt32)), .val (.int ((((p0.toUInt32 >>> ((8 : Int32) &&& 31).toUInt32).toInt32) &&& (255 : Int32)).toUInt32.toUInt16.toUInt32.toInt32)), .val (.int ((((p0.toUInt32 >>> ((16 : Int32) &&& 31).toUInt32).toInt32) &&& (255 : Int32)).toUInt32.toUInt16.toUInt32.toInt32)), .val (.int (((p1.toUInt32 >>> ((24 : Int32) &&& 31).toUInt32).toInt32) &&& (3 : Int32))), .unset, .unset, .unset, .unset, .unset, .unset, .unset, .unset]) rfl ?_
    show Steps p.tables e below (s₁.setTop (mkF m 45 #[.val (.int p0), .val (.int p1), .val (.int p2), .val (.int (((p0.toUInt32 >>> ((24 : Int32) &&& 31).toUInt32).toInt32) &&& (3 : Int32))), .val (.int ((p0 &&& (255 : Int32)).toUInt32.toUInt16.toUInt32.toInt32)), .val (.int ((((p0.toUInt32 >>> ((8 : Int32) &&& 31).toUInt32).toInt32) &&& (255 : Int32)).toUInt32.toUInt16.toUInt32.toInt32)), .val (.int ((((p0.toUInt32 >>> ((16 : Int32) &&& 31).toUInt32).toInt32) &&& (255 : Int32)).toUInt32.toUInt16.toUInt32.toInt32)), .val (.int (((p1.toUInt32 >>> ((24 : Int32) &&& 31).toUInt32).toInt32) &&& (3 : Int32))), .unset, .unset, .unset, .unset, .unset, .unset, .unset, .unset] [])) t
    refine XS.iloadN X0.here hx rfl (hb hby at_45) rfl ?_
    show Steps p.tables e below (s₁.setTop (mkF m 46 #[.val (.int p0), .val (.int p1), .val (.int p2), .val (.int (((p0.toUInt32 >>> ((24 : Int32) &&& 31).toUInt32).toInt32) &&& (3 : Int32))), .val (.int ((p0 &&& (255 : Int32)).toUInt32.toUInt16.toUInt32.toInt32)), .val (.int ((((p0.toUInt32 >>> ((8 : Int32) &&& 31).toUInt32).toInt32) &&& (255 : Int32)).toUInt32.toUInt16.toUInt32.toInt32)), .val (.int ((((p0.toUInt32 >>> ((16 : Int32) &&& 31).toUInt32).toInt32) &&& (255 : Int32)).toUInt32.toUInt16.toUInt32.toInt32)), .val (.int (((p1.toUInt32 >>> ((24 : Int32) &&& 31).toUInt32).toInt32) &&& (3 : Int32))), .unset, .unset, .unset, .unset, .unset, .unset, .unset, .unset] [(.int p1)])) t
    refine XS.sipush X0.here hx rfl (hb hby at_46) ?_
    show Steps p.tables e below (s₁.setTop (mkF m 49 #[.val (.int p0), .val (.int p1), .val (.int p2), .val (.int (((p0.toUInt32 >>> ((24 : Int32) &&& 31).toUInt32).toInt32) &&& (3 : Int32))), .val (.int ((p0 &&& (255 : Int32)).toUInt32.toUInt16.toUInt32.toInt32)), .val (.int ((((p0.toUInt32 >>> ((8 : Int32) &&& 31).toUInt32).toInt32) &&& (255 : Int32)).toUInt32.toUInt16.toUInt32.toInt32)), .val (.int ((((p0.toUInt32 >>> ((16 : Int32) &&& 31).toUInt32).toInt32) &&& (255 : Int32)).toUInt32.toUInt16.toUInt32.toInt32)), .val (.int (((p1.toUInt32 >>> ((24 : Int32) &&& 31).toUInt32).toInt32) &&& (3 : Int32))), .unset, .unset, .unset, .unset, .unset, .unset, .unset, .unset] [(.int (255 : Int32)), (.int p1)])) t
    refine XS.iand X0.here hx rfl (hb hby at_49) rfl ?_
    show Steps p.tables e below (s₁.setTop (mkF m 50 #[.val (.int p0), .val (.int p1), .val (.int p2), .val (.int (((p0.toUInt32 >>> ((24 : Int32) &&& 31).toUInt32).toInt32) &&& (3 : Int32))), .val (.int ((p0 &&& (255 : Int32)).toUInt32.toUInt16.toUInt32.toInt32)), .val (.int ((((p0.toUInt32 >>> ((8 : Int32) &&& 31).toUInt32).toInt32) &&& (255 : Int32)).toUInt32.toUInt16.toUInt32.toInt32)), .val (.int ((((p0.toUInt32 >>> ((16 : Int32) &&& 31).toUInt32).toInt32) &&& (255 : Int32)).toUInt32.toUInt16.toUInt32.toInt32)), .val (.int (((p1.toUInt32 >>> ((24 : Int32) &&& 31).toUInt32).toInt32) &&& (3 : Int32))), .unset, .unset, .unset, .unset, .unset, .unset, .unset, .unset] [(.int (p1 &&& (255 : Int32)))])) t
    refine XS.i2c X0.here hx rfl (hb hby at_50) rfl ?_
    show Steps p.tables e below (s₁.setTop (mkF m 51 #[.val (.int p0), .val (.int p1), .val (.int p2), .val (.int (((p0.toUInt32 >>> ((24 : Int32) &&& 31).toUInt32).toInt32) &&& (3 : Int32))), .val (.int ((p0 &&& (255 : Int32)).toUInt32.toUInt16.toUInt32.toInt32)), .val (.int ((((p0.toUInt32 >>> ((8 : Int32) &&& 31).toUInt32).toInt32) &&& (255 : Int32)).toUInt32.toUInt16.toUInt32.toInt32)), .val (.int ((((p0.toUInt32 >>> ((16 : Int32) &&& 31).toUInt32).toInt32) &&& (255 : Int32)).toUInt32.toUInt16.toUInt32.toInt32)), .val (.int (((p1.toUInt32 >>> ((24 : Int32) &&& 31).toUInt32).toInt32) &&& (3 : Int32))), .unset, .unset, .unset, .unset, .unset, .unset, .unset, .unset] [(.int ((p1 &&& (255 : Int32)).toUInt32.toUInt16.toUInt32.toInt32))])) t
    refine XS.istore X0.here hx rfl (hb hby at_51) rfl (l' := #[.val (.int p0), .val (.int p1), .val (.int p2), .val (.int (((p0.toUInt32 >>> ((24 : Int32) &&& 31).toUInt32).toInt32) &&& (3 : Int32))), .val (.int ((p0 &&& (255 : Int32)).toUInt32.toUInt16.toUInt32.toInt32)), .val (.int ((((p0.toUInt32 >>> ((8 : Int32) &&& 31).toUInt32).toInt32) &&& (255 : Int32)).toUInt32.toUInt16.toUInt32.toInt32)), .val (.int ((((p0.toUInt32 >>> ((16 : Int32) &&& 31).toUInt32).toInt32) &&& (255 : Int32)).toUInt32.toUInt16.toUInt32.toInt32)), .val (.int (((p1.toUInt32 >>> ((24 : Int32) &&& 31).toUInt32).toInt32) &&& (3 : Int32))), .val (.int ((p1 &&& (255 : Int32)).toUInt32.toUInt16.toUInt32.toInt32)), .unset, .unset, .unset, .unset, .unset, .unset, .unset]) rfl ?_
    show Steps p.tables e below (s₁.setTop (mkF m 53 #[.val (.int p0), .val (.int p1), .val (.int p2), .val (.int (((p0.toUInt32 >>> ((24 : Int32) &&& 31).toUInt32).toInt32) &&& (3 : Int32))), .val (.int ((p0 &&& (255 : Int32)).toUInt32.toUInt16.toUInt32.toInt32)), .val (.int ((((p0.toUInt32 >>> ((8 : Int32) &&& 31).toUInt32).toInt32) &&& (255 : Int32)).toUInt32.toUInt16.toUInt32.toInt32)), .val (.int ((((p0.toUInt32 >>> ((16 : Int32) &&& 31).toUInt32).toInt32) &&& (255 : Int32)).toUInt32.toUInt16.toUInt32.toInt32)), .val (.int (((p1.toUInt32 >>> ((24 : Int32) &&& 31).toUInt32).toInt32) &&& (3 : Int32))), .val (.int ((p1 &&& (255 : Int32)).toUInt32.toUInt16.toUInt32.toInt32)), .unset, .unset, .unset, .unset, .unset, .unset, .unset] [])) t
    refine XS.iloadN X0.here hx rfl (hb hby at_53) rfl ?_
    show Steps p.tables e below (s₁.setTop (mkF m 54 #[.val (.int p0), .val (.int p1), .val (.int p2), .val (.int (((p0.toUInt32 >>> ((24 : Int32) &&& 31).toUInt32).toInt32) &&& (3 : Int32))), .val (.int ((p0 &&& (255 : Int32)).toUInt32.toUInt16.toUInt32.toInt32)), .val (.int ((((p0.toUInt32 >>> ((8 : Int32) &&& 31).toUInt32).toInt32) &&& (255 : Int32)).toUInt32.toUInt16.toUInt32.toInt32)), .val (.int ((((p0.toUInt32 >>> ((16 : Int32) &&& 31).toUInt32).toInt32) &&& (255 : Int32)).toUInt32.toUInt16.toUInt32.toInt32)), .val (.int (((p1.toUInt32 >>> ((24 : Int32) &&& 31).toUInt32).toInt32) &&& (3 : Int32))), .val (.int ((p1 &&& (255 : Int32)).toUInt32.toUInt16.toUInt32.toInt32)), .unset, .unset, .unset, .unset, .unset, .unset, .unset] [(.int p1)])) t
    refine XS.bipush X0.here hx rfl (hb hby at_54) ?_
    show Steps p.tables e below (s₁.setTop (mkF m 56 #[.val (.int p0), .val (.int p1), .val (.int p2), .val (.int (((p0.toUInt32 >>> ((24 : Int32) &&& 31).toUInt32).toInt32) &&& (3 : Int32))), .val (.int ((p0 &&& (255 : Int32)).toUInt32.toUInt16.toUInt32.toInt32)), .val (.int ((((p0.toUInt32 >>> ((8 : Int32) &&& 31).toUInt32).toInt32) &&& (255 : Int32)).toUInt32.toUInt16.toUInt32.toInt32)), .val (.int ((((p0.toUInt32 >>> ((16 : Int32) &&& 31).toUInt32).toInt32) &&& (255 : Int32)).toUInt32.toUInt16.toUInt32.toInt32)), .val (.int (((p1.toUInt32 >>> ((24 : Int32) &&& 31).toUInt32).toInt32) &&& (3 : Int32))), .val (.int ((p1 &&& (255 : Int32)).toUInt32.toUInt16.toUInt32.toInt32)), .unset, .unset, .unset, .unset, .unset, .unset, .unset] [(.int (8 : Int32)), (.int p1)])) t
    refine XS.iushr X0.here hx rfl (hb hby at_56) rfl ?_
    show Steps p.tables e below (s₁.setTop (mkF m 57 #[.val (.int p0), .val (.int p1), .val (.int p2), .val (.int (((p0.toUInt32 >>> ((24 : Int32) &&& 31).toUInt32).toInt32) &&& (3 : Int32))), .val (.int ((p0 &&& (255 : Int32)).toUInt32.toUInt16.toUInt32.toInt32)), .val (.int ((((p0.toUInt32 >>> ((8 : Int32) &&& 31).toUInt32).toInt32) &&& (255 : Int32)).toUInt32.toUInt16.toUInt32.toInt32)), .val (.int ((((p0.toUInt32 >>> ((16 : Int32) &&& 31).toUInt32).toInt32) &&& (255 : Int32)).toUInt32.toUInt16.toUInt32.toInt32)), .val (.int (((p1.toUInt32 >>> ((24 : Int32) &&& 31).toUInt32).toInt32) &&& (3 : Int32))), .val (.int ((p1 &&& (255 : Int32)).toUInt32.toUInt16.toUInt32.toInt32)), .unset, .unset, .unset, .unset, .unset, .unset, .unset] [(.int ((p1.toUInt32 >>> ((8 : Int32) &&& 31).toUInt32).toInt32))])) t
    refine XS.sipush X0.here hx rfl (hb hby at_57) ?_
    show Steps p.tables e below (s₁.setTop (mkF m 60 #[.val (.int p0), .val (.int p1), .val (.int p2), .val (.int (((p0.toUInt32 >>> ((24 : Int32) &&& 31).toUInt32).toInt32) &&& (3 : Int32))), .val (.int ((p0 &&& (255 : Int32)).toUInt32.toUInt16.toUInt32.toInt32)), .val (.int ((((p0.toUInt32 >>> ((8 : Int32) &&& 31).toUInt32).toInt32) &&& (255 : Int32)).toUInt32.toUInt16.toUInt32.toInt32)), .val (.int ((((p0.toUInt32 >>> ((16 : Int32) &&& 31).toUInt32).toInt32) &&& (255 : Int32)).toUInt32.toUInt16.toUInt32.toInt32)), .val (.int (((p1.toUInt32 >>> ((24 : Int32) &&& 31).toUInt32).toInt32) &&& (3 : Int32))), .val (.int ((p1 &&& (255 : Int32)).toUInt32.toUInt16.toUInt32.toInt32)), .unset, .unset, .unset, .unset, .unset, .unset, .unset] [(.int (255 : Int32)), (.int ((p1.toUInt32 >>> ((8 : Int32) &&& 31).toUInt32).toInt32))])) t
    refine XS.iand X0.here hx rfl (hb hby at_60) rfl ?_
    show Steps p.tables e below (s₁.setTop (mkF m 61 #[.val (.int p0), .val (.int p1), .val (.int p2), .val (.int (((p0.toUInt32 >>> ((24 : Int32) &&& 31).toUInt32).toInt32) &&& (3 : Int32))), .val (.int ((p0 &&& (255 : Int32)).toUInt32.toUInt16.toUInt32.toInt32)), .val (.int ((((p0.toUInt32 >>> ((8 : Int32) &&& 31).toUInt32).toInt32) &&& (255 : Int32)).toUInt32.toUInt16.toUInt32.toInt32)), .val (.int ((((p0.toUInt32 >>> ((16 : Int32) &&& 31).toUInt32).toInt32) &&& (255 : Int32)).toUInt32.toUInt16.toUInt32.toInt32)), .val (.int (((p1.toUInt32 >>> ((24 : Int32) &&& 31).toUInt32).toInt32) &&& (3 : Int32))), .val (.int ((p1 &&& (255 : Int32)).toUInt32.toUInt16.toUInt32.toInt32)), .unset, .unset, .unset, .unset, .unset, .unset, .unset] [(.int (((p1.toUInt32 >>> ((8 : Int32) &&& 31).toUInt32).toInt32) &&& (255 : Int32)))])) t
    refine XS.i2c X0.here hx rfl (hb hby at_61) rfl ?_
    show Steps p.tables e below (s₁.setTop (mkF m 62 #[.val (.int p0), .val (.int p1), .val (.int p2), .val (.int (((p0.toUInt32 >>> ((24 : Int32) &&& 31).toUInt32).toInt32) &&& (3 : Int32))), .val (.int ((p0 &&& (255 : Int32)).toUInt32.toUInt16.toUInt32.toInt32)), .val (.int ((((p0.toUInt32 >>> ((8 : Int32) &&& 31).toUInt32).toInt32) &&& (255 : Int32)).toUInt32.toUInt16.toUInt32.toInt32)), .val (.int ((((p0.toUInt32 >>> ((16 : Int32) &&& 31).toUInt32).toInt32) &&& (255 : Int32)).toUInt32.toUInt16.toUInt32.toInt32)), .val (.int (((p1.toUInt32 >>> ((24 : Int32) &&& 31).toUInt32).toInt32) &&& (3 : Int32))), .val (.int ((p1 &&& (255 : Int32)).toUInt32.toUInt16.toUInt32.toInt32)), .unset, .unset, .unset, .unset, .unset, .unset, .unset] [(.int ((((p1.toUInt32 >>> ((8 : Int32) &&& 31).toUInt32).toInt32) &&& (255 : Int32)).toUInt32.toUInt16.toUInt32.toInt32))])) t
    refine XS.istore X0.here hx rfl (hb hby at_62) rfl (l' := #[.val (.int p0), .val (.int p1), .val (.int p2), .val (.int (((p0.toUInt32 >>> ((24 : Int32) &&& 31).toUInt32).toInt32) &&& (3 : Int32))), .val (.int ((p0 &&& (255 : Int32)).toUInt32.toUInt16.toUInt32.toInt32)), .val (.int ((((p0.toUInt32 >>> ((8 : Int32) &&& 31).toUInt32).toInt32) &&& (255 : Int32)).toUInt32.toUInt16.toUInt32.toInt32)), .val (.int ((((p0.toUInt32 >>> ((16 : Int32) &&& 31).toUInt32).toInt32) &&& (255 : Int32)).toUInt32.toUInt16.toUInt32.toInt32)), .val (.int (((p1.toUInt32 >>> ((24 : Int32) &&& 31).toUInt32).toInt32) &&& (3 : Int32))), .val (.int ((p1 &&& (255 : Int32)).toUInt32.toUInt16.toUInt32.toInt32)), .val (.int ((((p1.toUInt32 >>> ((8 : Int32) &&& 31).toUInt32).toInt32) &&& (255 : Int32)).toUInt32.toUInt16.toUInt32.toInt32)), .unset, .unset, .unset, .unset, .unset, .unset]) rfl ?_
    show Steps p.tables e below (s₁.setTop (mkF m 64 #[.val (.int p0), .val (.int p1), .val (.int p2), .val (.int (((p0.toUInt32 >>> ((24 : Int32) &&& 31).toUInt32).toInt32) &&& (3 : Int32))), .val (.int ((p0 &&& (255 : Int32)).toUInt32.toUInt16.toUInt32.toInt32)), .val (.int ((((p0.toUInt32 >>> ((8 : Int32) &&& 31).toUInt32).toInt32) &&& (255 : Int32)).toUInt32.toUInt16.toUInt32.toInt32)), .val (.int ((((p0.toUInt32 >>> ((16 : Int32) &&& 31).toUInt32).toInt32) &&& (255 : Int32)).toUInt32.toUInt16.toUInt32.toInt32)), .val (.int (((p1.toUInt32 >>> ((24 : Int32) &&& 31).toUInt32).toInt32) &&& (3 : Int32))), .val (.int ((p1 &&& (255 : Int32)).toUInt32.toUInt16.toUInt32.toInt32)), .val (.int ((((p1.toUInt32 >>> ((8 : Int32) &&& 31).toUInt32).toInt32) &&& (255 : Int32)).toUInt32.toUInt16.toUInt32.toInt32)), .unset, .unset, .unset, .unset, .unset, .unset] [])) t
    refine XS.iloadN X0.here hx rfl (hb hby at_64) rfl ?_
    show Steps p.tables e below (s₁.setTop (mkF m 65 #[.val (.int p0), .val (.int p1), .val (.int p2), .val (.int (((p0.toUInt32 >>> ((24 : Int32) &&& 31).toUInt32).toInt32) &&& (3 : Int32))), .val (.int ((p0 &&& (255 : Int32)).toUInt32.toUInt16.toUInt32.toInt32)), .val (.int ((((p0.toUInt32 >>> ((8 : Int32) &&& 31).toUInt32).toInt32) &&& (255 : Int32)).toUInt32.toUInt16.toUInt32.toInt32)), .val (.int ((((p0.toUInt32 >>> ((16 : Int32) &&& 31).toUInt32).toInt32) &&& (255 : Int32)).toUInt32.toUInt16.toUInt32.toInt32)), .val (.int (((p1.toUInt32 >>> ((24 : Int32) &&& 31).toUInt32).toInt32) &&& (3 : Int32))), .val (.int ((p1 &&& (255 : Int32)).toUInt32.toUInt16.toUInt32.toInt32)), .val (.int ((((p1.toUInt32 >>> ((8 : Int32) &&& 31).toUInt32).toInt32) &&& (255 : Int32)).toUInt32.toUInt16.toUInt32.toInt32)), .unset, .unset, .unset, .unset, .unset, .unset] [(.int p1)])) t
    refine XS.bipush X0.here hx rfl (hb hby at_65) ?_
    show Steps p.tables e below (s₁.setTop (mkF m 67 #[.val (.int p0), .val (.int p1), .val (.int p2), .val (.int (((p0.toUInt32 >>> ((24 : Int32) &&& 31).toUInt32).toInt32) &&& (3 : Int32))), .val (.int ((p0 &&& (255 : Int32)).toUInt32.toUInt16.toUInt32.toInt32)), .val (.int ((((p0.toUInt32 >>> ((8 : Int32) &&& 31).toUInt32).toInt32) &&& (255 : Int32)).toUInt32.toUInt16.toUInt32.toInt32)), .val (.int ((((p0.toUInt32 >>> ((16 : Int32) &&& 31).toUInt32).toInt32) &&& (255 : Int32)).toUInt32.toUInt16.toUInt32.toInt32)), .val (.int (((p1.toUInt32 >>> ((24 : Int32) &&& 31).toUInt32).toInt32) &&& (3 : Int32))), .val (.int ((p1 &&& (255 : Int32)).toUInt32.toUInt16.toUInt32.toInt32)), .val (.int ((((p1.toUInt32 >>> ((8 : Int32) &&& 31).toUInt32).toInt32) &&& (255 : Int32)).toUInt32.toUInt16.toUInt32.toInt32)), .unset, .unset, .unset, .unset, .unset, .unset] [(.int (16 : Int32)), (.int p1)])) t
    refine XS.iushr X0.here hx rfl (hb hby at_67) rfl ?_
    show Steps p.tables e below (s₁.setTop (mkF m 68 #[.val (.int p0), .val (.int p1), .val (.int p2), .val (.int (((p0.toUInt32 >>> ((24 : Int32) &&& 31).toUInt32).toInt32) &&& (3 : Int32))), .val (.int ((p0 &&& (255 : Int32)).toUInt32.toUInt16.toUInt32.toInt32)), .val (.int ((((p0.toUInt32 >>> ((8 : Int32) &&& 31).toUInt32).toInt32) &&& (255 : Int32)).toUInt32.toUInt16.toUInt32.toInt32)), .val (.int ((((p0.toUInt32 >>> ((16 : Int32) &&& 31).toUInt32).toInt32) &&& (255 : Int32)).toUInt32.toUInt16.toUInt32.toInt32)), .val (.int (((p1.toUInt32 >>> ((24 : Int32) &&& 31).toUInt32).toInt32) &&& (3 : Int32))), .val (.int ((p1 &&& (255 : Int32)).toUInt32.toUInt16.toUInt32.toInt32)), .val (.int ((((p1.toUInt32 >>> ((8 : Int32) &&& 31).toUInt32).toInt32) &&& (255 : Int32)).toUInt32.toUInt16.toUInt32.toInt32)), .unset, .unset, .unset, .unset, .unset, .unset] [(.int ((p1.toUInt32 >>> ((16 : Int32) &&& 31).toUInt32).toInt32))])) t
    refine XS.sipush X0.here hx rfl (hb hby at_68) ?_
    show Steps p.tables e below (s₁.setTop (mkF m 71 #[.val (.int p0), .val (.int p1), .val (.int p2), .val (.int (((p0.toUInt32 >>> ((24 : Int32) &&& 31).toUInt32).toInt32) &&& (3 : Int32))), .val (.int ((p0 &&& (255 : Int32)).toUInt32.toUInt16.toUInt32.toInt32)), .val (.int ((((p0.toUInt32 >>> ((8 : Int32) &&& 31).toUInt32).toInt32) &&& (255 : Int32)).toUInt32.toUInt16.toUInt32.toInt32)), .val (.int ((((p0.toUInt32 >>> ((16 : Int32) &&& 31).toUInt32).toInt32) &&& (255 : Int32)).toUInt32.toUInt16.toUInt32.toInt32)), .val (.int (((p1.toUInt32 >>> ((24 : Int32) &&& 31).toUInt32).toInt32) &&& (3 : Int32))), .val (.int ((p1 &&& (255 : Int32)).toUInt32.toUInt16.toUInt32.toInt32)), .val (.int ((((p1.toUInt32 >>> ((8 : Int32) &&& 31).toUInt32).toInt32) &&& (255 : Int32)).toUInt32.toUInt16.toUInt32.toInt32)), .unset, .unset, .unset, .unset, .unset, .unset] [(.int (255 : Int32)), (.int ((p1.toUInt32 >>> ((16 : Int32) &&& 31).toUInt32).toInt32))])) t
    refine XS.iand X0.here hx rfl (hb hby at_71) rfl ?_
    show Steps p.tables e below (s₁.setTop (mkF m 72 #[.val (.int p0), .val (.int p1), .val (.int p2), .val (.int (((p0.toUInt32 >>> ((24 : Int32) &&& 31).toUInt32).toInt32) &&& (3 : Int32))), .val (.int ((p0 &&& (255 : Int32)).toUInt32.toUInt16.toUInt32.toInt32)), .val (.int ((((p0.toUInt32 >>> ((8 : Int32) &&& 31).toUInt32).toInt32) &&& (255 : Int32)).toUInt32.toUInt16.toUInt32.toInt32)), .val (.int ((((p0.toUInt32 >>> ((16 : Int32) &&& 31).toUInt32).toInt32) &&& (255 : Int32)).toUInt32.toUInt16.toUInt32.toInt32)), .val (.int (((p1.toUInt32 >>> ((24 : Int32) &&& 31).toUInt32).toInt32) &&& (3 : Int32))), .val (.int ((p1 &&& (255 : Int32)).toUInt32.toUInt16.toUInt32.toInt32)), .val (.int ((((p1.toUInt32 >>> ((8 : Int32) &&& 31).toUInt32).toInt32) &&& (255 : Int32)).toUInt32.toUInt16.toUInt32.toInt32)), .unset, .unset, .unset, .unset, .unset, .unset] [(.int (((p1.toUInt32 >>> ((16 : Int32) &&& 31).toUInt32).toInt32) &&& (255 : Int32)))])) t
    refine XS.i2c X0.here hx rfl (hb hby at_72) rfl ?_
    show Steps p.tables e below (s₁.setTop (mkF m 73 #[.val (.int p0), .val (.int p1), .val (.int p2), .val (.int (((p0.toUInt32 >>> ((24 : Int32) &&& 31).toUInt32).toInt32) &&& (3 : Int32))), .val (.int ((p0 &&& (255 : Int32)).toUInt32.toUInt16.toUInt32.toInt32)), .val (.int ((((p0.toUInt32 >>> ((8 : Int32) &&& 31).toUInt32).toInt32) &&& (255 : Int32)).toUInt32.toUInt16.toUInt32.toInt32)), .val (.int ((((p0.toUInt32 >>> ((16 : Int32) &&& 31).toUInt32).toInt32) &&& (255 : Int32)).toUInt32.toUInt16.toUInt32.toInt32)), .val (.int (((p1.toUInt32 >>> ((24 : Int32) &&& 31).toUInt32).toInt32) &&& (3 : Int32))), .val (.int ((p1 &&& (255 : Int32)).toUInt32.toUInt16.toUInt32.toInt32)), .val (.int ((((p1.toUInt32 >>> ((8 : Int32) &&& 31).toUInt32).toInt32) &&& (255 : Int32)).toUInt32.toUInt16.toUInt32.toInt32)), .unset, .unset, .unset, .unset, .unset, .unset] [(.int ((((p1.toUInt32 >>> ((16 : Int32) &&& 31).toUInt32).toInt32) &&& (255 : Int32)).toUInt32.toUInt16.toUInt32.toInt32))])) t
    refine XS.istore X0.here hx rfl (hb hby at_73) rfl (l' := #[.val (.int p0), .val (.int p1), .val (.int p2), .val (.int (((p0.toUInt32 >>> ((24 : Int32) &&& 31).toUInt32).toInt32) &&& (3 : Int32))), .val (.int ((p0 &&& (255 : Int32)).toUInt32.toUInt16.toUInt32.toInt32)), .val (.int ((((p0.toUInt32 >>> ((8 : Int32) &&& 31).toUInt32).toInt32) &&& (255 : Int32)).toUInt32.toUInt16.toUInt32.toInt32)), .val (.int ((((p0.toUInt32 >>> ((16 : Int32) &&& 31).toUInt32).toInt32) &&& (255 : Int32)).toUInt32.toUInt16.toUInt32.toInt32)), .val (.int (((p1.toUInt32 >>> ((24 : Int32) &&& 31).toUInt32).toInt32) &&& (3 : Int32))), .val (.int ((p1 &&& (255 : Int32)).toUInt32.toUInt16.toUInt32.toInt32)), .val (.int ((((p1.toUInt32 >>> ((8 : Int32) &&& 31).toUInt32).toInt32) &&& (255 : Int32)).toUInt32.toUInt16.toUInt32.toInt32)), .val (.int ((((p1.toUInt32 >>> ((16 : Int32) &&& 31).toUInt32).toInt32) &&& (255 : Int32)).toUInt32.toUInt16.toUInt32.toInt32)), .unset, .unset, .unset, .unset, .unset]) rfl ?_
    exact kt
  generalize h_va : (((p0.toUInt32 >>> ((24 : Int32) &&& 31).toUInt32).toInt32) &&& (3 : Int32)) = va
  have h4va : va = 0 ∨ va = 1 ∨ va = 2 ∨ va = 3 := by rw [← h_va]; exact own_4 _
  generalize h_ca0 : ((p0 &&& (255 : Int32)).toUInt32.toUInt16.toUInt32.toInt32) = ca0
  have hca0 : 0 ≤ ca0.toInt ∧ ca0.toInt ≤ 255 := by rw [← h_ca0]; exact own_b _
  generalize h_ca1 : ((((p0.toUInt32 >>> ((8 : Int32) &&& 31).toUInt32).toInt32) &&& (255 : Int32)).toUInt32.toUInt16.toUInt32.toInt32) = ca1
  have hca1 : 0 ≤ ca1.toInt ∧ ca1.toInt ≤ 255 := by rw [← h_ca1]; exact own_b _
  generalize h_ca2 : ((((p0.toUInt32 >>> ((16 : Int32) &&& 31).toUInt32).toInt32) &&& (255 : Int32)).toUInt32.toUInt16.toUInt32.toInt32) = ca2
  have hca2 : 0 ≤ ca2.toInt ∧ ca2.toInt ≤ 255 := by rw [← h_ca2]; exact own_b _
  generalize h_vb : (((p1.toUInt32 >>> ((24 : Int32) &&& 31).toUInt32).toInt32) &&& (3 : Int32)) = vb
  have h4vb : vb = 0 ∨ vb = 1 ∨ vb = 2 ∨ vb = 3 := by rw [← h_vb]; exact own_4 _
  generalize h_cb0 : ((p1 &&& (255 : Int32)).toUInt32.toUInt16.toUInt32.toInt32) = cb0
  have hcb0 : 0 ≤ cb0.toInt ∧ cb0.toInt ≤ 255 := by rw [← h_cb0]; exact own_b _
  generalize h_cb1 : ((((p1.toUInt32 >>> ((8 : Int32) &&& 31).toUInt32).toInt32) &&& (255 : Int32)).toUInt32.toUInt16.toUInt32.toInt32) = cb1
  have hcb1 : 0 ≤ cb1.toInt ∧ cb1.toInt ≤ 255 := by rw [← h_cb1]; exact own_b _
  generalize h_cb2 : ((((p1.toUInt32 >>> ((16 : Int32) &&& 31).toUInt32).toInt32) &&& (255 : Int32)).toUInt32.toUInt16.toUInt32.toInt32) = cb2
  have hcb2 : 0 ≤ cb2.toInt ∧ cb2.toInt ≤ 255 := by rw [← h_cb2]; exact own_b _
  by_cases hva : va = (0 : Int32)
  · subst hva
    refine own_by (A' := s₁.setTop (mkF m 82 #[.val (.int p0), .val (.int p1), .val (.int p2), .val (.int (0 : Int32)), .val (.int ca0), .val (.int ca1), .val (.int ca2), .val (.int vb), .val (.int cb0), .val (.int cb1), .val (.int cb2), .unset, .unset, .unset, .unset, .unset] [(.int ca2), (.int ca1), (.int ca0), (.int (0 : Int32))])) (fun t kt => ?_) ?_
    · show Steps p.tables e below (s₁.setTop (mkF m 75 #[.val (.int p0), .val (.int p1), .val (.int p2), .val (.int (0 : Int32)), .val (.int ca0), .val (.int ca1), .val (.int ca2), .val (.int vb), .val (.int cb0), .val (.int cb1), .val (.int cb2), .unset, .unset, .unset, .unset, .unset] [])) t
      refine XS.iloadN X0.here hx rfl (hb hby at_75) rfl ?_
      show Steps p.tables e below (s₁.setTop (mkF m 76 #[.val (.int p0), .val (.int p1), .val (.int p2), .val (.int (0 : Int32)), .val (.int ca0), .val (.int ca1), .val (.int ca2), .val (.int vb), .val (.int cb0), .val (.int cb1), .val (.int cb2), .unset, .unset, .unset, .unset, .unset] [(.int (0 : Int32))])) t
      refine XS.iload X0.here hx rfl (hb hby at_76) rfl ?_
      show Steps p.tables e below (s₁.setTop (mkF m 78 #[.val (.int p0), .val (.int p1), .val (.int p2), .val (.int (0 : Int32)), .val (.int ca0), .val (.int ca1), .val (.int ca2), .val (.int vb), .val (.int cb0), .val (.int cb1), .val (.int cb2), .unset, .unset, .unset, .unset, .unset] [(.int ca0), (.int (0 : Int32))])) t
      refine XS.iload X0.here hx rfl (hb hby at_78) rfl ?_
      show Steps p.tables e below (s₁.setTop (mkF m 80 #[.val (.int p0), .val (.int p1), .val (.int p2), .val (.int (0 : Int32)), .val (.int ca0), .val (.int ca1), .val (.int ca2), .val (.int vb), .val (.int cb0), .val (.int cb1), .val (.int cb2), .unset, .unset, .unset, .unset, .unset] [(.int ca1), (.int ca0), (.int (0 : Int32))])) t
      refine XS.iload X0.here hx rfl (hb hby at_80) rfl ?_
      exact kt
    obtain ⟨_, _, ⟨T1, L1, k1, n1⟩, -, X1, hS1, hgr1, ⟨Lc1, hQ1, l1, y1, z1⟩, st1⟩ := callSS X0 hx (y := (⟨"com/example/corollary/corollary/model/NamedClassEqualsPinLaw", "mk", "(ICCC)Ljava/lang/String;"⟩ : MethodName)) hown (mvT hZ (hw _ (List.mem_of_getElem? (i := 0) rfl))) (mvT hZ (hw _ (List.mem_of_getElem? (i := 1) rfl))) (mvT hZ (hw _ (List.mem_of_getElem? (i := 2) rfl))) (mvT hZ (hw _ (List.mem_of_getElem? (i := 3) rfl))) (by decide) (own_backOfV (W := 0) (rmmkC l Z aw hw [] ca0 ca1 ca2 [] h0 n0 (Nat.le_trans Z0 K0.1) (fun b cl q => K0.2.1 b cl (hZh ▸ q) nin0) HCS HW (by decide)) hZ (fun vm q => own_IBw q hIB) (hw _ (List.mem_of_getElem? (i := 3) rfl)) (hw _ (List.mem_of_getElem? (i := 2) rfl)) (by decide) (by decide)) (g := (mkF m 82 #[.val (.int p0), .val (.int p1), .val (.int p2), .val (.int (0 : Int32)), .val (.int ca0), .val (.int ca1), .val (.int ca2), .val (.int vb), .val (.int cb0), .val (.int cb1), .val (.int cb2), .unset, .unset, .unset, .unset, .unset] [(.int ca2), (.int ca1), (.int ca0), (.int (0 : Int32))])) rfl (by rw [hml]; rfl) (argsL := [(.int (0 : Int32)), (.int ca0), (.int ca1), (.int ca2)]) (rest := []) (lenOf pd_11 rfl) rfl (by show 2 * 0 + _ ≤ _; exact Nat.le_of_eq rfl) (hb hby at_82) (fun _ _ => ⟨rfl, e0, (by decide : 0 + 4 ≤ _), (by decide : 0 + 8 ≤ _)⟩)
    dsimp only [Pt.U, Pt.locs, Pt.cells, Pt.slots] at hS1 hgr1
    dsimp only [Pt.U, Pt.locs, Pt.cells, Pt.slots] at X1 l1 y1 z1 st1 hQ1
    subst l1 y1 z1
    have hown : (s.setVm T1.vm).vm.findClass "com/example/corollary/corollary/model/NamedClassEqualsPinLaw" = some m.cls := by
      show T1.vm.findClass _ = _
      rw [hS1.1.alike.findClass]; exact hown
    have hZ : Z.Warmed39 (s.setVm T1.vm).vm := State.Warmed39.trans hZ hS1.1
    obtain ⟨b1, rfl, N1q, Kq1, GO1, lt1, GOl1, GI1, GL1⟩ := hQ1
    have N1 := Fr.app N0 N1q
    have K1 : Keep h0 T1.heap [] := K0.trans Kq1 all0
    have GP1 : own_OS Z T1.heap b1 (own_cs (0 : Int32) ca0 ca1 ca2) := by rw [own_cs, if_pos rfl]; exact GO1
    obtain ⟨_, _, GE1, _⟩ := id GP1
    refine own_by (A' := T1.setTop (mkF m 85 #[.val (.int p0), .val (.int p1), .val (.int p2), .val (.int (0 : Int32)), .val (.int ca0), .val (.int ca1), .val (.int ca2), .val (.int vb), .val (.int cb0), .val (.int cb1), .val (.int cb2), .unset, .unset, .unset, .unset, .unset] [(.ref b1)])) (fun t kt => st1.trans kt) ?_
    refine own_by (A' := T1.setTop (mkF m 87 #[.val (.int p0), .val (.int p1), .val (.int p2), .val (.int (0 : Int32)), .val (.int ca0), .val (.int ca1), .val (.int ca2), .val (.int vb), .val (.int cb0), .val (.int cb1), .val (.int cb2), .val (.ref b1), .unset, .unset, .unset, .unset] [])) (fun t kt => ?_) ?_
    · show Steps p.tables e below (T1.setTop (mkF m 85 #[.val (.int p0), .val (.int p1), .val (.int p2), .val (.int (0 : Int32)), .val (.int ca0), .val (.int ca1), .val (.int ca2), .val (.int vb), .val (.int cb0), .val (.int cb1), .val (.int cb2), .unset, .unset, .unset, .unset, .unset] [(.ref b1)])) t
      refine XS.astore X1.here hx rfl (hb hby at_85) rfl rfl (l' := #[.val (.int p0), .val (.int p1), .val (.int p2), .val (.int (0 : Int32)), .val (.int ca0), .val (.int ca1), .val (.int ca2), .val (.int vb), .val (.int cb0), .val (.int cb1), .val (.int cb2), .val (.ref b1), .unset, .unset, .unset, .unset]) rfl ?_
      exact kt
    obtain ⟨T2, h2, X2, e2, E2, A2, D2, -, st2⟩ := newO X1 hx hZ hown (hw _ (List.mem_of_getElem? (i := 26) rfl)) (hw _ (List.mem_of_getElem? (i := 27) rfl)) (hw _ (List.mem_of_getElem? (i := 28) rfl)) rfl (g := (mkF m 87 #[.val (.int p0), .val (.int p1), .val (.int p2), .val (.int (0 : Int32)), .val (.int ca0), .val (.int ca1), .val (.int ca2), .val (.int vb), .val (.int cb0), .val (.int cb1), .val (.int cb2), .val (.ref b1), .unset, .unset, .unset, .unset] [])) rfl (hb hby at_87) (by decide) (by decide)
    obtain ⟨b2, g2⟩ : ∃ z, z = T1.heap.size := ⟨_, rfl⟩
    rw [← g2] at A2 D2 st2
    have sz_b2 : h0.size ≤ b2 := Nat.le_trans K1.1 (Nat.le_of_eq g2.symm)
    have g_b2 : n0 ≤ b2 := Nat.le_trans Z0 sz_b2
    have gr2 := Nat.le_trans (Nat.le_refl T1.heap.size) E2.1
    have K2 : Keep h0 h2 [] := K1.ext E2
    have F_iri_b2 : Fld Z h2 b2 "com/example/corollary/corollary/model/NamedClass" "iri" "Ljava/lang/String;" .null := D2 (Or.inr (hw _ (List.mem_of_getElem? (i := 44) rfl))) (ty := (.object "java/lang/String")) (by decide)
    refine own_by (A' := T2.setTop (mkF m 90 #[.val (.int p0), .val (.int p1), .val (.int p2), .val (.int (0 : Int32)), .val (.int ca0), .val (.int ca1), .val (.int ca2), .val (.int vb), .val (.int cb0), .val (.int cb1), .val (.int cb2), .val (.ref b1), .unset, .unset, .unset, .unset] [(.ref b2)])) (fun t kt => st2 t kt) ?_
    refine own_by (A' := T2.setTop (mkF m 93 #[.val (.int p0), .val (.int p1), .val (.int p2), .val (.int (0 : Int32)), .val (.int ca0), .val (.int ca1), .val (.int ca2), .val (.int vb), .val (.int cb0), .val (.int cb1), .val (.int cb2), .val (.ref b1), .unset, .unset, .unset, .unset] [(.ref b1), (.ref b2), (.ref b2)])) (fun t kt => ?_) ?_
    · show Steps p.tables e below (T2.setTop (mkF m 90 #[.val (.int p0), .val (.int p1), .val (.int p2), .val (.int (0 : Int32)), .val (.int ca0), .val (.int ca1), .val (.int ca2), .val (.int vb), .val (.int cb0), .val (.int cb1), .val (.int cb2), .val (.ref b1), .unset, .unset, .unset, .unset] [(.ref b2)])) t
      refine XS.dup X2.here hx rfl (hb hby at_90) rfl rfl ?_
      show Steps p.tables e below (T2.setTop (mkF m 91 #[.val (.int p0), .val (.int p1), .val (.int p2), .val (.int (0 : Int32)), .val (.int ca0), .val (.int ca1), .val (.int ca2), .val (.int vb), .val (.int cb0), .val (.int cb1), .val (.int cb2), .val (.ref b1), .unset, .unset, .unset, .unset] [(.ref b2), (.ref b2)])) t
      refine XS.aload X2.here hx rfl (hb hby at_91) rfl rfl ?_
      exact kt
    obtain ⟨_, _, ⟨T3, L3, k3, n3⟩, -, X3, hS3, hgr3, ⟨Lc3, hQ3, l3, y3, z3⟩, st3⟩ := X2.specialBackS hx (y := (⟨"com/example/corollary/corollary/model/NamedClass", "<init>", "(Ljava/lang/String;)V"⟩ : MethodName)) rfl hown (mvT hZ (hw _ (List.mem_of_getElem? (i := 29) rfl))) (mvT hZ (hw _ (List.mem_of_getElem? (i := 30) rfl))) (mvT hZ (hw _ (List.mem_of_getElem? (i := 31) rfl))) (by decide) (own_backOfV (W := 1) (rmnew5F l Z aw hw [] b2 b1 ("" :: []) h2 n0 (Nat.le_trans Z0 K2.1) A2 F_iri_b2 g_b2 (fun b cl q => K2.2.1 b cl (hZh ▸ q) nin0) HCN HW (by decide)) hZ (fun vm q => own_IBw q GI1) (hw _ (List.mem_of_getElem? (i := 31) rfl)) (hw _ (List.mem_of_getElem? (i := 28) rfl)) (by decide) (by decide)) (g := (mkF m 93 #[.val (.int p0), .val (.int p1), .val (.int p2), .val (.int (0 : Int32)), .val (.int ca0), .val (.int ca1), .val (.int ca2), .val (.int vb), .val (.int cb0), .val (.int cb1), .val (.int cb2), .val (.ref b1), .unset, .unset, .unset, .unset] [(.ref b1), (.ref b2), (.ref b2)])) rfl (by rw [hml]; rfl) (Steps.refl _) (a := b2) (argsL := [(.ref b1)]) (rest := [(.ref b2)]) (lenOf pd_12 rfl) rfl (by show 2 * 0 + _ ≤ _; exact Nat.le_of_eq rfl) (hb hby at_93) (fun _ _ => ⟨rfl, e2, (by decide : 5 + 2 ≤ _), (by decide : 9 + 16 ≤ _)⟩)
    dsimp only [Pt.U, Pt.locs, Pt.cells, Pt.slots] at hS3 hgr3
    dsimp only [Pt.U, Pt.locs, Pt.cells, Pt.slots] at X3 l3 y3 z3 st3 hQ3
    subst l3 y3 z3
    have hSl3 := hS3
    have hS3 : s.Since T3.vm T3.heap.size := Jvm.RoadKit.foldS (s := s) hS1 (by rw [e2]; exact gr2) hSl3 hgr3
    have hown : (s.setVm T3.vm).vm.findClass "com/example/corollary/corollary/model/NamedClassEqualsPinLaw" = some m.cls := by
      show T3.vm.findClass _ = _
      rw [hSl3.1.alike.findClass]; exact hown
    have hZ : Z.Warmed39 (s.setVm T3.vm).vm := State.Warmed39.trans hZ hSl3.1
    obtain ⟨rfl, N3q, Kq3, GE3, GF3, GI3⟩ := hQ3
    have N3 := Fr.app N1 N3q
    have gr3 := Nat.le_trans gr2 Kq3.1
    have K3 : Keep h0 T3.heap [] := K2.trans Kq3 (allS (Or.inr sz_b2) all0)
    have Li3 : Lit (Z.setVm T3.vm) "java/lang/String" 7 lt1 := own_Lit39 hSl3.1 GL1
    refine own_by (A' := T3.setTop (mkF m 96 #[.val (.int p0), .val (.int p1), .val (.int p2), .val (.int (0 : Int32)), .val (.int ca0), .val (.int ca1), .val (.int ca2), .val (.int vb), .val (.int cb0), .val (.int cb1), .val (.int cb2), .val (.ref b1), .unset, .unset, .unset, .unset] [(.ref b2)])) (fun t kt => st3.trans kt) ?_
    refine own_by (A' := T3.setTop (mkF m 107 #[.val (.int p0), .val (.int p1), .val (.int p2), .val (.int (0 : Int32)), .val (.int ca0), .val (.int ca1), .val (.int ca2), .val (.int vb), .val (.int cb0), .val (.int cb1), .val (.int cb2), .val (.ref b1), .val (.ref b2), .val (.int (p2 &&& (7 : Int32))), .unset, .unset] [(.int (1 : Int32)), (.int (p2 &&& (7 : Int32)))])) (fun t kt => ?_) ?_
    · show Steps p.tables e below (T3.setTop (mkF m 96 #[.val (.int p0), .val (.int p1), .val (.int p2), .val (.int (0 : Int32)), .val (.int ca0), .val (.int ca1), .val (.int ca2), .val (.int vb), .val (.int cb0), .val (.int cb1), .val (.int cb2), .val (.ref b1), .unset, .unset, .unset, .unset] [(.ref b2)])) t
      refine XS.astore X3.here hx rfl (hb hby at_96) rfl rfl (l' := #[.val (.int p0), .val (.int p1), .val (.int p2), .val (.int (0 : Int32)), .val (.int ca0), .val (.int ca1), .val (.int ca2), .val (.int vb), .val (.int cb0), .val (.int cb1), .val (.int cb2), .val (.ref b1), .val (.ref b2), .unset, .unset, .unset]) rfl ?_
      show Steps p.tables e below (T3.setTop (mkF m 98 #[.val (.int p0), .val (.int p1), .val (.int p2), .val (.int (0 : Int32)), .val (.int ca0), .val (.int ca1), .val (.int ca2), .val (.int vb), .val (.int cb0), .val (.int cb1), .val (.int cb2), .val (.ref b1), .val (.ref b2), .unset, .unset, .unset] [])) t
      refine XS.iloadN X3.here hx rfl (hb hby at_98) rfl ?_
      show Steps p.tables e below (T3.setTop (mkF m 99 #[.val (.int p0), .val (.int p1), .val (.int p2), .val (.int (0 : Int32)), .val (.int ca0), .val (.int ca1), .val (.int ca2), .val (.int vb), .val (.int cb0), .val (.int cb1), .val (.int cb2), .val (.ref b1), .val (.ref b2), .unset, .unset, .unset] [(.int p2)])) t
      refine XS.bipush X3.here hx rfl (hb hby at_99) ?_
      show Steps p.tables e below (T3.setTop (mkF m 101 #[.val (.int p0), .val (.int p1), .val (.int p2), .val (.int (0 : Int32)), .val (.int ca0), .val (.int ca1), .val (.int ca2), .val (.int vb), .val (.int cb0), .val (.int cb1), .val (.int cb2), .val (.ref b1), .val (.ref b2), .unset, .unset, .unset] [(.int (7 : Int32)), (.int p2)])) t
      refine XS.iand X3.here hx rfl (hb hby at_101) rfl ?_
      show Steps p.tables e below (T3.setTop (mkF m 102 #[.val (.int p0), .val (.int p1), .val (.int p2), .val (.int (0 : Int32)), .val (.int ca0), .val (.int ca1), .val (.int ca2), .val (.int vb), .val (.int cb0), .val (.int cb1), .val (.int cb2), .val (.ref b1), .val (.ref b2), .unset, .unset, .unset] [(.int (p2 &&& (7 : Int32)))])) t
      refine XS.istore X3.here hx rfl (hb hby at_102) rfl (l' := #[.val (.int p0), .val (.int p1), .val (.int p2), .val (.int (0 : Int32)), .val (.int ca0), .val (.int ca1), .val (.int ca2), .val (.int vb), .val (.int cb0), .val (.int cb1), .val (.int cb2), .val (.ref b1), .val (.ref b2), .val (.int (p2 &&& (7 : Int32))), .unset, .unset]) rfl ?_
      show Steps p.tables e below (T3.setTop (mkF m 104 #[.val (.int p0), .val (.int p1), .val (.int p2), .val (.int (0 : Int32)), .val (.int ca0), .val (.int ca1), .val (.int ca2), .val (.int vb), .val (.int cb0), .val (.int cb1), .val (.int cb2), .val (.ref b1), .val (.ref b2), .val (.int (p2 &&& (7 : Int32))), .unset, .unset] [])) t
      refine XS.iload X3.here hx rfl (hb hby at_104) rfl ?_
      show Steps p.tables e below (T3.setTop (mkF m 106 #[.val (.int p0), .val (.int p1), .val (.int p2), .val (.int (0 : Int32)), .val (.int ca0), .val (.int ca1), .val (.int ca2), .val (.int vb), .val (.int cb0), .val (.int cb1), .val (.int cb2), .val (.ref b1), .val (.ref b2), .val (.int (p2 &&& (7 : Int32))), .unset, .unset] [(.int (p2 &&& (7 : Int32)))])) t
      refine XS.iconst X3.here hx rfl (hb hby at_106) ?_
      exact kt
    by_cases hc107_4 : (1 : Int32) < (p2 &&& (7 : Int32))
    · refine own_by (A' := T3.setTop (mkF m 156 #[.val (.int p0), .val (.int p1), .val (.int p2), .val (.int (0 : Int32)), .val (.int ca0), .val (.int ca1), .val (.int ca2), .val (.int vb), .val (.int cb0), .val (.int cb1), .val (.int cb2), .val (.ref b1), .val (.ref b2), .val (.int (p2 &&& (7 : Int32))), .unset, .unset] [(.int (3 : Int32)), (.int (p2 &&& (7 : Int32)))])) (fun t kt => ?_) ?_
      · show Steps p.tables e below (T3.setTop (mkF m 107 #[.val (.int p0), .val (.int p1), .val (.int p2), .val (.int (0 : Int32)), .val (.int ca0), .val (.int ca1), .val (.int ca2), .val (.int vb), .val (.int cb0), .val (.int cb1), .val (.int cb2), .val (.ref b1), .val (.ref b2), .val (.int (p2 &&& (7 : Int32))), .unset, .unset] [(.int (1 : Int32)), (.int (p2 &&& (7 : Int32)))])) t
        refine XS.icmpYes X3.here hx rfl (pc0 := 107) (pc' := 153) rfl (hb hby at_107) rfl (tlt hc107_4).2.2.1 (by decide) (by decide) ?_
        show Steps p.tables e below (T3.setTop (mkF m 153 #[.val (.int p0), .val (.int p1), .val (.int p2), .val (.int (0 : Int32)), .val (.int ca0), .val (.int ca1), .val (.int ca2), .val (.int vb), .val (.int cb0), .val (.int cb1), .val (.int cb2), .val (.ref b1), .val (.ref b2), .val (.int (p2 &&& (7 : Int32))), .unset, .unset] [])) t
        refine XS.iload X3.here hx rfl (hb hby at_153) rfl ?_
        show Steps p.tables e below (T3.setTop (mkF m 155 #[.val (.int p0), .val (.int p1), .val (.int p2), .val (.int (0 : Int32)), .val (.int ca0), .val (.int ca1), .val (.int ca2), .val (.int vb), .val (.int cb0), .val (.int cb1), .val (.int cb2), .val (.ref b1), .val (.ref b2), .val (.int (p2 &&& (7 : Int32))), .unset, .unset] [(.int (p2 &&& (7 : Int32)))])) t
        refine XS.iconst X3.here hx rfl (hb hby at_155) ?_
        exact kt
      by_cases hc156_5 : (3 : Int32) < (p2 &&& (7 : Int32))
      · refine own_by (A' := T3.setTop (mkF m 187 #[.val (.int p0), .val (.int p1), .val (.int p2), .val (.int (0 : Int32)), .val (.int ca0), .val (.int ca1), .val (.int ca2), .val (.int vb), .val (.int cb0), .val (.int cb1), .val (.int cb2), .val (.ref b1), .val (.ref b2), .val (.int (p2 &&& (7 : Int32))), .unset, .unset] [(.int (4 : Int32)), (.int (p2 &&& (7 : Int32)))])) (fun t kt => ?_) ?_
        · show Steps p.tables e below (T3.setTop (mkF m 156 #[.val (.int p0), .val (.int p1), .val (.int p2), .val (.int (0 : Int32)), .val (.int ca0), .val (.int ca1), .val (.int ca2), .val (.int vb), .val (.int cb0), .val (.int cb1), .val (.int cb2), .val (.ref b1), .val (.ref b2), .val (.int (p2 &&& (7 : Int32))), .unset, .unset] [(.int (3 : Int32)), (.int (p2 &&& (7 : Int32)))])) t
          refine XS.icmpYes X3.here hx rfl (pc0 := 156) (pc' := 184) rfl (hb hby at_156) rfl (tlt hc156_5).2.2.1 (by decide) (by decide) ?_
          show Steps p.tables e below (T3.setTop (mkF m 184 #[.val (.int p0), .val (.int p1), .val (.int p2), .val (.int (0 : Int32)), .val (.int ca0), .val (.int ca1), .val (.int ca2), .val (.int vb), .val (.int cb0), .val (.int cb1), .val (.int cb2), .val (.ref b1), .val (.ref b2), .val (.int (p2 &&& (7 : Int32))), .unset, .unset] [])) t
          refine XS.iload X3.here hx rfl (hb hby at_184) rfl ?_
          show Steps p.tables e below (T3.setTop (mkF m 186 #[.val (.int p0), .val (.int p1), .val (.int p2), .val (.int (0 : Int32)), .val (.int ca0), .val (.int ca1), .val (.int ca2), .val (.int vb), .val (.int cb0), .val (.int cb1), .val (.int cb2), .val (.ref b1), .val (.ref b2), .val (.int (p2 &&& (7 : Int32))), .unset, .unset] [(.int (p2 &&& (7 : Int32)))])) t
          refine XS.iconst X3.here hx rfl (hb hby at_186) ?_
          exact kt
        by_cases hc187_6 : (p2 &&& (7 : Int32)) = (4 : Int32)
        · refine own_by (A' := T3.setTop (mkF m 190 #[.val (.int p0), .val (.int p1), .val (.int p2), .val (.int (0 : Int32)), .val (.int ca0), .val (.int ca1), .val (.int ca2), .val (.int vb), .val (.int cb0), .val (.int cb1), .val (.int cb2), .val (.ref b1), .val (.ref b2), .val (.int (p2 &&& (7 : Int32))), .unset, .unset] [])) (fun t kt => ?_) ?_
          · show Steps p.tables e below (T3.setTop (mkF m 187 #[.val (.int p0), .val (.int p1), .val (.int p2), .val (.int (0 : Int32)), .val (.int ca0), .val (.int ca1), .val (.int ca2), .val (.int vb), .val (.int cb0), .val (.int cb1), .val (.int cb2), .val (.ref b1), .val (.ref b2), .val (.int (p2 &&& (7 : Int32))), .unset, .unset] [(.int (4 : Int32)), (.int (p2 &&& (7 : Int32)))])) t
            refine XS.icmpNo X3.here hx rfl (hb hby at_187) rfl (teq hc187_6).2 ?_
            exact kt
          obtain ⟨T7, h7, X7, e7, E7, A7, D7, -, st7⟩ := newO X3 hx hZ hown (hw _ (List.mem_of_getElem? (i := 78) rfl)) (hw _ (List.mem_of_getElem? (i := 79) rfl)) (hw _ (List.mem_of_getElem? (i := 80) rfl)) rfl (g := (mkF m 190 #[.val (.int p0), .val (.int p1), .val (.int p2), .val (.int (0 : Int32)), .val (.int ca0), .val (.int ca1), .val (.int ca2), .val (.int vb), .val (.int cb0), .val (.int cb1), .val (.int cb2), .val (.ref b1), .val (.ref b2), .val (.int (p2 &&& (7 : Int32))), .unset, .unset] [])) rfl (hb hby at_190) (by decide) (by decide)
          obtain ⟨b7, g7⟩ : ∃ z, z = T3.heap.size := ⟨_, rfl⟩
          rw [← g7] at A7 D7 st7
          have sz_b7 : h0.size ≤ b7 := Nat.le_trans K3.1 (Nat.le_of_eq g7.symm)
          have g_b7 : n0 ≤ b7 := Nat.le_trans Z0 sz_b7
          have gr7 := Nat.le_trans (Nat.le_refl T3.heap.size) E7.1
          have K7 : Keep h0 h7 [] := K3.ext E7
          have F_iri_b7 : Fld Z h7 b7 "com/example/corollary/corollary/model/ObjectProperty" "iri" "Ljava/lang/String;" .null := D7 (Or.inr (hw _ (List.mem_of_getElem? (i := 88) rfl))) (ty := (.object "java/lang/String")) (by decide)
          refine own_by (A' := T7.setTop (mkF m 193 #[.val (.int p0), .val (.int p1), .val (.int p2), .val (.int (0 : Int32)), .val (.int ca0), .val (.int ca1), .val (.int ca2), .val (.int vb), .val (.int cb0), .val (.int cb1), .val (.int cb2), .val (.ref b1), .val (.ref b2), .val (.int (p2 &&& (7 : Int32))), .unset, .unset] [(.ref b7)])) (fun t kt => st7 t kt) ?_
          refine own_by (A' := T7.setTop (mkF m 201 #[.val (.int p0), .val (.int p1), .val (.int p2), .val (.int (0 : Int32)), .val (.int ca0), .val (.int ca1), .val (.int ca2), .val (.int vb), .val (.int cb0), .val (.int cb1), .val (.int cb2), .val (.ref b1), .val (.ref b2), .val (.int (p2 &&& (7 : Int32))), .unset, .unset] [(.int ca2), (.int ca1), (.int ca0), (.int (0 : Int32)), (.ref b7), (.ref b7)])) (fun t kt => ?_) ?_
          · show Steps p.tables e below (T7.setTop (mkF m 193 #[.val (.int p0), .val (.int p1), .val (.int p2), .val (.int (0 : Int32)), .val (.int ca0), .val (.int ca1), .val (.int ca2), .val (.int vb), .val (.int cb0), .val (.int cb1), .val (.int cb2), .val (.ref b1), .val (.ref b2), .val (.int (p2 &&& (7 : Int32))), .unset, .unset] [(.ref b7)])) t
            refine XS.dup X7.here hx rfl (hb hby at_193) rfl rfl ?_
            show Steps p.tables e below (T7.setTop (mkF m 194 #[.val (.int p0), .val (.int p1), .val (.int p2), .val (.int (0 : Int32)), .val (.int ca0), .val (.int ca1), .val (.int ca2), .val (.int vb), .val (.int cb0), .val (.int cb1), .val (.int cb2), .val (.ref b1), .val (.ref b2), .val (.int (p2 &&& (7 : Int32))), .unset, .unset] [(.ref b7), (.ref b7)])) t
            refine XS.iloadN X7.here hx rfl (hb hby at_194) rfl ?_
            show Steps p.tables e below (T7.setTop (mkF m 195 #[.val (.int p0), .val (.int p1), .val (.int p2), .val (.int (0 : Int32)), .val (.int ca0), .val (.int ca1), .val (.int ca2), .val (.int vb), .val (.int cb0), .val (.int cb1), .val (.int cb2), .val (.ref b1), .val (.ref b2), .val (.int (p2 &&& (7 : Int32))), .unset, .unset] [(.int (0 : Int32)), (.ref b7), (.ref b7)])) t
            refine XS.iload X7.here hx rfl (hb hby at_195) rfl ?_
            show Steps p.tables e below (T7.setTop (mkF m 197 #[.val (.int p0), .val (.int p1), .val (.int p2), .val (.int (0 : Int32)), .val (.int ca0), .val (.int ca1), .val (.int ca2), .val (.int vb), .val (.int cb0), .val (.int cb1), .val (.int cb2), .val (.ref b1), .val (.ref b2), .val (.int (p2 &&& (7 : Int32))), .unset, .unset] [(.int ca0), (.int (0 : Int32)), (.ref b7), (.ref b7)])) t
            refine XS.iload X7.here hx rfl (hb hby at_197) rfl ?_
            show Steps p.tables e below (T7.setTop (mkF m 199 #[.val (.int p0), .val (.int p1), .val (.int p2), .val (.int (0 : Int32)), .val (.int ca0), .val (.int ca1), .val (.int ca2), .val (.int vb), .val (.int cb0), .val (.int cb1), .val (.int cb2), .val (.ref b1), .val (.ref b2), .val (.int (p2 &&& (7 : Int32))), .unset, .unset] [(.int ca1), (.int ca0), (.int (0 : Int32)), (.ref b7), (.ref b7)])) t
            refine XS.iload X7.here hx rfl (hb hby at_199) rfl ?_
            exact kt
          obtain ⟨_, _, ⟨T8, L8, k8, n8⟩, -, X8, hS8, hgr8, ⟨Lc8, hQ8, l8, y8, z8⟩, st8⟩ := callSS X7 hx (y := (⟨"com/example/corollary/corollary/model/NamedClassEqualsPinLaw", "mk", "(ICCC)Ljava/lang/String;"⟩ : MethodName)) hown (mvT hZ (hw _ (List.mem_of_getElem? (i := 0) rfl))) (mvT hZ (hw _ (List.mem_of_getElem? (i := 1) rfl))) (mvT hZ (hw _ (List.mem_of_getElem? (i := 2) rfl))) (mvT hZ (hw _ (List.mem_of_getElem? (i := 3) rfl))) (by decide) (own_backOfV (W := 2) (rmmkA l Z aw hw [] ca0 ca1 ca2 lt1 h7 n0 (Nat.le_trans Z0 K7.1) (own_OSext (own_OSkeep1 (own_OSext GOl1 E2) Kq3 A2 (hw _ (List.mem_of_getElem? (i := 27) rfl)) (by decide)) E7)) hZ (fun vm q => own_Litw q Li3) (hw _ (List.mem_of_getElem? (i := 3) rfl)) (hw _ (List.mem_of_getElem? (i := 2) rfl)) (by decide) (by decide)) (g := (mkF m 201 #[.val (.int p0), .val (.int p1), .val (.int p2), .val (.int (0 : Int32)), .val (.int ca0), .val (.int ca1), .val (.int ca2), .val (.int vb), .val (.int cb0), .val (.int cb1), .val (.int cb2), .val (.ref b1), .val (.ref b2), .val (.int (p2 &&& (7 : Int32))), .unset, .unset] [(.int ca2), (.int ca1), (.int ca0), (.int (0 : Int32)), (.ref b7), (.ref b7)])) rfl (by rw [hml]; rfl) (argsL := [(.int (0 : Int32)), (.int ca0), (.int ca1), (.int ca2)]) (rest := [(.ref b7), (.ref b7)]) (lenOf pd_11 rfl) rfl (by show 2 * 0 + _ ≤ _; exact Nat.le_of_eq rfl) (hb hby at_201) (fun _ _ => ⟨rfl, e7, (by decide : 8 + 2 ≤ _), (by decide : 26 + 4 ≤ _)⟩)
          dsimp only [Pt.U, Pt.locs, Pt.cells, Pt.slots] at hS8 hgr8
          dsimp only [Pt.U, Pt.locs, Pt.cells, Pt.slots] at X8 l8 y8 z8 st8 hQ8
          subst l8 y8 z8
          have hSl8 := hS8
          have hS8 : s.Since T8.vm T8.heap.size := Jvm.RoadKit.foldS (s := s) hS3 (by rw [e7]; exact gr7) hSl8 hgr8
          have hown : (s.setVm T8.vm).vm.findClass "com/example/corollary/corollary/model/NamedClassEqualsPinLaw" = some m.cls := by
            show T8.vm.findClass _ = _
            rw [hSl8.1.alike.findClass]; exact hown
          have hZ : Z.Warmed39 (s.setVm T8.vm).vm := State.Warmed39.trans hZ hSl8.1
          obtain ⟨b8, rfl, N8q, Kq8, GO8⟩ := hQ8
          have N8 := Fr.app N3 N8q
          have gr8 := Nat.le_trans gr7 Kq8.1
          have K8 : Keep h0 T8.heap [] := K7.trans Kq8 all0
          have GP8 : own_OS Z T8.heap b8 (own_cs (0 : Int32) ca0 ca1 ca2) := by rw [own_cs, if_pos rfl]; exact GO8
          obtain ⟨_, _, GE8, _⟩ := id GP8
          refine own_by (A' := T8.setTop (mkF m 204 #[.val (.int p0), .val (.int p1), .val (.int p2), .val (.int (0 : Int32)), .val (.int ca0), .val (.int ca1), .val (.int ca2), .val (.int vb), .val (.int cb0), .val (.int cb1), .val (.int cb2), .val (.ref b1), .val (.ref b2), .val (.int (p2 &&& (7 : Int32))), .unset, .unset] [(.ref b8), (.ref b7), (.ref b7)])) (fun t kt => st8.trans kt) ?_
          obtain ⟨_, _, ⟨T9, L9, k9, n9⟩, -, X9, hS9, hgr9, ⟨Lc9, hQ9, l9, y9, z9⟩, st9⟩ := X8.specialBackS hx (y := (⟨"com/example/corollary/corollary/model/ObjectProperty", "<init>", "(Ljava/lang/String;)V"⟩ : MethodName)) rfl hown (mvT hZ (hw _ (List.mem_of_getElem? (i := 81) rfl))) (mvT hZ (hw _ (List.mem_of_getElem? (i := 82) rfl))) (mvT hZ (hw _ (List.mem_of_getElem? (i := 83) rfl))) (by decide) (own_backOfV (W := 1) (rmnew15S l Z aw hw [] b7 b8 T8.heap n0 (Nat.le_trans Z0 K8.1) (A7.keep Kq8) (F_iri_b7.keep Kq8 nin0) g_b7) hZ (fun vm q => trivial) (hw _ (List.mem_of_getElem? (i := 83) rfl)) (hw _ (List.mem_of_getElem? (i := 80) rfl)) (by decide) (by decide)) (g := (mkF m 204 #[.val (.int p0), .val (.int p1), .val (.int p2), .val (.int (0 : Int32)), .val (.int ca0), .val (.int ca1), .val (.int ca2), .val (.int vb), .val (.int cb0), .val (.int cb1), .val (.int cb2), .val (.ref b1), .val (.ref b2), .val (.int (p2 &&& (7 : Int32))), .unset, .unset] [(.ref b8), (.ref b7), (.ref b7)])) rfl (by rw [hml]; rfl) (Steps.refl _) (a := b7) (argsL := [(.ref b8)]) (rest := [(.ref b7)]) (lenOf pd_12 rfl) rfl (by show 2 * 0 + _ ≤ _; exact Nat.le_of_eq rfl) (hb hby at_204) (fun _ _ => ⟨rfl, rfl, (by decide : 10 + 2 ≤ _), (by decide : 30 + 16 ≤ _)⟩)
          dsimp only [Pt.U, Pt.locs, Pt.cells, Pt.slots] at hS9 hgr9
          dsimp only [Pt.U, Pt.locs, Pt.cells, Pt.slots] at X9 l9 y9 z9 st9 hQ9
          subst l9 y9 z9
          have hSl9 := hS9
          have hS9 : s.Since T9.vm T9.heap.size := Jvm.RoadKit.foldS (s := s) hS8 (by exact (Nat.le_refl T8.heap.size)) hSl9 hgr9
          have hown : (s.setVm T9.vm).vm.findClass "com/example/corollary/corollary/model/NamedClassEqualsPinLaw" = some m.cls := by
            show T9.vm.findClass _ = _
            rw [hSl9.1.alike.findClass]; exact hown
          have hZ : Z.Warmed39 (s.setVm T9.vm).vm := State.Warmed39.trans hZ hSl9.1
          obtain ⟨rfl, N9q, Kq9, GE9, GF9⟩ := hQ9
          have N9 := Fr.app N8 N9q
          have gr9 := Nat.le_trans (Nat.le_refl T8.heap.size) Kq9.1
          have K9 : Keep h0 T9.heap [] := K8.trans Kq9 (allS (Or.inr sz_b7) all0)
          refine own_by (A' := T9.setTop (mkF m 207 #[.val (.int p0), .val (.int p1), .val (.int p2), .val (.int (0 : Int32)), .val (.int ca0), .val (.int ca1), .val (.int ca2), .val (.int vb), .val (.int cb0), .val (.int cb1), .val (.int cb2), .val (.ref b1), .val (.ref b2), .val (.int (p2 &&& (7 : Int32))), .unset, .unset] [(.ref b7)])) (fun t kt => st9.trans kt) ?_
          refine own_by (A' := T9.setTop (mkF m 258 #[.val (.int p0), .val (.int p1), .val (.int p2), .val (.int (0 : Int32)), .val (.int ca0), .val (.int ca1), .val (.int ca2), .val (.int vb), .val (.int cb0), .val (.int cb1), .val (.int cb2), .val (.ref b1), .val (.ref b2), .val (.int (p2 &&& (7 : Int32))), .val (.ref b7), .val (.int (0 : Int32))] [(.ref b7), (.ref b2)])) (fun t kt => ?_) ?_
          · show Steps p.tables e below (T9.setTop (mkF m 207 #[.val (.int p0), .val (.int p1), .val (.int p2), .val (.int (0 : Int32)), .val (.int ca0), .val (.int ca1), .val (.int ca2), .val (.int vb), .val (.int cb0), .val (.int cb1), .val (.int cb2), .val (.ref b1), .val (.ref b2), .val (.int (p2 &&& (7 : Int32))), .unset, .unset] [(.ref b7)])) t
            refine XS.astore X9.here hx rfl (hb hby at_207) rfl rfl (l' := #[.val (.int p0), .val (.int p1), .val (.int p2), .val (.int (0 : Int32)), .val (.int ca0), .val (.int ca1), .val (.int ca2), .val (.int vb), .val (.int cb0), .val (.int cb1), .val (.int cb2), .val (.ref b1), .val (.ref b2), .val (.int (p2 &&& (7 : Int32))), .val (.ref b7), .unset]) rfl ?_
            show Steps p.tables e below (T9.setTop (mkF m 209 #[.val (.int p0), .val (.int p1), .val (.int p2), .val (.int (0 : Int32)), .val (.int ca0), .val (.int ca1), .val (.int ca2), .val (.int vb), .val (.int cb0), .val (.int cb1), .val (.int cb2), .val (.ref b1), .val (.ref b2), .val (.int (p2 &&& (7 : Int32))), .val (.ref b7), .unset] [])) t
            refine XS.iconst X9.here hx rfl (hb hby at_209) ?_
            show Steps p.tables e below (T9.setTop (mkF m 210 #[.val (.int p0), .val (.int p1), .val (.int p2), .val (.int (0 : Int32)), .val (.int ca0), .val (.int ca1), .val (.int ca2), .val (.int vb), .val (.int cb0), .val (.int cb1), .val (.int cb2), .val (.ref b1), .val (.ref b2), .val (.int (p2 &&& (7 : Int32))), .val (.ref b7), .unset] [(.int (0 : Int32))])) t
            refine XS.istore X9.here hx rfl (hb hby at_210) rfl (l' := #[.val (.int p0), .val (.int p1), .val (.int p2), .val (.int (0 : Int32)), .val (.int ca0), .val (.int ca1), .val (.int ca2), .val (.int vb), .val (.int cb0), .val (.int cb1), .val (.int cb2), .val (.ref b1), .val (.ref b2), .val (.int (p2 &&& (7 : Int32))), .val (.ref b7), .val (.int (0 : Int32))]) rfl ?_
            show Steps p.tables e below (T9.setTop (mkF m 212 #[.val (.int p0), .val (.int p1), .val (.int p2), .val (.int (0 : Int32)), .val (.int ca0), .val (.int ca1), .val (.int ca2), .val (.int vb), .val (.int cb0), .val (.int cb1), .val (.int cb2), .val (.ref b1), .val (.ref b2), .val (.int (p2 &&& (7 : Int32))), .val (.ref b7), .val (.int (0 : Int32))] [])) t
            refine XS.goto X9.here hx rfl (pc0 := 212) (pc' := 254) rfl (hb hby at_212) (by decide) (by decide) ?_
            show Steps p.tables e below (T9.setTop (mkF m 254 #[.val (.int p0), .val (.int p1), .val (.int p2), .val (.int (0 : Int32)), .val (.int ca0), .val (.int ca1), .val (.int ca2), .val (.int vb), .val (.int cb0), .val (.int cb1), .val (.int cb2), .val (.ref b1), .val (.ref b2), .val (.int (p2 &&& (7 : Int32))), .val (.ref b7), .val (.int (0 : Int32))] [])) t
            refine XS.aload X9.here hx rfl (hb hby at_254) rfl rfl ?_
            show Steps p.tables e below (T9.setTop (mkF m 256 #[.val (.int p0), .val (.int p1), .val (.int p2), .val (.int (0 : Int32)), .val (.int ca0), .val (.int ca1), .val (.int ca2), .val (.int vb), .val (.int cb0), .val (.int cb1), .val (.int cb2), .val (.ref b1), .val (.ref b2), .val (.int (p2 &&& (7 : Int32))), .val (.ref b7), .val (.int (0 : Int32))] [(.ref b2)])) t
            refine XS.aload X9.here hx rfl (hb hby at_256) rfl rfl ?_
            exact kt
          obtain ⟨cq10, kq10, q10a, q10b, q10c⟩ := isOf hZ rfl (((GE3.ext E7).keep Kq8).keep Kq9)
          obtain ⟨_, _, ⟨T10, L10, k10, n10⟩, -, X10, ⟨Lc10, hQ10, l10, y10, z10⟩, st10⟩ := X9.virtualBack hx (y := (⟨"com/example/corollary/corollary/model/NamedClass", "equals", "(Ljava/lang/Object;)Z"⟩ : MethodName)) (z := (⟨"com/example/corollary/corollary/model/NamedClass", "equals", "(Ljava/lang/Object;)Z"⟩ : MethodName)) hown (mvT hZ (hw _ (List.mem_of_getElem? (i := 45) rfl))) (mvT hZ (hw _ (List.mem_of_getElem? (i := 46) rfl))) (notFace_of_selects (args := #[]) (mvT hZ (hw _ (List.mem_of_getElem? (i := 48) rfl)))) (mvT hZ (hw _ (List.mem_of_getElem? (i := 48) rfl))) (mvT hZ (hw _ (List.mem_of_getElem? (i := 47) rfl))) (by decide) (backOf (W := 0) (rmEqO l Z aw hw [] b2 b7 T9.heap n0 (Nat.le_trans Z0 K9.1) GE9) hZ (hw _ (List.mem_of_getElem? (i := 49) rfl)) (hw _ (List.mem_of_getElem? (i := 28) rfl)) (by decide) (by decide)) q10a q10c (g := (mkF m 258 #[.val (.int p0), .val (.int p1), .val (.int p2), .val (.int (0 : Int32)), .val (.int ca0), .val (.int ca1), .val (.int ca2), .val (.int vb), .val (.int cb0), .val (.int cb1), .val (.int cb2), .val (.ref b1), .val (.ref b2), .val (.int (p2 &&& (7 : Int32))), .val (.ref b7), .val (.int (0 : Int32))] [(.ref b7), (.ref b2)])) rfl (by rw [hml]; rfl) (Steps.refl _) (argsL := [(.ref b7)]) (rest := []) (lenOf pd_10 rfl) rfl (by show 2 * 0 + _ ≤ _; exact Nat.le_of_eq rfl) (hb hby at_258) (fun _ _ => ⟨rfl, rfl, (by decide : 12 + 0 ≤ _), (by decide : 46 + 0 ≤ _)⟩)
          dsimp only [Pt.U, Pt.locs, Pt.cells, Pt.slots] at X10 l10 y10 z10 st10 hQ10
          subst l10 y10 z10
          obtain ⟨rfl, N10q, e10⟩ := hQ10
          have N10 := Fr.app N9 N10q
          refine own_by (A' := T10.setTop (mkF m 261 #[.val (.int p0), .val (.int p1), .val (.int p2), .val (.int (0 : Int32)), .val (.int ca0), .val (.int ca1), .val (.int ca2), .val (.int vb), .val (.int cb0), .val (.int cb1), .val (.int cb2), .val (.ref b1), .val (.ref b2), .val (.int (p2 &&& (7 : Int32))), .val (.ref b7), .val (.int (0 : Int32))] [(.int (own_fEqO))])) (fun t kt => st10.trans kt) ?_
          refine own_by (A' := T10.setTop (mkF m 263 #[.val (.int p0), .val (.int p1), .val (.int p2), .val (.int (0 : Int32)), .val (.int ca0), .val (.int ca1), .val (.int ca2), .val (.int vb), .val (.int cb0), .val (.int cb1), .val (.int cb2), .val (.ref b1), .val (.ref b2), .val (.int (p2 &&& (7 : Int32))), .val (.ref b7), .val (.int (0 : Int32))] [(.int (0 : Int32)), (.int (own_fEqO))])) (fun t kt => ?_) ?_
          · show Steps p.tables e below (T10.setTop (mkF m 261 #[.val (.int p0), .val (.int p1), .val (.int p2), .val (.int (0 : Int32)), .val (.int ca0), .val (.int ca1), .val (.int ca2), .val (.int vb), .val (.int cb0), .val (.int cb1), .val (.int cb2), .val (.ref b1), .val (.ref b2), .val (.int (p2 &&& (7 : Int32))), .val (.ref b7), .val (.int (0 : Int32))] [(.int (own_fEqO))])) t
            refine XS.iload X10.here hx rfl (hb hby at_261) rfl ?_
            exact kt
          have hc263_11 : (own_fEqO) = (0 : Int32) := rfl
          refine own_by (A' := T10.setTop (mkF m 271 #[.val (.int p0), .val (.int p1), .val (.int p2), .val (.int (0 : Int32)), .val (.int ca0), .val (.int ca1), .val (.int ca2), .val (.int vb), .val (.int cb0), .val (.int cb1), .val (.int cb2), .val (.ref b1), .val (.ref b2), .val (.int (p2 &&& (7 : Int32))), .val (.ref b7), .val (.int (0 : Int32))] [(.int (1 : Int32))])) (fun t kt => ?_) ?_
          · show Steps p.tables e below (T10.setTop (mkF m 263 #[.val (.int p0), .val (.int p1), .val (.int p2), .val (.int (0 : Int32)), .val (.int ca0), .val (.int ca1), .val (.int ca2), .val (.int vb), .val (.int cb0), .val (.int cb1), .val (.int cb2), .val (.ref b1), .val (.ref b2), .val (.int (p2 &&& (7 : Int32))), .val (.ref b7), .val (.int (0 : Int32))] [(.int (0 : Int32)), (.int (own_fEqO))])) t
            refine XS.icmpNo X10.here hx rfl (hb hby at_263) rfl (teq hc263_11).2 ?_
            show Steps p.tables e below (T10.setTop (mkF m 266 #[.val (.int p0), .val (.int p1), .val (.int p2), .val (.int (0 : Int32)), .val (.int ca0), .val (.int ca1), .val (.int ca2), .val (.int vb), .val (.int cb0), .val (.int cb1), .val (.int cb2), .val (.ref b1), .val (.ref b2), .val (.int (p2 &&& (7 : Int32))), .val (.ref b7), .val (.int (0 : Int32))] [])) t
            refine XS.iconst X10.here hx rfl (hb hby at_266) ?_
            show Steps p.tables e below (T10.setTop (mkF m 267 #[.val (.int p0), .val (.int p1), .val (.int p2), .val (.int (0 : Int32)), .val (.int ca0), .val (.int ca1), .val (.int ca2), .val (.int vb), .val (.int cb0), .val (.int cb1), .val (.int cb2), .val (.ref b1), .val (.ref b2), .val (.int (p2 &&& (7 : Int32))), .val (.ref b7), .val (.int (0 : Int32))] [(.int (1 : Int32))])) t
            refine XS.goto X10.here hx rfl (pc0 := 267) (pc' := 271) rfl (hb hby at_267) (by decide) (by decide) ?_
            exact kt
          obtain ⟨fs, hr, hrun, hended, hEnd⟩ := X10.leaveW (s := s) hS9 (by rw [e10]; exact (Nat.le_refl T9.heap.size)) (v := some (.int (1 : Int32))) (fun h => by rw [Bd.returns] at h; cases h)
          refine ⟨_, _, ?_, hrun, hended, _, _, rfl, ?_, hEnd.1, hEnd.2.1, hEnd.2.2.1, hEnd.2.2.2.mono (by decide) (by decide)⟩
          · exact retN X10 hx (t := .boolean) Bd.returns (by simp) (hb hby at_271) hr
          · show Q0 Z p0 p1 p2 G1 h0 n0 _ T10.heap _ T10.vm
            rw [e10]
            exact ⟨rfl, N10⟩
        · refine own_by (A' := T3.setTop (mkF m 218 #[.val (.int p0), .val (.int p1), .val (.int p2), .val (.int (0 : Int32)), .val (.int ca0), .val (.int ca1), .val (.int ca2), .val (.int vb), .val (.int cb0), .val (.int cb1), .val (.int cb2), .val (.ref b1), .val (.ref b2), .val (.int (p2 &&& (7 : Int32))), .unset, .unset] [(.int (5 : Int32)), (.int (p2 &&& (7 : Int32)))])) (fun t kt => ?_) ?_
          · show Steps p.tables e below (T3.setTop (mkF m 187 #[.val (.int p0), .val (.int p1), .val (.int p2), .val (.int (0 : Int32)), .val (.int ca0), .val (.int ca1), .val (.int ca2), .val (.int vb), .val (.int cb0), .val (.int cb1), .val (.int cb2), .val (.ref b1), .val (.ref b2), .val (.int (p2 &&& (7 : Int32))), .unset, .unset] [(.int (4 : Int32)), (.int (p2 &&& (7 : Int32)))])) t
            refine XS.icmpYes X3.here hx rfl (pc0 := 187) (pc' := 215) rfl (hb hby at_187) rfl (feq hc187_6).2 (by decide) (by decide) ?_
            show Steps p.tables e below (T3.setTop (mkF m 215 #[.val (.int p0), .val (.int p1), .val (.int p2), .val (.int (0 : Int32)), .val (.int ca0), .val (.int ca1), .val (.int ca2), .val (.int vb), .val (.int cb0), .val (.int cb1), .val (.int cb2), .val (.ref b1), .val (.ref b2), .val (.int (p2 &&& (7 : Int32))), .unset, .unset] [])) t
            refine XS.iload X3.here hx rfl (hb hby at_215) rfl ?_
            show Steps p.tables e below (T3.setTop (mkF m 217 #[.val (.int p0), .val (.int p1), .val (.int p2), .val (.int (0 : Int32)), .val (.int ca0), .val (.int ca1), .val (.int ca2), .val (.int vb), .val (.int cb0), .val (.int cb1), .val (.int cb2), .val (.ref b1), .val (.ref b2), .val (.int (p2 &&& (7 : Int32))), .unset, .unset] [(.int (p2 &&& (7 : Int32)))])) t
            refine XS.iconst X3.here hx rfl (hb hby at_217) ?_
            exact kt
          by_cases hc218_12 : (p2 &&& (7 : Int32)) = (5 : Int32)
          · refine own_by (A' := T3.setTop (mkF m 258 #[.val (.int p0), .val (.int p1), .val (.int p2), .val (.int (0 : Int32)), .val (.int ca0), .val (.int ca1), .val (.int ca2), .val (.int vb), .val (.int cb0), .val (.int cb1), .val (.int cb2), .val (.ref b1), .val (.ref b2), .val (.int (p2 &&& (7 : Int32))), .val .null, .val (.int (0 : Int32))] [.null, (.ref b2)])) (fun t kt => ?_) ?_
            · show Steps p.tables e below (T3.setTop (mkF m 218 #[.val (.int p0), .val (.int p1), .val (.int p2), .val (.int (0 : Int32)), .val (.int ca0), .val (.int ca1), .val (.int ca2), .val (.int vb), .val (.int cb0), .val (.int cb1), .val (.int cb2), .val (.ref b1), .val (.ref b2), .val (.int (p2 &&& (7 : Int32))), .unset, .unset] [(.int (5 : Int32)), (.int (p2 &&& (7 : Int32)))])) t
              refine XS.icmpNo X3.here hx rfl (hb hby at_218) rfl (teq hc218_12).2 ?_
              show Steps p.tables e below (T3.setTop (mkF m 221 #[.val (.int p0), .val (.int p1), .val (.int p2), .val (.int (0 : Int32)), .val (.int ca0), .val (.int ca1), .val (.int ca2), .val (.int vb), .val (.int cb0), .val (.int cb1), .val (.int cb2), .val (.ref b1), .val (.ref b2), .val (.int (p2 &&& (7 : Int32))), .unset, .unset] [])) t
              refine XS.aconstNull X3.here hx rfl (hb hby at_221) ?_
              show Steps p.tables e below (T3.setTop (mkF m 222 #[.val (.int p0), .val (.int p1), .val (.int p2), .val (.int (0 : Int32)), .val (.int ca0), .val (.int ca1), .val (.int ca2), .val (.int vb), .val (.int cb0), .val (.int cb1), .val (.int cb2), .val (.ref b1), .val (.ref b2), .val (.int (p2 &&& (7 : Int32))), .unset, .unset] [.null])) t
              refine XS.astore X3.here hx rfl (hb hby at_222) rfl rfl (l' := #[.val (.int p0), .val (.int p1), .val (.int p2), .val (.int (0 : Int32)), .val (.int ca0), .val (.int ca1), .val (.int ca2), .val (.int vb), .val (.int cb0), .val (.int cb1), .val (.int cb2), .val (.ref b1), .val (.ref b2), .val (.int (p2 &&& (7 : Int32))), .val .null, .unset]) rfl ?_
              show Steps p.tables e below (T3.setTop (mkF m 224 #[.val (.int p0), .val (.int p1), .val (.int p2), .val (.int (0 : Int32)), .val (.int ca0), .val (.int ca1), .val (.int ca2), .val (.int vb), .val (.int cb0), .val (.int cb1), .val (.int cb2), .val (.ref b1), .val (.ref b2), .val (.int (p2 &&& (7 : Int32))), .val .null, .unset] [])) t
              refine XS.iconst X3.here hx rfl (hb hby at_224) ?_
              show Steps p.tables e below (T3.setTop (mkF m 225 #[.val (.int p0), .val (.int p1), .val (.int p2), .val (.int (0 : Int32)), .val (.int ca0), .val (.int ca1), .val (.int ca2), .val (.int vb), .val (.int cb0), .val (.int cb1), .val (.int cb2), .val (.ref b1), .val (.ref b2), .val (.int (p2 &&& (7 : Int32))), .val .null, .unset] [(.int (0 : Int32))])) t
              refine XS.istore X3.here hx rfl (hb hby at_225) rfl (l' := #[.val (.int p0), .val (.int p1), .val (.int p2), .val (.int (0 : Int32)), .val (.int ca0), .val (.int ca1), .val (.int ca2), .val (.int vb), .val (.int cb0), .val (.int cb1), .val (.int cb2), .val (.ref b1), .val (.ref b2), .val (.int (p2 &&& (7 : Int32))), .val .null, .val (.int (0 : Int32))]) rfl ?_
              show Steps p.tables e below (T3.setTop (mkF m 227 #[.val (.int p0), .val (.int p1), .val (.int p2), .val (.int (0 : Int32)), .val (.int ca0), .val (.int ca1), .val (.int ca2), .val (.int vb), .val (.int cb0), .val (.int cb1), .val (.int cb2), .val (.ref b1), .val (.ref b2), .val (.int (p2 &&& (7 : Int32))), .val .null, .val (.int (0 : Int32))] [])) t
              refine XS.goto X3.here hx rfl (pc0 := 227) (pc' := 254) rfl (hb hby at_227) (by decide) (by decide) ?_
              show Steps p.tables e below (T3.setTop (mkF m 254 #[.val (.int p0), .val (.int p1), .val (.int p2), .val (.int (0 : Int32)), .val (.int ca0), .val (.int ca1), .val (.int ca2), .val (.int vb), .val (.int cb0), .val (.int cb1), .val (.int cb2), .val (.ref b1), .val (.ref b2), .val (.int (p2 &&& (7 : Int32))), .val .null, .val (.int (0 : Int32))] [])) t
              refine XS.aload X3.here hx rfl (hb hby at_254) rfl rfl ?_
              show Steps p.tables e below (T3.setTop (mkF m 256 #[.val (.int p0), .val (.int p1), .val (.int p2), .val (.int (0 : Int32)), .val (.int ca0), .val (.int ca1), .val (.int ca2), .val (.int vb), .val (.int cb0), .val (.int cb1), .val (.int cb2), .val (.ref b1), .val (.ref b2), .val (.int (p2 &&& (7 : Int32))), .val .null, .val (.int (0 : Int32))] [(.ref b2)])) t
              refine XS.aload X3.here hx rfl (hb hby at_256) rfl rfl ?_
              exact kt
            obtain ⟨cq13, kq13, q13a, q13b, q13c⟩ := isOf hZ rfl GE3
            obtain ⟨_, _, ⟨T13, L13, k13, n13⟩, -, X13, ⟨Lc13, hQ13, l13, y13, z13⟩, st13⟩ := X3.virtualBack hx (y := (⟨"com/example/corollary/corollary/model/NamedClass", "equals", "(Ljava/lang/Object;)Z"⟩ : MethodName)) (z := (⟨"com/example/corollary/corollary/model/NamedClass", "equals", "(Ljava/lang/Object;)Z"⟩ : MethodName)) hown (mvT hZ (hw _ (List.mem_of_getElem? (i := 45) rfl))) (mvT hZ (hw _ (List.mem_of_getElem? (i := 46) rfl))) (notFace_of_selects (args := #[]) (mvT hZ (hw _ (List.mem_of_getElem? (i := 48) rfl)))) (mvT hZ (hw _ (List.mem_of_getElem? (i := 48) rfl))) (mvT hZ (hw _ (List.mem_of_getElem? (i := 47) rfl))) (by decide) (backOf (W := 0) (rmEqN l Z aw hw [] b2 T3.heap n0 (Nat.le_trans Z0 K3.1) ) hZ (hw _ (List.mem_of_getElem? (i := 49) rfl)) (hw _ (List.mem_of_getElem? (i := 28) rfl)) (by decide) (by decide)) q13a q13c (g := (mkF m 258 #[.val (.int p0), .val (.int p1), .val (.int p2), .val (.int (0 : Int32)), .val (.int ca0), .val (.int ca1), .val (.int ca2), .val (.int vb), .val (.int cb0), .val (.int cb1), .val (.int cb2), .val (.ref b1), .val (.ref b2), .val (.int (p2 &&& (7 : Int32))), .val .null, .val (.int (0 : Int32))] [.null, (.ref b2)])) rfl (by rw [hml]; rfl) (Steps.refl _) (argsL := [.null]) (rest := []) (lenOf pd_10 rfl) rfl (by show 2 * 0 + _ ≤ _; exact Nat.le_of_eq rfl) (hb hby at_258) (fun _ _ => ⟨rfl, rfl, (by decide : 7 + 0 ≤ _), (by decide : 25 + 0 ≤ _)⟩)
            dsimp only [Pt.U, Pt.locs, Pt.cells, Pt.slots] at X13 l13 y13 z13 st13 hQ13
            subst l13 y13 z13
            obtain ⟨rfl, N13q, e13⟩ := hQ13
            have N13 := Fr.app N3 N13q
            refine own_by (A' := T13.setTop (mkF m 261 #[.val (.int p0), .val (.int p1), .val (.int p2), .val (.int (0 : Int32)), .val (.int ca0), .val (.int ca1), .val (.int ca2), .val (.int vb), .val (.int cb0), .val (.int cb1), .val (.int cb2), .val (.ref b1), .val (.ref b2), .val (.int (p2 &&& (7 : Int32))), .val .null, .val (.int (0 : Int32))] [(.int (own_fEqN))])) (fun t kt => st13.trans kt) ?_
            refine own_by (A' := T13.setTop (mkF m 263 #[.val (.int p0), .val (.int p1), .val (.int p2), .val (.int (0 : Int32)), .val (.int ca0), .val (.int ca1), .val (.int ca2), .val (.int vb), .val (.int cb0), .val (.int cb1), .val (.int cb2), .val (.ref b1), .val (.ref b2), .val (.int (p2 &&& (7 : Int32))), .val .null, .val (.int (0 : Int32))] [(.int (0 : Int32)), (.int (own_fEqN))])) (fun t kt => ?_) ?_
            · show Steps p.tables e below (T13.setTop (mkF m 261 #[.val (.int p0), .val (.int p1), .val (.int p2), .val (.int (0 : Int32)), .val (.int ca0), .val (.int ca1), .val (.int ca2), .val (.int vb), .val (.int cb0), .val (.int cb1), .val (.int cb2), .val (.ref b1), .val (.ref b2), .val (.int (p2 &&& (7 : Int32))), .val .null, .val (.int (0 : Int32))] [(.int (own_fEqN))])) t
              refine XS.iload X13.here hx rfl (hb hby at_261) rfl ?_
              exact kt
            have hc263_14 : (own_fEqN) = (0 : Int32) := rfl
            refine own_by (A' := T13.setTop (mkF m 271 #[.val (.int p0), .val (.int p1), .val (.int p2), .val (.int (0 : Int32)), .val (.int ca0), .val (.int ca1), .val (.int ca2), .val (.int vb), .val (.int cb0), .val (.int cb1), .val (.int cb2), .val (.ref b1), .val (.ref b2), .val (.int (p2 &&& (7 : Int32))), .val .null, .val (.int (0 : Int32))] [(.int (1 : Int32))])) (fun t kt => ?_) ?_
            · show Steps p.tables e below (T13.setTop (mkF m 263 #[.val (.int p0), .val (.int p1), .val (.int p2), .val (.int (0 : Int32)), .val (.int ca0), .val (.int ca1), .val (.int ca2), .val (.int vb), .val (.int cb0), .val (.int cb1), .val (.int cb2), .val (.ref b1), .val (.ref b2), .val (.int (p2 &&& (7 : Int32))), .val .null, .val (.int (0 : Int32))] [(.int (0 : Int32)), (.int (own_fEqN))])) t
              refine XS.icmpNo X13.here hx rfl (hb hby at_263) rfl (teq hc263_14).2 ?_
              show Steps p.tables e below (T13.setTop (mkF m 266 #[.val (.int p0), .val (.int p1), .val (.int p2), .val (.int (0 : Int32)), .val (.int ca0), .val (.int ca1), .val (.int ca2), .val (.int vb), .val (.int cb0), .val (.int cb1), .val (.int cb2), .val (.ref b1), .val (.ref b2), .val (.int (p2 &&& (7 : Int32))), .val .null, .val (.int (0 : Int32))] [])) t
              refine XS.iconst X13.here hx rfl (hb hby at_266) ?_
              show Steps p.tables e below (T13.setTop (mkF m 267 #[.val (.int p0), .val (.int p1), .val (.int p2), .val (.int (0 : Int32)), .val (.int ca0), .val (.int ca1), .val (.int ca2), .val (.int vb), .val (.int cb0), .val (.int cb1), .val (.int cb2), .val (.ref b1), .val (.ref b2), .val (.int (p2 &&& (7 : Int32))), .val .null, .val (.int (0 : Int32))] [(.int (1 : Int32))])) t
              refine XS.goto X13.here hx rfl (pc0 := 267) (pc' := 271) rfl (hb hby at_267) (by decide) (by decide) ?_
              exact kt
            obtain ⟨fs, hr, hrun, hended, hEnd⟩ := X13.leaveW (s := s) hS3 (by rw [e13]; exact (Nat.le_refl T3.heap.size)) (v := some (.int (1 : Int32))) (fun h => by rw [Bd.returns] at h; cases h)
            refine ⟨_, _, ?_, hrun, hended, _, _, rfl, ?_, hEnd.1, hEnd.2.1, hEnd.2.2.1, hEnd.2.2.2.mono (by decide) (by decide)⟩
            · exact retN X13 hx (t := .boolean) Bd.returns (by simp) (hb hby at_271) hr
            · show Q0 Z p0 p1 p2 G1 h0 n0 _ T13.heap _ T13.vm
              rw [e13]
              exact ⟨rfl, N13⟩
          · refine own_by (A' := T3.setTop (mkF m 234 #[.val (.int p0), .val (.int p1), .val (.int p2), .val (.int (0 : Int32)), .val (.int ca0), .val (.int ca1), .val (.int ca2), .val (.int vb), .val (.int cb0), .val (.int cb1), .val (.int cb2), .val (.ref b1), .val (.ref b2), .val (.int (p2 &&& (7 : Int32))), .unset, .unset] [(.int (6 : Int32)), (.int (p2 &&& (7 : Int32)))])) (fun t kt => ?_) ?_
            · show Steps p.tables e below (T3.setTop (mkF m 218 #[.val (.int p0), .val (.int p1), .val (.int p2), .val (.int (0 : Int32)), .val (.int ca0), .val (.int ca1), .val (.int ca2), .val (.int vb), .val (.int cb0), .val (.int cb1), .val (.int cb2), .val (.ref b1), .val (.ref b2), .val (.int (p2 &&& (7 : Int32))), .unset, .unset] [(.int (5 : Int32)), (.int (p2 &&& (7 : Int32)))])) t
              refine XS.icmpYes X3.here hx rfl (pc0 := 218) (pc' := 230) rfl (hb hby at_218) rfl (feq hc218_12).2 (by decide) (by decide) ?_
              show Steps p.tables e below (T3.setTop (mkF m 230 #[.val (.int p0), .val (.int p1), .val (.int p2), .val (.int (0 : Int32)), .val (.int ca0), .val (.int ca1), .val (.int ca2), .val (.int vb), .val (.int cb0), .val (.int cb1), .val (.int cb2), .val (.ref b1), .val (.ref b2), .val (.int (p2 &&& (7 : Int32))), .unset, .unset] [])) t
              refine XS.iload X3.here hx rfl (hb hby at_230) rfl ?_
              show Steps p.tables e below (T3.setTop (mkF m 232 #[.val (.int p0), .val (.int p1), .val (.int p2), .val (.int (0 : Int32)), .val (.int ca0), .val (.int ca1), .val (.int ca2), .val (.int vb), .val (.int cb0), .val (.int cb1), .val (.int cb2), .val (.ref b1), .val (.ref b2), .val (.int (p2 &&& (7 : Int32))), .unset, .unset] [(.int (p2 &&& (7 : Int32)))])) t
              refine XS.bipush X3.here hx rfl (hb hby at_232) ?_
              exact kt
            by_cases hc234_15 : (p2 &&& (7 : Int32)) = (6 : Int32)
            · refine own_by (A' := T3.setTop (mkF m 258 #[.val (.int p0), .val (.int p1), .val (.int p2), .val (.int (0 : Int32)), .val (.int ca0), .val (.int ca1), .val (.int ca2), .val (.int vb), .val (.int cb0), .val (.int cb1), .val (.int cb2), .val (.ref b1), .val (.ref b2), .val (.int (p2 &&& (7 : Int32))), .val (.ref b2), .val (.int (1 : Int32))] [(.ref b2), (.ref b2)])) (fun t kt => ?_) ?_
              · show Steps p.tables e below (T3.setTop (mkF m 234 #[.val (.int p0), .val (.int p1), .val (.int p2), .val (.int (0 : Int32)), .val (.int ca0), .val (.int ca1), .val (.int ca2), .val (.int vb), .val (.int cb0), .val (.int cb1), .val (.int cb2), .val (.ref b1), .val (.ref b2), .val (.int (p2 &&& (7 : Int32))), .unset, .unset] [(.int (6 : Int32)), (.int (p2 &&& (7 : Int32)))])) t
                refine XS.icmpNo X3.here hx rfl (hb hby at_234) rfl (teq hc234_15).2 ?_
                show Steps p.tables e below (T3.setTop (mkF m 237 #[.val (.int p0), .val (.int p1), .val (.int p2), .val (.int (0 : Int32)), .val (.int ca0), .val (.int ca1), .val (.int ca2), .val (.int vb), .val (.int cb0), .val (.int cb1), .val (.int cb2), .val (.ref b1), .val (.ref b2), .val (.int (p2 &&& (7 : Int32))), .unset, .unset] [])) t
                refine XS.aload X3.here hx rfl (hb hby at_237) rfl rfl ?_
                show Steps p.tables e below (T3.setTop (mkF m 239 #[.val (.int p0), .val (.int p1), .val (.int p2), .val (.int (0 : Int32)), .val (.int ca0), .val (.int ca1), .val (.int ca2), .val (.int vb), .val (.int cb0), .val (.int cb1), .val (.int cb2), .val (.ref b1), .val (.ref b2), .val (.int (p2 &&& (7 : Int32))), .unset, .unset] [(.ref b2)])) t
                refine XS.astore X3.here hx rfl (hb hby at_239) rfl rfl (l' := #[.val (.int p0), .val (.int p1), .val (.int p2), .val (.int (0 : Int32)), .val (.int ca0), .val (.int ca1), .val (.int ca2), .val (.int vb), .val (.int cb0), .val (.int cb1), .val (.int cb2), .val (.ref b1), .val (.ref b2), .val (.int (p2 &&& (7 : Int32))), .val (.ref b2), .unset]) rfl ?_
                show Steps p.tables e below (T3.setTop (mkF m 241 #[.val (.int p0), .val (.int p1), .val (.int p2), .val (.int (0 : Int32)), .val (.int ca0), .val (.int ca1), .val (.int ca2), .val (.int vb), .val (.int cb0), .val (.int cb1), .val (.int cb2), .val (.ref b1), .val (.ref b2), .val (.int (p2 &&& (7 : Int32))), .val (.ref b2), .unset] [])) t
                refine XS.iconst X3.here hx rfl (hb hby at_241) ?_
                show Steps p.tables e below (T3.setTop (mkF m 242 #[.val (.int p0), .val (.int p1), .val (.int p2), .val (.int (0 : Int32)), .val (.int ca0), .val (.int ca1), .val (.int ca2), .val (.int vb), .val (.int cb0), .val (.int cb1), .val (.int cb2), .val (.ref b1), .val (.ref b2), .val (.int (p2 &&& (7 : Int32))), .val (.ref b2), .unset] [(.int (1 : Int32))])) t
                refine XS.istore X3.here hx rfl (hb hby at_242) rfl (l' := #[.val (.int p0), .val (.int p1), .val (.int p2), .val (.int (0 : Int32)), .val (.int ca0), .val (.int ca1), .val (.int ca2), .val (.int vb), .val (.int cb0), .val (.int cb1), .val (.int cb2), .val (.ref b1), .val (.ref b2), .val (.int (p2 &&& (7 : Int32))), .val (.ref b2), .val (.int (1 : Int32))]) rfl ?_
                show Steps p.tables e below (T3.setTop (mkF m 244 #[.val (.int p0), .val (.int p1), .val (.int p2), .val (.int (0 : Int32)), .val (.int ca0), .val (.int ca1), .val (.int ca2), .val (.int vb), .val (.int cb0), .val (.int cb1), .val (.int cb2), .val (.ref b1), .val (.ref b2), .val (.int (p2 &&& (7 : Int32))), .val (.ref b2), .val (.int (1 : Int32))] [])) t
                refine XS.goto X3.here hx rfl (pc0 := 244) (pc' := 254) rfl (hb hby at_244) (by decide) (by decide) ?_
                show Steps p.tables e below (T3.setTop (mkF m 254 #[.val (.int p0), .val (.int p1), .val (.int p2), .val (.int (0 : Int32)), .val (.int ca0), .val (.int ca1), .val (.int ca2), .val (.int vb), .val (.int cb0), .val (.int cb1), .val (.int cb2), .val (.ref b1), .val (.ref b2), .val (.int (p2 &&& (7 : Int32))), .val (.ref b2), .val (.int (1 : Int32))] [])) t
                refine XS.aload X3.here hx rfl (hb hby at_254) rfl rfl ?_
                show Steps p.tables e below (T3.setTop (mkF m 256 #[.val (.int p0), .val (.int p1), .val (.int p2), .val (.int (0 : Int32)), .val (.int ca0), .val (.int ca1), .val (.int ca2), .val (.int vb), .val (.int cb0), .val (.int cb1), .val (.int cb2), .val (.ref b1), .val (.ref b2), .val (.int (p2 &&& (7 : Int32))), .val (.ref b2), .val (.int (1 : Int32))] [(.ref b2)])) t
                refine XS.aload X3.here hx rfl (hb hby at_256) rfl rfl ?_
                exact kt
              obtain ⟨cq16, kq16, q16a, q16b, q16c⟩ := isOf hZ rfl GE3
              obtain ⟨_, _, ⟨T16, L16, k16, n16⟩, -, X16, ⟨Lc16, hQ16, l16, y16, z16⟩, st16⟩ := X3.virtualBack hx (y := (⟨"com/example/corollary/corollary/model/NamedClass", "equals", "(Ljava/lang/Object;)Z"⟩ : MethodName)) (z := (⟨"com/example/corollary/corollary/model/NamedClass", "equals", "(Ljava/lang/Object;)Z"⟩ : MethodName)) hown (mvT hZ (hw _ (List.mem_of_getElem? (i := 45) rfl))) (mvT hZ (hw _ (List.mem_of_getElem? (i := 46) rfl))) (notFace_of_selects (args := #[]) (mvT hZ (hw _ (List.mem_of_getElem? (i := 48) rfl)))) (mvT hZ (hw _ (List.mem_of_getElem? (i := 48) rfl))) (mvT hZ (hw _ (List.mem_of_getElem? (i := 47) rfl))) (by decide) (backOf (W := 0) (rmeqN l Z aw hw [] b2 b2 b1 b1 (own_cs (0 : Int32) ca0 ca1 ca2) (own_cs (0 : Int32) ca0 ca1 ca2) G1 T3.heap n0 (Nat.le_trans Z0 K3.1) GF3 GE3 GF3 (own_OSkeep1 (own_OSext GP1 E2) Kq3 A2 (hw _ (List.mem_of_getElem? (i := 27) rfl)) (by decide)) (own_OSkeep1 (own_OSext GP1 E2) Kq3 A2 (hw _ (List.mem_of_getElem? (i := 27) rfl)) (by decide)) (own_csb _ hca0 hca1 hca2) (own_csb _ hca0 hca1 hca2) (own_csl (0 : Int32) ca0 ca1 ca2) (own_csl (0 : Int32) ca0 ca1 ca2) (own_staKeep S_cs K3) P5) hZ (hw _ (List.mem_of_getElem? (i := 49) rfl)) (hw _ (List.mem_of_getElem? (i := 28) rfl)) (by decide) (by decide)) q16a q16c (g := (mkF m 258 #[.val (.int p0), .val (.int p1), .val (.int p2), .val (.int (0 : Int32)), .val (.int ca0), .val (.int ca1), .val (.int ca2), .val (.int vb), .val (.int cb0), .val (.int cb1), .val (.int cb2), .val (.ref b1), .val (.ref b2), .val (.int (p2 &&& (7 : Int32))), .val (.ref b2), .val (.int (1 : Int32))] [(.ref b2), (.ref b2)])) rfl (by rw [hml]; rfl) (Steps.refl _) (argsL := [(.ref b2)]) (rest := []) (lenOf pd_10 rfl) rfl (by show 2 * 0 + _ ≤ _; exact Nat.le_of_eq rfl) (hb hby at_258) (fun _ _ => ⟨rfl, rfl, (by decide : 7 + 0 ≤ _), (by decide : 25 + 0 ≤ _)⟩)
              dsimp only [Pt.U, Pt.locs, Pt.cells, Pt.slots] at X16 l16 y16 z16 st16 hQ16
              subst l16 y16 z16
              obtain ⟨rfl, N16q, e16⟩ := hQ16
              have N16 := Fr.app N3 N16q
              refine own_by (A' := T16.setTop (mkF m 261 #[.val (.int p0), .val (.int p1), .val (.int p2), .val (.int (0 : Int32)), .val (.int ca0), .val (.int ca1), .val (.int ca2), .val (.int vb), .val (.int cb0), .val (.int cb1), .val (.int cb2), .val (.ref b1), .val (.ref b2), .val (.int (p2 &&& (7 : Int32))), .val (.ref b2), .val (.int (1 : Int32))] [(.int (own_eqr (own_cs (0 : Int32) ca0 ca1 ca2) (own_cs (0 : Int32) ca0 ca1 ca2)))])) (fun t kt => st16.trans kt) ?_
              refine own_by (A' := T16.setTop (mkF m 263 #[.val (.int p0), .val (.int p1), .val (.int p2), .val (.int (0 : Int32)), .val (.int ca0), .val (.int ca1), .val (.int ca2), .val (.int vb), .val (.int cb0), .val (.int cb1), .val (.int cb2), .val (.ref b1), .val (.ref b2), .val (.int (p2 &&& (7 : Int32))), .val (.ref b2), .val (.int (1 : Int32))] [(.int (1 : Int32)), (.int (own_eqr (own_cs (0 : Int32) ca0 ca1 ca2) (own_cs (0 : Int32) ca0 ca1 ca2)))])) (fun t kt => ?_) ?_
              · show Steps p.tables e below (T16.setTop (mkF m 261 #[.val (.int p0), .val (.int p1), .val (.int p2), .val (.int (0 : Int32)), .val (.int ca0), .val (.int ca1), .val (.int ca2), .val (.int vb), .val (.int cb0), .val (.int cb1), .val (.int cb2), .val (.ref b1), .val (.ref b2), .val (.int (p2 &&& (7 : Int32))), .val (.ref b2), .val (.int (1 : Int32))] [(.int (own_eqr (own_cs (0 : Int32) ca0 ca1 ca2) (own_cs (0 : Int32) ca0 ca1 ca2)))])) t
                refine XS.iload X16.here hx rfl (hb hby at_261) rfl ?_
                exact kt
              have hc263_17 : (own_eqr (own_cs (0 : Int32) ca0 ca1 ca2) (own_cs (0 : Int32) ca0 ca1 ca2)) = (1 : Int32) := own_eqrS _
              refine own_by (A' := T16.setTop (mkF m 271 #[.val (.int p0), .val (.int p1), .val (.int p2), .val (.int (0 : Int32)), .val (.int ca0), .val (.int ca1), .val (.int ca2), .val (.int vb), .val (.int cb0), .val (.int cb1), .val (.int cb2), .val (.ref b1), .val (.ref b2), .val (.int (p2 &&& (7 : Int32))), .val (.ref b2), .val (.int (1 : Int32))] [(.int (1 : Int32))])) (fun t kt => ?_) ?_
              · show Steps p.tables e below (T16.setTop (mkF m 263 #[.val (.int p0), .val (.int p1), .val (.int p2), .val (.int (0 : Int32)), .val (.int ca0), .val (.int ca1), .val (.int ca2), .val (.int vb), .val (.int cb0), .val (.int cb1), .val (.int cb2), .val (.ref b1), .val (.ref b2), .val (.int (p2 &&& (7 : Int32))), .val (.ref b2), .val (.int (1 : Int32))] [(.int (1 : Int32)), (.int (own_eqr (own_cs (0 : Int32) ca0 ca1 ca2) (own_cs (0 : Int32) ca0 ca1 ca2)))])) t
                refine XS.icmpNo X16.here hx rfl (hb hby at_263) rfl (teq hc263_17).2 ?_
                show Steps p.tables e below (T16.setTop (mkF m 266 #[.val (.int p0), .val (.int p1), .val (.int p2), .val (.int (0 : Int32)), .val (.int ca0), .val (.int ca1), .val (.int ca2), .val (.int vb), .val (.int cb0), .val (.int cb1), .val (.int cb2), .val (.ref b1), .val (.ref b2), .val (.int (p2 &&& (7 : Int32))), .val (.ref b2), .val (.int (1 : Int32))] [])) t
                refine XS.iconst X16.here hx rfl (hb hby at_266) ?_
                show Steps p.tables e below (T16.setTop (mkF m 267 #[.val (.int p0), .val (.int p1), .val (.int p2), .val (.int (0 : Int32)), .val (.int ca0), .val (.int ca1), .val (.int ca2), .val (.int vb), .val (.int cb0), .val (.int cb1), .val (.int cb2), .val (.ref b1), .val (.ref b2), .val (.int (p2 &&& (7 : Int32))), .val (.ref b2), .val (.int (1 : Int32))] [(.int (1 : Int32))])) t
                refine XS.goto X16.here hx rfl (pc0 := 267) (pc' := 271) rfl (hb hby at_267) (by decide) (by decide) ?_
                exact kt
              obtain ⟨fs, hr, hrun, hended, hEnd⟩ := X16.leaveW (s := s) hS3 (by rw [e16]; exact (Nat.le_refl T3.heap.size)) (v := some (.int (1 : Int32))) (fun h => by rw [Bd.returns] at h; cases h)
              refine ⟨_, _, ?_, hrun, hended, _, _, rfl, ?_, hEnd.1, hEnd.2.1, hEnd.2.2.1, hEnd.2.2.2.mono (by decide) (by decide)⟩
              · exact retN X16 hx (t := .boolean) Bd.returns (by simp) (hb hby at_271) hr
              · show Q0 Z p0 p1 p2 G1 h0 n0 _ T16.heap _ T16.vm
                rw [e16]
                exact ⟨rfl, N16⟩
            · refine own_by (A' := T3.setTop (mkF m 258 #[.val (.int p0), .val (.int p1), .val (.int p2), .val (.int (0 : Int32)), .val (.int ca0), .val (.int ca1), .val (.int ca2), .val (.int vb), .val (.int cb0), .val (.int cb1), .val (.int cb2), .val (.ref b1), .val (.ref b2), .val (.int (p2 &&& (7 : Int32))), .val (.ref b1), .val (.int (0 : Int32))] [(.ref b1), (.ref b2)])) (fun t kt => ?_) ?_
              · show Steps p.tables e below (T3.setTop (mkF m 234 #[.val (.int p0), .val (.int p1), .val (.int p2), .val (.int (0 : Int32)), .val (.int ca0), .val (.int ca1), .val (.int ca2), .val (.int vb), .val (.int cb0), .val (.int cb1), .val (.int cb2), .val (.ref b1), .val (.ref b2), .val (.int (p2 &&& (7 : Int32))), .unset, .unset] [(.int (6 : Int32)), (.int (p2 &&& (7 : Int32)))])) t
                refine XS.icmpYes X3.here hx rfl (pc0 := 234) (pc' := 247) rfl (hb hby at_234) rfl (feq hc234_15).2 (by decide) (by decide) ?_
                show Steps p.tables e below (T3.setTop (mkF m 247 #[.val (.int p0), .val (.int p1), .val (.int p2), .val (.int (0 : Int32)), .val (.int ca0), .val (.int ca1), .val (.int ca2), .val (.int vb), .val (.int cb0), .val (.int cb1), .val (.int cb2), .val (.ref b1), .val (.ref b2), .val (.int (p2 &&& (7 : Int32))), .unset, .unset] [])) t
                refine XS.aload X3.here hx rfl (hb hby at_247) rfl rfl ?_
                show Steps p.tables e below (T3.setTop (mkF m 249 #[.val (.int p0), .val (.int p1), .val (.int p2), .val (.int (0 : Int32)), .val (.int ca0), .val (.int ca1), .val (.int ca2), .val (.int vb), .val (.int cb0), .val (.int cb1), .val (.int cb2), .val (.ref b1), .val (.ref b2), .val (.int (p2 &&& (7 : Int32))), .unset, .unset] [(.ref b1)])) t
                refine XS.astore X3.here hx rfl (hb hby at_249) rfl rfl (l' := #[.val (.int p0), .val (.int p1), .val (.int p2), .val (.int (0 : Int32)), .val (.int ca0), .val (.int ca1), .val (.int ca2), .val (.int vb), .val (.int cb0), .val (.int cb1), .val (.int cb2), .val (.ref b1), .val (.ref b2), .val (.int (p2 &&& (7 : Int32))), .val (.ref b1), .unset]) rfl ?_
                show Steps p.tables e below (T3.setTop (mkF m 251 #[.val (.int p0), .val (.int p1), .val (.int p2), .val (.int (0 : Int32)), .val (.int ca0), .val (.int ca1), .val (.int ca2), .val (.int vb), .val (.int cb0), .val (.int cb1), .val (.int cb2), .val (.ref b1), .val (.ref b2), .val (.int (p2 &&& (7 : Int32))), .val (.ref b1), .unset] [])) t
                refine XS.iconst X3.here hx rfl (hb hby at_251) ?_
                show Steps p.tables e below (T3.setTop (mkF m 252 #[.val (.int p0), .val (.int p1), .val (.int p2), .val (.int (0 : Int32)), .val (.int ca0), .val (.int ca1), .val (.int ca2), .val (.int vb), .val (.int cb0), .val (.int cb1), .val (.int cb2), .val (.ref b1), .val (.ref b2), .val (.int (p2 &&& (7 : Int32))), .val (.ref b1), .unset] [(.int (0 : Int32))])) t
                refine XS.istore X3.here hx rfl (hb hby at_252) rfl (l' := #[.val (.int p0), .val (.int p1), .val (.int p2), .val (.int (0 : Int32)), .val (.int ca0), .val (.int ca1), .val (.int ca2), .val (.int vb), .val (.int cb0), .val (.int cb1), .val (.int cb2), .val (.ref b1), .val (.ref b2), .val (.int (p2 &&& (7 : Int32))), .val (.ref b1), .val (.int (0 : Int32))]) rfl ?_
                show Steps p.tables e below (T3.setTop (mkF m 254 #[.val (.int p0), .val (.int p1), .val (.int p2), .val (.int (0 : Int32)), .val (.int ca0), .val (.int ca1), .val (.int ca2), .val (.int vb), .val (.int cb0), .val (.int cb1), .val (.int cb2), .val (.ref b1), .val (.ref b2), .val (.int (p2 &&& (7 : Int32))), .val (.ref b1), .val (.int (0 : Int32))] [])) t
                refine XS.aload X3.here hx rfl (hb hby at_254) rfl rfl ?_
                show Steps p.tables e below (T3.setTop (mkF m 256 #[.val (.int p0), .val (.int p1), .val (.int p2), .val (.int (0 : Int32)), .val (.int ca0), .val (.int ca1), .val (.int ca2), .val (.int vb), .val (.int cb0), .val (.int cb1), .val (.int cb2), .val (.ref b1), .val (.ref b2), .val (.int (p2 &&& (7 : Int32))), .val (.ref b1), .val (.int (0 : Int32))] [(.ref b2)])) t
                refine XS.aload X3.here hx rfl (hb hby at_256) rfl rfl ?_
                exact kt
              obtain ⟨cq18, kq18, q18a, q18b, q18c⟩ := isOf hZ rfl GE3
              obtain ⟨_, _, ⟨T18, L18, k18, n18⟩, -, X18, ⟨Lc18, hQ18, l18, y18, z18⟩, st18⟩ := X3.virtualBack hx (y := (⟨"com/example/corollary/corollary/model/NamedClass", "equals", "(Ljava/lang/Object;)Z"⟩ : MethodName)) (z := (⟨"com/example/corollary/corollary/model/NamedClass", "equals", "(Ljava/lang/Object;)Z"⟩ : MethodName)) hown (mvT hZ (hw _ (List.mem_of_getElem? (i := 45) rfl))) (mvT hZ (hw _ (List.mem_of_getElem? (i := 46) rfl))) (notFace_of_selects (args := #[]) (mvT hZ (hw _ (List.mem_of_getElem? (i := 48) rfl)))) (mvT hZ (hw _ (List.mem_of_getElem? (i := 48) rfl))) (mvT hZ (hw _ (List.mem_of_getElem? (i := 47) rfl))) (by decide) (backOf (W := 0) (rmEqS l Z aw hw [] b2 b1 T3.heap n0 (Nat.le_trans Z0 K3.1) ((GE1.ext E2).keep Kq3)) hZ (hw _ (List.mem_of_getElem? (i := 49) rfl)) (hw _ (List.mem_of_getElem? (i := 28) rfl)) (by decide) (by decide)) q18a q18c (g := (mkF m 258 #[.val (.int p0), .val (.int p1), .val (.int p2), .val (.int (0 : Int32)), .val (.int ca0), .val (.int ca1), .val (.int ca2), .val (.int vb), .val (.int cb0), .val (.int cb1), .val (.int cb2), .val (.ref b1), .val (.ref b2), .val (.int (p2 &&& (7 : Int32))), .val (.ref b1), .val (.int (0 : Int32))] [(.ref b1), (.ref b2)])) rfl (by rw [hml]; rfl) (Steps.refl _) (argsL := [(.ref b1)]) (rest := []) (lenOf pd_10 rfl) rfl (by show 2 * 0 + _ ≤ _; exact Nat.le_of_eq rfl) (hb hby at_258) (fun _ _ => ⟨rfl, rfl, (by decide : 7 + 0 ≤ _), (by decide : 25 + 0 ≤ _)⟩)
              dsimp only [Pt.U, Pt.locs, Pt.cells, Pt.slots] at X18 l18 y18 z18 st18 hQ18
              subst l18 y18 z18
              obtain ⟨rfl, N18q, e18⟩ := hQ18
              have N18 := Fr.app N3 N18q
              refine own_by (A' := T18.setTop (mkF m 261 #[.val (.int p0), .val (.int p1), .val (.int p2), .val (.int (0 : Int32)), .val (.int ca0), .val (.int ca1), .val (.int ca2), .val (.int vb), .val (.int cb0), .val (.int cb1), .val (.int cb2), .val (.ref b1), .val (.ref b2), .val (.int (p2 &&& (7 : Int32))), .val (.ref b1), .val (.int (0 : Int32))] [(.int (own_fEqS))])) (fun t kt => st18.trans kt) ?_
              refine own_by (A' := T18.setTop (mkF m 263 #[.val (.int p0), .val (.int p1), .val (.int p2), .val (.int (0 : Int32)), .val (.int ca0), .val (.int ca1), .val (.int ca2), .val (.int vb), .val (.int cb0), .val (.int cb1), .val (.int cb2), .val (.ref b1), .val (.ref b2), .val (.int (p2 &&& (7 : Int32))), .val (.ref b1), .val (.int (0 : Int32))] [(.int (0 : Int32)), (.int (own_fEqS))])) (fun t kt => ?_) ?_
              · show Steps p.tables e below (T18.setTop (mkF m 261 #[.val (.int p0), .val (.int p1), .val (.int p2), .val (.int (0 : Int32)), .val (.int ca0), .val (.int ca1), .val (.int ca2), .val (.int vb), .val (.int cb0), .val (.int cb1), .val (.int cb2), .val (.ref b1), .val (.ref b2), .val (.int (p2 &&& (7 : Int32))), .val (.ref b1), .val (.int (0 : Int32))] [(.int (own_fEqS))])) t
                refine XS.iload X18.here hx rfl (hb hby at_261) rfl ?_
                exact kt
              have hc263_19 : (own_fEqS) = (0 : Int32) := rfl
              refine own_by (A' := T18.setTop (mkF m 271 #[.val (.int p0), .val (.int p1), .val (.int p2), .val (.int (0 : Int32)), .val (.int ca0), .val (.int ca1), .val (.int ca2), .val (.int vb), .val (.int cb0), .val (.int cb1), .val (.int cb2), .val (.ref b1), .val (.ref b2), .val (.int (p2 &&& (7 : Int32))), .val (.ref b1), .val (.int (0 : Int32))] [(.int (1 : Int32))])) (fun t kt => ?_) ?_
              · show Steps p.tables e below (T18.setTop (mkF m 263 #[.val (.int p0), .val (.int p1), .val (.int p2), .val (.int (0 : Int32)), .val (.int ca0), .val (.int ca1), .val (.int ca2), .val (.int vb), .val (.int cb0), .val (.int cb1), .val (.int cb2), .val (.ref b1), .val (.ref b2), .val (.int (p2 &&& (7 : Int32))), .val (.ref b1), .val (.int (0 : Int32))] [(.int (0 : Int32)), (.int (own_fEqS))])) t
                refine XS.icmpNo X18.here hx rfl (hb hby at_263) rfl (teq hc263_19).2 ?_
                show Steps p.tables e below (T18.setTop (mkF m 266 #[.val (.int p0), .val (.int p1), .val (.int p2), .val (.int (0 : Int32)), .val (.int ca0), .val (.int ca1), .val (.int ca2), .val (.int vb), .val (.int cb0), .val (.int cb1), .val (.int cb2), .val (.ref b1), .val (.ref b2), .val (.int (p2 &&& (7 : Int32))), .val (.ref b1), .val (.int (0 : Int32))] [])) t
                refine XS.iconst X18.here hx rfl (hb hby at_266) ?_
                show Steps p.tables e below (T18.setTop (mkF m 267 #[.val (.int p0), .val (.int p1), .val (.int p2), .val (.int (0 : Int32)), .val (.int ca0), .val (.int ca1), .val (.int ca2), .val (.int vb), .val (.int cb0), .val (.int cb1), .val (.int cb2), .val (.ref b1), .val (.ref b2), .val (.int (p2 &&& (7 : Int32))), .val (.ref b1), .val (.int (0 : Int32))] [(.int (1 : Int32))])) t
                refine XS.goto X18.here hx rfl (pc0 := 267) (pc' := 271) rfl (hb hby at_267) (by decide) (by decide) ?_
                exact kt
              obtain ⟨fs, hr, hrun, hended, hEnd⟩ := X18.leaveW (s := s) hS3 (by rw [e18]; exact (Nat.le_refl T3.heap.size)) (v := some (.int (1 : Int32))) (fun h => by rw [Bd.returns] at h; cases h)
              refine ⟨_, _, ?_, hrun, hended, _, _, rfl, ?_, hEnd.1, hEnd.2.1, hEnd.2.2.1, hEnd.2.2.2.mono (by decide) (by decide)⟩
              · exact retN X18 hx (t := .boolean) Bd.returns (by simp) (hb hby at_271) hr
              · show Q0 Z p0 p1 p2 G1 h0 n0 _ T18.heap _ T18.vm
                rw [e18]
                exact ⟨rfl, N18⟩
      · refine own_by (A' := T3.setTop (mkF m 159 #[.val (.int p0), .val (.int p1), .val (.int p2), .val (.int (0 : Int32)), .val (.int ca0), .val (.int ca1), .val (.int ca2), .val (.int vb), .val (.int cb0), .val (.int cb1), .val (.int cb2), .val (.ref b1), .val (.ref b2), .val (.int (p2 &&& (7 : Int32))), .unset, .unset] [])) (fun t kt => ?_) ?_
        · show Steps p.tables e below (T3.setTop (mkF m 156 #[.val (.int p0), .val (.int p1), .val (.int p2), .val (.int (0 : Int32)), .val (.int ca0), .val (.int ca1), .val (.int ca2), .val (.int vb), .val (.int cb0), .val (.int cb1), .val (.int cb2), .val (.ref b1), .val (.ref b2), .val (.int (p2 &&& (7 : Int32))), .unset, .unset] [(.int (3 : Int32)), (.int (p2 &&& (7 : Int32)))])) t
          refine XS.icmpNo X3.here hx rfl (hb hby at_156) rfl (flt hc156_5).2.2.1 ?_
          exact kt
        obtain ⟨T20, h20, X20, e20, E20, A20, D20, -, st20⟩ := newO X3 hx hZ hown (hw _ (List.mem_of_getElem? (i := 26) rfl)) (hw _ (List.mem_of_getElem? (i := 27) rfl)) (hw _ (List.mem_of_getElem? (i := 28) rfl)) rfl (g := (mkF m 159 #[.val (.int p0), .val (.int p1), .val (.int p2), .val (.int (0 : Int32)), .val (.int ca0), .val (.int ca1), .val (.int ca2), .val (.int vb), .val (.int cb0), .val (.int cb1), .val (.int cb2), .val (.ref b1), .val (.ref b2), .val (.int (p2 &&& (7 : Int32))), .unset, .unset] [])) rfl (hb hby at_159) (by decide) (by decide)
        obtain ⟨b20, g20⟩ : ∃ z, z = T3.heap.size := ⟨_, rfl⟩
        rw [← g20] at A20 D20 st20
        have sz_b20 : h0.size ≤ b20 := Nat.le_trans K3.1 (Nat.le_of_eq g20.symm)
        have g_b20 : n0 ≤ b20 := Nat.le_trans Z0 sz_b20
        have gr20 := Nat.le_trans (Nat.le_refl T3.heap.size) E20.1
        have K20 : Keep h0 h20 [] := K3.ext E20
        have F_iri_b20 : Fld Z h20 b20 "com/example/corollary/corollary/model/NamedClass" "iri" "Ljava/lang/String;" .null := D20 (Or.inr (hw _ (List.mem_of_getElem? (i := 44) rfl))) (ty := (.object "java/lang/String")) (by decide)
        refine own_by (A' := T20.setTop (mkF m 162 #[.val (.int p0), .val (.int p1), .val (.int p2), .val (.int (0 : Int32)), .val (.int ca0), .val (.int ca1), .val (.int ca2), .val (.int vb), .val (.int cb0), .val (.int cb1), .val (.int cb2), .val (.ref b1), .val (.ref b2), .val (.int (p2 &&& (7 : Int32))), .unset, .unset] [(.ref b20)])) (fun t kt => st20 t kt) ?_
        refine own_by (A' := T20.setTop (mkF m 170 #[.val (.int p0), .val (.int p1), .val (.int p2), .val (.int (0 : Int32)), .val (.int ca0), .val (.int ca1), .val (.int ca2), .val (.int vb), .val (.int cb0), .val (.int cb1), .val (.int cb2), .val (.ref b1), .val (.ref b2), .val (.int (p2 &&& (7 : Int32))), .unset, .unset] [(.int ca2), (.int ca1), (.int ca0), (.int (0 : Int32)), (.ref b20), (.ref b20)])) (fun t kt => ?_) ?_
        · show Steps p.tables e below (T20.setTop (mkF m 162 #[.val (.int p0), .val (.int p1), .val (.int p2), .val (.int (0 : Int32)), .val (.int ca0), .val (.int ca1), .val (.int ca2), .val (.int vb), .val (.int cb0), .val (.int cb1), .val (.int cb2), .val (.ref b1), .val (.ref b2), .val (.int (p2 &&& (7 : Int32))), .unset, .unset] [(.ref b20)])) t
          refine XS.dup X20.here hx rfl (hb hby at_162) rfl rfl ?_
          show Steps p.tables e below (T20.setTop (mkF m 163 #[.val (.int p0), .val (.int p1), .val (.int p2), .val (.int (0 : Int32)), .val (.int ca0), .val (.int ca1), .val (.int ca2), .val (.int vb), .val (.int cb0), .val (.int cb1), .val (.int cb2), .val (.ref b1), .val (.ref b2), .val (.int (p2 &&& (7 : Int32))), .unset, .unset] [(.ref b20), (.ref b20)])) t
          refine XS.iloadN X20.here hx rfl (hb hby at_163) rfl ?_
          show Steps p.tables e below (T20.setTop (mkF m 164 #[.val (.int p0), .val (.int p1), .val (.int p2), .val (.int (0 : Int32)), .val (.int ca0), .val (.int ca1), .val (.int ca2), .val (.int vb), .val (.int cb0), .val (.int cb1), .val (.int cb2), .val (.ref b1), .val (.ref b2), .val (.int (p2 &&& (7 : Int32))), .unset, .unset] [(.int (0 : Int32)), (.ref b20), (.ref b20)])) t
          refine XS.iload X20.here hx rfl (hb hby at_164) rfl ?_
          show Steps p.tables e below (T20.setTop (mkF m 166 #[.val (.int p0), .val (.int p1), .val (.int p2), .val (.int (0 : Int32)), .val (.int ca0), .val (.int ca1), .val (.int ca2), .val (.int vb), .val (.int cb0), .val (.int cb1), .val (.int cb2), .val (.ref b1), .val (.ref b2), .val (.int (p2 &&& (7 : Int32))), .unset, .unset] [(.int ca0), (.int (0 : Int32)), (.ref b20), (.ref b20)])) t
          refine XS.iload X20.here hx rfl (hb hby at_166) rfl ?_
          show Steps p.tables e below (T20.setTop (mkF m 168 #[.val (.int p0), .val (.int p1), .val (.int p2), .val (.int (0 : Int32)), .val (.int ca0), .val (.int ca1), .val (.int ca2), .val (.int vb), .val (.int cb0), .val (.int cb1), .val (.int cb2), .val (.ref b1), .val (.ref b2), .val (.int (p2 &&& (7 : Int32))), .unset, .unset] [(.int ca1), (.int ca0), (.int (0 : Int32)), (.ref b20), (.ref b20)])) t
          refine XS.iload X20.here hx rfl (hb hby at_168) rfl ?_
          exact kt
        obtain ⟨_, _, ⟨T21, L21, k21, n21⟩, -, X21, hS21, hgr21, ⟨Lc21, hQ21, l21, y21, z21⟩, st21⟩ := callSS X20 hx (y := (⟨"com/example/corollary/corollary/model/NamedClassEqualsPinLaw", "mk", "(ICCC)Ljava/lang/String;"⟩ : MethodName)) hown (mvT hZ (hw _ (List.mem_of_getElem? (i := 0) rfl))) (mvT hZ (hw _ (List.mem_of_getElem? (i := 1) rfl))) (mvT hZ (hw _ (List.mem_of_getElem? (i := 2) rfl))) (mvT hZ (hw _ (List.mem_of_getElem? (i := 3) rfl))) (by decide) (own_backOfV (W := 2) (rmmkA l Z aw hw [] ca0 ca1 ca2 lt1 h20 n0 (Nat.le_trans Z0 K20.1) (own_OSext (own_OSkeep1 (own_OSext GOl1 E2) Kq3 A2 (hw _ (List.mem_of_getElem? (i := 27) rfl)) (by decide)) E20)) hZ (fun vm q => own_Litw q Li3) (hw _ (List.mem_of_getElem? (i := 3) rfl)) (hw _ (List.mem_of_getElem? (i := 2) rfl)) (by decide) (by decide)) (g := (mkF m 170 #[.val (.int p0), .val (.int p1), .val (.int p2), .val (.int (0 : Int32)), .val (.int ca0), .val (.int ca1), .val (.int ca2), .val (.int vb), .val (.int cb0), .val (.int cb1), .val (.int cb2), .val (.ref b1), .val (.ref b2), .val (.int (p2 &&& (7 : Int32))), .unset, .unset] [(.int ca2), (.int ca1), (.int ca0), (.int (0 : Int32)), (.ref b20), (.ref b20)])) rfl (by rw [hml]; rfl) (argsL := [(.int (0 : Int32)), (.int ca0), (.int ca1), (.int ca2)]) (rest := [(.ref b20), (.ref b20)]) (lenOf pd_11 rfl) rfl (by show 2 * 0 + _ ≤ _; exact Nat.le_of_eq rfl) (hb hby at_170) (fun _ _ => ⟨rfl, e20, (by decide : 8 + 2 ≤ _), (by decide : 26 + 4 ≤ _)⟩)
        dsimp only [Pt.U, Pt.locs, Pt.cells, Pt.slots] at hS21 hgr21
        dsimp only [Pt.U, Pt.locs, Pt.cells, Pt.slots] at X21 l21 y21 z21 st21 hQ21
        subst l21 y21 z21
        have hSl21 := hS21
        have hS21 : s.Since T21.vm T21.heap.size := Jvm.RoadKit.foldS (s := s) hS3 (by rw [e20]; exact gr20) hSl21 hgr21
        have hown : (s.setVm T21.vm).vm.findClass "com/example/corollary/corollary/model/NamedClassEqualsPinLaw" = some m.cls := by
          show T21.vm.findClass _ = _
          rw [hSl21.1.alike.findClass]; exact hown
        have hZ : Z.Warmed39 (s.setVm T21.vm).vm := State.Warmed39.trans hZ hSl21.1
        obtain ⟨b21, rfl, N21q, Kq21, GO21⟩ := hQ21
        have N21 := Fr.app N3 N21q
        have gr21 := Nat.le_trans gr20 Kq21.1
        have K21 : Keep h0 T21.heap [] := K20.trans Kq21 all0
        have GP21 : own_OS Z T21.heap b21 (own_cs (0 : Int32) ca0 ca1 ca2) := by rw [own_cs, if_pos rfl]; exact GO21
        obtain ⟨_, _, GE21, _⟩ := id GP21
        refine own_by (A' := T21.setTop (mkF m 173 #[.val (.int p0), .val (.int p1), .val (.int p2), .val (.int (0 : Int32)), .val (.int ca0), .val (.int ca1), .val (.int ca2), .val (.int vb), .val (.int cb0), .val (.int cb1), .val (.int cb2), .val (.ref b1), .val (.ref b2), .val (.int (p2 &&& (7 : Int32))), .unset, .unset] [(.ref b21), (.ref b20), (.ref b20)])) (fun t kt => st21.trans kt) ?_
        obtain ⟨_, _, ⟨T22, L22, k22, n22⟩, -, X22, hS22, hgr22, ⟨Lc22, hQ22, l22, y22, z22⟩, st22⟩ := X21.specialBackS hx (y := (⟨"com/example/corollary/corollary/model/NamedClass", "<init>", "(Ljava/lang/String;)V"⟩ : MethodName)) rfl hown (mvT hZ (hw _ (List.mem_of_getElem? (i := 29) rfl))) (mvT hZ (hw _ (List.mem_of_getElem? (i := 30) rfl))) (mvT hZ (hw _ (List.mem_of_getElem? (i := 31) rfl))) (by decide) (own_backOfV (W := 1) (rmnew5S l Z aw hw [] b20 b21 T21.heap n0 (Nat.le_trans Z0 K21.1) (A20.keep Kq21) (F_iri_b20.keep Kq21 nin0) g_b20) hZ (fun vm q => trivial) (hw _ (List.mem_of_getElem? (i := 31) rfl)) (hw _ (List.mem_of_getElem? (i := 28) rfl)) (by decide) (by decide)) (g := (mkF m 173 #[.val (.int p0), .val (.int p1), .val (.int p2), .val (.int (0 : Int32)), .val (.int ca0), .val (.int ca1), .val (.int ca2), .val (.int vb), .val (.int cb0), .val (.int cb1), .val (.int cb2), .val (.ref b1), .val (.ref b2), .val (.int (p2 &&& (7 : Int32))), .unset, .unset] [(.ref b21), (.ref b20), (.ref b20)])) rfl (by rw [hml]; rfl) (Steps.refl _) (a := b20) (argsL := [(.ref b21)]) (rest := [(.ref b20)]) (lenOf pd_12 rfl) rfl (by show 2 * 0 + _ ≤ _; exact Nat.le_of_eq rfl) (hb hby at_173) (fun _ _ => ⟨rfl, rfl, (by decide : 10 + 2 ≤ _), (by decide : 30 + 16 ≤ _)⟩)
        dsimp only [Pt.U, Pt.locs, Pt.cells, Pt.slots] at hS22 hgr22
        dsimp only [Pt.U, Pt.locs, Pt.cells, Pt.slots] at X22 l22 y22 z22 st22 hQ22
        subst l22 y22 z22
        have hSl22 := hS22
        have hS22 : s.Since T22.vm T22.heap.size := Jvm.RoadKit.foldS (s := s) hS21 (by exact (Nat.le_refl T21.heap.size)) hSl22 hgr22
        have hown : (s.setVm T22.vm).vm.findClass "com/example/corollary/corollary/model/NamedClassEqualsPinLaw" = some m.cls := by
          show T22.vm.findClass _ = _
          rw [hSl22.1.alike.findClass]; exact hown
        have hZ : Z.Warmed39 (s.setVm T22.vm).vm := State.Warmed39.trans hZ hSl22.1
        obtain ⟨rfl, N22q, Kq22, GE22, GF22⟩ := hQ22
        have N22 := Fr.app N21 N22q
        have gr22 := Nat.le_trans (Nat.le_refl T21.heap.size) Kq22.1
        have K22 : Keep h0 T22.heap [] := K21.trans Kq22 (allS (Or.inr sz_b20) all0)
        refine own_by (A' := T22.setTop (mkF m 176 #[.val (.int p0), .val (.int p1), .val (.int p2), .val (.int (0 : Int32)), .val (.int ca0), .val (.int ca1), .val (.int ca2), .val (.int vb), .val (.int cb0), .val (.int cb1), .val (.int cb2), .val (.ref b1), .val (.ref b2), .val (.int (p2 &&& (7 : Int32))), .unset, .unset] [(.ref b20)])) (fun t kt => st22.trans kt) ?_
        refine own_by (A' := T22.setTop (mkF m 258 #[.val (.int p0), .val (.int p1), .val (.int p2), .val (.int (0 : Int32)), .val (.int ca0), .val (.int ca1), .val (.int ca2), .val (.int vb), .val (.int cb0), .val (.int cb1), .val (.int cb2), .val (.ref b1), .val (.ref b2), .val (.int (p2 &&& (7 : Int32))), .val (.ref b20), .val (.int (1 : Int32))] [(.ref b20), (.ref b2)])) (fun t kt => ?_) ?_
        · show Steps p.tables e below (T22.setTop (mkF m 176 #[.val (.int p0), .val (.int p1), .val (.int p2), .val (.int (0 : Int32)), .val (.int ca0), .val (.int ca1), .val (.int ca2), .val (.int vb), .val (.int cb0), .val (.int cb1), .val (.int cb2), .val (.ref b1), .val (.ref b2), .val (.int (p2 &&& (7 : Int32))), .unset, .unset] [(.ref b20)])) t
          refine XS.astore X22.here hx rfl (hb hby at_176) rfl rfl (l' := #[.val (.int p0), .val (.int p1), .val (.int p2), .val (.int (0 : Int32)), .val (.int ca0), .val (.int ca1), .val (.int ca2), .val (.int vb), .val (.int cb0), .val (.int cb1), .val (.int cb2), .val (.ref b1), .val (.ref b2), .val (.int (p2 &&& (7 : Int32))), .val (.ref b20), .unset]) rfl ?_
          show Steps p.tables e below (T22.setTop (mkF m 178 #[.val (.int p0), .val (.int p1), .val (.int p2), .val (.int (0 : Int32)), .val (.int ca0), .val (.int ca1), .val (.int ca2), .val (.int vb), .val (.int cb0), .val (.int cb1), .val (.int cb2), .val (.ref b1), .val (.ref b2), .val (.int (p2 &&& (7 : Int32))), .val (.ref b20), .unset] [])) t
          refine XS.iconst X22.here hx rfl (hb hby at_178) ?_
          show Steps p.tables e below (T22.setTop (mkF m 179 #[.val (.int p0), .val (.int p1), .val (.int p2), .val (.int (0 : Int32)), .val (.int ca0), .val (.int ca1), .val (.int ca2), .val (.int vb), .val (.int cb0), .val (.int cb1), .val (.int cb2), .val (.ref b1), .val (.ref b2), .val (.int (p2 &&& (7 : Int32))), .val (.ref b20), .unset] [(.int (1 : Int32))])) t
          refine XS.istore X22.here hx rfl (hb hby at_179) rfl (l' := #[.val (.int p0), .val (.int p1), .val (.int p2), .val (.int (0 : Int32)), .val (.int ca0), .val (.int ca1), .val (.int ca2), .val (.int vb), .val (.int cb0), .val (.int cb1), .val (.int cb2), .val (.ref b1), .val (.ref b2), .val (.int (p2 &&& (7 : Int32))), .val (.ref b20), .val (.int (1 : Int32))]) rfl ?_
          show Steps p.tables e below (T22.setTop (mkF m 181 #[.val (.int p0), .val (.int p1), .val (.int p2), .val (.int (0 : Int32)), .val (.int ca0), .val (.int ca1), .val (.int ca2), .val (.int vb), .val (.int cb0), .val (.int cb1), .val (.int cb2), .val (.ref b1), .val (.ref b2), .val (.int (p2 &&& (7 : Int32))), .val (.ref b20), .val (.int (1 : Int32))] [])) t
          refine XS.goto X22.here hx rfl (pc0 := 181) (pc' := 254) rfl (hb hby at_181) (by decide) (by decide) ?_
          show Steps p.tables e below (T22.setTop (mkF m 254 #[.val (.int p0), .val (.int p1), .val (.int p2), .val (.int (0 : Int32)), .val (.int ca0), .val (.int ca1), .val (.int ca2), .val (.int vb), .val (.int cb0), .val (.int cb1), .val (.int cb2), .val (.ref b1), .val (.ref b2), .val (.int (p2 &&& (7 : Int32))), .val (.ref b20), .val (.int (1 : Int32))] [])) t
          refine XS.aload X22.here hx rfl (hb hby at_254) rfl rfl ?_
          show Steps p.tables e below (T22.setTop (mkF m 256 #[.val (.int p0), .val (.int p1), .val (.int p2), .val (.int (0 : Int32)), .val (.int ca0), .val (.int ca1), .val (.int ca2), .val (.int vb), .val (.int cb0), .val (.int cb1), .val (.int cb2), .val (.ref b1), .val (.ref b2), .val (.int (p2 &&& (7 : Int32))), .val (.ref b20), .val (.int (1 : Int32))] [(.ref b2)])) t
          refine XS.aload X22.here hx rfl (hb hby at_256) rfl rfl ?_
          exact kt
        obtain ⟨cq23, kq23, q23a, q23b, q23c⟩ := isOf hZ rfl (((GE3.ext E20).keep Kq21).keep Kq22)
        obtain ⟨_, _, ⟨T23, L23, k23, n23⟩, -, X23, ⟨Lc23, hQ23, l23, y23, z23⟩, st23⟩ := X22.virtualBack hx (y := (⟨"com/example/corollary/corollary/model/NamedClass", "equals", "(Ljava/lang/Object;)Z"⟩ : MethodName)) (z := (⟨"com/example/corollary/corollary/model/NamedClass", "equals", "(Ljava/lang/Object;)Z"⟩ : MethodName)) hown (mvT hZ (hw _ (List.mem_of_getElem? (i := 45) rfl))) (mvT hZ (hw _ (List.mem_of_getElem? (i := 46) rfl))) (notFace_of_selects (args := #[]) (mvT hZ (hw _ (List.mem_of_getElem? (i := 48) rfl)))) (mvT hZ (hw _ (List.mem_of_getElem? (i := 48) rfl))) (mvT hZ (hw _ (List.mem_of_getElem? (i := 47) rfl))) (by decide) (backOf (W := 0) (rmeqN l Z aw hw [] b2 b20 b1 b21 (own_cs (0 : Int32) ca0 ca1 ca2) (own_cs (0 : Int32) ca0 ca1 ca2) G1 T22.heap n0 (Nat.le_trans Z0 K22.1) (((GF3.ext E20).keep Kq21 nin0).keep Kq22 (ninS (Nat.ne_of_lt (Nat.lt_of_lt_of_le (GE3).lt (Nat.le_of_eq g20.symm))) nin0)) GE22 GF22 (own_OSkeep1 (own_OSkeep0 (own_OSext (own_OSkeep1 (own_OSext GP1 E2) Kq3 A2 (hw _ (List.mem_of_getElem? (i := 27) rfl)) (by decide)) E20) Kq21) Kq22 (A20.keep Kq21) (hw _ (List.mem_of_getElem? (i := 27) rfl)) (by decide)) (own_OSkeep1 GP21 Kq22 (A20.keep Kq21) (hw _ (List.mem_of_getElem? (i := 27) rfl)) (by decide)) (own_csb _ hca0 hca1 hca2) (own_csb _ hca0 hca1 hca2) (own_csl (0 : Int32) ca0 ca1 ca2) (own_csl (0 : Int32) ca0 ca1 ca2) (own_staKeep S_cs K22) P5) hZ (hw _ (List.mem_of_getElem? (i := 49) rfl)) (hw _ (List.mem_of_getElem? (i := 28) rfl)) (by decide) (by decide)) q23a q23c (g := (mkF m 258 #[.val (.int p0), .val (.int p1), .val (.int p2), .val (.int (0 : Int32)), .val (.int ca0), .val (.int ca1), .val (.int ca2), .val (.int vb), .val (.int cb0), .val (.int cb1), .val (.int cb2), .val (.ref b1), .val (.ref b2), .val (.int (p2 &&& (7 : Int32))), .val (.ref b20), .val (.int (1 : Int32))] [(.ref b20), (.ref b2)])) rfl (by rw [hml]; rfl) (Steps.refl _) (argsL := [(.ref b20)]) (rest := []) (lenOf pd_10 rfl) rfl (by show 2 * 0 + _ ≤ _; exact Nat.le_of_eq rfl) (hb hby at_258) (fun _ _ => ⟨rfl, rfl, (by decide : 12 + 0 ≤ _), (by decide : 46 + 0 ≤ _)⟩)
        dsimp only [Pt.U, Pt.locs, Pt.cells, Pt.slots] at X23 l23 y23 z23 st23 hQ23
        subst l23 y23 z23
        obtain ⟨rfl, N23q, e23⟩ := hQ23
        have N23 := Fr.app N22 N23q
        refine own_by (A' := T23.setTop (mkF m 261 #[.val (.int p0), .val (.int p1), .val (.int p2), .val (.int (0 : Int32)), .val (.int ca0), .val (.int ca1), .val (.int ca2), .val (.int vb), .val (.int cb0), .val (.int cb1), .val (.int cb2), .val (.ref b1), .val (.ref b2), .val (.int (p2 &&& (7 : Int32))), .val (.ref b20), .val (.int (1 : Int32))] [(.int (own_eqr (own_cs (0 : Int32) ca0 ca1 ca2) (own_cs (0 : Int32) ca0 ca1 ca2)))])) (fun t kt => st23.trans kt) ?_
        refine own_by (A' := T23.setTop (mkF m 263 #[.val (.int p0), .val (.int p1), .val (.int p2), .val (.int (0 : Int32)), .val (.int ca0), .val (.int ca1), .val (.int ca2), .val (.int vb), .val (.int cb0), .val (.int cb1), .val (.int cb2), .val (.ref b1), .val (.ref b2), .val (.int (p2 &&& (7 : Int32))), .val (.ref b20), .val (.int (1 : Int32))] [(.int (1 : Int32)), (.int (own_eqr (own_cs (0 : Int32) ca0 ca1 ca2) (own_cs (0 : Int32) ca0 ca1 ca2)))])) (fun t kt => ?_) ?_
        · show Steps p.tables e below (T23.setTop (mkF m 261 #[.val (.int p0), .val (.int p1), .val (.int p2), .val (.int (0 : Int32)), .val (.int ca0), .val (.int ca1), .val (.int ca2), .val (.int vb), .val (.int cb0), .val (.int cb1), .val (.int cb2), .val (.ref b1), .val (.ref b2), .val (.int (p2 &&& (7 : Int32))), .val (.ref b20), .val (.int (1 : Int32))] [(.int (own_eqr (own_cs (0 : Int32) ca0 ca1 ca2) (own_cs (0 : Int32) ca0 ca1 ca2)))])) t
          refine XS.iload X23.here hx rfl (hb hby at_261) rfl ?_
          exact kt
        have hc263_24 : (own_eqr (own_cs (0 : Int32) ca0 ca1 ca2) (own_cs (0 : Int32) ca0 ca1 ca2)) = (1 : Int32) := own_eqrS _
        refine own_by (A' := T23.setTop (mkF m 271 #[.val (.int p0), .val (.int p1), .val (.int p2), .val (.int (0 : Int32)), .val (.int ca0), .val (.int ca1), .val (.int ca2), .val (.int vb), .val (.int cb0), .val (.int cb1), .val (.int cb2), .val (.ref b1), .val (.ref b2), .val (.int (p2 &&& (7 : Int32))), .val (.ref b20), .val (.int (1 : Int32))] [(.int (1 : Int32))])) (fun t kt => ?_) ?_
        · show Steps p.tables e below (T23.setTop (mkF m 263 #[.val (.int p0), .val (.int p1), .val (.int p2), .val (.int (0 : Int32)), .val (.int ca0), .val (.int ca1), .val (.int ca2), .val (.int vb), .val (.int cb0), .val (.int cb1), .val (.int cb2), .val (.ref b1), .val (.ref b2), .val (.int (p2 &&& (7 : Int32))), .val (.ref b20), .val (.int (1 : Int32))] [(.int (1 : Int32)), (.int (own_eqr (own_cs (0 : Int32) ca0 ca1 ca2) (own_cs (0 : Int32) ca0 ca1 ca2)))])) t
          refine XS.icmpNo X23.here hx rfl (hb hby at_263) rfl (teq hc263_24).2 ?_
          show Steps p.tables e below (T23.setTop (mkF m 266 #[.val (.int p0), .val (.int p1), .val (.int p2), .val (.int (0 : Int32)), .val (.int ca0), .val (.int ca1), .val (.int ca2), .val (.int vb), .val (.int cb0), .val (.int cb1), .val (.int cb2), .val (.ref b1), .val (.ref b2), .val (.int (p2 &&& (7 : Int32))), .val (.ref b20), .val (.int (1 : Int32))] [])) t
          refine XS.iconst X23.here hx rfl (hb hby at_266) ?_
          show Steps p.tables e below (T23.setTop (mkF m 267 #[.val (.int p0), .val (.int p1), .val (.int p2), .val (.int (0 : Int32)), .val (.int ca0), .val (.int ca1), .val (.int ca2), .val (.int vb), .val (.int cb0), .val (.int cb1), .val (.int cb2), .val (.ref b1), .val (.ref b2), .val (.int (p2 &&& (7 : Int32))), .val (.ref b20), .val (.int (1 : Int32))] [(.int (1 : Int32))])) t
          refine XS.goto X23.here hx rfl (pc0 := 267) (pc' := 271) rfl (hb hby at_267) (by decide) (by decide) ?_
          exact kt
        obtain ⟨fs, hr, hrun, hended, hEnd⟩ := X23.leaveW (s := s) hS22 (by rw [e23]; exact (Nat.le_refl T22.heap.size)) (v := some (.int (1 : Int32))) (fun h => by rw [Bd.returns] at h; cases h)
        refine ⟨_, _, ?_, hrun, hended, _, _, rfl, ?_, hEnd.1, hEnd.2.1, hEnd.2.2.1, hEnd.2.2.2.mono (by decide) (by decide)⟩
        · exact retN X23 hx (t := .boolean) Bd.returns (by simp) (hb hby at_271) hr
        · show Q0 Z p0 p1 p2 G1 h0 n0 _ T23.heap _ T23.vm
          rw [e23]
          exact ⟨rfl, N23⟩
    · refine own_by (A' := T3.setTop (mkF m 110 #[.val (.int p0), .val (.int p1), .val (.int p2), .val (.int (0 : Int32)), .val (.int ca0), .val (.int ca1), .val (.int ca2), .val (.int vb), .val (.int cb0), .val (.int cb1), .val (.int cb2), .val (.ref b1), .val (.ref b2), .val (.int (p2 &&& (7 : Int32))), .unset, .unset] [])) (fun t kt => ?_) ?_
      · show Steps p.tables e below (T3.setTop (mkF m 107 #[.val (.int p0), .val (.int p1), .val (.int p2), .val (.int (0 : Int32)), .val (.int ca0), .val (.int ca1), .val (.int ca2), .val (.int vb), .val (.int cb0), .val (.int cb1), .val (.int cb2), .val (.ref b1), .val (.ref b2), .val (.int (p2 &&& (7 : Int32))), .unset, .unset] [(.int (1 : Int32)), (.int (p2 &&& (7 : Int32)))])) t
        refine XS.icmpNo X3.here hx rfl (hb hby at_107) rfl (flt hc107_4).2.2.1 ?_
        exact kt
      obtain ⟨T25, h25, X25, e25, E25, A25, D25, -, st25⟩ := newO X3 hx hZ hown (hw _ (List.mem_of_getElem? (i := 26) rfl)) (hw _ (List.mem_of_getElem? (i := 27) rfl)) (hw _ (List.mem_of_getElem? (i := 28) rfl)) rfl (g := (mkF m 110 #[.val (.int p0), .val (.int p1), .val (.int p2), .val (.int (0 : Int32)), .val (.int ca0), .val (.int ca1), .val (.int ca2), .val (.int vb), .val (.int cb0), .val (.int cb1), .val (.int cb2), .val (.ref b1), .val (.ref b2), .val (.int (p2 &&& (7 : Int32))), .unset, .unset] [])) rfl (hb hby at_110) (by decide) (by decide)
      obtain ⟨b25, g25⟩ : ∃ z, z = T3.heap.size := ⟨_, rfl⟩
      rw [← g25] at A25 D25 st25
      have sz_b25 : h0.size ≤ b25 := Nat.le_trans K3.1 (Nat.le_of_eq g25.symm)
      have g_b25 : n0 ≤ b25 := Nat.le_trans Z0 sz_b25
      have gr25 := Nat.le_trans (Nat.le_refl T3.heap.size) E25.1
      have K25 : Keep h0 h25 [] := K3.ext E25
      have F_iri_b25 : Fld Z h25 b25 "com/example/corollary/corollary/model/NamedClass" "iri" "Ljava/lang/String;" .null := D25 (Or.inr (hw _ (List.mem_of_getElem? (i := 44) rfl))) (ty := (.object "java/lang/String")) (by decide)
      refine own_by (A' := T25.setTop (mkF m 113 #[.val (.int p0), .val (.int p1), .val (.int p2), .val (.int (0 : Int32)), .val (.int ca0), .val (.int ca1), .val (.int ca2), .val (.int vb), .val (.int cb0), .val (.int cb1), .val (.int cb2), .val (.ref b1), .val (.ref b2), .val (.int (p2 &&& (7 : Int32))), .unset, .unset] [(.ref b25)])) (fun t kt => st25 t kt) ?_
      refine own_by (A' := T25.setTop (mkF m 114 #[.val (.int p0), .val (.int p1), .val (.int p2), .val (.int (0 : Int32)), .val (.int ca0), .val (.int ca1), .val (.int ca2), .val (.int vb), .val (.int cb0), .val (.int cb1), .val (.int cb2), .val (.ref b1), .val (.ref b2), .val (.int (p2 &&& (7 : Int32))), .unset, .unset] [(.ref b25), (.ref b25)])) (fun t kt => ?_) ?_
      · show Steps p.tables e below (T25.setTop (mkF m 113 #[.val (.int p0), .val (.int p1), .val (.int p2), .val (.int (0 : Int32)), .val (.int ca0), .val (.int ca1), .val (.int ca2), .val (.int vb), .val (.int cb0), .val (.int cb1), .val (.int cb2), .val (.ref b1), .val (.ref b2), .val (.int (p2 &&& (7 : Int32))), .unset, .unset] [(.ref b25)])) t
        refine XS.dup X25.here hx rfl (hb hby at_113) rfl rfl ?_
        exact kt
      by_cases hvb : vb = (0 : Int32)
      · subst hvb
        refine own_by (A' := T25.setTop (mkF m 122 #[.val (.int p0), .val (.int p1), .val (.int p2), .val (.int (0 : Int32)), .val (.int ca0), .val (.int ca1), .val (.int ca2), .val (.int (0 : Int32)), .val (.int cb0), .val (.int cb1), .val (.int cb2), .val (.ref b1), .val (.ref b2), .val (.int (p2 &&& (7 : Int32))), .unset, .unset] [(.int cb2), (.int cb1), (.int cb0), (.int (0 : Int32)), (.ref b25), (.ref b25)])) (fun t kt => ?_) ?_
        · show Steps p.tables e below (T25.setTop (mkF m 114 #[.val (.int p0), .val (.int p1), .val (.int p2), .val (.int (0 : Int32)), .val (.int ca0), .val (.int ca1), .val (.int ca2), .val (.int (0 : Int32)), .val (.int cb0), .val (.int cb1), .val (.int cb2), .val (.ref b1), .val (.ref b2), .val (.int (p2 &&& (7 : Int32))), .unset, .unset] [(.ref b25), (.ref b25)])) t
          refine XS.iload X25.here hx rfl (hb hby at_114) rfl ?_
          show Steps p.tables e below (T25.setTop (mkF m 116 #[.val (.int p0), .val (.int p1), .val (.int p2), .val (.int (0 : Int32)), .val (.int ca0), .val (.int ca1), .val (.int ca2), .val (.int (0 : Int32)), .val (.int cb0), .val (.int cb1), .val (.int cb2), .val (.ref b1), .val (.ref b2), .val (.int (p2 &&& (7 : Int32))), .unset, .unset] [(.int (0 : Int32)), (.ref b25), (.ref b25)])) t
          refine XS.iload X25.here hx rfl (hb hby at_116) rfl ?_
          show Steps p.tables e below (T25.setTop (mkF m 118 #[.val (.int p0), .val (.int p1), .val (.int p2), .val (.int (0 : Int32)), .val (.int ca0), .val (.int ca1), .val (.int ca2), .val (.int (0 : Int32)), .val (.int cb0), .val (.int cb1), .val (.int cb2), .val (.ref b1), .val (.ref b2), .val (.int (p2 &&& (7 : Int32))), .unset, .unset] [(.int cb0), (.int (0 : Int32)), (.ref b25), (.ref b25)])) t
          refine XS.iload X25.here hx rfl (hb hby at_118) rfl ?_
          show Steps p.tables e below (T25.setTop (mkF m 120 #[.val (.int p0), .val (.int p1), .val (.int p2), .val (.int (0 : Int32)), .val (.int ca0), .val (.int ca1), .val (.int ca2), .val (.int (0 : Int32)), .val (.int cb0), .val (.int cb1), .val (.int cb2), .val (.ref b1), .val (.ref b2), .val (.int (p2 &&& (7 : Int32))), .unset, .unset] [(.int cb1), (.int cb0), (.int (0 : Int32)), (.ref b25), (.ref b25)])) t
          refine XS.iload X25.here hx rfl (hb hby at_120) rfl ?_
          exact kt
        obtain ⟨_, _, ⟨T26, L26, k26, n26⟩, -, X26, hS26, hgr26, ⟨Lc26, hQ26, l26, y26, z26⟩, st26⟩ := callSS X25 hx (y := (⟨"com/example/corollary/corollary/model/NamedClassEqualsPinLaw", "mk", "(ICCC)Ljava/lang/String;"⟩ : MethodName)) hown (mvT hZ (hw _ (List.mem_of_getElem? (i := 0) rfl))) (mvT hZ (hw _ (List.mem_of_getElem? (i := 1) rfl))) (mvT hZ (hw _ (List.mem_of_getElem? (i := 2) rfl))) (mvT hZ (hw _ (List.mem_of_getElem? (i := 3) rfl))) (by decide) (own_backOfV (W := 2) (rmmkA l Z aw hw [] cb0 cb1 cb2 lt1 h25 n0 (Nat.le_trans Z0 K25.1) (own_OSext (own_OSkeep1 (own_OSext GOl1 E2) Kq3 A2 (hw _ (List.mem_of_getElem? (i := 27) rfl)) (by decide)) E25)) hZ (fun vm q => own_Litw q Li3) (hw _ (List.mem_of_getElem? (i := 3) rfl)) (hw _ (List.mem_of_getElem? (i := 2) rfl)) (by decide) (by decide)) (g := (mkF m 122 #[.val (.int p0), .val (.int p1), .val (.int p2), .val (.int (0 : Int32)), .val (.int ca0), .val (.int ca1), .val (.int ca2), .val (.int (0 : Int32)), .val (.int cb0), .val (.int cb1), .val (.int cb2), .val (.ref b1), .val (.ref b2), .val (.int (p2 &&& (7 : Int32))), .unset, .unset] [(.int cb2), (.int cb1), (.int cb0), (.int (0 : Int32)), (.ref b25), (.ref b25)])) rfl (by rw [hml]; rfl) (argsL := [(.int (0 : Int32)), (.int cb0), (.int cb1), (.int cb2)]) (rest := [(.ref b25), (.ref b25)]) (lenOf pd_11 rfl) rfl (by show 2 * 0 + _ ≤ _; exact Nat.le_of_eq rfl) (hb hby at_122) (fun _ _ => ⟨rfl, e25, (by decide : 8 + 2 ≤ _), (by decide : 26 + 4 ≤ _)⟩)
        dsimp only [Pt.U, Pt.locs, Pt.cells, Pt.slots] at hS26 hgr26
        dsimp only [Pt.U, Pt.locs, Pt.cells, Pt.slots] at X26 l26 y26 z26 st26 hQ26
        subst l26 y26 z26
        have hSl26 := hS26
        have hS26 : s.Since T26.vm T26.heap.size := Jvm.RoadKit.foldS (s := s) hS3 (by rw [e25]; exact gr25) hSl26 hgr26
        have hown : (s.setVm T26.vm).vm.findClass "com/example/corollary/corollary/model/NamedClassEqualsPinLaw" = some m.cls := by
          show T26.vm.findClass _ = _
          rw [hSl26.1.alike.findClass]; exact hown
        have hZ : Z.Warmed39 (s.setVm T26.vm).vm := State.Warmed39.trans hZ hSl26.1
        obtain ⟨b26, rfl, N26q, Kq26, GO26⟩ := hQ26
        have N26 := Fr.app N3 N26q
        have gr26 := Nat.le_trans gr25 Kq26.1
        have K26 : Keep h0 T26.heap [] := K25.trans Kq26 all0
        have GP26 : own_OS Z T26.heap b26 (own_cs (0 : Int32) cb0 cb1 cb2) := by rw [own_cs, if_pos rfl]; exact GO26
        obtain ⟨_, _, GE26, _⟩ := id GP26
        refine own_by (A' := T26.setTop (mkF m 125 #[.val (.int p0), .val (.int p1), .val (.int p2), .val (.int (0 : Int32)), .val (.int ca0), .val (.int ca1), .val (.int ca2), .val (.int (0 : Int32)), .val (.int cb0), .val (.int cb1), .val (.int cb2), .val (.ref b1), .val (.ref b2), .val (.int (p2 &&& (7 : Int32))), .unset, .unset] [(.ref b26), (.ref b25), (.ref b25)])) (fun t kt => st26.trans kt) ?_
        obtain ⟨_, _, ⟨T27, L27, k27, n27⟩, -, X27, hS27, hgr27, ⟨Lc27, hQ27, l27, y27, z27⟩, st27⟩ := X26.specialBackS hx (y := (⟨"com/example/corollary/corollary/model/NamedClass", "<init>", "(Ljava/lang/String;)V"⟩ : MethodName)) rfl hown (mvT hZ (hw _ (List.mem_of_getElem? (i := 29) rfl))) (mvT hZ (hw _ (List.mem_of_getElem? (i := 30) rfl))) (mvT hZ (hw _ (List.mem_of_getElem? (i := 31) rfl))) (by decide) (own_backOfV (W := 1) (rmnew5S l Z aw hw [] b25 b26 T26.heap n0 (Nat.le_trans Z0 K26.1) (A25.keep Kq26) (F_iri_b25.keep Kq26 nin0) g_b25) hZ (fun vm q => trivial) (hw _ (List.mem_of_getElem? (i := 31) rfl)) (hw _ (List.mem_of_getElem? (i := 28) rfl)) (by decide) (by decide)) (g := (mkF m 125 #[.val (.int p0), .val (.int p1), .val (.int p2), .val (.int (0 : Int32)), .val (.int ca0), .val (.int ca1), .val (.int ca2), .val (.int (0 : Int32)), .val (.int cb0), .val (.int cb1), .val (.int cb2), .val (.ref b1), .val (.ref b2), .val (.int (p2 &&& (7 : Int32))), .unset, .unset] [(.ref b26), (.ref b25), (.ref b25)])) rfl (by rw [hml]; rfl) (Steps.refl _) (a := b25) (argsL := [(.ref b26)]) (rest := [(.ref b25)]) (lenOf pd_12 rfl) rfl (by show 2 * 0 + _ ≤ _; exact Nat.le_of_eq rfl) (hb hby at_125) (fun _ _ => ⟨rfl, rfl, (by decide : 10 + 2 ≤ _), (by decide : 30 + 16 ≤ _)⟩)
        dsimp only [Pt.U, Pt.locs, Pt.cells, Pt.slots] at hS27 hgr27
        dsimp only [Pt.U, Pt.locs, Pt.cells, Pt.slots] at X27 l27 y27 z27 st27 hQ27
        subst l27 y27 z27
        have hSl27 := hS27
        have hS27 : s.Since T27.vm T27.heap.size := Jvm.RoadKit.foldS (s := s) hS26 (by exact (Nat.le_refl T26.heap.size)) hSl27 hgr27
        have hown : (s.setVm T27.vm).vm.findClass "com/example/corollary/corollary/model/NamedClassEqualsPinLaw" = some m.cls := by
          show T27.vm.findClass _ = _
          rw [hSl27.1.alike.findClass]; exact hown
        have hZ : Z.Warmed39 (s.setVm T27.vm).vm := State.Warmed39.trans hZ hSl27.1
        obtain ⟨rfl, N27q, Kq27, GE27, GF27⟩ := hQ27
        have N27 := Fr.app N26 N27q
        have gr27 := Nat.le_trans (Nat.le_refl T26.heap.size) Kq27.1
        have K27 : Keep h0 T27.heap [] := K26.trans Kq27 (allS (Or.inr sz_b25) all0)
        refine own_by (A' := T27.setTop (mkF m 128 #[.val (.int p0), .val (.int p1), .val (.int p2), .val (.int (0 : Int32)), .val (.int ca0), .val (.int ca1), .val (.int ca2), .val (.int (0 : Int32)), .val (.int cb0), .val (.int cb1), .val (.int cb2), .val (.ref b1), .val (.ref b2), .val (.int (p2 &&& (7 : Int32))), .unset, .unset] [(.ref b25)])) (fun t kt => st27.trans kt) ?_
        refine own_by (A' := T27.setTop (mkF m 145 #[.val (.int p0), .val (.int p1), .val (.int p2), .val (.int (0 : Int32)), .val (.int ca0), .val (.int ca1), .val (.int ca2), .val (.int (0 : Int32)), .val (.int cb0), .val (.int cb1), .val (.int cb2), .val (.ref b1), .val (.ref b2), .val (.int (p2 &&& (7 : Int32))), .val (.ref b25), .unset] [(.int cb2), (.int cb1), (.int cb0), (.int (0 : Int32)), (.int ca2), (.int ca1), (.int ca0), (.int (0 : Int32))])) (fun t kt => ?_) ?_
        · show Steps p.tables e below (T27.setTop (mkF m 128 #[.val (.int p0), .val (.int p1), .val (.int p2), .val (.int (0 : Int32)), .val (.int ca0), .val (.int ca1), .val (.int ca2), .val (.int (0 : Int32)), .val (.int cb0), .val (.int cb1), .val (.int cb2), .val (.ref b1), .val (.ref b2), .val (.int (p2 &&& (7 : Int32))), .unset, .unset] [(.ref b25)])) t
          refine XS.astore X27.here hx rfl (hb hby at_128) rfl rfl (l' := #[.val (.int p0), .val (.int p1), .val (.int p2), .val (.int (0 : Int32)), .val (.int ca0), .val (.int ca1), .val (.int ca2), .val (.int (0 : Int32)), .val (.int cb0), .val (.int cb1), .val (.int cb2), .val (.ref b1), .val (.ref b2), .val (.int (p2 &&& (7 : Int32))), .val (.ref b25), .unset]) rfl ?_
          show Steps p.tables e below (T27.setTop (mkF m 130 #[.val (.int p0), .val (.int p1), .val (.int p2), .val (.int (0 : Int32)), .val (.int ca0), .val (.int ca1), .val (.int ca2), .val (.int (0 : Int32)), .val (.int cb0), .val (.int cb1), .val (.int cb2), .val (.ref b1), .val (.ref b2), .val (.int (p2 &&& (7 : Int32))), .val (.ref b25), .unset] [])) t
          refine XS.iloadN X27.here hx rfl (hb hby at_130) rfl ?_
          show Steps p.tables e below (T27.setTop (mkF m 131 #[.val (.int p0), .val (.int p1), .val (.int p2), .val (.int (0 : Int32)), .val (.int ca0), .val (.int ca1), .val (.int ca2), .val (.int (0 : Int32)), .val (.int cb0), .val (.int cb1), .val (.int cb2), .val (.ref b1), .val (.ref b2), .val (.int (p2 &&& (7 : Int32))), .val (.ref b25), .unset] [(.int (0 : Int32))])) t
          refine XS.iload X27.here hx rfl (hb hby at_131) rfl ?_
          show Steps p.tables e below (T27.setTop (mkF m 133 #[.val (.int p0), .val (.int p1), .val (.int p2), .val (.int (0 : Int32)), .val (.int ca0), .val (.int ca1), .val (.int ca2), .val (.int (0 : Int32)), .val (.int cb0), .val (.int cb1), .val (.int cb2), .val (.ref b1), .val (.ref b2), .val (.int (p2 &&& (7 : Int32))), .val (.ref b25), .unset] [(.int ca0), (.int (0 : Int32))])) t
          refine XS.iload X27.here hx rfl (hb hby at_133) rfl ?_
          show Steps p.tables e below (T27.setTop (mkF m 135 #[.val (.int p0), .val (.int p1), .val (.int p2), .val (.int (0 : Int32)), .val (.int ca0), .val (.int ca1), .val (.int ca2), .val (.int (0 : Int32)), .val (.int cb0), .val (.int cb1), .val (.int cb2), .val (.ref b1), .val (.ref b2), .val (.int (p2 &&& (7 : Int32))), .val (.ref b25), .unset] [(.int ca1), (.int ca0), (.int (0 : Int32))])) t
          refine XS.iload X27.here hx rfl (hb hby at_135) rfl ?_
          show Steps p.tables e below (T27.setTop (mkF m 137 #[.val (.int p0), .val (.int p1), .val (.int p2), .val (.int (0 : Int32)), .val (.int ca0), .val (.int ca1), .val (.int ca2), .val (.int (0 : Int32)), .val (.int cb0), .val (.int cb1), .val (.int cb2), .val (.ref b1), .val (.ref b2), .val (.int (p2 &&& (7 : Int32))), .val (.ref b25), .unset] [(.int ca2), (.int ca1), (.int ca0), (.int (0 : Int32))])) t
          refine XS.iload X27.here hx rfl (hb hby at_137) rfl ?_
          show Steps p.tables e below (T27.setTop (mkF m 139 #[.val (.int p0), .val (.int p1), .val (.int p2), .val (.int (0 : Int32)), .val (.int ca0), .val (.int ca1), .val (.int ca2), .val (.int (0 : Int32)), .val (.int cb0), .val (.int cb1), .val (.int cb2), .val (.ref b1), .val (.ref b2), .val (.int (p2 &&& (7 : Int32))), .val (.ref b25), .unset] [(.int (0 : Int32)), (.int ca2), (.int ca1), (.int ca0), (.int (0 : Int32))])) t
          refine XS.iload X27.here hx rfl (hb hby at_139) rfl ?_
          show Steps p.tables e below (T27.setTop (mkF m 141 #[.val (.int p0), .val (.int p1), .val (.int p2), .val (.int (0 : Int32)), .val (.int ca0), .val (.int ca1), .val (.int ca2), .val (.int (0 : Int32)), .val (.int cb0), .val (.int cb1), .val (.int cb2), .val (.ref b1), .val (.ref b2), .val (.int (p2 &&& (7 : Int32))), .val (.ref b25), .unset] [(.int cb0), (.int (0 : Int32)), (.int ca2), (.int ca1), (.int ca0), (.int (0 : Int32))])) t
          refine XS.iload X27.here hx rfl (hb hby at_141) rfl ?_
          show Steps p.tables e below (T27.setTop (mkF m 143 #[.val (.int p0), .val (.int p1), .val (.int p2), .val (.int (0 : Int32)), .val (.int ca0), .val (.int ca1), .val (.int ca2), .val (.int (0 : Int32)), .val (.int cb0), .val (.int cb1), .val (.int cb2), .val (.ref b1), .val (.ref b2), .val (.int (p2 &&& (7 : Int32))), .val (.ref b25), .unset] [(.int cb1), (.int cb0), (.int (0 : Int32)), (.int ca2), (.int ca1), (.int ca0), (.int (0 : Int32))])) t
          refine XS.iload X27.here hx rfl (hb hby at_143) rfl ?_
          exact kt
        obtain ⟨_, _, ⟨T28, L28, k28, n28⟩, -, X28, ⟨Lc28, hQ28, l28, y28, z28⟩, st28⟩ := Jvm.LawKit.callS X27 hx (y := (⟨"com/example/corollary/corollary/model/NamedClassEqualsPinLaw", "sameStr", "(ICCCICCC)Z"⟩ : MethodName)) hown (mvT hZ (hw _ (List.mem_of_getElem? (i := 75) rfl))) (mvT hZ (hw _ (List.mem_of_getElem? (i := 76) rfl))) (mvT hZ (hw _ (List.mem_of_getElem? (i := 2) rfl))) (mvT hZ (hw _ (List.mem_of_getElem? (i := 77) rfl))) (by decide) (backOf (W := 0) (rm14 l Z aw hw [] (0 : Int32) ca0 ca1 ca2 (0 : Int32) cb0 cb1 cb2 T27.heap n0 (Nat.le_trans Z0 K27.1) ) hZ (hw _ (List.mem_of_getElem? (i := 77) rfl)) (hw _ (List.mem_of_getElem? (i := 2) rfl)) (by decide) (by decide)) (g := (mkF m 145 #[.val (.int p0), .val (.int p1), .val (.int p2), .val (.int (0 : Int32)), .val (.int ca0), .val (.int ca1), .val (.int ca2), .val (.int (0 : Int32)), .val (.int cb0), .val (.int cb1), .val (.int cb2), .val (.ref b1), .val (.ref b2), .val (.int (p2 &&& (7 : Int32))), .val (.ref b25), .unset] [(.int cb2), (.int cb1), (.int cb0), (.int (0 : Int32)), (.int ca2), (.int ca1), (.int ca0), (.int (0 : Int32))])) rfl (by rw [hml]; rfl) (argsL := [(.int (0 : Int32)), (.int ca0), (.int ca1), (.int ca2), (.int (0 : Int32)), (.int cb0), (.int cb1), (.int cb2)]) (rest := []) (lenOf pd_13 rfl) rfl (by show 2 * 0 + _ ≤ _; exact Nat.le_of_eq rfl) (hb hby at_145) (fun _ _ => ⟨rfl, rfl, (by decide : 12 + 0 ≤ _), (by decide : 46 + 0 ≤ _)⟩)
        dsimp only [Pt.U, Pt.locs, Pt.cells, Pt.slots] at X28 l28 y28 z28 st28 hQ28
        subst l28 y28 z28
        obtain ⟨rfl, N28q, e28⟩ := hQ28
        have N28 := Fr.app N27 N28q
        refine own_by (A' := T28.setTop (mkF m 148 #[.val (.int p0), .val (.int p1), .val (.int p2), .val (.int (0 : Int32)), .val (.int ca0), .val (.int ca1), .val (.int ca2), .val (.int (0 : Int32)), .val (.int cb0), .val (.int cb1), .val (.int cb2), .val (.ref b1), .val (.ref b2), .val (.int (p2 &&& (7 : Int32))), .val (.ref b25), .unset] [(.int (own_f14 (0 : Int32) ca0 ca1 ca2 (0 : Int32) cb0 cb1 cb2))])) (fun t kt => st28 t kt) ?_
        refine own_by (A' := T28.setTop (mkF m 258 #[.val (.int p0), .val (.int p1), .val (.int p2), .val (.int (0 : Int32)), .val (.int ca0), .val (.int ca1), .val (.int ca2), .val (.int (0 : Int32)), .val (.int cb0), .val (.int cb1), .val (.int cb2), .val (.ref b1), .val (.ref b2), .val (.int (p2 &&& (7 : Int32))), .val (.ref b25), .val (.int (own_f14 (0 : Int32) ca0 ca1 ca2 (0 : Int32) cb0 cb1 cb2))] [(.ref b25), (.ref b2)])) (fun t kt => ?_) ?_
        · show Steps p.tables e below (T28.setTop (mkF m 148 #[.val (.int p0), .val (.int p1), .val (.int p2), .val (.int (0 : Int32)), .val (.int ca0), .val (.int ca1), .val (.int ca2), .val (.int (0 : Int32)), .val (.int cb0), .val (.int cb1), .val (.int cb2), .val (.ref b1), .val (.ref b2), .val (.int (p2 &&& (7 : Int32))), .val (.ref b25), .unset] [(.int (own_f14 (0 : Int32) ca0 ca1 ca2 (0 : Int32) cb0 cb1 cb2))])) t
          refine XS.istore X28.here hx rfl (hb hby at_148) rfl (l' := #[.val (.int p0), .val (.int p1), .val (.int p2), .val (.int (0 : Int32)), .val (.int ca0), .val (.int ca1), .val (.int ca2), .val (.int (0 : Int32)), .val (.int cb0), .val (.int cb1), .val (.int cb2), .val (.ref b1), .val (.ref b2), .val (.int (p2 &&& (7 : Int32))), .val (.ref b25), .val (.int (own_f14 (0 : Int32) ca0 ca1 ca2 (0 : Int32) cb0 cb1 cb2))]) rfl ?_
          show Steps p.tables e below (T28.setTop (mkF m 150 #[.val (.int p0), .val (.int p1), .val (.int p2), .val (.int (0 : Int32)), .val (.int ca0), .val (.int ca1), .val (.int ca2), .val (.int (0 : Int32)), .val (.int cb0), .val (.int cb1), .val (.int cb2), .val (.ref b1), .val (.ref b2), .val (.int (p2 &&& (7 : Int32))), .val (.ref b25), .val (.int (own_f14 (0 : Int32) ca0 ca1 ca2 (0 : Int32) cb0 cb1 cb2))] [])) t
          refine XS.goto X28.here hx rfl (pc0 := 150) (pc' := 254) rfl (hb hby at_150) (by decide) (by decide) ?_
          show Steps p.tables e below (T28.setTop (mkF m 254 #[.val (.int p0), .val (.int p1), .val (.int p2), .val (.int (0 : Int32)), .val (.int ca0), .val (.int ca1), .val (.int ca2), .val (.int (0 : Int32)), .val (.int cb0), .val (.int cb1), .val (.int cb2), .val (.ref b1), .val (.ref b2), .val (.int (p2 &&& (7 : Int32))), .val (.ref b25), .val (.int (own_f14 (0 : Int32) ca0 ca1 ca2 (0 : Int32) cb0 cb1 cb2))] [])) t
          refine XS.aload X28.here hx rfl (hb hby at_254) rfl rfl ?_
          show Steps p.tables e below (T28.setTop (mkF m 256 #[.val (.int p0), .val (.int p1), .val (.int p2), .val (.int (0 : Int32)), .val (.int ca0), .val (.int ca1), .val (.int ca2), .val (.int (0 : Int32)), .val (.int cb0), .val (.int cb1), .val (.int cb2), .val (.ref b1), .val (.ref b2), .val (.int (p2 &&& (7 : Int32))), .val (.ref b25), .val (.int (own_f14 (0 : Int32) ca0 ca1 ca2 (0 : Int32) cb0 cb1 cb2))] [(.ref b2)])) t
          refine XS.aload X28.here hx rfl (hb hby at_256) rfl rfl ?_
          exact kt
        obtain ⟨cq29, kq29, q29a, q29b, q29c⟩ := isOf hZ e28 (((GE3.ext E25).keep Kq26).keep Kq27)
        obtain ⟨_, _, ⟨T29, L29, k29, n29⟩, -, X29, ⟨Lc29, hQ29, l29, y29, z29⟩, st29⟩ := X28.virtualBack hx (y := (⟨"com/example/corollary/corollary/model/NamedClass", "equals", "(Ljava/lang/Object;)Z"⟩ : MethodName)) (z := (⟨"com/example/corollary/corollary/model/NamedClass", "equals", "(Ljava/lang/Object;)Z"⟩ : MethodName)) hown (mvT hZ (hw _ (List.mem_of_getElem? (i := 45) rfl))) (mvT hZ (hw _ (List.mem_of_getElem? (i := 46) rfl))) (notFace_of_selects (args := #[]) (mvT hZ (hw _ (List.mem_of_getElem? (i := 48) rfl)))) (mvT hZ (hw _ (List.mem_of_getElem? (i := 48) rfl))) (mvT hZ (hw _ (List.mem_of_getElem? (i := 47) rfl))) (by decide) (backOf (W := 0) (rmeqN l Z aw hw [] b2 b25 b1 b26 (own_cs (0 : Int32) ca0 ca1 ca2) (own_cs (0 : Int32) cb0 cb1 cb2) G1 T27.heap n0 (Nat.le_trans Z0 K27.1) (((GF3.ext E25).keep Kq26 nin0).keep Kq27 (ninS (Nat.ne_of_lt (Nat.lt_of_lt_of_le (GE3).lt (Nat.le_of_eq g25.symm))) nin0)) GE27 GF27 (own_OSkeep1 (own_OSkeep0 (own_OSext (own_OSkeep1 (own_OSext GP1 E2) Kq3 A2 (hw _ (List.mem_of_getElem? (i := 27) rfl)) (by decide)) E25) Kq26) Kq27 (A25.keep Kq26) (hw _ (List.mem_of_getElem? (i := 27) rfl)) (by decide)) (own_OSkeep1 GP26 Kq27 (A25.keep Kq26) (hw _ (List.mem_of_getElem? (i := 27) rfl)) (by decide)) (own_csb _ hca0 hca1 hca2) (own_csb _ hcb0 hcb1 hcb2) (own_csl (0 : Int32) ca0 ca1 ca2) (own_csl (0 : Int32) cb0 cb1 cb2) (own_staKeep S_cs K27) P5) hZ (hw _ (List.mem_of_getElem? (i := 49) rfl)) (hw _ (List.mem_of_getElem? (i := 28) rfl)) (by decide) (by decide)) q29a q29c (g := (mkF m 258 #[.val (.int p0), .val (.int p1), .val (.int p2), .val (.int (0 : Int32)), .val (.int ca0), .val (.int ca1), .val (.int ca2), .val (.int (0 : Int32)), .val (.int cb0), .val (.int cb1), .val (.int cb2), .val (.ref b1), .val (.ref b2), .val (.int (p2 &&& (7 : Int32))), .val (.ref b25), .val (.int (own_f14 (0 : Int32) ca0 ca1 ca2 (0 : Int32) cb0 cb1 cb2))] [(.ref b25), (.ref b2)])) rfl (by rw [hml]; rfl) (Steps.refl _) (argsL := [(.ref b25)]) (rest := []) (lenOf pd_10 rfl) rfl (by show 2 * 0 + _ ≤ _; exact Nat.le_of_eq rfl) (hb hby at_258) (fun _ _ => ⟨rfl, e28, (by decide : 12 + 0 ≤ _), (by decide : 46 + 0 ≤ _)⟩)
        dsimp only [Pt.U, Pt.locs, Pt.cells, Pt.slots] at X29 l29 y29 z29 st29 hQ29
        subst l29 y29 z29
        obtain ⟨rfl, N29q, e29⟩ := hQ29
        have N29 := Fr.app N28 N29q
        refine own_by (A' := T29.setTop (mkF m 261 #[.val (.int p0), .val (.int p1), .val (.int p2), .val (.int (0 : Int32)), .val (.int ca0), .val (.int ca1), .val (.int ca2), .val (.int (0 : Int32)), .val (.int cb0), .val (.int cb1), .val (.int cb2), .val (.ref b1), .val (.ref b2), .val (.int (p2 &&& (7 : Int32))), .val (.ref b25), .val (.int (own_f14 (0 : Int32) ca0 ca1 ca2 (0 : Int32) cb0 cb1 cb2))] [(.int (own_eqr (own_cs (0 : Int32) ca0 ca1 ca2) (own_cs (0 : Int32) cb0 cb1 cb2)))])) (fun t kt => st29.trans kt) ?_
        refine own_by (A' := T29.setTop (mkF m 263 #[.val (.int p0), .val (.int p1), .val (.int p2), .val (.int (0 : Int32)), .val (.int ca0), .val (.int ca1), .val (.int ca2), .val (.int (0 : Int32)), .val (.int cb0), .val (.int cb1), .val (.int cb2), .val (.ref b1), .val (.ref b2), .val (.int (p2 &&& (7 : Int32))), .val (.ref b25), .val (.int (own_f14 (0 : Int32) ca0 ca1 ca2 (0 : Int32) cb0 cb1 cb2))] [(.int (own_f14 (0 : Int32) ca0 ca1 ca2 (0 : Int32) cb0 cb1 cb2)), (.int (own_eqr (own_cs (0 : Int32) ca0 ca1 ca2) (own_cs (0 : Int32) cb0 cb1 cb2)))])) (fun t kt => ?_) ?_
        · show Steps p.tables e below (T29.setTop (mkF m 261 #[.val (.int p0), .val (.int p1), .val (.int p2), .val (.int (0 : Int32)), .val (.int ca0), .val (.int ca1), .val (.int ca2), .val (.int (0 : Int32)), .val (.int cb0), .val (.int cb1), .val (.int cb2), .val (.ref b1), .val (.ref b2), .val (.int (p2 &&& (7 : Int32))), .val (.ref b25), .val (.int (own_f14 (0 : Int32) ca0 ca1 ca2 (0 : Int32) cb0 cb1 cb2))] [(.int (own_eqr (own_cs (0 : Int32) ca0 ca1 ca2) (own_cs (0 : Int32) cb0 cb1 cb2)))])) t
          refine XS.iload X29.here hx rfl (hb hby at_261) rfl ?_
          exact kt
        have hc263_30 : (own_eqr (own_cs (0 : Int32) ca0 ca1 ca2) (own_cs (0 : Int32) cb0 cb1 cb2)) = (own_f14 (0 : Int32) ca0 ca1 ca2 (0 : Int32) cb0 cb1 cb2) := own_final (Or.inl rfl) (Or.inl rfl) _ _ _ _ _ _
        refine own_by (A' := T29.setTop (mkF m 271 #[.val (.int p0), .val (.int p1), .val (.int p2), .val (.int (0 : Int32)), .val (.int ca0), .val (.int ca1), .val (.int ca2), .val (.int (0 : Int32)), .val (.int cb0), .val (.int cb1), .val (.int cb2), .val (.ref b1), .val (.ref b2), .val (.int (p2 &&& (7 : Int32))), .val (.ref b25), .val (.int (own_f14 (0 : Int32) ca0 ca1 ca2 (0 : Int32) cb0 cb1 cb2))] [(.int (1 : Int32))])) (fun t kt => ?_) ?_
        · show Steps p.tables e below (T29.setTop (mkF m 263 #[.val (.int p0), .val (.int p1), .val (.int p2), .val (.int (0 : Int32)), .val (.int ca0), .val (.int ca1), .val (.int ca2), .val (.int (0 : Int32)), .val (.int cb0), .val (.int cb1), .val (.int cb2), .val (.ref b1), .val (.ref b2), .val (.int (p2 &&& (7 : Int32))), .val (.ref b25), .val (.int (own_f14 (0 : Int32) ca0 ca1 ca2 (0 : Int32) cb0 cb1 cb2))] [(.int (own_f14 (0 : Int32) ca0 ca1 ca2 (0 : Int32) cb0 cb1 cb2)), (.int (own_eqr (own_cs (0 : Int32) ca0 ca1 ca2) (own_cs (0 : Int32) cb0 cb1 cb2)))])) t
          refine XS.icmpNo X29.here hx rfl (hb hby at_263) rfl (teq hc263_30).2 ?_
          show Steps p.tables e below (T29.setTop (mkF m 266 #[.val (.int p0), .val (.int p1), .val (.int p2), .val (.int (0 : Int32)), .val (.int ca0), .val (.int ca1), .val (.int ca2), .val (.int (0 : Int32)), .val (.int cb0), .val (.int cb1), .val (.int cb2), .val (.ref b1), .val (.ref b2), .val (.int (p2 &&& (7 : Int32))), .val (.ref b25), .val (.int (own_f14 (0 : Int32) ca0 ca1 ca2 (0 : Int32) cb0 cb1 cb2))] [])) t
          refine XS.iconst X29.here hx rfl (hb hby at_266) ?_
          show Steps p.tables e below (T29.setTop (mkF m 267 #[.val (.int p0), .val (.int p1), .val (.int p2), .val (.int (0 : Int32)), .val (.int ca0), .val (.int ca1), .val (.int ca2), .val (.int (0 : Int32)), .val (.int cb0), .val (.int cb1), .val (.int cb2), .val (.ref b1), .val (.ref b2), .val (.int (p2 &&& (7 : Int32))), .val (.ref b25), .val (.int (own_f14 (0 : Int32) ca0 ca1 ca2 (0 : Int32) cb0 cb1 cb2))] [(.int (1 : Int32))])) t
          refine XS.goto X29.here hx rfl (pc0 := 267) (pc' := 271) rfl (hb hby at_267) (by decide) (by decide) ?_
          exact kt
        obtain ⟨fs, hr, hrun, hended, hEnd⟩ := X29.leaveW (s := s) hS27 (by rw [e29]; exact (Nat.le_refl T27.heap.size)) (v := some (.int (1 : Int32))) (fun h => by rw [Bd.returns] at h; cases h)
        refine ⟨_, _, ?_, hrun, hended, _, _, rfl, ?_, hEnd.1, hEnd.2.1, hEnd.2.2.1, hEnd.2.2.2.mono (by decide) (by decide)⟩
        · exact retN X29 hx (t := .boolean) Bd.returns (by simp) (hb hby at_271) hr
        · show Q0 Z p0 p1 p2 G1 h0 n0 _ T29.heap _ T29.vm
          rw [e29]
          exact ⟨rfl, N29⟩
      · skip
        refine own_by (A' := T25.setTop (mkF m 122 #[.val (.int p0), .val (.int p1), .val (.int p2), .val (.int (0 : Int32)), .val (.int ca0), .val (.int ca1), .val (.int ca2), .val (.int vb), .val (.int cb0), .val (.int cb1), .val (.int cb2), .val (.ref b1), .val (.ref b2), .val (.int (p2 &&& (7 : Int32))), .unset, .unset] [(.int cb2), (.int cb1), (.int cb0), (.int vb), (.ref b25), (.ref b25)])) (fun t kt => ?_) ?_
        · show Steps p.tables e below (T25.setTop (mkF m 114 #[.val (.int p0), .val (.int p1), .val (.int p2), .val (.int (0 : Int32)), .val (.int ca0), .val (.int ca1), .val (.int ca2), .val (.int vb), .val (.int cb0), .val (.int cb1), .val (.int cb2), .val (.ref b1), .val (.ref b2), .val (.int (p2 &&& (7 : Int32))), .unset, .unset] [(.ref b25), (.ref b25)])) t
          refine XS.iload X25.here hx rfl (hb hby at_114) rfl ?_
          show Steps p.tables e below (T25.setTop (mkF m 116 #[.val (.int p0), .val (.int p1), .val (.int p2), .val (.int (0 : Int32)), .val (.int ca0), .val (.int ca1), .val (.int ca2), .val (.int vb), .val (.int cb0), .val (.int cb1), .val (.int cb2), .val (.ref b1), .val (.ref b2), .val (.int (p2 &&& (7 : Int32))), .unset, .unset] [(.int vb), (.ref b25), (.ref b25)])) t
          refine XS.iload X25.here hx rfl (hb hby at_116) rfl ?_
          show Steps p.tables e below (T25.setTop (mkF m 118 #[.val (.int p0), .val (.int p1), .val (.int p2), .val (.int (0 : Int32)), .val (.int ca0), .val (.int ca1), .val (.int ca2), .val (.int vb), .val (.int cb0), .val (.int cb1), .val (.int cb2), .val (.ref b1), .val (.ref b2), .val (.int (p2 &&& (7 : Int32))), .unset, .unset] [(.int cb0), (.int vb), (.ref b25), (.ref b25)])) t
          refine XS.iload X25.here hx rfl (hb hby at_118) rfl ?_
          show Steps p.tables e below (T25.setTop (mkF m 120 #[.val (.int p0), .val (.int p1), .val (.int p2), .val (.int (0 : Int32)), .val (.int ca0), .val (.int ca1), .val (.int ca2), .val (.int vb), .val (.int cb0), .val (.int cb1), .val (.int cb2), .val (.ref b1), .val (.ref b2), .val (.int (p2 &&& (7 : Int32))), .unset, .unset] [(.int cb1), (.int cb0), (.int vb), (.ref b25), (.ref b25)])) t
          refine XS.iload X25.here hx rfl (hb hby at_120) rfl ?_
          exact kt
        obtain ⟨_, _, ⟨T31, L31, k31, n31⟩, -, X31, ⟨Lc31, hQ31, l31, y31, z31⟩, st31⟩ := Jvm.LawKit.callS X25 hx (y := (⟨"com/example/corollary/corollary/model/NamedClassEqualsPinLaw", "mk", "(ICCC)Ljava/lang/String;"⟩ : MethodName)) hown (mvT hZ (hw _ (List.mem_of_getElem? (i := 0) rfl))) (mvT hZ (hw _ (List.mem_of_getElem? (i := 1) rfl))) (mvT hZ (hw _ (List.mem_of_getElem? (i := 2) rfl))) (mvT hZ (hw _ (List.mem_of_getElem? (i := 3) rfl))) (by decide) (backOf (W := 2) (rmmkN l Z aw hw [] vb cb0 cb1 cb2 G1 h25 n0 (Nat.le_trans Z0 K25.1) hvb hcb0 hcb1 hcb2 (own_staKeep S_cs K25) P5) hZ (hw _ (List.mem_of_getElem? (i := 3) rfl)) (hw _ (List.mem_of_getElem? (i := 2) rfl)) (by decide) (by decide)) (g := (mkF m 122 #[.val (.int p0), .val (.int p1), .val (.int p2), .val (.int (0 : Int32)), .val (.int ca0), .val (.int ca1), .val (.int ca2), .val (.int vb), .val (.int cb0), .val (.int cb1), .val (.int cb2), .val (.ref b1), .val (.ref b2), .val (.int (p2 &&& (7 : Int32))), .unset, .unset] [(.int cb2), (.int cb1), (.int cb0), (.int vb), (.ref b25), (.ref b25)])) rfl (by rw [hml]; rfl) (argsL := [(.int vb), (.int cb0), (.int cb1), (.int cb2)]) (rest := [(.ref b25), (.ref b25)]) (lenOf pd_11 rfl) rfl (by show 2 * 0 + _ ≤ _; exact Nat.le_of_eq rfl) (hb hby at_122) (fun _ _ => ⟨rfl, e25, (by decide : 8 + 3 ≤ _), (by decide : 26 + 10 ≤ _)⟩)
        dsimp only [Pt.U, Pt.locs, Pt.cells, Pt.slots] at X31 l31 y31 z31 st31 hQ31
        subst l31 y31 z31
        obtain ⟨b31, rfl, N31q, Kq31, GO31⟩ := hQ31
        have N31 := Fr.app N3 N31q
        have gr31 := Nat.le_trans gr25 Kq31.1
        have K31 : Keep h0 T31.heap [] := K25.trans Kq31 all0
        obtain ⟨_, _, GE31, _⟩ := id GO31
        refine own_by (A' := T31.setTop (mkF m 125 #[.val (.int p0), .val (.int p1), .val (.int p2), .val (.int (0 : Int32)), .val (.int ca0), .val (.int ca1), .val (.int ca2), .val (.int vb), .val (.int cb0), .val (.int cb1), .val (.int cb2), .val (.ref b1), .val (.ref b2), .val (.int (p2 &&& (7 : Int32))), .unset, .unset] [(.ref b31), (.ref b25), (.ref b25)])) (fun t kt => st31 t kt) ?_
        obtain ⟨_, _, ⟨T32, L32, k32, n32⟩, -, X32, hS32, hgr32, ⟨Lc32, hQ32, l32, y32, z32⟩, st32⟩ := X31.specialBackS hx (y := (⟨"com/example/corollary/corollary/model/NamedClass", "<init>", "(Ljava/lang/String;)V"⟩ : MethodName)) rfl hown (mvT hZ (hw _ (List.mem_of_getElem? (i := 29) rfl))) (mvT hZ (hw _ (List.mem_of_getElem? (i := 30) rfl))) (mvT hZ (hw _ (List.mem_of_getElem? (i := 31) rfl))) (by decide) (own_backOfV (W := 1) (rmnew5S l Z aw hw [] b25 b31 T31.heap n0 (Nat.le_trans Z0 K31.1) (A25.keep Kq31) (F_iri_b25.keep Kq31 nin0) g_b25) hZ (fun vm q => trivial) (hw _ (List.mem_of_getElem? (i := 31) rfl)) (hw _ (List.mem_of_getElem? (i := 28) rfl)) (by decide) (by decide)) (g := (mkF m 125 #[.val (.int p0), .val (.int p1), .val (.int p2), .val (.int (0 : Int32)), .val (.int ca0), .val (.int ca1), .val (.int ca2), .val (.int vb), .val (.int cb0), .val (.int cb1), .val (.int cb2), .val (.ref b1), .val (.ref b2), .val (.int (p2 &&& (7 : Int32))), .unset, .unset] [(.ref b31), (.ref b25), (.ref b25)])) rfl (by rw [hml]; rfl) (Steps.refl _) (a := b25) (argsL := [(.ref b31)]) (rest := [(.ref b25)]) (lenOf pd_12 rfl) rfl (by show 2 * 0 + _ ≤ _; exact Nat.le_of_eq rfl) (hb hby at_125) (fun _ _ => ⟨rfl, rfl, (by decide : 11 + 2 ≤ _), (by decide : 36 + 16 ≤ _)⟩)
        dsimp only [Pt.U, Pt.locs, Pt.cells, Pt.slots] at hS32 hgr32
        dsimp only [Pt.U, Pt.locs, Pt.cells, Pt.slots] at X32 l32 y32 z32 st32 hQ32
        subst l32 y32 z32
        have hSl32 := hS32
        have hS32 : s.Since T32.vm T32.heap.size := Jvm.RoadKit.foldS (s := s) hS3 (by exact gr31) hSl32 hgr32
        have hown : (s.setVm T32.vm).vm.findClass "com/example/corollary/corollary/model/NamedClassEqualsPinLaw" = some m.cls := by
          show T32.vm.findClass _ = _
          rw [hSl32.1.alike.findClass]; exact hown
        have hZ : Z.Warmed39 (s.setVm T32.vm).vm := State.Warmed39.trans hZ hSl32.1
        obtain ⟨rfl, N32q, Kq32, GE32, GF32⟩ := hQ32
        have N32 := Fr.app N31 N32q
        have gr32 := Nat.le_trans gr31 Kq32.1
        have K32 : Keep h0 T32.heap [] := K31.trans Kq32 (allS (Or.inr sz_b25) all0)
        have Li32 : Lit (Z.setVm T32.vm) "java/lang/String" 7 lt1 := own_Lit39 hSl32.1 Li3
        refine own_by (A' := T32.setTop (mkF m 128 #[.val (.int p0), .val (.int p1), .val (.int p2), .val (.int (0 : Int32)), .val (.int ca0), .val (.int ca1), .val (.int ca2), .val (.int vb), .val (.int cb0), .val (.int cb1), .val (.int cb2), .val (.ref b1), .val (.ref b2), .val (.int (p2 &&& (7 : Int32))), .unset, .unset] [(.ref b25)])) (fun t kt => st32.trans kt) ?_
        refine own_by (A' := T32.setTop (mkF m 145 #[.val (.int p0), .val (.int p1), .val (.int p2), .val (.int (0 : Int32)), .val (.int ca0), .val (.int ca1), .val (.int ca2), .val (.int vb), .val (.int cb0), .val (.int cb1), .val (.int cb2), .val (.ref b1), .val (.ref b2), .val (.int (p2 &&& (7 : Int32))), .val (.ref b25), .unset] [(.int cb2), (.int cb1), (.int cb0), (.int vb), (.int ca2), (.int ca1), (.int ca0), (.int (0 : Int32))])) (fun t kt => ?_) ?_
        · show Steps p.tables e below (T32.setTop (mkF m 128 #[.val (.int p0), .val (.int p1), .val (.int p2), .val (.int (0 : Int32)), .val (.int ca0), .val (.int ca1), .val (.int ca2), .val (.int vb), .val (.int cb0), .val (.int cb1), .val (.int cb2), .val (.ref b1), .val (.ref b2), .val (.int (p2 &&& (7 : Int32))), .unset, .unset] [(.ref b25)])) t
          refine XS.astore X32.here hx rfl (hb hby at_128) rfl rfl (l' := #[.val (.int p0), .val (.int p1), .val (.int p2), .val (.int (0 : Int32)), .val (.int ca0), .val (.int ca1), .val (.int ca2), .val (.int vb), .val (.int cb0), .val (.int cb1), .val (.int cb2), .val (.ref b1), .val (.ref b2), .val (.int (p2 &&& (7 : Int32))), .val (.ref b25), .unset]) rfl ?_
          show Steps p.tables e below (T32.setTop (mkF m 130 #[.val (.int p0), .val (.int p1), .val (.int p2), .val (.int (0 : Int32)), .val (.int ca0), .val (.int ca1), .val (.int ca2), .val (.int vb), .val (.int cb0), .val (.int cb1), .val (.int cb2), .val (.ref b1), .val (.ref b2), .val (.int (p2 &&& (7 : Int32))), .val (.ref b25), .unset] [])) t
          refine XS.iloadN X32.here hx rfl (hb hby at_130) rfl ?_
          show Steps p.tables e below (T32.setTop (mkF m 131 #[.val (.int p0), .val (.int p1), .val (.int p2), .val (.int (0 : Int32)), .val (.int ca0), .val (.int ca1), .val (.int ca2), .val (.int vb), .val (.int cb0), .val (.int cb1), .val (.int cb2), .val (.ref b1), .val (.ref b2), .val (.int (p2 &&& (7 : Int32))), .val (.ref b25), .unset] [(.int (0 : Int32))])) t
          refine XS.iload X32.here hx rfl (hb hby at_131) rfl ?_
          show Steps p.tables e below (T32.setTop (mkF m 133 #[.val (.int p0), .val (.int p1), .val (.int p2), .val (.int (0 : Int32)), .val (.int ca0), .val (.int ca1), .val (.int ca2), .val (.int vb), .val (.int cb0), .val (.int cb1), .val (.int cb2), .val (.ref b1), .val (.ref b2), .val (.int (p2 &&& (7 : Int32))), .val (.ref b25), .unset] [(.int ca0), (.int (0 : Int32))])) t
          refine XS.iload X32.here hx rfl (hb hby at_133) rfl ?_
          show Steps p.tables e below (T32.setTop (mkF m 135 #[.val (.int p0), .val (.int p1), .val (.int p2), .val (.int (0 : Int32)), .val (.int ca0), .val (.int ca1), .val (.int ca2), .val (.int vb), .val (.int cb0), .val (.int cb1), .val (.int cb2), .val (.ref b1), .val (.ref b2), .val (.int (p2 &&& (7 : Int32))), .val (.ref b25), .unset] [(.int ca1), (.int ca0), (.int (0 : Int32))])) t
          refine XS.iload X32.here hx rfl (hb hby at_135) rfl ?_
          show Steps p.tables e below (T32.setTop (mkF m 137 #[.val (.int p0), .val (.int p1), .val (.int p2), .val (.int (0 : Int32)), .val (.int ca0), .val (.int ca1), .val (.int ca2), .val (.int vb), .val (.int cb0), .val (.int cb1), .val (.int cb2), .val (.ref b1), .val (.ref b2), .val (.int (p2 &&& (7 : Int32))), .val (.ref b25), .unset] [(.int ca2), (.int ca1), (.int ca0), (.int (0 : Int32))])) t
          refine XS.iload X32.here hx rfl (hb hby at_137) rfl ?_
          show Steps p.tables e below (T32.setTop (mkF m 139 #[.val (.int p0), .val (.int p1), .val (.int p2), .val (.int (0 : Int32)), .val (.int ca0), .val (.int ca1), .val (.int ca2), .val (.int vb), .val (.int cb0), .val (.int cb1), .val (.int cb2), .val (.ref b1), .val (.ref b2), .val (.int (p2 &&& (7 : Int32))), .val (.ref b25), .unset] [(.int vb), (.int ca2), (.int ca1), (.int ca0), (.int (0 : Int32))])) t
          refine XS.iload X32.here hx rfl (hb hby at_139) rfl ?_
          show Steps p.tables e below (T32.setTop (mkF m 141 #[.val (.int p0), .val (.int p1), .val (.int p2), .val (.int (0 : Int32)), .val (.int ca0), .val (.int ca1), .val (.int ca2), .val (.int vb), .val (.int cb0), .val (.int cb1), .val (.int cb2), .val (.ref b1), .val (.ref b2), .val (.int (p2 &&& (7 : Int32))), .val (.ref b25), .unset] [(.int cb0), (.int vb), (.int ca2), (.int ca1), (.int ca0), (.int (0 : Int32))])) t
          refine XS.iload X32.here hx rfl (hb hby at_141) rfl ?_
          show Steps p.tables e below (T32.setTop (mkF m 143 #[.val (.int p0), .val (.int p1), .val (.int p2), .val (.int (0 : Int32)), .val (.int ca0), .val (.int ca1), .val (.int ca2), .val (.int vb), .val (.int cb0), .val (.int cb1), .val (.int cb2), .val (.ref b1), .val (.ref b2), .val (.int (p2 &&& (7 : Int32))), .val (.ref b25), .unset] [(.int cb1), (.int cb0), (.int vb), (.int ca2), (.int ca1), (.int ca0), (.int (0 : Int32))])) t
          refine XS.iload X32.here hx rfl (hb hby at_143) rfl ?_
          exact kt
        obtain ⟨_, _, ⟨T33, L33, k33, n33⟩, -, X33, ⟨Lc33, hQ33, l33, y33, z33⟩, st33⟩ := Jvm.LawKit.callS X32 hx (y := (⟨"com/example/corollary/corollary/model/NamedClassEqualsPinLaw", "sameStr", "(ICCCICCC)Z"⟩ : MethodName)) hown (mvT hZ (hw _ (List.mem_of_getElem? (i := 75) rfl))) (mvT hZ (hw _ (List.mem_of_getElem? (i := 76) rfl))) (mvT hZ (hw _ (List.mem_of_getElem? (i := 2) rfl))) (mvT hZ (hw _ (List.mem_of_getElem? (i := 77) rfl))) (by decide) (backOf (W := 0) (rm14 l Z aw hw [] (0 : Int32) ca0 ca1 ca2 vb cb0 cb1 cb2 T32.heap n0 (Nat.le_trans Z0 K32.1) ) hZ (hw _ (List.mem_of_getElem? (i := 77) rfl)) (hw _ (List.mem_of_getElem? (i := 2) rfl)) (by decide) (by decide)) (g := (mkF m 145 #[.val (.int p0), .val (.int p1), .val (.int p2), .val (.int (0 : Int32)), .val (.int ca0), .val (.int ca1), .val (.int ca2), .val (.int vb), .val (.int cb0), .val (.int cb1), .val (.int cb2), .val (.ref b1), .val (.ref b2), .val (.int (p2 &&& (7 : Int32))), .val (.ref b25), .unset] [(.int cb2), (.int cb1), (.int cb0), (.int vb), (.int ca2), (.int ca1), (.int ca0), (.int (0 : Int32))])) rfl (by rw [hml]; rfl) (argsL := [(.int (0 : Int32)), (.int ca0), (.int ca1), (.int ca2), (.int vb), (.int cb0), (.int cb1), (.int cb2)]) (rest := []) (lenOf pd_13 rfl) rfl (by show 2 * 0 + _ ≤ _; exact Nat.le_of_eq rfl) (hb hby at_145) (fun _ _ => ⟨rfl, rfl, (by decide : 13 + 0 ≤ _), (by decide : 52 + 0 ≤ _)⟩)
        dsimp only [Pt.U, Pt.locs, Pt.cells, Pt.slots] at X33 l33 y33 z33 st33 hQ33
        subst l33 y33 z33
        obtain ⟨rfl, N33q, e33⟩ := hQ33
        have N33 := Fr.app N32 N33q
        refine own_by (A' := T33.setTop (mkF m 148 #[.val (.int p0), .val (.int p1), .val (.int p2), .val (.int (0 : Int32)), .val (.int ca0), .val (.int ca1), .val (.int ca2), .val (.int vb), .val (.int cb0), .val (.int cb1), .val (.int cb2), .val (.ref b1), .val (.ref b2), .val (.int (p2 &&& (7 : Int32))), .val (.ref b25), .unset] [(.int (own_f14 (0 : Int32) ca0 ca1 ca2 vb cb0 cb1 cb2))])) (fun t kt => st33 t kt) ?_
        refine own_by (A' := T33.setTop (mkF m 258 #[.val (.int p0), .val (.int p1), .val (.int p2), .val (.int (0 : Int32)), .val (.int ca0), .val (.int ca1), .val (.int ca2), .val (.int vb), .val (.int cb0), .val (.int cb1), .val (.int cb2), .val (.ref b1), .val (.ref b2), .val (.int (p2 &&& (7 : Int32))), .val (.ref b25), .val (.int (own_f14 (0 : Int32) ca0 ca1 ca2 vb cb0 cb1 cb2))] [(.ref b25), (.ref b2)])) (fun t kt => ?_) ?_
        · show Steps p.tables e below (T33.setTop (mkF m 148 #[.val (.int p0), .val (.int p1), .val (.int p2), .val (.int (0 : Int32)), .val (.int ca0), .val (.int ca1), .val (.int ca2), .val (.int vb), .val (.int cb0), .val (.int cb1), .val (.int cb2), .val (.ref b1), .val (.ref b2), .val (.int (p2 &&& (7 : Int32))), .val (.ref b25), .unset] [(.int (own_f14 (0 : Int32) ca0 ca1 ca2 vb cb0 cb1 cb2))])) t
          refine XS.istore X33.here hx rfl (hb hby at_148) rfl (l' := #[.val (.int p0), .val (.int p1), .val (.int p2), .val (.int (0 : Int32)), .val (.int ca0), .val (.int ca1), .val (.int ca2), .val (.int vb), .val (.int cb0), .val (.int cb1), .val (.int cb2), .val (.ref b1), .val (.ref b2), .val (.int (p2 &&& (7 : Int32))), .val (.ref b25), .val (.int (own_f14 (0 : Int32) ca0 ca1 ca2 vb cb0 cb1 cb2))]) rfl ?_
          show Steps p.tables e below (T33.setTop (mkF m 150 #[.val (.int p0), .val (.int p1), .val (.int p2), .val (.int (0 : Int32)), .val (.int ca0), .val (.int ca1), .val (.int ca2), .val (.int vb), .val (.int cb0), .val (.int cb1), .val (.int cb2), .val (.ref b1), .val (.ref b2), .val (.int (p2 &&& (7 : Int32))), .val (.ref b25), .val (.int (own_f14 (0 : Int32) ca0 ca1 ca2 vb cb0 cb1 cb2))] [])) t
          refine XS.goto X33.here hx rfl (pc0 := 150) (pc' := 254) rfl (hb hby at_150) (by decide) (by decide) ?_
          show Steps p.tables e below (T33.setTop (mkF m 254 #[.val (.int p0), .val (.int p1), .val (.int p2), .val (.int (0 : Int32)), .val (.int ca0), .val (.int ca1), .val (.int ca2), .val (.int vb), .val (.int cb0), .val (.int cb1), .val (.int cb2), .val (.ref b1), .val (.ref b2), .val (.int (p2 &&& (7 : Int32))), .val (.ref b25), .val (.int (own_f14 (0 : Int32) ca0 ca1 ca2 vb cb0 cb1 cb2))] [])) t
          refine XS.aload X33.here hx rfl (hb hby at_254) rfl rfl ?_
          show Steps p.tables e below (T33.setTop (mkF m 256 #[.val (.int p0), .val (.int p1), .val (.int p2), .val (.int (0 : Int32)), .val (.int ca0), .val (.int ca1), .val (.int ca2), .val (.int vb), .val (.int cb0), .val (.int cb1), .val (.int cb2), .val (.ref b1), .val (.ref b2), .val (.int (p2 &&& (7 : Int32))), .val (.ref b25), .val (.int (own_f14 (0 : Int32) ca0 ca1 ca2 vb cb0 cb1 cb2))] [(.ref b2)])) t
          refine XS.aload X33.here hx rfl (hb hby at_256) rfl rfl ?_
          exact kt
        obtain ⟨cq34, kq34, q34a, q34b, q34c⟩ := isOf hZ e33 (((GE3.ext E25).keep Kq31).keep Kq32)
        obtain ⟨_, _, ⟨T34, L34, k34, n34⟩, -, X34, ⟨Lc34, hQ34, l34, y34, z34⟩, st34⟩ := X33.virtualBack hx (y := (⟨"com/example/corollary/corollary/model/NamedClass", "equals", "(Ljava/lang/Object;)Z"⟩ : MethodName)) (z := (⟨"com/example/corollary/corollary/model/NamedClass", "equals", "(Ljava/lang/Object;)Z"⟩ : MethodName)) hown (mvT hZ (hw _ (List.mem_of_getElem? (i := 45) rfl))) (mvT hZ (hw _ (List.mem_of_getElem? (i := 46) rfl))) (notFace_of_selects (args := #[]) (mvT hZ (hw _ (List.mem_of_getElem? (i := 48) rfl)))) (mvT hZ (hw _ (List.mem_of_getElem? (i := 48) rfl))) (mvT hZ (hw _ (List.mem_of_getElem? (i := 47) rfl))) (by decide) (backOf (W := 0) (rmeqN l Z aw hw [] b2 b25 b1 b31 (own_cs (0 : Int32) ca0 ca1 ca2) (own_cs vb cb0 cb1 cb2) G1 T32.heap n0 (Nat.le_trans Z0 K32.1) (((GF3.ext E25).keep Kq31 nin0).keep Kq32 (ninS (Nat.ne_of_lt (Nat.lt_of_lt_of_le (GE3).lt (Nat.le_of_eq g25.symm))) nin0)) GE32 GF32 (own_OSkeep1 (own_OSkeep0 (own_OSext (own_OSkeep1 (own_OSext GP1 E2) Kq3 A2 (hw _ (List.mem_of_getElem? (i := 27) rfl)) (by decide)) E25) Kq31) Kq32 (A25.keep Kq31) (hw _ (List.mem_of_getElem? (i := 27) rfl)) (by decide)) (own_OSkeep1 GO31 Kq32 (A25.keep Kq31) (hw _ (List.mem_of_getElem? (i := 27) rfl)) (by decide)) (own_csb _ hca0 hca1 hca2) (own_csb _ hcb0 hcb1 hcb2) (own_csl (0 : Int32) ca0 ca1 ca2) (own_csl vb cb0 cb1 cb2) (own_staKeep S_cs K32) P5) hZ (hw _ (List.mem_of_getElem? (i := 49) rfl)) (hw _ (List.mem_of_getElem? (i := 28) rfl)) (by decide) (by decide)) q34a q34c (g := (mkF m 258 #[.val (.int p0), .val (.int p1), .val (.int p2), .val (.int (0 : Int32)), .val (.int ca0), .val (.int ca1), .val (.int ca2), .val (.int vb), .val (.int cb0), .val (.int cb1), .val (.int cb2), .val (.ref b1), .val (.ref b2), .val (.int (p2 &&& (7 : Int32))), .val (.ref b25), .val (.int (own_f14 (0 : Int32) ca0 ca1 ca2 vb cb0 cb1 cb2))] [(.ref b25), (.ref b2)])) rfl (by rw [hml]; rfl) (Steps.refl _) (argsL := [(.ref b25)]) (rest := []) (lenOf pd_10 rfl) rfl (by show 2 * 0 + _ ≤ _; exact Nat.le_of_eq rfl) (hb hby at_258) (fun _ _ => ⟨rfl, e33, (by decide : 13 + 0 ≤ _), (by decide : 52 + 0 ≤ _)⟩)
        dsimp only [Pt.U, Pt.locs, Pt.cells, Pt.slots] at X34 l34 y34 z34 st34 hQ34
        subst l34 y34 z34
        obtain ⟨rfl, N34q, e34⟩ := hQ34
        have N34 := Fr.app N33 N34q
        refine own_by (A' := T34.setTop (mkF m 261 #[.val (.int p0), .val (.int p1), .val (.int p2), .val (.int (0 : Int32)), .val (.int ca0), .val (.int ca1), .val (.int ca2), .val (.int vb), .val (.int cb0), .val (.int cb1), .val (.int cb2), .val (.ref b1), .val (.ref b2), .val (.int (p2 &&& (7 : Int32))), .val (.ref b25), .val (.int (own_f14 (0 : Int32) ca0 ca1 ca2 vb cb0 cb1 cb2))] [(.int (own_eqr (own_cs (0 : Int32) ca0 ca1 ca2) (own_cs vb cb0 cb1 cb2)))])) (fun t kt => st34.trans kt) ?_
        refine own_by (A' := T34.setTop (mkF m 263 #[.val (.int p0), .val (.int p1), .val (.int p2), .val (.int (0 : Int32)), .val (.int ca0), .val (.int ca1), .val (.int ca2), .val (.int vb), .val (.int cb0), .val (.int cb1), .val (.int cb2), .val (.ref b1), .val (.ref b2), .val (.int (p2 &&& (7 : Int32))), .val (.ref b25), .val (.int (own_f14 (0 : Int32) ca0 ca1 ca2 vb cb0 cb1 cb2))] [(.int (own_f14 (0 : Int32) ca0 ca1 ca2 vb cb0 cb1 cb2)), (.int (own_eqr (own_cs (0 : Int32) ca0 ca1 ca2) (own_cs vb cb0 cb1 cb2)))])) (fun t kt => ?_) ?_
        · show Steps p.tables e below (T34.setTop (mkF m 261 #[.val (.int p0), .val (.int p1), .val (.int p2), .val (.int (0 : Int32)), .val (.int ca0), .val (.int ca1), .val (.int ca2), .val (.int vb), .val (.int cb0), .val (.int cb1), .val (.int cb2), .val (.ref b1), .val (.ref b2), .val (.int (p2 &&& (7 : Int32))), .val (.ref b25), .val (.int (own_f14 (0 : Int32) ca0 ca1 ca2 vb cb0 cb1 cb2))] [(.int (own_eqr (own_cs (0 : Int32) ca0 ca1 ca2) (own_cs vb cb0 cb1 cb2)))])) t
          refine XS.iload X34.here hx rfl (hb hby at_261) rfl ?_
          exact kt
        have hc263_35 : (own_eqr (own_cs (0 : Int32) ca0 ca1 ca2) (own_cs vb cb0 cb1 cb2)) = (own_f14 (0 : Int32) ca0 ca1 ca2 vb cb0 cb1 cb2) := own_final (Or.inl rfl) h4vb _ _ _ _ _ _
        refine own_by (A' := T34.setTop (mkF m 271 #[.val (.int p0), .val (.int p1), .val (.int p2), .val (.int (0 : Int32)), .val (.int ca0), .val (.int ca1), .val (.int ca2), .val (.int vb), .val (.int cb0), .val (.int cb1), .val (.int cb2), .val (.ref b1), .val (.ref b2), .val (.int (p2 &&& (7 : Int32))), .val (.ref b25), .val (.int (own_f14 (0 : Int32) ca0 ca1 ca2 vb cb0 cb1 cb2))] [(.int (1 : Int32))])) (fun t kt => ?_) ?_
        · show Steps p.tables e below (T34.setTop (mkF m 263 #[.val (.int p0), .val (.int p1), .val (.int p2), .val (.int (0 : Int32)), .val (.int ca0), .val (.int ca1), .val (.int ca2), .val (.int vb), .val (.int cb0), .val (.int cb1), .val (.int cb2), .val (.ref b1), .val (.ref b2), .val (.int (p2 &&& (7 : Int32))), .val (.ref b25), .val (.int (own_f14 (0 : Int32) ca0 ca1 ca2 vb cb0 cb1 cb2))] [(.int (own_f14 (0 : Int32) ca0 ca1 ca2 vb cb0 cb1 cb2)), (.int (own_eqr (own_cs (0 : Int32) ca0 ca1 ca2) (own_cs vb cb0 cb1 cb2)))])) t
          refine XS.icmpNo X34.here hx rfl (hb hby at_263) rfl (teq hc263_35).2 ?_
          show Steps p.tables e below (T34.setTop (mkF m 266 #[.val (.int p0), .val (.int p1), .val (.int p2), .val (.int (0 : Int32)), .val (.int ca0), .val (.int ca1), .val (.int ca2), .val (.int vb), .val (.int cb0), .val (.int cb1), .val (.int cb2), .val (.ref b1), .val (.ref b2), .val (.int (p2 &&& (7 : Int32))), .val (.ref b25), .val (.int (own_f14 (0 : Int32) ca0 ca1 ca2 vb cb0 cb1 cb2))] [])) t
          refine XS.iconst X34.here hx rfl (hb hby at_266) ?_
          show Steps p.tables e below (T34.setTop (mkF m 267 #[.val (.int p0), .val (.int p1), .val (.int p2), .val (.int (0 : Int32)), .val (.int ca0), .val (.int ca1), .val (.int ca2), .val (.int vb), .val (.int cb0), .val (.int cb1), .val (.int cb2), .val (.ref b1), .val (.ref b2), .val (.int (p2 &&& (7 : Int32))), .val (.ref b25), .val (.int (own_f14 (0 : Int32) ca0 ca1 ca2 vb cb0 cb1 cb2))] [(.int (1 : Int32))])) t
          refine XS.goto X34.here hx rfl (pc0 := 267) (pc' := 271) rfl (hb hby at_267) (by decide) (by decide) ?_
          exact kt
        obtain ⟨fs, hr, hrun, hended, hEnd⟩ := X34.leaveW (s := s) hS32 (by rw [e34]; exact (Nat.le_refl T32.heap.size)) (v := some (.int (1 : Int32))) (fun h => by rw [Bd.returns] at h; cases h)
        refine ⟨_, _, ?_, hrun, hended, _, _, rfl, ?_, hEnd.1, hEnd.2.1, hEnd.2.2.1, hEnd.2.2.2.mono (by decide) (by decide)⟩
        · exact retN X34 hx (t := .boolean) Bd.returns (by simp) (hb hby at_271) hr
        · show Q0 Z p0 p1 p2 G1 h0 n0 _ T34.heap _ T34.vm
          rw [e34]
          exact ⟨rfl, N34⟩
  · skip
    refine own_by (A' := s₁.setTop (mkF m 82 #[.val (.int p0), .val (.int p1), .val (.int p2), .val (.int va), .val (.int ca0), .val (.int ca1), .val (.int ca2), .val (.int vb), .val (.int cb0), .val (.int cb1), .val (.int cb2), .unset, .unset, .unset, .unset, .unset] [(.int ca2), (.int ca1), (.int ca0), (.int va)])) (fun t kt => ?_) ?_
    · show Steps p.tables e below (s₁.setTop (mkF m 75 #[.val (.int p0), .val (.int p1), .val (.int p2), .val (.int va), .val (.int ca0), .val (.int ca1), .val (.int ca2), .val (.int vb), .val (.int cb0), .val (.int cb1), .val (.int cb2), .unset, .unset, .unset, .unset, .unset] [])) t
      refine XS.iloadN X0.here hx rfl (hb hby at_75) rfl ?_
      show Steps p.tables e below (s₁.setTop (mkF m 76 #[.val (.int p0), .val (.int p1), .val (.int p2), .val (.int va), .val (.int ca0), .val (.int ca1), .val (.int ca2), .val (.int vb), .val (.int cb0), .val (.int cb1), .val (.int cb2), .unset, .unset, .unset, .unset, .unset] [(.int va)])) t
      refine XS.iload X0.here hx rfl (hb hby at_76) rfl ?_
      show Steps p.tables e below (s₁.setTop (mkF m 78 #[.val (.int p0), .val (.int p1), .val (.int p2), .val (.int va), .val (.int ca0), .val (.int ca1), .val (.int ca2), .val (.int vb), .val (.int cb0), .val (.int cb1), .val (.int cb2), .unset, .unset, .unset, .unset, .unset] [(.int ca0), (.int va)])) t
      refine XS.iload X0.here hx rfl (hb hby at_78) rfl ?_
      show Steps p.tables e below (s₁.setTop (mkF m 80 #[.val (.int p0), .val (.int p1), .val (.int p2), .val (.int va), .val (.int ca0), .val (.int ca1), .val (.int ca2), .val (.int vb), .val (.int cb0), .val (.int cb1), .val (.int cb2), .unset, .unset, .unset, .unset, .unset] [(.int ca1), (.int ca0), (.int va)])) t
      refine XS.iload X0.here hx rfl (hb hby at_80) rfl ?_
      exact kt
    obtain ⟨_, _, ⟨T36, L36, k36, n36⟩, -, X36, ⟨Lc36, hQ36, l36, y36, z36⟩, st36⟩ := Jvm.LawKit.callS X0 hx (y := (⟨"com/example/corollary/corollary/model/NamedClassEqualsPinLaw", "mk", "(ICCC)Ljava/lang/String;"⟩ : MethodName)) hown (mvT hZ (hw _ (List.mem_of_getElem? (i := 0) rfl))) (mvT hZ (hw _ (List.mem_of_getElem? (i := 1) rfl))) (mvT hZ (hw _ (List.mem_of_getElem? (i := 2) rfl))) (mvT hZ (hw _ (List.mem_of_getElem? (i := 3) rfl))) (by decide) (backOf (W := 0) (rmmkN l Z aw hw [] va ca0 ca1 ca2 G1 h0 n0 (Nat.le_trans Z0 K0.1) hva hca0 hca1 hca2 S_cs P5) hZ (hw _ (List.mem_of_getElem? (i := 3) rfl)) (hw _ (List.mem_of_getElem? (i := 2) rfl)) (by decide) (by decide)) (g := (mkF m 82 #[.val (.int p0), .val (.int p1), .val (.int p2), .val (.int va), .val (.int ca0), .val (.int ca1), .val (.int ca2), .val (.int vb), .val (.int cb0), .val (.int cb1), .val (.int cb2), .unset, .unset, .unset, .unset, .unset] [(.int ca2), (.int ca1), (.int ca0), (.int va)])) rfl (by rw [hml]; rfl) (argsL := [(.int va), (.int ca0), (.int ca1), (.int ca2)]) (rest := []) (lenOf pd_11 rfl) rfl (by show 2 * 0 + _ ≤ _; exact Nat.le_of_eq rfl) (hb hby at_82) (fun _ _ => ⟨rfl, e0, (by decide : 0 + 3 ≤ _), (by decide : 0 + 10 ≤ _)⟩)
    dsimp only [Pt.U, Pt.locs, Pt.cells, Pt.slots] at X36 l36 y36 z36 st36 hQ36
    subst l36 y36 z36
    obtain ⟨b36, rfl, N36q, Kq36, GO36⟩ := hQ36
    have N36 := Fr.app N0 N36q
    have K36 : Keep h0 T36.heap [] := K0.trans Kq36 all0
    obtain ⟨_, _, GE36, _⟩ := id GO36
    refine own_by (A' := T36.setTop (mkF m 85 #[.val (.int p0), .val (.int p1), .val (.int p2), .val (.int va), .val (.int ca0), .val (.int ca1), .val (.int ca2), .val (.int vb), .val (.int cb0), .val (.int cb1), .val (.int cb2), .unset, .unset, .unset, .unset, .unset] [(.ref b36)])) (fun t kt => st36 t kt) ?_
    refine own_by (A' := T36.setTop (mkF m 87 #[.val (.int p0), .val (.int p1), .val (.int p2), .val (.int va), .val (.int ca0), .val (.int ca1), .val (.int ca2), .val (.int vb), .val (.int cb0), .val (.int cb1), .val (.int cb2), .val (.ref b36), .unset, .unset, .unset, .unset] [])) (fun t kt => ?_) ?_
    · show Steps p.tables e below (T36.setTop (mkF m 85 #[.val (.int p0), .val (.int p1), .val (.int p2), .val (.int va), .val (.int ca0), .val (.int ca1), .val (.int ca2), .val (.int vb), .val (.int cb0), .val (.int cb1), .val (.int cb2), .unset, .unset, .unset, .unset, .unset] [(.ref b36)])) t
      refine XS.astore X36.here hx rfl (hb hby at_85) rfl rfl (l' := #[.val (.int p0), .val (.int p1), .val (.int p2), .val (.int va), .val (.int ca0), .val (.int ca1), .val (.int ca2), .val (.int vb), .val (.int cb0), .val (.int cb1), .val (.int cb2), .val (.ref b36), .unset, .unset, .unset, .unset]) rfl ?_
      exact kt
    obtain ⟨T37, h37, X37, e37, E37, A37, D37, -, st37⟩ := newO X36 hx hZ hown (hw _ (List.mem_of_getElem? (i := 26) rfl)) (hw _ (List.mem_of_getElem? (i := 27) rfl)) (hw _ (List.mem_of_getElem? (i := 28) rfl)) rfl (g := (mkF m 87 #[.val (.int p0), .val (.int p1), .val (.int p2), .val (.int va), .val (.int ca0), .val (.int ca1), .val (.int ca2), .val (.int vb), .val (.int cb0), .val (.int cb1), .val (.int cb2), .val (.ref b36), .unset, .unset, .unset, .unset] [])) rfl (hb hby at_87) (by decide) (by decide)
    obtain ⟨b37, g37⟩ : ∃ z, z = T36.heap.size := ⟨_, rfl⟩
    rw [← g37] at A37 D37 st37
    have sz_b37 : h0.size ≤ b37 := Nat.le_trans K36.1 (Nat.le_of_eq g37.symm)
    have g_b37 : n0 ≤ b37 := Nat.le_trans Z0 sz_b37
    have K37 : Keep h0 h37 [] := K36.ext E37
    have F_iri_b37 : Fld Z h37 b37 "com/example/corollary/corollary/model/NamedClass" "iri" "Ljava/lang/String;" .null := D37 (Or.inr (hw _ (List.mem_of_getElem? (i := 44) rfl))) (ty := (.object "java/lang/String")) (by decide)
    refine own_by (A' := T37.setTop (mkF m 90 #[.val (.int p0), .val (.int p1), .val (.int p2), .val (.int va), .val (.int ca0), .val (.int ca1), .val (.int ca2), .val (.int vb), .val (.int cb0), .val (.int cb1), .val (.int cb2), .val (.ref b36), .unset, .unset, .unset, .unset] [(.ref b37)])) (fun t kt => st37 t kt) ?_
    refine own_by (A' := T37.setTop (mkF m 93 #[.val (.int p0), .val (.int p1), .val (.int p2), .val (.int va), .val (.int ca0), .val (.int ca1), .val (.int ca2), .val (.int vb), .val (.int cb0), .val (.int cb1), .val (.int cb2), .val (.ref b36), .unset, .unset, .unset, .unset] [(.ref b36), (.ref b37), (.ref b37)])) (fun t kt => ?_) ?_
    · show Steps p.tables e below (T37.setTop (mkF m 90 #[.val (.int p0), .val (.int p1), .val (.int p2), .val (.int va), .val (.int ca0), .val (.int ca1), .val (.int ca2), .val (.int vb), .val (.int cb0), .val (.int cb1), .val (.int cb2), .val (.ref b36), .unset, .unset, .unset, .unset] [(.ref b37)])) t
      refine XS.dup X37.here hx rfl (hb hby at_90) rfl rfl ?_
      show Steps p.tables e below (T37.setTop (mkF m 91 #[.val (.int p0), .val (.int p1), .val (.int p2), .val (.int va), .val (.int ca0), .val (.int ca1), .val (.int ca2), .val (.int vb), .val (.int cb0), .val (.int cb1), .val (.int cb2), .val (.ref b36), .unset, .unset, .unset, .unset] [(.ref b37), (.ref b37)])) t
      refine XS.aload X37.here hx rfl (hb hby at_91) rfl rfl ?_
      exact kt
    obtain ⟨_, _, ⟨T38, L38, k38, n38⟩, -, X38, hS38, hgr38, ⟨Lc38, hQ38, l38, y38, z38⟩, st38⟩ := X37.specialBackS hx (y := (⟨"com/example/corollary/corollary/model/NamedClass", "<init>", "(Ljava/lang/String;)V"⟩ : MethodName)) rfl hown (mvT hZ (hw _ (List.mem_of_getElem? (i := 29) rfl))) (mvT hZ (hw _ (List.mem_of_getElem? (i := 30) rfl))) (mvT hZ (hw _ (List.mem_of_getElem? (i := 31) rfl))) (by decide) (own_backOfV (W := 1) (rmnew5F l Z aw hw [] b37 b36 [] h37 n0 (Nat.le_trans Z0 K37.1) A37 F_iri_b37 g_b37 (fun b cl q => K37.2.1 b cl (hZh ▸ q) nin0) HCN HW (by decide)) hZ (fun vm q => own_IBw q hIB) (hw _ (List.mem_of_getElem? (i := 31) rfl)) (hw _ (List.mem_of_getElem? (i := 28) rfl)) (by decide) (by decide)) (g := (mkF m 93 #[.val (.int p0), .val (.int p1), .val (.int p2), .val (.int va), .val (.int ca0), .val (.int ca1), .val (.int ca2), .val (.int vb), .val (.int cb0), .val (.int cb1), .val (.int cb2), .val (.ref b36), .unset, .unset, .unset, .unset] [(.ref b36), (.ref b37), (.ref b37)])) rfl (by rw [hml]; rfl) (Steps.refl _) (a := b37) (argsL := [(.ref b36)]) (rest := [(.ref b37)]) (lenOf pd_12 rfl) rfl (by show 2 * 0 + _ ≤ _; exact Nat.le_of_eq rfl) (hb hby at_93) (fun _ _ => ⟨rfl, e37, (by decide : 4 + 2 ≤ _), (by decide : 11 + 16 ≤ _)⟩)
    dsimp only [Pt.U, Pt.locs, Pt.cells, Pt.slots] at hS38 hgr38
    dsimp only [Pt.U, Pt.locs, Pt.cells, Pt.slots] at X38 l38 y38 z38 st38 hQ38
    subst l38 y38 z38
    have hown : (s.setVm T38.vm).vm.findClass "com/example/corollary/corollary/model/NamedClassEqualsPinLaw" = some m.cls := by
      show T38.vm.findClass _ = _
      rw [hS38.1.alike.findClass]; exact hown
    have hZ : Z.Warmed39 (s.setVm T38.vm).vm := State.Warmed39.trans hZ hS38.1
    obtain ⟨rfl, N38q, Kq38, GE38, GF38, GI38⟩ := hQ38
    have N38 := Fr.app N36 N38q
    have K38 : Keep h0 T38.heap [] := K37.trans Kq38 (allS (Or.inr sz_b37) all0)
    refine own_by (A' := T38.setTop (mkF m 96 #[.val (.int p0), .val (.int p1), .val (.int p2), .val (.int va), .val (.int ca0), .val (.int ca1), .val (.int ca2), .val (.int vb), .val (.int cb0), .val (.int cb1), .val (.int cb2), .val (.ref b36), .unset, .unset, .unset, .unset] [(.ref b37)])) (fun t kt => st38.trans kt) ?_
    refine own_by (A' := T38.setTop (mkF m 107 #[.val (.int p0), .val (.int p1), .val (.int p2), .val (.int va), .val (.int ca0), .val (.int ca1), .val (.int ca2), .val (.int vb), .val (.int cb0), .val (.int cb1), .val (.int cb2), .val (.ref b36), .val (.ref b37), .val (.int (p2 &&& (7 : Int32))), .unset, .unset] [(.int (1 : Int32)), (.int (p2 &&& (7 : Int32)))])) (fun t kt => ?_) ?_
    · show Steps p.tables e below (T38.setTop (mkF m 96 #[.val (.int p0), .val (.int p1), .val (.int p2), .val (.int va), .val (.int ca0), .val (.int ca1), .val (.int ca2), .val (.int vb), .val (.int cb0), .val (.int cb1), .val (.int cb2), .val (.ref b36), .unset, .unset, .unset, .unset] [(.ref b37)])) t
      refine XS.astore X38.here hx rfl (hb hby at_96) rfl rfl (l' := #[.val (.int p0), .val (.int p1), .val (.int p2), .val (.int va), .val (.int ca0), .val (.int ca1), .val (.int ca2), .val (.int vb), .val (.int cb0), .val (.int cb1), .val (.int cb2), .val (.ref b36), .val (.ref b37), .unset, .unset, .unset]) rfl ?_
      show Steps p.tables e below (T38.setTop (mkF m 98 #[.val (.int p0), .val (.int p1), .val (.int p2), .val (.int va), .val (.int ca0), .val (.int ca1), .val (.int ca2), .val (.int vb), .val (.int cb0), .val (.int cb1), .val (.int cb2), .val (.ref b36), .val (.ref b37), .unset, .unset, .unset] [])) t
      refine XS.iloadN X38.here hx rfl (hb hby at_98) rfl ?_
      show Steps p.tables e below (T38.setTop (mkF m 99 #[.val (.int p0), .val (.int p1), .val (.int p2), .val (.int va), .val (.int ca0), .val (.int ca1), .val (.int ca2), .val (.int vb), .val (.int cb0), .val (.int cb1), .val (.int cb2), .val (.ref b36), .val (.ref b37), .unset, .unset, .unset] [(.int p2)])) t
      refine XS.bipush X38.here hx rfl (hb hby at_99) ?_
      show Steps p.tables e below (T38.setTop (mkF m 101 #[.val (.int p0), .val (.int p1), .val (.int p2), .val (.int va), .val (.int ca0), .val (.int ca1), .val (.int ca2), .val (.int vb), .val (.int cb0), .val (.int cb1), .val (.int cb2), .val (.ref b36), .val (.ref b37), .unset, .unset, .unset] [(.int (7 : Int32)), (.int p2)])) t
      refine XS.iand X38.here hx rfl (hb hby at_101) rfl ?_
      show Steps p.tables e below (T38.setTop (mkF m 102 #[.val (.int p0), .val (.int p1), .val (.int p2), .val (.int va), .val (.int ca0), .val (.int ca1), .val (.int ca2), .val (.int vb), .val (.int cb0), .val (.int cb1), .val (.int cb2), .val (.ref b36), .val (.ref b37), .unset, .unset, .unset] [(.int (p2 &&& (7 : Int32)))])) t
      refine XS.istore X38.here hx rfl (hb hby at_102) rfl (l' := #[.val (.int p0), .val (.int p1), .val (.int p2), .val (.int va), .val (.int ca0), .val (.int ca1), .val (.int ca2), .val (.int vb), .val (.int cb0), .val (.int cb1), .val (.int cb2), .val (.ref b36), .val (.ref b37), .val (.int (p2 &&& (7 : Int32))), .unset, .unset]) rfl ?_
      show Steps p.tables e below (T38.setTop (mkF m 104 #[.val (.int p0), .val (.int p1), .val (.int p2), .val (.int va), .val (.int ca0), .val (.int ca1), .val (.int ca2), .val (.int vb), .val (.int cb0), .val (.int cb1), .val (.int cb2), .val (.ref b36), .val (.ref b37), .val (.int (p2 &&& (7 : Int32))), .unset, .unset] [])) t
      refine XS.iload X38.here hx rfl (hb hby at_104) rfl ?_
      show Steps p.tables e below (T38.setTop (mkF m 106 #[.val (.int p0), .val (.int p1), .val (.int p2), .val (.int va), .val (.int ca0), .val (.int ca1), .val (.int ca2), .val (.int vb), .val (.int cb0), .val (.int cb1), .val (.int cb2), .val (.ref b36), .val (.ref b37), .val (.int (p2 &&& (7 : Int32))), .unset, .unset] [(.int (p2 &&& (7 : Int32)))])) t
      refine XS.iconst X38.here hx rfl (hb hby at_106) ?_
      exact kt
    by_cases hc107_39 : (1 : Int32) < (p2 &&& (7 : Int32))
    · refine own_by (A' := T38.setTop (mkF m 156 #[.val (.int p0), .val (.int p1), .val (.int p2), .val (.int va), .val (.int ca0), .val (.int ca1), .val (.int ca2), .val (.int vb), .val (.int cb0), .val (.int cb1), .val (.int cb2), .val (.ref b36), .val (.ref b37), .val (.int (p2 &&& (7 : Int32))), .unset, .unset] [(.int (3 : Int32)), (.int (p2 &&& (7 : Int32)))])) (fun t kt => ?_) ?_
      · show Steps p.tables e below (T38.setTop (mkF m 107 #[.val (.int p0), .val (.int p1), .val (.int p2), .val (.int va), .val (.int ca0), .val (.int ca1), .val (.int ca2), .val (.int vb), .val (.int cb0), .val (.int cb1), .val (.int cb2), .val (.ref b36), .val (.ref b37), .val (.int (p2 &&& (7 : Int32))), .unset, .unset] [(.int (1 : Int32)), (.int (p2 &&& (7 : Int32)))])) t
        refine XS.icmpYes X38.here hx rfl (pc0 := 107) (pc' := 153) rfl (hb hby at_107) rfl (tlt hc107_39).2.2.1 (by decide) (by decide) ?_
        show Steps p.tables e below (T38.setTop (mkF m 153 #[.val (.int p0), .val (.int p1), .val (.int p2), .val (.int va), .val (.int ca0), .val (.int ca1), .val (.int ca2), .val (.int vb), .val (.int cb0), .val (.int cb1), .val (.int cb2), .val (.ref b36), .val (.ref b37), .val (.int (p2 &&& (7 : Int32))), .unset, .unset] [])) t
        refine XS.iload X38.here hx rfl (hb hby at_153) rfl ?_
        show Steps p.tables e below (T38.setTop (mkF m 155 #[.val (.int p0), .val (.int p1), .val (.int p2), .val (.int va), .val (.int ca0), .val (.int ca1), .val (.int ca2), .val (.int vb), .val (.int cb0), .val (.int cb1), .val (.int cb2), .val (.ref b36), .val (.ref b37), .val (.int (p2 &&& (7 : Int32))), .unset, .unset] [(.int (p2 &&& (7 : Int32)))])) t
        refine XS.iconst X38.here hx rfl (hb hby at_155) ?_
        exact kt
      by_cases hc156_40 : (3 : Int32) < (p2 &&& (7 : Int32))
      · refine own_by (A' := T38.setTop (mkF m 187 #[.val (.int p0), .val (.int p1), .val (.int p2), .val (.int va), .val (.int ca0), .val (.int ca1), .val (.int ca2), .val (.int vb), .val (.int cb0), .val (.int cb1), .val (.int cb2), .val (.ref b36), .val (.ref b37), .val (.int (p2 &&& (7 : Int32))), .unset, .unset] [(.int (4 : Int32)), (.int (p2 &&& (7 : Int32)))])) (fun t kt => ?_) ?_
        · show Steps p.tables e below (T38.setTop (mkF m 156 #[.val (.int p0), .val (.int p1), .val (.int p2), .val (.int va), .val (.int ca0), .val (.int ca1), .val (.int ca2), .val (.int vb), .val (.int cb0), .val (.int cb1), .val (.int cb2), .val (.ref b36), .val (.ref b37), .val (.int (p2 &&& (7 : Int32))), .unset, .unset] [(.int (3 : Int32)), (.int (p2 &&& (7 : Int32)))])) t
          refine XS.icmpYes X38.here hx rfl (pc0 := 156) (pc' := 184) rfl (hb hby at_156) rfl (tlt hc156_40).2.2.1 (by decide) (by decide) ?_
          show Steps p.tables e below (T38.setTop (mkF m 184 #[.val (.int p0), .val (.int p1), .val (.int p2), .val (.int va), .val (.int ca0), .val (.int ca1), .val (.int ca2), .val (.int vb), .val (.int cb0), .val (.int cb1), .val (.int cb2), .val (.ref b36), .val (.ref b37), .val (.int (p2 &&& (7 : Int32))), .unset, .unset] [])) t
          refine XS.iload X38.here hx rfl (hb hby at_184) rfl ?_
          show Steps p.tables e below (T38.setTop (mkF m 186 #[.val (.int p0), .val (.int p1), .val (.int p2), .val (.int va), .val (.int ca0), .val (.int ca1), .val (.int ca2), .val (.int vb), .val (.int cb0), .val (.int cb1), .val (.int cb2), .val (.ref b36), .val (.ref b37), .val (.int (p2 &&& (7 : Int32))), .unset, .unset] [(.int (p2 &&& (7 : Int32)))])) t
          refine XS.iconst X38.here hx rfl (hb hby at_186) ?_
          exact kt
        by_cases hc187_41 : (p2 &&& (7 : Int32)) = (4 : Int32)
        · refine own_by (A' := T38.setTop (mkF m 190 #[.val (.int p0), .val (.int p1), .val (.int p2), .val (.int va), .val (.int ca0), .val (.int ca1), .val (.int ca2), .val (.int vb), .val (.int cb0), .val (.int cb1), .val (.int cb2), .val (.ref b36), .val (.ref b37), .val (.int (p2 &&& (7 : Int32))), .unset, .unset] [])) (fun t kt => ?_) ?_
          · show Steps p.tables e below (T38.setTop (mkF m 187 #[.val (.int p0), .val (.int p1), .val (.int p2), .val (.int va), .val (.int ca0), .val (.int ca1), .val (.int ca2), .val (.int vb), .val (.int cb0), .val (.int cb1), .val (.int cb2), .val (.ref b36), .val (.ref b37), .val (.int (p2 &&& (7 : Int32))), .unset, .unset] [(.int (4 : Int32)), (.int (p2 &&& (7 : Int32)))])) t
            refine XS.icmpNo X38.here hx rfl (hb hby at_187) rfl (teq hc187_41).2 ?_
            exact kt
          obtain ⟨T42, h42, X42, e42, E42, A42, D42, -, st42⟩ := newO X38 hx hZ hown (hw _ (List.mem_of_getElem? (i := 78) rfl)) (hw _ (List.mem_of_getElem? (i := 79) rfl)) (hw _ (List.mem_of_getElem? (i := 80) rfl)) rfl (g := (mkF m 190 #[.val (.int p0), .val (.int p1), .val (.int p2), .val (.int va), .val (.int ca0), .val (.int ca1), .val (.int ca2), .val (.int vb), .val (.int cb0), .val (.int cb1), .val (.int cb2), .val (.ref b36), .val (.ref b37), .val (.int (p2 &&& (7 : Int32))), .unset, .unset] [])) rfl (hb hby at_190) (by decide) (by decide)
          obtain ⟨b42, g42⟩ : ∃ z, z = T38.heap.size := ⟨_, rfl⟩
          rw [← g42] at A42 D42 st42
          have sz_b42 : h0.size ≤ b42 := Nat.le_trans K38.1 (Nat.le_of_eq g42.symm)
          have g_b42 : n0 ≤ b42 := Nat.le_trans Z0 sz_b42
          have gr42 := Nat.le_trans (Nat.le_refl T38.heap.size) E42.1
          have K42 : Keep h0 h42 [] := K38.ext E42
          have F_iri_b42 : Fld Z h42 b42 "com/example/corollary/corollary/model/ObjectProperty" "iri" "Ljava/lang/String;" .null := D42 (Or.inr (hw _ (List.mem_of_getElem? (i := 88) rfl))) (ty := (.object "java/lang/String")) (by decide)
          refine own_by (A' := T42.setTop (mkF m 193 #[.val (.int p0), .val (.int p1), .val (.int p2), .val (.int va), .val (.int ca0), .val (.int ca1), .val (.int ca2), .val (.int vb), .val (.int cb0), .val (.int cb1), .val (.int cb2), .val (.ref b36), .val (.ref b37), .val (.int (p2 &&& (7 : Int32))), .unset, .unset] [(.ref b42)])) (fun t kt => st42 t kt) ?_
          refine own_by (A' := T42.setTop (mkF m 201 #[.val (.int p0), .val (.int p1), .val (.int p2), .val (.int va), .val (.int ca0), .val (.int ca1), .val (.int ca2), .val (.int vb), .val (.int cb0), .val (.int cb1), .val (.int cb2), .val (.ref b36), .val (.ref b37), .val (.int (p2 &&& (7 : Int32))), .unset, .unset] [(.int ca2), (.int ca1), (.int ca0), (.int va), (.ref b42), (.ref b42)])) (fun t kt => ?_) ?_
          · show Steps p.tables e below (T42.setTop (mkF m 193 #[.val (.int p0), .val (.int p1), .val (.int p2), .val (.int va), .val (.int ca0), .val (.int ca1), .val (.int ca2), .val (.int vb), .val (.int cb0), .val (.int cb1), .val (.int cb2), .val (.ref b36), .val (.ref b37), .val (.int (p2 &&& (7 : Int32))), .unset, .unset] [(.ref b42)])) t
            refine XS.dup X42.here hx rfl (hb hby at_193) rfl rfl ?_
            show Steps p.tables e below (T42.setTop (mkF m 194 #[.val (.int p0), .val (.int p1), .val (.int p2), .val (.int va), .val (.int ca0), .val (.int ca1), .val (.int ca2), .val (.int vb), .val (.int cb0), .val (.int cb1), .val (.int cb2), .val (.ref b36), .val (.ref b37), .val (.int (p2 &&& (7 : Int32))), .unset, .unset] [(.ref b42), (.ref b42)])) t
            refine XS.iloadN X42.here hx rfl (hb hby at_194) rfl ?_
            show Steps p.tables e below (T42.setTop (mkF m 195 #[.val (.int p0), .val (.int p1), .val (.int p2), .val (.int va), .val (.int ca0), .val (.int ca1), .val (.int ca2), .val (.int vb), .val (.int cb0), .val (.int cb1), .val (.int cb2), .val (.ref b36), .val (.ref b37), .val (.int (p2 &&& (7 : Int32))), .unset, .unset] [(.int va), (.ref b42), (.ref b42)])) t
            refine XS.iload X42.here hx rfl (hb hby at_195) rfl ?_
            show Steps p.tables e below (T42.setTop (mkF m 197 #[.val (.int p0), .val (.int p1), .val (.int p2), .val (.int va), .val (.int ca0), .val (.int ca1), .val (.int ca2), .val (.int vb), .val (.int cb0), .val (.int cb1), .val (.int cb2), .val (.ref b36), .val (.ref b37), .val (.int (p2 &&& (7 : Int32))), .unset, .unset] [(.int ca0), (.int va), (.ref b42), (.ref b42)])) t
            refine XS.iload X42.here hx rfl (hb hby at_197) rfl ?_
            show Steps p.tables e below (T42.setTop (mkF m 199 #[.val (.int p0), .val (.int p1), .val (.int p2), .val (.int va), .val (.int ca0), .val (.int ca1), .val (.int ca2), .val (.int vb), .val (.int cb0), .val (.int cb1), .val (.int cb2), .val (.ref b36), .val (.ref b37), .val (.int (p2 &&& (7 : Int32))), .unset, .unset] [(.int ca1), (.int ca0), (.int va), (.ref b42), (.ref b42)])) t
            refine XS.iload X42.here hx rfl (hb hby at_199) rfl ?_
            exact kt
          obtain ⟨_, _, ⟨T43, L43, k43, n43⟩, -, X43, ⟨Lc43, hQ43, l43, y43, z43⟩, st43⟩ := Jvm.LawKit.callS X42 hx (y := (⟨"com/example/corollary/corollary/model/NamedClassEqualsPinLaw", "mk", "(ICCC)Ljava/lang/String;"⟩ : MethodName)) hown (mvT hZ (hw _ (List.mem_of_getElem? (i := 0) rfl))) (mvT hZ (hw _ (List.mem_of_getElem? (i := 1) rfl))) (mvT hZ (hw _ (List.mem_of_getElem? (i := 2) rfl))) (mvT hZ (hw _ (List.mem_of_getElem? (i := 3) rfl))) (by decide) (backOf (W := 2) (rmmkN l Z aw hw [] va ca0 ca1 ca2 G1 h42 n0 (Nat.le_trans Z0 K42.1) hva hca0 hca1 hca2 (own_staKeep S_cs K42) P5) hZ (hw _ (List.mem_of_getElem? (i := 3) rfl)) (hw _ (List.mem_of_getElem? (i := 2) rfl)) (by decide) (by decide)) (g := (mkF m 201 #[.val (.int p0), .val (.int p1), .val (.int p2), .val (.int va), .val (.int ca0), .val (.int ca1), .val (.int ca2), .val (.int vb), .val (.int cb0), .val (.int cb1), .val (.int cb2), .val (.ref b36), .val (.ref b37), .val (.int (p2 &&& (7 : Int32))), .unset, .unset] [(.int ca2), (.int ca1), (.int ca0), (.int va), (.ref b42), (.ref b42)])) rfl (by rw [hml]; rfl) (argsL := [(.int va), (.int ca0), (.int ca1), (.int ca2)]) (rest := [(.ref b42), (.ref b42)]) (lenOf pd_11 rfl) rfl (by show 2 * 0 + _ ≤ _; exact Nat.le_of_eq rfl) (hb hby at_201) (fun _ _ => ⟨rfl, e42, (by decide : 7 + 3 ≤ _), (by decide : 28 + 10 ≤ _)⟩)
          dsimp only [Pt.U, Pt.locs, Pt.cells, Pt.slots] at X43 l43 y43 z43 st43 hQ43
          subst l43 y43 z43
          obtain ⟨b43, rfl, N43q, Kq43, GO43⟩ := hQ43
          have N43 := Fr.app N38 N43q
          have gr43 := Nat.le_trans gr42 Kq43.1
          have K43 : Keep h0 T43.heap [] := K42.trans Kq43 all0
          obtain ⟨_, _, GE43, _⟩ := id GO43
          refine own_by (A' := T43.setTop (mkF m 204 #[.val (.int p0), .val (.int p1), .val (.int p2), .val (.int va), .val (.int ca0), .val (.int ca1), .val (.int ca2), .val (.int vb), .val (.int cb0), .val (.int cb1), .val (.int cb2), .val (.ref b36), .val (.ref b37), .val (.int (p2 &&& (7 : Int32))), .unset, .unset] [(.ref b43), (.ref b42), (.ref b42)])) (fun t kt => st43 t kt) ?_
          obtain ⟨_, _, ⟨T44, L44, k44, n44⟩, -, X44, hS44, hgr44, ⟨Lc44, hQ44, l44, y44, z44⟩, st44⟩ := X43.specialBackS hx (y := (⟨"com/example/corollary/corollary/model/ObjectProperty", "<init>", "(Ljava/lang/String;)V"⟩ : MethodName)) rfl hown (mvT hZ (hw _ (List.mem_of_getElem? (i := 81) rfl))) (mvT hZ (hw _ (List.mem_of_getElem? (i := 82) rfl))) (mvT hZ (hw _ (List.mem_of_getElem? (i := 83) rfl))) (by decide) (own_backOfV (W := 1) (rmnew15S l Z aw hw [] b42 b43 T43.heap n0 (Nat.le_trans Z0 K43.1) (A42.keep Kq43) (F_iri_b42.keep Kq43 nin0) g_b42) hZ (fun vm q => trivial) (hw _ (List.mem_of_getElem? (i := 83) rfl)) (hw _ (List.mem_of_getElem? (i := 80) rfl)) (by decide) (by decide)) (g := (mkF m 204 #[.val (.int p0), .val (.int p1), .val (.int p2), .val (.int va), .val (.int ca0), .val (.int ca1), .val (.int ca2), .val (.int vb), .val (.int cb0), .val (.int cb1), .val (.int cb2), .val (.ref b36), .val (.ref b37), .val (.int (p2 &&& (7 : Int32))), .unset, .unset] [(.ref b43), (.ref b42), (.ref b42)])) rfl (by rw [hml]; rfl) (Steps.refl _) (a := b42) (argsL := [(.ref b43)]) (rest := [(.ref b42)]) (lenOf pd_12 rfl) rfl (by show 2 * 0 + _ ≤ _; exact Nat.le_of_eq rfl) (hb hby at_204) (fun _ _ => ⟨rfl, rfl, (by decide : 10 + 2 ≤ _), (by decide : 38 + 16 ≤ _)⟩)
          dsimp only [Pt.U, Pt.locs, Pt.cells, Pt.slots] at hS44 hgr44
          dsimp only [Pt.U, Pt.locs, Pt.cells, Pt.slots] at X44 l44 y44 z44 st44 hQ44
          subst l44 y44 z44
          have hSl44 := hS44
          have hS44 : s.Since T44.vm T44.heap.size := Jvm.RoadKit.foldS (s := s) hS38 (by exact gr43) hSl44 hgr44
          have hown : (s.setVm T44.vm).vm.findClass "com/example/corollary/corollary/model/NamedClassEqualsPinLaw" = some m.cls := by
            show T44.vm.findClass _ = _
            rw [hSl44.1.alike.findClass]; exact hown
          have hZ : Z.Warmed39 (s.setVm T44.vm).vm := State.Warmed39.trans hZ hSl44.1
          obtain ⟨rfl, N44q, Kq44, GE44, GF44⟩ := hQ44
          have N44 := Fr.app N43 N44q
          have gr44 := Nat.le_trans gr43 Kq44.1
          have K44 : Keep h0 T44.heap [] := K43.trans Kq44 (allS (Or.inr sz_b42) all0)
          refine own_by (A' := T44.setTop (mkF m 207 #[.val (.int p0), .val (.int p1), .val (.int p2), .val (.int va), .val (.int ca0), .val (.int ca1), .val (.int ca2), .val (.int vb), .val (.int cb0), .val (.int cb1), .val (.int cb2), .val (.ref b36), .val (.ref b37), .val (.int (p2 &&& (7 : Int32))), .unset, .unset] [(.ref b42)])) (fun t kt => st44.trans kt) ?_
          refine own_by (A' := T44.setTop (mkF m 258 #[.val (.int p0), .val (.int p1), .val (.int p2), .val (.int va), .val (.int ca0), .val (.int ca1), .val (.int ca2), .val (.int vb), .val (.int cb0), .val (.int cb1), .val (.int cb2), .val (.ref b36), .val (.ref b37), .val (.int (p2 &&& (7 : Int32))), .val (.ref b42), .val (.int (0 : Int32))] [(.ref b42), (.ref b37)])) (fun t kt => ?_) ?_
          · show Steps p.tables e below (T44.setTop (mkF m 207 #[.val (.int p0), .val (.int p1), .val (.int p2), .val (.int va), .val (.int ca0), .val (.int ca1), .val (.int ca2), .val (.int vb), .val (.int cb0), .val (.int cb1), .val (.int cb2), .val (.ref b36), .val (.ref b37), .val (.int (p2 &&& (7 : Int32))), .unset, .unset] [(.ref b42)])) t
            refine XS.astore X44.here hx rfl (hb hby at_207) rfl rfl (l' := #[.val (.int p0), .val (.int p1), .val (.int p2), .val (.int va), .val (.int ca0), .val (.int ca1), .val (.int ca2), .val (.int vb), .val (.int cb0), .val (.int cb1), .val (.int cb2), .val (.ref b36), .val (.ref b37), .val (.int (p2 &&& (7 : Int32))), .val (.ref b42), .unset]) rfl ?_
            show Steps p.tables e below (T44.setTop (mkF m 209 #[.val (.int p0), .val (.int p1), .val (.int p2), .val (.int va), .val (.int ca0), .val (.int ca1), .val (.int ca2), .val (.int vb), .val (.int cb0), .val (.int cb1), .val (.int cb2), .val (.ref b36), .val (.ref b37), .val (.int (p2 &&& (7 : Int32))), .val (.ref b42), .unset] [])) t
            refine XS.iconst X44.here hx rfl (hb hby at_209) ?_
            show Steps p.tables e below (T44.setTop (mkF m 210 #[.val (.int p0), .val (.int p1), .val (.int p2), .val (.int va), .val (.int ca0), .val (.int ca1), .val (.int ca2), .val (.int vb), .val (.int cb0), .val (.int cb1), .val (.int cb2), .val (.ref b36), .val (.ref b37), .val (.int (p2 &&& (7 : Int32))), .val (.ref b42), .unset] [(.int (0 : Int32))])) t
            refine XS.istore X44.here hx rfl (hb hby at_210) rfl (l' := #[.val (.int p0), .val (.int p1), .val (.int p2), .val (.int va), .val (.int ca0), .val (.int ca1), .val (.int ca2), .val (.int vb), .val (.int cb0), .val (.int cb1), .val (.int cb2), .val (.ref b36), .val (.ref b37), .val (.int (p2 &&& (7 : Int32))), .val (.ref b42), .val (.int (0 : Int32))]) rfl ?_
            show Steps p.tables e below (T44.setTop (mkF m 212 #[.val (.int p0), .val (.int p1), .val (.int p2), .val (.int va), .val (.int ca0), .val (.int ca1), .val (.int ca2), .val (.int vb), .val (.int cb0), .val (.int cb1), .val (.int cb2), .val (.ref b36), .val (.ref b37), .val (.int (p2 &&& (7 : Int32))), .val (.ref b42), .val (.int (0 : Int32))] [])) t
            refine XS.goto X44.here hx rfl (pc0 := 212) (pc' := 254) rfl (hb hby at_212) (by decide) (by decide) ?_
            show Steps p.tables e below (T44.setTop (mkF m 254 #[.val (.int p0), .val (.int p1), .val (.int p2), .val (.int va), .val (.int ca0), .val (.int ca1), .val (.int ca2), .val (.int vb), .val (.int cb0), .val (.int cb1), .val (.int cb2), .val (.ref b36), .val (.ref b37), .val (.int (p2 &&& (7 : Int32))), .val (.ref b42), .val (.int (0 : Int32))] [])) t
            refine XS.aload X44.here hx rfl (hb hby at_254) rfl rfl ?_
            show Steps p.tables e below (T44.setTop (mkF m 256 #[.val (.int p0), .val (.int p1), .val (.int p2), .val (.int va), .val (.int ca0), .val (.int ca1), .val (.int ca2), .val (.int vb), .val (.int cb0), .val (.int cb1), .val (.int cb2), .val (.ref b36), .val (.ref b37), .val (.int (p2 &&& (7 : Int32))), .val (.ref b42), .val (.int (0 : Int32))] [(.ref b37)])) t
            refine XS.aload X44.here hx rfl (hb hby at_256) rfl rfl ?_
            exact kt
          obtain ⟨cq45, kq45, q45a, q45b, q45c⟩ := isOf hZ rfl (((GE38.ext E42).keep Kq43).keep Kq44)
          obtain ⟨_, _, ⟨T45, L45, k45, n45⟩, -, X45, ⟨Lc45, hQ45, l45, y45, z45⟩, st45⟩ := X44.virtualBack hx (y := (⟨"com/example/corollary/corollary/model/NamedClass", "equals", "(Ljava/lang/Object;)Z"⟩ : MethodName)) (z := (⟨"com/example/corollary/corollary/model/NamedClass", "equals", "(Ljava/lang/Object;)Z"⟩ : MethodName)) hown (mvT hZ (hw _ (List.mem_of_getElem? (i := 45) rfl))) (mvT hZ (hw _ (List.mem_of_getElem? (i := 46) rfl))) (notFace_of_selects (args := #[]) (mvT hZ (hw _ (List.mem_of_getElem? (i := 48) rfl)))) (mvT hZ (hw _ (List.mem_of_getElem? (i := 48) rfl))) (mvT hZ (hw _ (List.mem_of_getElem? (i := 47) rfl))) (by decide) (backOf (W := 0) (rmEqO l Z aw hw [] b37 b42 T44.heap n0 (Nat.le_trans Z0 K44.1) GE44) hZ (hw _ (List.mem_of_getElem? (i := 49) rfl)) (hw _ (List.mem_of_getElem? (i := 28) rfl)) (by decide) (by decide)) q45a q45c (g := (mkF m 258 #[.val (.int p0), .val (.int p1), .val (.int p2), .val (.int va), .val (.int ca0), .val (.int ca1), .val (.int ca2), .val (.int vb), .val (.int cb0), .val (.int cb1), .val (.int cb2), .val (.ref b36), .val (.ref b37), .val (.int (p2 &&& (7 : Int32))), .val (.ref b42), .val (.int (0 : Int32))] [(.ref b42), (.ref b37)])) rfl (by rw [hml]; rfl) (Steps.refl _) (argsL := [(.ref b42)]) (rest := []) (lenOf pd_10 rfl) rfl (by show 2 * 0 + _ ≤ _; exact Nat.le_of_eq rfl) (hb hby at_258) (fun _ _ => ⟨rfl, rfl, (by decide : 12 + 0 ≤ _), (by decide : 54 + 0 ≤ _)⟩)
          dsimp only [Pt.U, Pt.locs, Pt.cells, Pt.slots] at X45 l45 y45 z45 st45 hQ45
          subst l45 y45 z45
          obtain ⟨rfl, N45q, e45⟩ := hQ45
          have N45 := Fr.app N44 N45q
          refine own_by (A' := T45.setTop (mkF m 261 #[.val (.int p0), .val (.int p1), .val (.int p2), .val (.int va), .val (.int ca0), .val (.int ca1), .val (.int ca2), .val (.int vb), .val (.int cb0), .val (.int cb1), .val (.int cb2), .val (.ref b36), .val (.ref b37), .val (.int (p2 &&& (7 : Int32))), .val (.ref b42), .val (.int (0 : Int32))] [(.int (own_fEqO))])) (fun t kt => st45.trans kt) ?_
          refine own_by (A' := T45.setTop (mkF m 263 #[.val (.int p0), .val (.int p1), .val (.int p2), .val (.int va), .val (.int ca0), .val (.int ca1), .val (.int ca2), .val (.int vb), .val (.int cb0), .val (.int cb1), .val (.int cb2), .val (.ref b36), .val (.ref b37), .val (.int (p2 &&& (7 : Int32))), .val (.ref b42), .val (.int (0 : Int32))] [(.int (0 : Int32)), (.int (own_fEqO))])) (fun t kt => ?_) ?_
          · show Steps p.tables e below (T45.setTop (mkF m 261 #[.val (.int p0), .val (.int p1), .val (.int p2), .val (.int va), .val (.int ca0), .val (.int ca1), .val (.int ca2), .val (.int vb), .val (.int cb0), .val (.int cb1), .val (.int cb2), .val (.ref b36), .val (.ref b37), .val (.int (p2 &&& (7 : Int32))), .val (.ref b42), .val (.int (0 : Int32))] [(.int (own_fEqO))])) t
            refine XS.iload X45.here hx rfl (hb hby at_261) rfl ?_
            exact kt
          have hc263_46 : (own_fEqO) = (0 : Int32) := rfl
          refine own_by (A' := T45.setTop (mkF m 271 #[.val (.int p0), .val (.int p1), .val (.int p2), .val (.int va), .val (.int ca0), .val (.int ca1), .val (.int ca2), .val (.int vb), .val (.int cb0), .val (.int cb1), .val (.int cb2), .val (.ref b36), .val (.ref b37), .val (.int (p2 &&& (7 : Int32))), .val (.ref b42), .val (.int (0 : Int32))] [(.int (1 : Int32))])) (fun t kt => ?_) ?_
          · show Steps p.tables e below (T45.setTop (mkF m 263 #[.val (.int p0), .val (.int p1), .val (.int p2), .val (.int va), .val (.int ca0), .val (.int ca1), .val (.int ca2), .val (.int vb), .val (.int cb0), .val (.int cb1), .val (.int cb2), .val (.ref b36), .val (.ref b37), .val (.int (p2 &&& (7 : Int32))), .val (.ref b42), .val (.int (0 : Int32))] [(.int (0 : Int32)), (.int (own_fEqO))])) t
            refine XS.icmpNo X45.here hx rfl (hb hby at_263) rfl (teq hc263_46).2 ?_
            show Steps p.tables e below (T45.setTop (mkF m 266 #[.val (.int p0), .val (.int p1), .val (.int p2), .val (.int va), .val (.int ca0), .val (.int ca1), .val (.int ca2), .val (.int vb), .val (.int cb0), .val (.int cb1), .val (.int cb2), .val (.ref b36), .val (.ref b37), .val (.int (p2 &&& (7 : Int32))), .val (.ref b42), .val (.int (0 : Int32))] [])) t
            refine XS.iconst X45.here hx rfl (hb hby at_266) ?_
            show Steps p.tables e below (T45.setTop (mkF m 267 #[.val (.int p0), .val (.int p1), .val (.int p2), .val (.int va), .val (.int ca0), .val (.int ca1), .val (.int ca2), .val (.int vb), .val (.int cb0), .val (.int cb1), .val (.int cb2), .val (.ref b36), .val (.ref b37), .val (.int (p2 &&& (7 : Int32))), .val (.ref b42), .val (.int (0 : Int32))] [(.int (1 : Int32))])) t
            refine XS.goto X45.here hx rfl (pc0 := 267) (pc' := 271) rfl (hb hby at_267) (by decide) (by decide) ?_
            exact kt
          obtain ⟨fs, hr, hrun, hended, hEnd⟩ := X45.leaveW (s := s) hS44 (by rw [e45]; exact (Nat.le_refl T44.heap.size)) (v := some (.int (1 : Int32))) (fun h => by rw [Bd.returns] at h; cases h)
          refine ⟨_, _, ?_, hrun, hended, _, _, rfl, ?_, hEnd.1, hEnd.2.1, hEnd.2.2.1, hEnd.2.2.2.mono (by decide) (by decide)⟩
          · exact retN X45 hx (t := .boolean) Bd.returns (by simp) (hb hby at_271) hr
          · show Q0 Z p0 p1 p2 G1 h0 n0 _ T45.heap _ T45.vm
            rw [e45]
            exact ⟨rfl, N45⟩
        · refine own_by (A' := T38.setTop (mkF m 218 #[.val (.int p0), .val (.int p1), .val (.int p2), .val (.int va), .val (.int ca0), .val (.int ca1), .val (.int ca2), .val (.int vb), .val (.int cb0), .val (.int cb1), .val (.int cb2), .val (.ref b36), .val (.ref b37), .val (.int (p2 &&& (7 : Int32))), .unset, .unset] [(.int (5 : Int32)), (.int (p2 &&& (7 : Int32)))])) (fun t kt => ?_) ?_
          · show Steps p.tables e below (T38.setTop (mkF m 187 #[.val (.int p0), .val (.int p1), .val (.int p2), .val (.int va), .val (.int ca0), .val (.int ca1), .val (.int ca2), .val (.int vb), .val (.int cb0), .val (.int cb1), .val (.int cb2), .val (.ref b36), .val (.ref b37), .val (.int (p2 &&& (7 : Int32))), .unset, .unset] [(.int (4 : Int32)), (.int (p2 &&& (7 : Int32)))])) t
            refine XS.icmpYes X38.here hx rfl (pc0 := 187) (pc' := 215) rfl (hb hby at_187) rfl (feq hc187_41).2 (by decide) (by decide) ?_
            show Steps p.tables e below (T38.setTop (mkF m 215 #[.val (.int p0), .val (.int p1), .val (.int p2), .val (.int va), .val (.int ca0), .val (.int ca1), .val (.int ca2), .val (.int vb), .val (.int cb0), .val (.int cb1), .val (.int cb2), .val (.ref b36), .val (.ref b37), .val (.int (p2 &&& (7 : Int32))), .unset, .unset] [])) t
            refine XS.iload X38.here hx rfl (hb hby at_215) rfl ?_
            show Steps p.tables e below (T38.setTop (mkF m 217 #[.val (.int p0), .val (.int p1), .val (.int p2), .val (.int va), .val (.int ca0), .val (.int ca1), .val (.int ca2), .val (.int vb), .val (.int cb0), .val (.int cb1), .val (.int cb2), .val (.ref b36), .val (.ref b37), .val (.int (p2 &&& (7 : Int32))), .unset, .unset] [(.int (p2 &&& (7 : Int32)))])) t
            refine XS.iconst X38.here hx rfl (hb hby at_217) ?_
            exact kt
          by_cases hc218_47 : (p2 &&& (7 : Int32)) = (5 : Int32)
          · refine own_by (A' := T38.setTop (mkF m 258 #[.val (.int p0), .val (.int p1), .val (.int p2), .val (.int va), .val (.int ca0), .val (.int ca1), .val (.int ca2), .val (.int vb), .val (.int cb0), .val (.int cb1), .val (.int cb2), .val (.ref b36), .val (.ref b37), .val (.int (p2 &&& (7 : Int32))), .val .null, .val (.int (0 : Int32))] [.null, (.ref b37)])) (fun t kt => ?_) ?_
            · show Steps p.tables e below (T38.setTop (mkF m 218 #[.val (.int p0), .val (.int p1), .val (.int p2), .val (.int va), .val (.int ca0), .val (.int ca1), .val (.int ca2), .val (.int vb), .val (.int cb0), .val (.int cb1), .val (.int cb2), .val (.ref b36), .val (.ref b37), .val (.int (p2 &&& (7 : Int32))), .unset, .unset] [(.int (5 : Int32)), (.int (p2 &&& (7 : Int32)))])) t
              refine XS.icmpNo X38.here hx rfl (hb hby at_218) rfl (teq hc218_47).2 ?_
              show Steps p.tables e below (T38.setTop (mkF m 221 #[.val (.int p0), .val (.int p1), .val (.int p2), .val (.int va), .val (.int ca0), .val (.int ca1), .val (.int ca2), .val (.int vb), .val (.int cb0), .val (.int cb1), .val (.int cb2), .val (.ref b36), .val (.ref b37), .val (.int (p2 &&& (7 : Int32))), .unset, .unset] [])) t
              refine XS.aconstNull X38.here hx rfl (hb hby at_221) ?_
              show Steps p.tables e below (T38.setTop (mkF m 222 #[.val (.int p0), .val (.int p1), .val (.int p2), .val (.int va), .val (.int ca0), .val (.int ca1), .val (.int ca2), .val (.int vb), .val (.int cb0), .val (.int cb1), .val (.int cb2), .val (.ref b36), .val (.ref b37), .val (.int (p2 &&& (7 : Int32))), .unset, .unset] [.null])) t
              refine XS.astore X38.here hx rfl (hb hby at_222) rfl rfl (l' := #[.val (.int p0), .val (.int p1), .val (.int p2), .val (.int va), .val (.int ca0), .val (.int ca1), .val (.int ca2), .val (.int vb), .val (.int cb0), .val (.int cb1), .val (.int cb2), .val (.ref b36), .val (.ref b37), .val (.int (p2 &&& (7 : Int32))), .val .null, .unset]) rfl ?_
              show Steps p.tables e below (T38.setTop (mkF m 224 #[.val (.int p0), .val (.int p1), .val (.int p2), .val (.int va), .val (.int ca0), .val (.int ca1), .val (.int ca2), .val (.int vb), .val (.int cb0), .val (.int cb1), .val (.int cb2), .val (.ref b36), .val (.ref b37), .val (.int (p2 &&& (7 : Int32))), .val .null, .unset] [])) t
              refine XS.iconst X38.here hx rfl (hb hby at_224) ?_
              show Steps p.tables e below (T38.setTop (mkF m 225 #[.val (.int p0), .val (.int p1), .val (.int p2), .val (.int va), .val (.int ca0), .val (.int ca1), .val (.int ca2), .val (.int vb), .val (.int cb0), .val (.int cb1), .val (.int cb2), .val (.ref b36), .val (.ref b37), .val (.int (p2 &&& (7 : Int32))), .val .null, .unset] [(.int (0 : Int32))])) t
              refine XS.istore X38.here hx rfl (hb hby at_225) rfl (l' := #[.val (.int p0), .val (.int p1), .val (.int p2), .val (.int va), .val (.int ca0), .val (.int ca1), .val (.int ca2), .val (.int vb), .val (.int cb0), .val (.int cb1), .val (.int cb2), .val (.ref b36), .val (.ref b37), .val (.int (p2 &&& (7 : Int32))), .val .null, .val (.int (0 : Int32))]) rfl ?_
              show Steps p.tables e below (T38.setTop (mkF m 227 #[.val (.int p0), .val (.int p1), .val (.int p2), .val (.int va), .val (.int ca0), .val (.int ca1), .val (.int ca2), .val (.int vb), .val (.int cb0), .val (.int cb1), .val (.int cb2), .val (.ref b36), .val (.ref b37), .val (.int (p2 &&& (7 : Int32))), .val .null, .val (.int (0 : Int32))] [])) t
              refine XS.goto X38.here hx rfl (pc0 := 227) (pc' := 254) rfl (hb hby at_227) (by decide) (by decide) ?_
              show Steps p.tables e below (T38.setTop (mkF m 254 #[.val (.int p0), .val (.int p1), .val (.int p2), .val (.int va), .val (.int ca0), .val (.int ca1), .val (.int ca2), .val (.int vb), .val (.int cb0), .val (.int cb1), .val (.int cb2), .val (.ref b36), .val (.ref b37), .val (.int (p2 &&& (7 : Int32))), .val .null, .val (.int (0 : Int32))] [])) t
              refine XS.aload X38.here hx rfl (hb hby at_254) rfl rfl ?_
              show Steps p.tables e below (T38.setTop (mkF m 256 #[.val (.int p0), .val (.int p1), .val (.int p2), .val (.int va), .val (.int ca0), .val (.int ca1), .val (.int ca2), .val (.int vb), .val (.int cb0), .val (.int cb1), .val (.int cb2), .val (.ref b36), .val (.ref b37), .val (.int (p2 &&& (7 : Int32))), .val .null, .val (.int (0 : Int32))] [(.ref b37)])) t
              refine XS.aload X38.here hx rfl (hb hby at_256) rfl rfl ?_
              exact kt
            obtain ⟨cq48, kq48, q48a, q48b, q48c⟩ := isOf hZ rfl GE38
            obtain ⟨_, _, ⟨T48, L48, k48, n48⟩, -, X48, ⟨Lc48, hQ48, l48, y48, z48⟩, st48⟩ := X38.virtualBack hx (y := (⟨"com/example/corollary/corollary/model/NamedClass", "equals", "(Ljava/lang/Object;)Z"⟩ : MethodName)) (z := (⟨"com/example/corollary/corollary/model/NamedClass", "equals", "(Ljava/lang/Object;)Z"⟩ : MethodName)) hown (mvT hZ (hw _ (List.mem_of_getElem? (i := 45) rfl))) (mvT hZ (hw _ (List.mem_of_getElem? (i := 46) rfl))) (notFace_of_selects (args := #[]) (mvT hZ (hw _ (List.mem_of_getElem? (i := 48) rfl)))) (mvT hZ (hw _ (List.mem_of_getElem? (i := 48) rfl))) (mvT hZ (hw _ (List.mem_of_getElem? (i := 47) rfl))) (by decide) (backOf (W := 0) (rmEqN l Z aw hw [] b37 T38.heap n0 (Nat.le_trans Z0 K38.1) ) hZ (hw _ (List.mem_of_getElem? (i := 49) rfl)) (hw _ (List.mem_of_getElem? (i := 28) rfl)) (by decide) (by decide)) q48a q48c (g := (mkF m 258 #[.val (.int p0), .val (.int p1), .val (.int p2), .val (.int va), .val (.int ca0), .val (.int ca1), .val (.int ca2), .val (.int vb), .val (.int cb0), .val (.int cb1), .val (.int cb2), .val (.ref b36), .val (.ref b37), .val (.int (p2 &&& (7 : Int32))), .val .null, .val (.int (0 : Int32))] [.null, (.ref b37)])) rfl (by rw [hml]; rfl) (Steps.refl _) (argsL := [.null]) (rest := []) (lenOf pd_10 rfl) rfl (by show 2 * 0 + _ ≤ _; exact Nat.le_of_eq rfl) (hb hby at_258) (fun _ _ => ⟨rfl, rfl, (by decide : 6 + 0 ≤ _), (by decide : 27 + 0 ≤ _)⟩)
            dsimp only [Pt.U, Pt.locs, Pt.cells, Pt.slots] at X48 l48 y48 z48 st48 hQ48
            subst l48 y48 z48
            obtain ⟨rfl, N48q, e48⟩ := hQ48
            have N48 := Fr.app N38 N48q
            refine own_by (A' := T48.setTop (mkF m 261 #[.val (.int p0), .val (.int p1), .val (.int p2), .val (.int va), .val (.int ca0), .val (.int ca1), .val (.int ca2), .val (.int vb), .val (.int cb0), .val (.int cb1), .val (.int cb2), .val (.ref b36), .val (.ref b37), .val (.int (p2 &&& (7 : Int32))), .val .null, .val (.int (0 : Int32))] [(.int (own_fEqN))])) (fun t kt => st48.trans kt) ?_
            refine own_by (A' := T48.setTop (mkF m 263 #[.val (.int p0), .val (.int p1), .val (.int p2), .val (.int va), .val (.int ca0), .val (.int ca1), .val (.int ca2), .val (.int vb), .val (.int cb0), .val (.int cb1), .val (.int cb2), .val (.ref b36), .val (.ref b37), .val (.int (p2 &&& (7 : Int32))), .val .null, .val (.int (0 : Int32))] [(.int (0 : Int32)), (.int (own_fEqN))])) (fun t kt => ?_) ?_
            · show Steps p.tables e below (T48.setTop (mkF m 261 #[.val (.int p0), .val (.int p1), .val (.int p2), .val (.int va), .val (.int ca0), .val (.int ca1), .val (.int ca2), .val (.int vb), .val (.int cb0), .val (.int cb1), .val (.int cb2), .val (.ref b36), .val (.ref b37), .val (.int (p2 &&& (7 : Int32))), .val .null, .val (.int (0 : Int32))] [(.int (own_fEqN))])) t
              refine XS.iload X48.here hx rfl (hb hby at_261) rfl ?_
              exact kt
            have hc263_49 : (own_fEqN) = (0 : Int32) := rfl
            refine own_by (A' := T48.setTop (mkF m 271 #[.val (.int p0), .val (.int p1), .val (.int p2), .val (.int va), .val (.int ca0), .val (.int ca1), .val (.int ca2), .val (.int vb), .val (.int cb0), .val (.int cb1), .val (.int cb2), .val (.ref b36), .val (.ref b37), .val (.int (p2 &&& (7 : Int32))), .val .null, .val (.int (0 : Int32))] [(.int (1 : Int32))])) (fun t kt => ?_) ?_
            · show Steps p.tables e below (T48.setTop (mkF m 263 #[.val (.int p0), .val (.int p1), .val (.int p2), .val (.int va), .val (.int ca0), .val (.int ca1), .val (.int ca2), .val (.int vb), .val (.int cb0), .val (.int cb1), .val (.int cb2), .val (.ref b36), .val (.ref b37), .val (.int (p2 &&& (7 : Int32))), .val .null, .val (.int (0 : Int32))] [(.int (0 : Int32)), (.int (own_fEqN))])) t
              refine XS.icmpNo X48.here hx rfl (hb hby at_263) rfl (teq hc263_49).2 ?_
              show Steps p.tables e below (T48.setTop (mkF m 266 #[.val (.int p0), .val (.int p1), .val (.int p2), .val (.int va), .val (.int ca0), .val (.int ca1), .val (.int ca2), .val (.int vb), .val (.int cb0), .val (.int cb1), .val (.int cb2), .val (.ref b36), .val (.ref b37), .val (.int (p2 &&& (7 : Int32))), .val .null, .val (.int (0 : Int32))] [])) t
              refine XS.iconst X48.here hx rfl (hb hby at_266) ?_
              show Steps p.tables e below (T48.setTop (mkF m 267 #[.val (.int p0), .val (.int p1), .val (.int p2), .val (.int va), .val (.int ca0), .val (.int ca1), .val (.int ca2), .val (.int vb), .val (.int cb0), .val (.int cb1), .val (.int cb2), .val (.ref b36), .val (.ref b37), .val (.int (p2 &&& (7 : Int32))), .val .null, .val (.int (0 : Int32))] [(.int (1 : Int32))])) t
              refine XS.goto X48.here hx rfl (pc0 := 267) (pc' := 271) rfl (hb hby at_267) (by decide) (by decide) ?_
              exact kt
            obtain ⟨fs, hr, hrun, hended, hEnd⟩ := X48.leaveW (s := s) hS38 (by rw [e48]; exact (Nat.le_refl T38.heap.size)) (v := some (.int (1 : Int32))) (fun h => by rw [Bd.returns] at h; cases h)
            refine ⟨_, _, ?_, hrun, hended, _, _, rfl, ?_, hEnd.1, hEnd.2.1, hEnd.2.2.1, hEnd.2.2.2.mono (by decide) (by decide)⟩
            · exact retN X48 hx (t := .boolean) Bd.returns (by simp) (hb hby at_271) hr
            · show Q0 Z p0 p1 p2 G1 h0 n0 _ T48.heap _ T48.vm
              rw [e48]
              exact ⟨rfl, N48⟩
          · refine own_by (A' := T38.setTop (mkF m 234 #[.val (.int p0), .val (.int p1), .val (.int p2), .val (.int va), .val (.int ca0), .val (.int ca1), .val (.int ca2), .val (.int vb), .val (.int cb0), .val (.int cb1), .val (.int cb2), .val (.ref b36), .val (.ref b37), .val (.int (p2 &&& (7 : Int32))), .unset, .unset] [(.int (6 : Int32)), (.int (p2 &&& (7 : Int32)))])) (fun t kt => ?_) ?_
            · show Steps p.tables e below (T38.setTop (mkF m 218 #[.val (.int p0), .val (.int p1), .val (.int p2), .val (.int va), .val (.int ca0), .val (.int ca1), .val (.int ca2), .val (.int vb), .val (.int cb0), .val (.int cb1), .val (.int cb2), .val (.ref b36), .val (.ref b37), .val (.int (p2 &&& (7 : Int32))), .unset, .unset] [(.int (5 : Int32)), (.int (p2 &&& (7 : Int32)))])) t
              refine XS.icmpYes X38.here hx rfl (pc0 := 218) (pc' := 230) rfl (hb hby at_218) rfl (feq hc218_47).2 (by decide) (by decide) ?_
              show Steps p.tables e below (T38.setTop (mkF m 230 #[.val (.int p0), .val (.int p1), .val (.int p2), .val (.int va), .val (.int ca0), .val (.int ca1), .val (.int ca2), .val (.int vb), .val (.int cb0), .val (.int cb1), .val (.int cb2), .val (.ref b36), .val (.ref b37), .val (.int (p2 &&& (7 : Int32))), .unset, .unset] [])) t
              refine XS.iload X38.here hx rfl (hb hby at_230) rfl ?_
              show Steps p.tables e below (T38.setTop (mkF m 232 #[.val (.int p0), .val (.int p1), .val (.int p2), .val (.int va), .val (.int ca0), .val (.int ca1), .val (.int ca2), .val (.int vb), .val (.int cb0), .val (.int cb1), .val (.int cb2), .val (.ref b36), .val (.ref b37), .val (.int (p2 &&& (7 : Int32))), .unset, .unset] [(.int (p2 &&& (7 : Int32)))])) t
              refine XS.bipush X38.here hx rfl (hb hby at_232) ?_
              exact kt
            by_cases hc234_50 : (p2 &&& (7 : Int32)) = (6 : Int32)
            · refine own_by (A' := T38.setTop (mkF m 258 #[.val (.int p0), .val (.int p1), .val (.int p2), .val (.int va), .val (.int ca0), .val (.int ca1), .val (.int ca2), .val (.int vb), .val (.int cb0), .val (.int cb1), .val (.int cb2), .val (.ref b36), .val (.ref b37), .val (.int (p2 &&& (7 : Int32))), .val (.ref b37), .val (.int (1 : Int32))] [(.ref b37), (.ref b37)])) (fun t kt => ?_) ?_
              · show Steps p.tables e below (T38.setTop (mkF m 234 #[.val (.int p0), .val (.int p1), .val (.int p2), .val (.int va), .val (.int ca0), .val (.int ca1), .val (.int ca2), .val (.int vb), .val (.int cb0), .val (.int cb1), .val (.int cb2), .val (.ref b36), .val (.ref b37), .val (.int (p2 &&& (7 : Int32))), .unset, .unset] [(.int (6 : Int32)), (.int (p2 &&& (7 : Int32)))])) t
                refine XS.icmpNo X38.here hx rfl (hb hby at_234) rfl (teq hc234_50).2 ?_
                show Steps p.tables e below (T38.setTop (mkF m 237 #[.val (.int p0), .val (.int p1), .val (.int p2), .val (.int va), .val (.int ca0), .val (.int ca1), .val (.int ca2), .val (.int vb), .val (.int cb0), .val (.int cb1), .val (.int cb2), .val (.ref b36), .val (.ref b37), .val (.int (p2 &&& (7 : Int32))), .unset, .unset] [])) t
                refine XS.aload X38.here hx rfl (hb hby at_237) rfl rfl ?_
                show Steps p.tables e below (T38.setTop (mkF m 239 #[.val (.int p0), .val (.int p1), .val (.int p2), .val (.int va), .val (.int ca0), .val (.int ca1), .val (.int ca2), .val (.int vb), .val (.int cb0), .val (.int cb1), .val (.int cb2), .val (.ref b36), .val (.ref b37), .val (.int (p2 &&& (7 : Int32))), .unset, .unset] [(.ref b37)])) t
                refine XS.astore X38.here hx rfl (hb hby at_239) rfl rfl (l' := #[.val (.int p0), .val (.int p1), .val (.int p2), .val (.int va), .val (.int ca0), .val (.int ca1), .val (.int ca2), .val (.int vb), .val (.int cb0), .val (.int cb1), .val (.int cb2), .val (.ref b36), .val (.ref b37), .val (.int (p2 &&& (7 : Int32))), .val (.ref b37), .unset]) rfl ?_
                show Steps p.tables e below (T38.setTop (mkF m 241 #[.val (.int p0), .val (.int p1), .val (.int p2), .val (.int va), .val (.int ca0), .val (.int ca1), .val (.int ca2), .val (.int vb), .val (.int cb0), .val (.int cb1), .val (.int cb2), .val (.ref b36), .val (.ref b37), .val (.int (p2 &&& (7 : Int32))), .val (.ref b37), .unset] [])) t
                refine XS.iconst X38.here hx rfl (hb hby at_241) ?_
                show Steps p.tables e below (T38.setTop (mkF m 242 #[.val (.int p0), .val (.int p1), .val (.int p2), .val (.int va), .val (.int ca0), .val (.int ca1), .val (.int ca2), .val (.int vb), .val (.int cb0), .val (.int cb1), .val (.int cb2), .val (.ref b36), .val (.ref b37), .val (.int (p2 &&& (7 : Int32))), .val (.ref b37), .unset] [(.int (1 : Int32))])) t
                refine XS.istore X38.here hx rfl (hb hby at_242) rfl (l' := #[.val (.int p0), .val (.int p1), .val (.int p2), .val (.int va), .val (.int ca0), .val (.int ca1), .val (.int ca2), .val (.int vb), .val (.int cb0), .val (.int cb1), .val (.int cb2), .val (.ref b36), .val (.ref b37), .val (.int (p2 &&& (7 : Int32))), .val (.ref b37), .val (.int (1 : Int32))]) rfl ?_
                show Steps p.tables e below (T38.setTop (mkF m 244 #[.val (.int p0), .val (.int p1), .val (.int p2), .val (.int va), .val (.int ca0), .val (.int ca1), .val (.int ca2), .val (.int vb), .val (.int cb0), .val (.int cb1), .val (.int cb2), .val (.ref b36), .val (.ref b37), .val (.int (p2 &&& (7 : Int32))), .val (.ref b37), .val (.int (1 : Int32))] [])) t
                refine XS.goto X38.here hx rfl (pc0 := 244) (pc' := 254) rfl (hb hby at_244) (by decide) (by decide) ?_
                show Steps p.tables e below (T38.setTop (mkF m 254 #[.val (.int p0), .val (.int p1), .val (.int p2), .val (.int va), .val (.int ca0), .val (.int ca1), .val (.int ca2), .val (.int vb), .val (.int cb0), .val (.int cb1), .val (.int cb2), .val (.ref b36), .val (.ref b37), .val (.int (p2 &&& (7 : Int32))), .val (.ref b37), .val (.int (1 : Int32))] [])) t
                refine XS.aload X38.here hx rfl (hb hby at_254) rfl rfl ?_
                show Steps p.tables e below (T38.setTop (mkF m 256 #[.val (.int p0), .val (.int p1), .val (.int p2), .val (.int va), .val (.int ca0), .val (.int ca1), .val (.int ca2), .val (.int vb), .val (.int cb0), .val (.int cb1), .val (.int cb2), .val (.ref b36), .val (.ref b37), .val (.int (p2 &&& (7 : Int32))), .val (.ref b37), .val (.int (1 : Int32))] [(.ref b37)])) t
                refine XS.aload X38.here hx rfl (hb hby at_256) rfl rfl ?_
                exact kt
              obtain ⟨cq51, kq51, q51a, q51b, q51c⟩ := isOf hZ rfl GE38
              obtain ⟨_, _, ⟨T51, L51, k51, n51⟩, -, X51, ⟨Lc51, hQ51, l51, y51, z51⟩, st51⟩ := X38.virtualBack hx (y := (⟨"com/example/corollary/corollary/model/NamedClass", "equals", "(Ljava/lang/Object;)Z"⟩ : MethodName)) (z := (⟨"com/example/corollary/corollary/model/NamedClass", "equals", "(Ljava/lang/Object;)Z"⟩ : MethodName)) hown (mvT hZ (hw _ (List.mem_of_getElem? (i := 45) rfl))) (mvT hZ (hw _ (List.mem_of_getElem? (i := 46) rfl))) (notFace_of_selects (args := #[]) (mvT hZ (hw _ (List.mem_of_getElem? (i := 48) rfl)))) (mvT hZ (hw _ (List.mem_of_getElem? (i := 48) rfl))) (mvT hZ (hw _ (List.mem_of_getElem? (i := 47) rfl))) (by decide) (backOf (W := 0) (rmeqN l Z aw hw [] b37 b37 b36 b36 (own_cs va ca0 ca1 ca2) (own_cs va ca0 ca1 ca2) G1 T38.heap n0 (Nat.le_trans Z0 K38.1) GF38 GE38 GF38 (own_OSkeep1 (own_OSext GO36 E37) Kq38 A37 (hw _ (List.mem_of_getElem? (i := 27) rfl)) (by decide)) (own_OSkeep1 (own_OSext GO36 E37) Kq38 A37 (hw _ (List.mem_of_getElem? (i := 27) rfl)) (by decide)) (own_csb _ hca0 hca1 hca2) (own_csb _ hca0 hca1 hca2) (own_csl va ca0 ca1 ca2) (own_csl va ca0 ca1 ca2) (own_staKeep S_cs K38) P5) hZ (hw _ (List.mem_of_getElem? (i := 49) rfl)) (hw _ (List.mem_of_getElem? (i := 28) rfl)) (by decide) (by decide)) q51a q51c (g := (mkF m 258 #[.val (.int p0), .val (.int p1), .val (.int p2), .val (.int va), .val (.int ca0), .val (.int ca1), .val (.int ca2), .val (.int vb), .val (.int cb0), .val (.int cb1), .val (.int cb2), .val (.ref b36), .val (.ref b37), .val (.int (p2 &&& (7 : Int32))), .val (.ref b37), .val (.int (1 : Int32))] [(.ref b37), (.ref b37)])) rfl (by rw [hml]; rfl) (Steps.refl _) (argsL := [(.ref b37)]) (rest := []) (lenOf pd_10 rfl) rfl (by show 2 * 0 + _ ≤ _; exact Nat.le_of_eq rfl) (hb hby at_258) (fun _ _ => ⟨rfl, rfl, (by decide : 6 + 0 ≤ _), (by decide : 27 + 0 ≤ _)⟩)
              dsimp only [Pt.U, Pt.locs, Pt.cells, Pt.slots] at X51 l51 y51 z51 st51 hQ51
              subst l51 y51 z51
              obtain ⟨rfl, N51q, e51⟩ := hQ51
              have N51 := Fr.app N38 N51q
              refine own_by (A' := T51.setTop (mkF m 261 #[.val (.int p0), .val (.int p1), .val (.int p2), .val (.int va), .val (.int ca0), .val (.int ca1), .val (.int ca2), .val (.int vb), .val (.int cb0), .val (.int cb1), .val (.int cb2), .val (.ref b36), .val (.ref b37), .val (.int (p2 &&& (7 : Int32))), .val (.ref b37), .val (.int (1 : Int32))] [(.int (own_eqr (own_cs va ca0 ca1 ca2) (own_cs va ca0 ca1 ca2)))])) (fun t kt => st51.trans kt) ?_
              refine own_by (A' := T51.setTop (mkF m 263 #[.val (.int p0), .val (.int p1), .val (.int p2), .val (.int va), .val (.int ca0), .val (.int ca1), .val (.int ca2), .val (.int vb), .val (.int cb0), .val (.int cb1), .val (.int cb2), .val (.ref b36), .val (.ref b37), .val (.int (p2 &&& (7 : Int32))), .val (.ref b37), .val (.int (1 : Int32))] [(.int (1 : Int32)), (.int (own_eqr (own_cs va ca0 ca1 ca2) (own_cs va ca0 ca1 ca2)))])) (fun t kt => ?_) ?_
              · show Steps p.tables e below (T51.setTop (mkF m 261 #[.val (.int p0), .val (.int p1), .val (.int p2), .val (.int va), .val (.int ca0), .val (.int ca1), .val (.int ca2), .val (.int vb), .val (.int cb0), .val (.int cb1), .val (.int cb2), .val (.ref b36), .val (.ref b37), .val (.int (p2 &&& (7 : Int32))), .val (.ref b37), .val (.int (1 : Int32))] [(.int (own_eqr (own_cs va ca0 ca1 ca2) (own_cs va ca0 ca1 ca2)))])) t
                refine XS.iload X51.here hx rfl (hb hby at_261) rfl ?_
                exact kt
              have hc263_52 : (own_eqr (own_cs va ca0 ca1 ca2) (own_cs va ca0 ca1 ca2)) = (1 : Int32) := own_eqrS _
              refine own_by (A' := T51.setTop (mkF m 271 #[.val (.int p0), .val (.int p1), .val (.int p2), .val (.int va), .val (.int ca0), .val (.int ca1), .val (.int ca2), .val (.int vb), .val (.int cb0), .val (.int cb1), .val (.int cb2), .val (.ref b36), .val (.ref b37), .val (.int (p2 &&& (7 : Int32))), .val (.ref b37), .val (.int (1 : Int32))] [(.int (1 : Int32))])) (fun t kt => ?_) ?_
              · show Steps p.tables e below (T51.setTop (mkF m 263 #[.val (.int p0), .val (.int p1), .val (.int p2), .val (.int va), .val (.int ca0), .val (.int ca1), .val (.int ca2), .val (.int vb), .val (.int cb0), .val (.int cb1), .val (.int cb2), .val (.ref b36), .val (.ref b37), .val (.int (p2 &&& (7 : Int32))), .val (.ref b37), .val (.int (1 : Int32))] [(.int (1 : Int32)), (.int (own_eqr (own_cs va ca0 ca1 ca2) (own_cs va ca0 ca1 ca2)))])) t
                refine XS.icmpNo X51.here hx rfl (hb hby at_263) rfl (teq hc263_52).2 ?_
                show Steps p.tables e below (T51.setTop (mkF m 266 #[.val (.int p0), .val (.int p1), .val (.int p2), .val (.int va), .val (.int ca0), .val (.int ca1), .val (.int ca2), .val (.int vb), .val (.int cb0), .val (.int cb1), .val (.int cb2), .val (.ref b36), .val (.ref b37), .val (.int (p2 &&& (7 : Int32))), .val (.ref b37), .val (.int (1 : Int32))] [])) t
                refine XS.iconst X51.here hx rfl (hb hby at_266) ?_
                show Steps p.tables e below (T51.setTop (mkF m 267 #[.val (.int p0), .val (.int p1), .val (.int p2), .val (.int va), .val (.int ca0), .val (.int ca1), .val (.int ca2), .val (.int vb), .val (.int cb0), .val (.int cb1), .val (.int cb2), .val (.ref b36), .val (.ref b37), .val (.int (p2 &&& (7 : Int32))), .val (.ref b37), .val (.int (1 : Int32))] [(.int (1 : Int32))])) t
                refine XS.goto X51.here hx rfl (pc0 := 267) (pc' := 271) rfl (hb hby at_267) (by decide) (by decide) ?_
                exact kt
              obtain ⟨fs, hr, hrun, hended, hEnd⟩ := X51.leaveW (s := s) hS38 (by rw [e51]; exact (Nat.le_refl T38.heap.size)) (v := some (.int (1 : Int32))) (fun h => by rw [Bd.returns] at h; cases h)
              refine ⟨_, _, ?_, hrun, hended, _, _, rfl, ?_, hEnd.1, hEnd.2.1, hEnd.2.2.1, hEnd.2.2.2.mono (by decide) (by decide)⟩
              · exact retN X51 hx (t := .boolean) Bd.returns (by simp) (hb hby at_271) hr
              · show Q0 Z p0 p1 p2 G1 h0 n0 _ T51.heap _ T51.vm
                rw [e51]
                exact ⟨rfl, N51⟩
            · refine own_by (A' := T38.setTop (mkF m 258 #[.val (.int p0), .val (.int p1), .val (.int p2), .val (.int va), .val (.int ca0), .val (.int ca1), .val (.int ca2), .val (.int vb), .val (.int cb0), .val (.int cb1), .val (.int cb2), .val (.ref b36), .val (.ref b37), .val (.int (p2 &&& (7 : Int32))), .val (.ref b36), .val (.int (0 : Int32))] [(.ref b36), (.ref b37)])) (fun t kt => ?_) ?_
              · show Steps p.tables e below (T38.setTop (mkF m 234 #[.val (.int p0), .val (.int p1), .val (.int p2), .val (.int va), .val (.int ca0), .val (.int ca1), .val (.int ca2), .val (.int vb), .val (.int cb0), .val (.int cb1), .val (.int cb2), .val (.ref b36), .val (.ref b37), .val (.int (p2 &&& (7 : Int32))), .unset, .unset] [(.int (6 : Int32)), (.int (p2 &&& (7 : Int32)))])) t
                refine XS.icmpYes X38.here hx rfl (pc0 := 234) (pc' := 247) rfl (hb hby at_234) rfl (feq hc234_50).2 (by decide) (by decide) ?_
                show Steps p.tables e below (T38.setTop (mkF m 247 #[.val (.int p0), .val (.int p1), .val (.int p2), .val (.int va), .val (.int ca0), .val (.int ca1), .val (.int ca2), .val (.int vb), .val (.int cb0), .val (.int cb1), .val (.int cb2), .val (.ref b36), .val (.ref b37), .val (.int (p2 &&& (7 : Int32))), .unset, .unset] [])) t
                refine XS.aload X38.here hx rfl (hb hby at_247) rfl rfl ?_
                show Steps p.tables e below (T38.setTop (mkF m 249 #[.val (.int p0), .val (.int p1), .val (.int p2), .val (.int va), .val (.int ca0), .val (.int ca1), .val (.int ca2), .val (.int vb), .val (.int cb0), .val (.int cb1), .val (.int cb2), .val (.ref b36), .val (.ref b37), .val (.int (p2 &&& (7 : Int32))), .unset, .unset] [(.ref b36)])) t
                refine XS.astore X38.here hx rfl (hb hby at_249) rfl rfl (l' := #[.val (.int p0), .val (.int p1), .val (.int p2), .val (.int va), .val (.int ca0), .val (.int ca1), .val (.int ca2), .val (.int vb), .val (.int cb0), .val (.int cb1), .val (.int cb2), .val (.ref b36), .val (.ref b37), .val (.int (p2 &&& (7 : Int32))), .val (.ref b36), .unset]) rfl ?_
                show Steps p.tables e below (T38.setTop (mkF m 251 #[.val (.int p0), .val (.int p1), .val (.int p2), .val (.int va), .val (.int ca0), .val (.int ca1), .val (.int ca2), .val (.int vb), .val (.int cb0), .val (.int cb1), .val (.int cb2), .val (.ref b36), .val (.ref b37), .val (.int (p2 &&& (7 : Int32))), .val (.ref b36), .unset] [])) t
                refine XS.iconst X38.here hx rfl (hb hby at_251) ?_
                show Steps p.tables e below (T38.setTop (mkF m 252 #[.val (.int p0), .val (.int p1), .val (.int p2), .val (.int va), .val (.int ca0), .val (.int ca1), .val (.int ca2), .val (.int vb), .val (.int cb0), .val (.int cb1), .val (.int cb2), .val (.ref b36), .val (.ref b37), .val (.int (p2 &&& (7 : Int32))), .val (.ref b36), .unset] [(.int (0 : Int32))])) t
                refine XS.istore X38.here hx rfl (hb hby at_252) rfl (l' := #[.val (.int p0), .val (.int p1), .val (.int p2), .val (.int va), .val (.int ca0), .val (.int ca1), .val (.int ca2), .val (.int vb), .val (.int cb0), .val (.int cb1), .val (.int cb2), .val (.ref b36), .val (.ref b37), .val (.int (p2 &&& (7 : Int32))), .val (.ref b36), .val (.int (0 : Int32))]) rfl ?_
                show Steps p.tables e below (T38.setTop (mkF m 254 #[.val (.int p0), .val (.int p1), .val (.int p2), .val (.int va), .val (.int ca0), .val (.int ca1), .val (.int ca2), .val (.int vb), .val (.int cb0), .val (.int cb1), .val (.int cb2), .val (.ref b36), .val (.ref b37), .val (.int (p2 &&& (7 : Int32))), .val (.ref b36), .val (.int (0 : Int32))] [])) t
                refine XS.aload X38.here hx rfl (hb hby at_254) rfl rfl ?_
                show Steps p.tables e below (T38.setTop (mkF m 256 #[.val (.int p0), .val (.int p1), .val (.int p2), .val (.int va), .val (.int ca0), .val (.int ca1), .val (.int ca2), .val (.int vb), .val (.int cb0), .val (.int cb1), .val (.int cb2), .val (.ref b36), .val (.ref b37), .val (.int (p2 &&& (7 : Int32))), .val (.ref b36), .val (.int (0 : Int32))] [(.ref b37)])) t
                refine XS.aload X38.here hx rfl (hb hby at_256) rfl rfl ?_
                exact kt
              obtain ⟨cq53, kq53, q53a, q53b, q53c⟩ := isOf hZ rfl GE38
              obtain ⟨_, _, ⟨T53, L53, k53, n53⟩, -, X53, ⟨Lc53, hQ53, l53, y53, z53⟩, st53⟩ := X38.virtualBack hx (y := (⟨"com/example/corollary/corollary/model/NamedClass", "equals", "(Ljava/lang/Object;)Z"⟩ : MethodName)) (z := (⟨"com/example/corollary/corollary/model/NamedClass", "equals", "(Ljava/lang/Object;)Z"⟩ : MethodName)) hown (mvT hZ (hw _ (List.mem_of_getElem? (i := 45) rfl))) (mvT hZ (hw _ (List.mem_of_getElem? (i := 46) rfl))) (notFace_of_selects (args := #[]) (mvT hZ (hw _ (List.mem_of_getElem? (i := 48) rfl)))) (mvT hZ (hw _ (List.mem_of_getElem? (i := 48) rfl))) (mvT hZ (hw _ (List.mem_of_getElem? (i := 47) rfl))) (by decide) (backOf (W := 0) (rmEqS l Z aw hw [] b37 b36 T38.heap n0 (Nat.le_trans Z0 K38.1) ((GE36.ext E37).keep Kq38)) hZ (hw _ (List.mem_of_getElem? (i := 49) rfl)) (hw _ (List.mem_of_getElem? (i := 28) rfl)) (by decide) (by decide)) q53a q53c (g := (mkF m 258 #[.val (.int p0), .val (.int p1), .val (.int p2), .val (.int va), .val (.int ca0), .val (.int ca1), .val (.int ca2), .val (.int vb), .val (.int cb0), .val (.int cb1), .val (.int cb2), .val (.ref b36), .val (.ref b37), .val (.int (p2 &&& (7 : Int32))), .val (.ref b36), .val (.int (0 : Int32))] [(.ref b36), (.ref b37)])) rfl (by rw [hml]; rfl) (Steps.refl _) (argsL := [(.ref b36)]) (rest := []) (lenOf pd_10 rfl) rfl (by show 2 * 0 + _ ≤ _; exact Nat.le_of_eq rfl) (hb hby at_258) (fun _ _ => ⟨rfl, rfl, (by decide : 6 + 0 ≤ _), (by decide : 27 + 0 ≤ _)⟩)
              dsimp only [Pt.U, Pt.locs, Pt.cells, Pt.slots] at X53 l53 y53 z53 st53 hQ53
              subst l53 y53 z53
              obtain ⟨rfl, N53q, e53⟩ := hQ53
              have N53 := Fr.app N38 N53q
              refine own_by (A' := T53.setTop (mkF m 261 #[.val (.int p0), .val (.int p1), .val (.int p2), .val (.int va), .val (.int ca0), .val (.int ca1), .val (.int ca2), .val (.int vb), .val (.int cb0), .val (.int cb1), .val (.int cb2), .val (.ref b36), .val (.ref b37), .val (.int (p2 &&& (7 : Int32))), .val (.ref b36), .val (.int (0 : Int32))] [(.int (own_fEqS))])) (fun t kt => st53.trans kt) ?_
              refine own_by (A' := T53.setTop (mkF m 263 #[.val (.int p0), .val (.int p1), .val (.int p2), .val (.int va), .val (.int ca0), .val (.int ca1), .val (.int ca2), .val (.int vb), .val (.int cb0), .val (.int cb1), .val (.int cb2), .val (.ref b36), .val (.ref b37), .val (.int (p2 &&& (7 : Int32))), .val (.ref b36), .val (.int (0 : Int32))] [(.int (0 : Int32)), (.int (own_fEqS))])) (fun t kt => ?_) ?_
              · show Steps p.tables e below (T53.setTop (mkF m 261 #[.val (.int p0), .val (.int p1), .val (.int p2), .val (.int va), .val (.int ca0), .val (.int ca1), .val (.int ca2), .val (.int vb), .val (.int cb0), .val (.int cb1), .val (.int cb2), .val (.ref b36), .val (.ref b37), .val (.int (p2 &&& (7 : Int32))), .val (.ref b36), .val (.int (0 : Int32))] [(.int (own_fEqS))])) t
                refine XS.iload X53.here hx rfl (hb hby at_261) rfl ?_
                exact kt
              have hc263_54 : (own_fEqS) = (0 : Int32) := rfl
              refine own_by (A' := T53.setTop (mkF m 271 #[.val (.int p0), .val (.int p1), .val (.int p2), .val (.int va), .val (.int ca0), .val (.int ca1), .val (.int ca2), .val (.int vb), .val (.int cb0), .val (.int cb1), .val (.int cb2), .val (.ref b36), .val (.ref b37), .val (.int (p2 &&& (7 : Int32))), .val (.ref b36), .val (.int (0 : Int32))] [(.int (1 : Int32))])) (fun t kt => ?_) ?_
              · show Steps p.tables e below (T53.setTop (mkF m 263 #[.val (.int p0), .val (.int p1), .val (.int p2), .val (.int va), .val (.int ca0), .val (.int ca1), .val (.int ca2), .val (.int vb), .val (.int cb0), .val (.int cb1), .val (.int cb2), .val (.ref b36), .val (.ref b37), .val (.int (p2 &&& (7 : Int32))), .val (.ref b36), .val (.int (0 : Int32))] [(.int (0 : Int32)), (.int (own_fEqS))])) t
                refine XS.icmpNo X53.here hx rfl (hb hby at_263) rfl (teq hc263_54).2 ?_
                show Steps p.tables e below (T53.setTop (mkF m 266 #[.val (.int p0), .val (.int p1), .val (.int p2), .val (.int va), .val (.int ca0), .val (.int ca1), .val (.int ca2), .val (.int vb), .val (.int cb0), .val (.int cb1), .val (.int cb2), .val (.ref b36), .val (.ref b37), .val (.int (p2 &&& (7 : Int32))), .val (.ref b36), .val (.int (0 : Int32))] [])) t
                refine XS.iconst X53.here hx rfl (hb hby at_266) ?_
                show Steps p.tables e below (T53.setTop (mkF m 267 #[.val (.int p0), .val (.int p1), .val (.int p2), .val (.int va), .val (.int ca0), .val (.int ca1), .val (.int ca2), .val (.int vb), .val (.int cb0), .val (.int cb1), .val (.int cb2), .val (.ref b36), .val (.ref b37), .val (.int (p2 &&& (7 : Int32))), .val (.ref b36), .val (.int (0 : Int32))] [(.int (1 : Int32))])) t
                refine XS.goto X53.here hx rfl (pc0 := 267) (pc' := 271) rfl (hb hby at_267) (by decide) (by decide) ?_
                exact kt
              obtain ⟨fs, hr, hrun, hended, hEnd⟩ := X53.leaveW (s := s) hS38 (by rw [e53]; exact (Nat.le_refl T38.heap.size)) (v := some (.int (1 : Int32))) (fun h => by rw [Bd.returns] at h; cases h)
              refine ⟨_, _, ?_, hrun, hended, _, _, rfl, ?_, hEnd.1, hEnd.2.1, hEnd.2.2.1, hEnd.2.2.2.mono (by decide) (by decide)⟩
              · exact retN X53 hx (t := .boolean) Bd.returns (by simp) (hb hby at_271) hr
              · show Q0 Z p0 p1 p2 G1 h0 n0 _ T53.heap _ T53.vm
                rw [e53]
                exact ⟨rfl, N53⟩
      · refine own_by (A' := T38.setTop (mkF m 159 #[.val (.int p0), .val (.int p1), .val (.int p2), .val (.int va), .val (.int ca0), .val (.int ca1), .val (.int ca2), .val (.int vb), .val (.int cb0), .val (.int cb1), .val (.int cb2), .val (.ref b36), .val (.ref b37), .val (.int (p2 &&& (7 : Int32))), .unset, .unset] [])) (fun t kt => ?_) ?_
        · show Steps p.tables e below (T38.setTop (mkF m 156 #[.val (.int p0), .val (.int p1), .val (.int p2), .val (.int va), .val (.int ca0), .val (.int ca1), .val (.int ca2), .val (.int vb), .val (.int cb0), .val (.int cb1), .val (.int cb2), .val (.ref b36), .val (.ref b37), .val (.int (p2 &&& (7 : Int32))), .unset, .unset] [(.int (3 : Int32)), (.int (p2 &&& (7 : Int32)))])) t
          refine XS.icmpNo X38.here hx rfl (hb hby at_156) rfl (flt hc156_40).2.2.1 ?_
          exact kt
        obtain ⟨T55, h55, X55, e55, E55, A55, D55, -, st55⟩ := newO X38 hx hZ hown (hw _ (List.mem_of_getElem? (i := 26) rfl)) (hw _ (List.mem_of_getElem? (i := 27) rfl)) (hw _ (List.mem_of_getElem? (i := 28) rfl)) rfl (g := (mkF m 159 #[.val (.int p0), .val (.int p1), .val (.int p2), .val (.int va), .val (.int ca0), .val (.int ca1), .val (.int ca2), .val (.int vb), .val (.int cb0), .val (.int cb1), .val (.int cb2), .val (.ref b36), .val (.ref b37), .val (.int (p2 &&& (7 : Int32))), .unset, .unset] [])) rfl (hb hby at_159) (by decide) (by decide)
        obtain ⟨b55, g55⟩ : ∃ z, z = T38.heap.size := ⟨_, rfl⟩
        rw [← g55] at A55 D55 st55
        have sz_b55 : h0.size ≤ b55 := Nat.le_trans K38.1 (Nat.le_of_eq g55.symm)
        have g_b55 : n0 ≤ b55 := Nat.le_trans Z0 sz_b55
        have gr55 := Nat.le_trans (Nat.le_refl T38.heap.size) E55.1
        have K55 : Keep h0 h55 [] := K38.ext E55
        have F_iri_b55 : Fld Z h55 b55 "com/example/corollary/corollary/model/NamedClass" "iri" "Ljava/lang/String;" .null := D55 (Or.inr (hw _ (List.mem_of_getElem? (i := 44) rfl))) (ty := (.object "java/lang/String")) (by decide)
        refine own_by (A' := T55.setTop (mkF m 162 #[.val (.int p0), .val (.int p1), .val (.int p2), .val (.int va), .val (.int ca0), .val (.int ca1), .val (.int ca2), .val (.int vb), .val (.int cb0), .val (.int cb1), .val (.int cb2), .val (.ref b36), .val (.ref b37), .val (.int (p2 &&& (7 : Int32))), .unset, .unset] [(.ref b55)])) (fun t kt => st55 t kt) ?_
        refine own_by (A' := T55.setTop (mkF m 170 #[.val (.int p0), .val (.int p1), .val (.int p2), .val (.int va), .val (.int ca0), .val (.int ca1), .val (.int ca2), .val (.int vb), .val (.int cb0), .val (.int cb1), .val (.int cb2), .val (.ref b36), .val (.ref b37), .val (.int (p2 &&& (7 : Int32))), .unset, .unset] [(.int ca2), (.int ca1), (.int ca0), (.int va), (.ref b55), (.ref b55)])) (fun t kt => ?_) ?_
        · show Steps p.tables e below (T55.setTop (mkF m 162 #[.val (.int p0), .val (.int p1), .val (.int p2), .val (.int va), .val (.int ca0), .val (.int ca1), .val (.int ca2), .val (.int vb), .val (.int cb0), .val (.int cb1), .val (.int cb2), .val (.ref b36), .val (.ref b37), .val (.int (p2 &&& (7 : Int32))), .unset, .unset] [(.ref b55)])) t
          refine XS.dup X55.here hx rfl (hb hby at_162) rfl rfl ?_
          show Steps p.tables e below (T55.setTop (mkF m 163 #[.val (.int p0), .val (.int p1), .val (.int p2), .val (.int va), .val (.int ca0), .val (.int ca1), .val (.int ca2), .val (.int vb), .val (.int cb0), .val (.int cb1), .val (.int cb2), .val (.ref b36), .val (.ref b37), .val (.int (p2 &&& (7 : Int32))), .unset, .unset] [(.ref b55), (.ref b55)])) t
          refine XS.iloadN X55.here hx rfl (hb hby at_163) rfl ?_
          show Steps p.tables e below (T55.setTop (mkF m 164 #[.val (.int p0), .val (.int p1), .val (.int p2), .val (.int va), .val (.int ca0), .val (.int ca1), .val (.int ca2), .val (.int vb), .val (.int cb0), .val (.int cb1), .val (.int cb2), .val (.ref b36), .val (.ref b37), .val (.int (p2 &&& (7 : Int32))), .unset, .unset] [(.int va), (.ref b55), (.ref b55)])) t
          refine XS.iload X55.here hx rfl (hb hby at_164) rfl ?_
          show Steps p.tables e below (T55.setTop (mkF m 166 #[.val (.int p0), .val (.int p1), .val (.int p2), .val (.int va), .val (.int ca0), .val (.int ca1), .val (.int ca2), .val (.int vb), .val (.int cb0), .val (.int cb1), .val (.int cb2), .val (.ref b36), .val (.ref b37), .val (.int (p2 &&& (7 : Int32))), .unset, .unset] [(.int ca0), (.int va), (.ref b55), (.ref b55)])) t
          refine XS.iload X55.here hx rfl (hb hby at_166) rfl ?_
          show Steps p.tables e below (T55.setTop (mkF m 168 #[.val (.int p0), .val (.int p1), .val (.int p2), .val (.int va), .val (.int ca0), .val (.int ca1), .val (.int ca2), .val (.int vb), .val (.int cb0), .val (.int cb1), .val (.int cb2), .val (.ref b36), .val (.ref b37), .val (.int (p2 &&& (7 : Int32))), .unset, .unset] [(.int ca1), (.int ca0), (.int va), (.ref b55), (.ref b55)])) t
          refine XS.iload X55.here hx rfl (hb hby at_168) rfl ?_
          exact kt
        obtain ⟨_, _, ⟨T56, L56, k56, n56⟩, -, X56, ⟨Lc56, hQ56, l56, y56, z56⟩, st56⟩ := Jvm.LawKit.callS X55 hx (y := (⟨"com/example/corollary/corollary/model/NamedClassEqualsPinLaw", "mk", "(ICCC)Ljava/lang/String;"⟩ : MethodName)) hown (mvT hZ (hw _ (List.mem_of_getElem? (i := 0) rfl))) (mvT hZ (hw _ (List.mem_of_getElem? (i := 1) rfl))) (mvT hZ (hw _ (List.mem_of_getElem? (i := 2) rfl))) (mvT hZ (hw _ (List.mem_of_getElem? (i := 3) rfl))) (by decide) (backOf (W := 2) (rmmkN l Z aw hw [] va ca0 ca1 ca2 G1 h55 n0 (Nat.le_trans Z0 K55.1) hva hca0 hca1 hca2 (own_staKeep S_cs K55) P5) hZ (hw _ (List.mem_of_getElem? (i := 3) rfl)) (hw _ (List.mem_of_getElem? (i := 2) rfl)) (by decide) (by decide)) (g := (mkF m 170 #[.val (.int p0), .val (.int p1), .val (.int p2), .val (.int va), .val (.int ca0), .val (.int ca1), .val (.int ca2), .val (.int vb), .val (.int cb0), .val (.int cb1), .val (.int cb2), .val (.ref b36), .val (.ref b37), .val (.int (p2 &&& (7 : Int32))), .unset, .unset] [(.int ca2), (.int ca1), (.int ca0), (.int va), (.ref b55), (.ref b55)])) rfl (by rw [hml]; rfl) (argsL := [(.int va), (.int ca0), (.int ca1), (.int ca2)]) (rest := [(.ref b55), (.ref b55)]) (lenOf pd_11 rfl) rfl (by show 2 * 0 + _ ≤ _; exact Nat.le_of_eq rfl) (hb hby at_170) (fun _ _ => ⟨rfl, e55, (by decide : 7 + 3 ≤ _), (by decide : 28 + 10 ≤ _)⟩)
        dsimp only [Pt.U, Pt.locs, Pt.cells, Pt.slots] at X56 l56 y56 z56 st56 hQ56
        subst l56 y56 z56
        obtain ⟨b56, rfl, N56q, Kq56, GO56⟩ := hQ56
        have N56 := Fr.app N38 N56q
        have gr56 := Nat.le_trans gr55 Kq56.1
        have K56 : Keep h0 T56.heap [] := K55.trans Kq56 all0
        obtain ⟨_, _, GE56, _⟩ := id GO56
        refine own_by (A' := T56.setTop (mkF m 173 #[.val (.int p0), .val (.int p1), .val (.int p2), .val (.int va), .val (.int ca0), .val (.int ca1), .val (.int ca2), .val (.int vb), .val (.int cb0), .val (.int cb1), .val (.int cb2), .val (.ref b36), .val (.ref b37), .val (.int (p2 &&& (7 : Int32))), .unset, .unset] [(.ref b56), (.ref b55), (.ref b55)])) (fun t kt => st56 t kt) ?_
        obtain ⟨_, _, ⟨T57, L57, k57, n57⟩, -, X57, hS57, hgr57, ⟨Lc57, hQ57, l57, y57, z57⟩, st57⟩ := X56.specialBackS hx (y := (⟨"com/example/corollary/corollary/model/NamedClass", "<init>", "(Ljava/lang/String;)V"⟩ : MethodName)) rfl hown (mvT hZ (hw _ (List.mem_of_getElem? (i := 29) rfl))) (mvT hZ (hw _ (List.mem_of_getElem? (i := 30) rfl))) (mvT hZ (hw _ (List.mem_of_getElem? (i := 31) rfl))) (by decide) (own_backOfV (W := 1) (rmnew5S l Z aw hw [] b55 b56 T56.heap n0 (Nat.le_trans Z0 K56.1) (A55.keep Kq56) (F_iri_b55.keep Kq56 nin0) g_b55) hZ (fun vm q => trivial) (hw _ (List.mem_of_getElem? (i := 31) rfl)) (hw _ (List.mem_of_getElem? (i := 28) rfl)) (by decide) (by decide)) (g := (mkF m 173 #[.val (.int p0), .val (.int p1), .val (.int p2), .val (.int va), .val (.int ca0), .val (.int ca1), .val (.int ca2), .val (.int vb), .val (.int cb0), .val (.int cb1), .val (.int cb2), .val (.ref b36), .val (.ref b37), .val (.int (p2 &&& (7 : Int32))), .unset, .unset] [(.ref b56), (.ref b55), (.ref b55)])) rfl (by rw [hml]; rfl) (Steps.refl _) (a := b55) (argsL := [(.ref b56)]) (rest := [(.ref b55)]) (lenOf pd_12 rfl) rfl (by show 2 * 0 + _ ≤ _; exact Nat.le_of_eq rfl) (hb hby at_173) (fun _ _ => ⟨rfl, rfl, (by decide : 10 + 2 ≤ _), (by decide : 38 + 16 ≤ _)⟩)
        dsimp only [Pt.U, Pt.locs, Pt.cells, Pt.slots] at hS57 hgr57
        dsimp only [Pt.U, Pt.locs, Pt.cells, Pt.slots] at X57 l57 y57 z57 st57 hQ57
        subst l57 y57 z57
        have hSl57 := hS57
        have hS57 : s.Since T57.vm T57.heap.size := Jvm.RoadKit.foldS (s := s) hS38 (by exact gr56) hSl57 hgr57
        have hown : (s.setVm T57.vm).vm.findClass "com/example/corollary/corollary/model/NamedClassEqualsPinLaw" = some m.cls := by
          show T57.vm.findClass _ = _
          rw [hSl57.1.alike.findClass]; exact hown
        have hZ : Z.Warmed39 (s.setVm T57.vm).vm := State.Warmed39.trans hZ hSl57.1
        obtain ⟨rfl, N57q, Kq57, GE57, GF57⟩ := hQ57
        have N57 := Fr.app N56 N57q
        have gr57 := Nat.le_trans gr56 Kq57.1
        have K57 : Keep h0 T57.heap [] := K56.trans Kq57 (allS (Or.inr sz_b55) all0)
        refine own_by (A' := T57.setTop (mkF m 176 #[.val (.int p0), .val (.int p1), .val (.int p2), .val (.int va), .val (.int ca0), .val (.int ca1), .val (.int ca2), .val (.int vb), .val (.int cb0), .val (.int cb1), .val (.int cb2), .val (.ref b36), .val (.ref b37), .val (.int (p2 &&& (7 : Int32))), .unset, .unset] [(.ref b55)])) (fun t kt => st57.trans kt) ?_
        refine own_by (A' := T57.setTop (mkF m 258 #[.val (.int p0), .val (.int p1), .val (.int p2), .val (.int va), .val (.int ca0), .val (.int ca1), .val (.int ca2), .val (.int vb), .val (.int cb0), .val (.int cb1), .val (.int cb2), .val (.ref b36), .val (.ref b37), .val (.int (p2 &&& (7 : Int32))), .val (.ref b55), .val (.int (1 : Int32))] [(.ref b55), (.ref b37)])) (fun t kt => ?_) ?_
        · show Steps p.tables e below (T57.setTop (mkF m 176 #[.val (.int p0), .val (.int p1), .val (.int p2), .val (.int va), .val (.int ca0), .val (.int ca1), .val (.int ca2), .val (.int vb), .val (.int cb0), .val (.int cb1), .val (.int cb2), .val (.ref b36), .val (.ref b37), .val (.int (p2 &&& (7 : Int32))), .unset, .unset] [(.ref b55)])) t
          refine XS.astore X57.here hx rfl (hb hby at_176) rfl rfl (l' := #[.val (.int p0), .val (.int p1), .val (.int p2), .val (.int va), .val (.int ca0), .val (.int ca1), .val (.int ca2), .val (.int vb), .val (.int cb0), .val (.int cb1), .val (.int cb2), .val (.ref b36), .val (.ref b37), .val (.int (p2 &&& (7 : Int32))), .val (.ref b55), .unset]) rfl ?_
          show Steps p.tables e below (T57.setTop (mkF m 178 #[.val (.int p0), .val (.int p1), .val (.int p2), .val (.int va), .val (.int ca0), .val (.int ca1), .val (.int ca2), .val (.int vb), .val (.int cb0), .val (.int cb1), .val (.int cb2), .val (.ref b36), .val (.ref b37), .val (.int (p2 &&& (7 : Int32))), .val (.ref b55), .unset] [])) t
          refine XS.iconst X57.here hx rfl (hb hby at_178) ?_
          show Steps p.tables e below (T57.setTop (mkF m 179 #[.val (.int p0), .val (.int p1), .val (.int p2), .val (.int va), .val (.int ca0), .val (.int ca1), .val (.int ca2), .val (.int vb), .val (.int cb0), .val (.int cb1), .val (.int cb2), .val (.ref b36), .val (.ref b37), .val (.int (p2 &&& (7 : Int32))), .val (.ref b55), .unset] [(.int (1 : Int32))])) t
          refine XS.istore X57.here hx rfl (hb hby at_179) rfl (l' := #[.val (.int p0), .val (.int p1), .val (.int p2), .val (.int va), .val (.int ca0), .val (.int ca1), .val (.int ca2), .val (.int vb), .val (.int cb0), .val (.int cb1), .val (.int cb2), .val (.ref b36), .val (.ref b37), .val (.int (p2 &&& (7 : Int32))), .val (.ref b55), .val (.int (1 : Int32))]) rfl ?_
          show Steps p.tables e below (T57.setTop (mkF m 181 #[.val (.int p0), .val (.int p1), .val (.int p2), .val (.int va), .val (.int ca0), .val (.int ca1), .val (.int ca2), .val (.int vb), .val (.int cb0), .val (.int cb1), .val (.int cb2), .val (.ref b36), .val (.ref b37), .val (.int (p2 &&& (7 : Int32))), .val (.ref b55), .val (.int (1 : Int32))] [])) t
          refine XS.goto X57.here hx rfl (pc0 := 181) (pc' := 254) rfl (hb hby at_181) (by decide) (by decide) ?_
          show Steps p.tables e below (T57.setTop (mkF m 254 #[.val (.int p0), .val (.int p1), .val (.int p2), .val (.int va), .val (.int ca0), .val (.int ca1), .val (.int ca2), .val (.int vb), .val (.int cb0), .val (.int cb1), .val (.int cb2), .val (.ref b36), .val (.ref b37), .val (.int (p2 &&& (7 : Int32))), .val (.ref b55), .val (.int (1 : Int32))] [])) t
          refine XS.aload X57.here hx rfl (hb hby at_254) rfl rfl ?_
          show Steps p.tables e below (T57.setTop (mkF m 256 #[.val (.int p0), .val (.int p1), .val (.int p2), .val (.int va), .val (.int ca0), .val (.int ca1), .val (.int ca2), .val (.int vb), .val (.int cb0), .val (.int cb1), .val (.int cb2), .val (.ref b36), .val (.ref b37), .val (.int (p2 &&& (7 : Int32))), .val (.ref b55), .val (.int (1 : Int32))] [(.ref b37)])) t
          refine XS.aload X57.here hx rfl (hb hby at_256) rfl rfl ?_
          exact kt
        obtain ⟨cq58, kq58, q58a, q58b, q58c⟩ := isOf hZ rfl (((GE38.ext E55).keep Kq56).keep Kq57)
        obtain ⟨_, _, ⟨T58, L58, k58, n58⟩, -, X58, ⟨Lc58, hQ58, l58, y58, z58⟩, st58⟩ := X57.virtualBack hx (y := (⟨"com/example/corollary/corollary/model/NamedClass", "equals", "(Ljava/lang/Object;)Z"⟩ : MethodName)) (z := (⟨"com/example/corollary/corollary/model/NamedClass", "equals", "(Ljava/lang/Object;)Z"⟩ : MethodName)) hown (mvT hZ (hw _ (List.mem_of_getElem? (i := 45) rfl))) (mvT hZ (hw _ (List.mem_of_getElem? (i := 46) rfl))) (notFace_of_selects (args := #[]) (mvT hZ (hw _ (List.mem_of_getElem? (i := 48) rfl)))) (mvT hZ (hw _ (List.mem_of_getElem? (i := 48) rfl))) (mvT hZ (hw _ (List.mem_of_getElem? (i := 47) rfl))) (by decide) (backOf (W := 0) (rmeqN l Z aw hw [] b37 b55 b36 b56 (own_cs va ca0 ca1 ca2) (own_cs va ca0 ca1 ca2) G1 T57.heap n0 (Nat.le_trans Z0 K57.1) (((GF38.ext E55).keep Kq56 nin0).keep Kq57 (ninS (Nat.ne_of_lt (Nat.lt_of_lt_of_le (GE38).lt (Nat.le_of_eq g55.symm))) nin0)) GE57 GF57 (own_OSkeep1 (own_OSkeep0 (own_OSext (own_OSkeep1 (own_OSext GO36 E37) Kq38 A37 (hw _ (List.mem_of_getElem? (i := 27) rfl)) (by decide)) E55) Kq56) Kq57 (A55.keep Kq56) (hw _ (List.mem_of_getElem? (i := 27) rfl)) (by decide)) (own_OSkeep1 GO56 Kq57 (A55.keep Kq56) (hw _ (List.mem_of_getElem? (i := 27) rfl)) (by decide)) (own_csb _ hca0 hca1 hca2) (own_csb _ hca0 hca1 hca2) (own_csl va ca0 ca1 ca2) (own_csl va ca0 ca1 ca2) (own_staKeep S_cs K57) P5) hZ (hw _ (List.mem_of_getElem? (i := 49) rfl)) (hw _ (List.mem_of_getElem? (i := 28) rfl)) (by decide) (by decide)) q58a q58c (g := (mkF m 258 #[.val (.int p0), .val (.int p1), .val (.int p2), .val (.int va), .val (.int ca0), .val (.int ca1), .val (.int ca2), .val (.int vb), .val (.int cb0), .val (.int cb1), .val (.int cb2), .val (.ref b36), .val (.ref b37), .val (.int (p2 &&& (7 : Int32))), .val (.ref b55), .val (.int (1 : Int32))] [(.ref b55), (.ref b37)])) rfl (by rw [hml]; rfl) (Steps.refl _) (argsL := [(.ref b55)]) (rest := []) (lenOf pd_10 rfl) rfl (by show 2 * 0 + _ ≤ _; exact Nat.le_of_eq rfl) (hb hby at_258) (fun _ _ => ⟨rfl, rfl, (by decide : 12 + 0 ≤ _), (by decide : 54 + 0 ≤ _)⟩)
        dsimp only [Pt.U, Pt.locs, Pt.cells, Pt.slots] at X58 l58 y58 z58 st58 hQ58
        subst l58 y58 z58
        obtain ⟨rfl, N58q, e58⟩ := hQ58
        have N58 := Fr.app N57 N58q
        refine own_by (A' := T58.setTop (mkF m 261 #[.val (.int p0), .val (.int p1), .val (.int p2), .val (.int va), .val (.int ca0), .val (.int ca1), .val (.int ca2), .val (.int vb), .val (.int cb0), .val (.int cb1), .val (.int cb2), .val (.ref b36), .val (.ref b37), .val (.int (p2 &&& (7 : Int32))), .val (.ref b55), .val (.int (1 : Int32))] [(.int (own_eqr (own_cs va ca0 ca1 ca2) (own_cs va ca0 ca1 ca2)))])) (fun t kt => st58.trans kt) ?_
        refine own_by (A' := T58.setTop (mkF m 263 #[.val (.int p0), .val (.int p1), .val (.int p2), .val (.int va), .val (.int ca0), .val (.int ca1), .val (.int ca2), .val (.int vb), .val (.int cb0), .val (.int cb1), .val (.int cb2), .val (.ref b36), .val (.ref b37), .val (.int (p2 &&& (7 : Int32))), .val (.ref b55), .val (.int (1 : Int32))] [(.int (1 : Int32)), (.int (own_eqr (own_cs va ca0 ca1 ca2) (own_cs va ca0 ca1 ca2)))])) (fun t kt => ?_) ?_
        · show Steps p.tables e below (T58.setTop (mkF m 261 #[.val (.int p0), .val (.int p1), .val (.int p2), .val (.int va), .val (.int ca0), .val (.int ca1), .val (.int ca2), .val (.int vb), .val (.int cb0), .val (.int cb1), .val (.int cb2), .val (.ref b36), .val (.ref b37), .val (.int (p2 &&& (7 : Int32))), .val (.ref b55), .val (.int (1 : Int32))] [(.int (own_eqr (own_cs va ca0 ca1 ca2) (own_cs va ca0 ca1 ca2)))])) t
          refine XS.iload X58.here hx rfl (hb hby at_261) rfl ?_
          exact kt
        have hc263_59 : (own_eqr (own_cs va ca0 ca1 ca2) (own_cs va ca0 ca1 ca2)) = (1 : Int32) := own_eqrS _
        refine own_by (A' := T58.setTop (mkF m 271 #[.val (.int p0), .val (.int p1), .val (.int p2), .val (.int va), .val (.int ca0), .val (.int ca1), .val (.int ca2), .val (.int vb), .val (.int cb0), .val (.int cb1), .val (.int cb2), .val (.ref b36), .val (.ref b37), .val (.int (p2 &&& (7 : Int32))), .val (.ref b55), .val (.int (1 : Int32))] [(.int (1 : Int32))])) (fun t kt => ?_) ?_
        · show Steps p.tables e below (T58.setTop (mkF m 263 #[.val (.int p0), .val (.int p1), .val (.int p2), .val (.int va), .val (.int ca0), .val (.int ca1), .val (.int ca2), .val (.int vb), .val (.int cb0), .val (.int cb1), .val (.int cb2), .val (.ref b36), .val (.ref b37), .val (.int (p2 &&& (7 : Int32))), .val (.ref b55), .val (.int (1 : Int32))] [(.int (1 : Int32)), (.int (own_eqr (own_cs va ca0 ca1 ca2) (own_cs va ca0 ca1 ca2)))])) t
          refine XS.icmpNo X58.here hx rfl (hb hby at_263) rfl (teq hc263_59).2 ?_
          show Steps p.tables e below (T58.setTop (mkF m 266 #[.val (.int p0), .val (.int p1), .val (.int p2), .val (.int va), .val (.int ca0), .val (.int ca1), .val (.int ca2), .val (.int vb), .val (.int cb0), .val (.int cb1), .val (.int cb2), .val (.ref b36), .val (.ref b37), .val (.int (p2 &&& (7 : Int32))), .val (.ref b55), .val (.int (1 : Int32))] [])) t
          refine XS.iconst X58.here hx rfl (hb hby at_266) ?_
          show Steps p.tables e below (T58.setTop (mkF m 267 #[.val (.int p0), .val (.int p1), .val (.int p2), .val (.int va), .val (.int ca0), .val (.int ca1), .val (.int ca2), .val (.int vb), .val (.int cb0), .val (.int cb1), .val (.int cb2), .val (.ref b36), .val (.ref b37), .val (.int (p2 &&& (7 : Int32))), .val (.ref b55), .val (.int (1 : Int32))] [(.int (1 : Int32))])) t
          refine XS.goto X58.here hx rfl (pc0 := 267) (pc' := 271) rfl (hb hby at_267) (by decide) (by decide) ?_
          exact kt
        obtain ⟨fs, hr, hrun, hended, hEnd⟩ := X58.leaveW (s := s) hS57 (by rw [e58]; exact (Nat.le_refl T57.heap.size)) (v := some (.int (1 : Int32))) (fun h => by rw [Bd.returns] at h; cases h)
        refine ⟨_, _, ?_, hrun, hended, _, _, rfl, ?_, hEnd.1, hEnd.2.1, hEnd.2.2.1, hEnd.2.2.2.mono (by decide) (by decide)⟩
        · exact retN X58 hx (t := .boolean) Bd.returns (by simp) (hb hby at_271) hr
        · show Q0 Z p0 p1 p2 G1 h0 n0 _ T58.heap _ T58.vm
          rw [e58]
          exact ⟨rfl, N58⟩
    · refine own_by (A' := T38.setTop (mkF m 110 #[.val (.int p0), .val (.int p1), .val (.int p2), .val (.int va), .val (.int ca0), .val (.int ca1), .val (.int ca2), .val (.int vb), .val (.int cb0), .val (.int cb1), .val (.int cb2), .val (.ref b36), .val (.ref b37), .val (.int (p2 &&& (7 : Int32))), .unset, .unset] [])) (fun t kt => ?_) ?_
      · show Steps p.tables e below (T38.setTop (mkF m 107 #[.val (.int p0), .val (.int p1), .val (.int p2), .val (.int va), .val (.int ca0), .val (.int ca1), .val (.int ca2), .val (.int vb), .val (.int cb0), .val (.int cb1), .val (.int cb2), .val (.ref b36), .val (.ref b37), .val (.int (p2 &&& (7 : Int32))), .unset, .unset] [(.int (1 : Int32)), (.int (p2 &&& (7 : Int32)))])) t
        refine XS.icmpNo X38.here hx rfl (hb hby at_107) rfl (flt hc107_39).2.2.1 ?_
        exact kt
      obtain ⟨T60, h60, X60, e60, E60, A60, D60, -, st60⟩ := newO X38 hx hZ hown (hw _ (List.mem_of_getElem? (i := 26) rfl)) (hw _ (List.mem_of_getElem? (i := 27) rfl)) (hw _ (List.mem_of_getElem? (i := 28) rfl)) rfl (g := (mkF m 110 #[.val (.int p0), .val (.int p1), .val (.int p2), .val (.int va), .val (.int ca0), .val (.int ca1), .val (.int ca2), .val (.int vb), .val (.int cb0), .val (.int cb1), .val (.int cb2), .val (.ref b36), .val (.ref b37), .val (.int (p2 &&& (7 : Int32))), .unset, .unset] [])) rfl (hb hby at_110) (by decide) (by decide)
      obtain ⟨b60, g60⟩ : ∃ z, z = T38.heap.size := ⟨_, rfl⟩
      rw [← g60] at A60 D60 st60
      have sz_b60 : h0.size ≤ b60 := Nat.le_trans K38.1 (Nat.le_of_eq g60.symm)
      have g_b60 : n0 ≤ b60 := Nat.le_trans Z0 sz_b60
      have gr60 := Nat.le_trans (Nat.le_refl T38.heap.size) E60.1
      have K60 : Keep h0 h60 [] := K38.ext E60
      have F_iri_b60 : Fld Z h60 b60 "com/example/corollary/corollary/model/NamedClass" "iri" "Ljava/lang/String;" .null := D60 (Or.inr (hw _ (List.mem_of_getElem? (i := 44) rfl))) (ty := (.object "java/lang/String")) (by decide)
      refine own_by (A' := T60.setTop (mkF m 113 #[.val (.int p0), .val (.int p1), .val (.int p2), .val (.int va), .val (.int ca0), .val (.int ca1), .val (.int ca2), .val (.int vb), .val (.int cb0), .val (.int cb1), .val (.int cb2), .val (.ref b36), .val (.ref b37), .val (.int (p2 &&& (7 : Int32))), .unset, .unset] [(.ref b60)])) (fun t kt => st60 t kt) ?_
      refine own_by (A' := T60.setTop (mkF m 114 #[.val (.int p0), .val (.int p1), .val (.int p2), .val (.int va), .val (.int ca0), .val (.int ca1), .val (.int ca2), .val (.int vb), .val (.int cb0), .val (.int cb1), .val (.int cb2), .val (.ref b36), .val (.ref b37), .val (.int (p2 &&& (7 : Int32))), .unset, .unset] [(.ref b60), (.ref b60)])) (fun t kt => ?_) ?_
      · show Steps p.tables e below (T60.setTop (mkF m 113 #[.val (.int p0), .val (.int p1), .val (.int p2), .val (.int va), .val (.int ca0), .val (.int ca1), .val (.int ca2), .val (.int vb), .val (.int cb0), .val (.int cb1), .val (.int cb2), .val (.ref b36), .val (.ref b37), .val (.int (p2 &&& (7 : Int32))), .unset, .unset] [(.ref b60)])) t
        refine XS.dup X60.here hx rfl (hb hby at_113) rfl rfl ?_
        exact kt
      by_cases hvb : vb = (0 : Int32)
      · subst hvb
        refine own_by (A' := T60.setTop (mkF m 122 #[.val (.int p0), .val (.int p1), .val (.int p2), .val (.int va), .val (.int ca0), .val (.int ca1), .val (.int ca2), .val (.int (0 : Int32)), .val (.int cb0), .val (.int cb1), .val (.int cb2), .val (.ref b36), .val (.ref b37), .val (.int (p2 &&& (7 : Int32))), .unset, .unset] [(.int cb2), (.int cb1), (.int cb0), (.int (0 : Int32)), (.ref b60), (.ref b60)])) (fun t kt => ?_) ?_
        · show Steps p.tables e below (T60.setTop (mkF m 114 #[.val (.int p0), .val (.int p1), .val (.int p2), .val (.int va), .val (.int ca0), .val (.int ca1), .val (.int ca2), .val (.int (0 : Int32)), .val (.int cb0), .val (.int cb1), .val (.int cb2), .val (.ref b36), .val (.ref b37), .val (.int (p2 &&& (7 : Int32))), .unset, .unset] [(.ref b60), (.ref b60)])) t
          refine XS.iload X60.here hx rfl (hb hby at_114) rfl ?_
          show Steps p.tables e below (T60.setTop (mkF m 116 #[.val (.int p0), .val (.int p1), .val (.int p2), .val (.int va), .val (.int ca0), .val (.int ca1), .val (.int ca2), .val (.int (0 : Int32)), .val (.int cb0), .val (.int cb1), .val (.int cb2), .val (.ref b36), .val (.ref b37), .val (.int (p2 &&& (7 : Int32))), .unset, .unset] [(.int (0 : Int32)), (.ref b60), (.ref b60)])) t
          refine XS.iload X60.here hx rfl (hb hby at_116) rfl ?_
          show Steps p.tables e below (T60.setTop (mkF m 118 #[.val (.int p0), .val (.int p1), .val (.int p2), .val (.int va), .val (.int ca0), .val (.int ca1), .val (.int ca2), .val (.int (0 : Int32)), .val (.int cb0), .val (.int cb1), .val (.int cb2), .val (.ref b36), .val (.ref b37), .val (.int (p2 &&& (7 : Int32))), .unset, .unset] [(.int cb0), (.int (0 : Int32)), (.ref b60), (.ref b60)])) t
          refine XS.iload X60.here hx rfl (hb hby at_118) rfl ?_
          show Steps p.tables e below (T60.setTop (mkF m 120 #[.val (.int p0), .val (.int p1), .val (.int p2), .val (.int va), .val (.int ca0), .val (.int ca1), .val (.int ca2), .val (.int (0 : Int32)), .val (.int cb0), .val (.int cb1), .val (.int cb2), .val (.ref b36), .val (.ref b37), .val (.int (p2 &&& (7 : Int32))), .unset, .unset] [(.int cb1), (.int cb0), (.int (0 : Int32)), (.ref b60), (.ref b60)])) t
          refine XS.iload X60.here hx rfl (hb hby at_120) rfl ?_
          exact kt
        obtain ⟨_, _, ⟨T61, L61, k61, n61⟩, -, X61, hS61, hgr61, ⟨Lc61, hQ61, l61, y61, z61⟩, st61⟩ := callSS X60 hx (y := (⟨"com/example/corollary/corollary/model/NamedClassEqualsPinLaw", "mk", "(ICCC)Ljava/lang/String;"⟩ : MethodName)) hown (mvT hZ (hw _ (List.mem_of_getElem? (i := 0) rfl))) (mvT hZ (hw _ (List.mem_of_getElem? (i := 1) rfl))) (mvT hZ (hw _ (List.mem_of_getElem? (i := 2) rfl))) (mvT hZ (hw _ (List.mem_of_getElem? (i := 3) rfl))) (by decide) (own_backOfV (W := 2) (rmmkC l Z aw hw [] cb0 cb1 cb2 ("iri" :: []) h60 n0 (Nat.le_trans Z0 K60.1) (fun b cl q => K60.2.1 b cl (hZh ▸ q) nin0) HCS HW (by decide)) hZ (fun vm q => own_IBw q GI38) (hw _ (List.mem_of_getElem? (i := 3) rfl)) (hw _ (List.mem_of_getElem? (i := 2) rfl)) (by decide) (by decide)) (g := (mkF m 122 #[.val (.int p0), .val (.int p1), .val (.int p2), .val (.int va), .val (.int ca0), .val (.int ca1), .val (.int ca2), .val (.int (0 : Int32)), .val (.int cb0), .val (.int cb1), .val (.int cb2), .val (.ref b36), .val (.ref b37), .val (.int (p2 &&& (7 : Int32))), .unset, .unset] [(.int cb2), (.int cb1), (.int cb0), (.int (0 : Int32)), (.ref b60), (.ref b60)])) rfl (by rw [hml]; rfl) (argsL := [(.int (0 : Int32)), (.int cb0), (.int cb1), (.int cb2)]) (rest := [(.ref b60), (.ref b60)]) (lenOf pd_11 rfl) rfl (by show 2 * 0 + _ ≤ _; exact Nat.le_of_eq rfl) (hb hby at_122) (fun _ _ => ⟨rfl, e60, (by decide : 7 + 4 ≤ _), (by decide : 28 + 8 ≤ _)⟩)
        dsimp only [Pt.U, Pt.locs, Pt.cells, Pt.slots] at hS61 hgr61
        dsimp only [Pt.U, Pt.locs, Pt.cells, Pt.slots] at X61 l61 y61 z61 st61 hQ61
        subst l61 y61 z61
        have hSl61 := hS61
        have hS61 : s.Since T61.vm T61.heap.size := Jvm.RoadKit.foldS (s := s) hS38 (by rw [e60]; exact gr60) hSl61 hgr61
        have hown : (s.setVm T61.vm).vm.findClass "com/example/corollary/corollary/model/NamedClassEqualsPinLaw" = some m.cls := by
          show T61.vm.findClass _ = _
          rw [hSl61.1.alike.findClass]; exact hown
        have hZ : Z.Warmed39 (s.setVm T61.vm).vm := State.Warmed39.trans hZ hSl61.1
        obtain ⟨b61, rfl, N61q, Kq61, GO61, lt61, GOl61, GI61, GL61⟩ := hQ61
        have N61 := Fr.app N38 N61q
        have gr61 := Nat.le_trans gr60 Kq61.1
        have K61 : Keep h0 T61.heap [] := K60.trans Kq61 all0
        have GP61 : own_OS Z T61.heap b61 (own_cs (0 : Int32) cb0 cb1 cb2) := by rw [own_cs, if_pos rfl]; exact GO61
        obtain ⟨_, _, GE61, _⟩ := id GP61
        refine own_by (A' := T61.setTop (mkF m 125 #[.val (.int p0), .val (.int p1), .val (.int p2), .val (.int va), .val (.int ca0), .val (.int ca1), .val (.int ca2), .val (.int (0 : Int32)), .val (.int cb0), .val (.int cb1), .val (.int cb2), .val (.ref b36), .val (.ref b37), .val (.int (p2 &&& (7 : Int32))), .unset, .unset] [(.ref b61), (.ref b60), (.ref b60)])) (fun t kt => st61.trans kt) ?_
        obtain ⟨_, _, ⟨T62, L62, k62, n62⟩, -, X62, hS62, hgr62, ⟨Lc62, hQ62, l62, y62, z62⟩, st62⟩ := X61.specialBackS hx (y := (⟨"com/example/corollary/corollary/model/NamedClass", "<init>", "(Ljava/lang/String;)V"⟩ : MethodName)) rfl hown (mvT hZ (hw _ (List.mem_of_getElem? (i := 29) rfl))) (mvT hZ (hw _ (List.mem_of_getElem? (i := 30) rfl))) (mvT hZ (hw _ (List.mem_of_getElem? (i := 31) rfl))) (by decide) (own_backOfV (W := 1) (rmnew5S l Z aw hw [] b60 b61 T61.heap n0 (Nat.le_trans Z0 K61.1) (A60.keep Kq61) (F_iri_b60.keep Kq61 nin0) g_b60) hZ (fun vm q => trivial) (hw _ (List.mem_of_getElem? (i := 31) rfl)) (hw _ (List.mem_of_getElem? (i := 28) rfl)) (by decide) (by decide)) (g := (mkF m 125 #[.val (.int p0), .val (.int p1), .val (.int p2), .val (.int va), .val (.int ca0), .val (.int ca1), .val (.int ca2), .val (.int (0 : Int32)), .val (.int cb0), .val (.int cb1), .val (.int cb2), .val (.ref b36), .val (.ref b37), .val (.int (p2 &&& (7 : Int32))), .unset, .unset] [(.ref b61), (.ref b60), (.ref b60)])) rfl (by rw [hml]; rfl) (Steps.refl _) (a := b60) (argsL := [(.ref b61)]) (rest := [(.ref b60)]) (lenOf pd_12 rfl) rfl (by show 2 * 0 + _ ≤ _; exact Nat.le_of_eq rfl) (hb hby at_125) (fun _ _ => ⟨rfl, rfl, (by decide : 11 + 2 ≤ _), (by decide : 36 + 16 ≤ _)⟩)
        dsimp only [Pt.U, Pt.locs, Pt.cells, Pt.slots] at hS62 hgr62
        dsimp only [Pt.U, Pt.locs, Pt.cells, Pt.slots] at X62 l62 y62 z62 st62 hQ62
        subst l62 y62 z62
        have hSl62 := hS62
        have hS62 : s.Since T62.vm T62.heap.size := Jvm.RoadKit.foldS (s := s) hS61 (by exact (Nat.le_refl T61.heap.size)) hSl62 hgr62
        have hown : (s.setVm T62.vm).vm.findClass "com/example/corollary/corollary/model/NamedClassEqualsPinLaw" = some m.cls := by
          show T62.vm.findClass _ = _
          rw [hSl62.1.alike.findClass]; exact hown
        have hZ : Z.Warmed39 (s.setVm T62.vm).vm := State.Warmed39.trans hZ hSl62.1
        obtain ⟨rfl, N62q, Kq62, GE62, GF62⟩ := hQ62
        have N62 := Fr.app N61 N62q
        have gr62 := Nat.le_trans (Nat.le_refl T61.heap.size) Kq62.1
        have K62 : Keep h0 T62.heap [] := K61.trans Kq62 (allS (Or.inr sz_b60) all0)
        have Li62 : Lit (Z.setVm T62.vm) "java/lang/String" 7 lt61 := own_Lit39 hSl62.1 GL61
        refine own_by (A' := T62.setTop (mkF m 128 #[.val (.int p0), .val (.int p1), .val (.int p2), .val (.int va), .val (.int ca0), .val (.int ca1), .val (.int ca2), .val (.int (0 : Int32)), .val (.int cb0), .val (.int cb1), .val (.int cb2), .val (.ref b36), .val (.ref b37), .val (.int (p2 &&& (7 : Int32))), .unset, .unset] [(.ref b60)])) (fun t kt => st62.trans kt) ?_
        refine own_by (A' := T62.setTop (mkF m 145 #[.val (.int p0), .val (.int p1), .val (.int p2), .val (.int va), .val (.int ca0), .val (.int ca1), .val (.int ca2), .val (.int (0 : Int32)), .val (.int cb0), .val (.int cb1), .val (.int cb2), .val (.ref b36), .val (.ref b37), .val (.int (p2 &&& (7 : Int32))), .val (.ref b60), .unset] [(.int cb2), (.int cb1), (.int cb0), (.int (0 : Int32)), (.int ca2), (.int ca1), (.int ca0), (.int va)])) (fun t kt => ?_) ?_
        · show Steps p.tables e below (T62.setTop (mkF m 128 #[.val (.int p0), .val (.int p1), .val (.int p2), .val (.int va), .val (.int ca0), .val (.int ca1), .val (.int ca2), .val (.int (0 : Int32)), .val (.int cb0), .val (.int cb1), .val (.int cb2), .val (.ref b36), .val (.ref b37), .val (.int (p2 &&& (7 : Int32))), .unset, .unset] [(.ref b60)])) t
          refine XS.astore X62.here hx rfl (hb hby at_128) rfl rfl (l' := #[.val (.int p0), .val (.int p1), .val (.int p2), .val (.int va), .val (.int ca0), .val (.int ca1), .val (.int ca2), .val (.int (0 : Int32)), .val (.int cb0), .val (.int cb1), .val (.int cb2), .val (.ref b36), .val (.ref b37), .val (.int (p2 &&& (7 : Int32))), .val (.ref b60), .unset]) rfl ?_
          show Steps p.tables e below (T62.setTop (mkF m 130 #[.val (.int p0), .val (.int p1), .val (.int p2), .val (.int va), .val (.int ca0), .val (.int ca1), .val (.int ca2), .val (.int (0 : Int32)), .val (.int cb0), .val (.int cb1), .val (.int cb2), .val (.ref b36), .val (.ref b37), .val (.int (p2 &&& (7 : Int32))), .val (.ref b60), .unset] [])) t
          refine XS.iloadN X62.here hx rfl (hb hby at_130) rfl ?_
          show Steps p.tables e below (T62.setTop (mkF m 131 #[.val (.int p0), .val (.int p1), .val (.int p2), .val (.int va), .val (.int ca0), .val (.int ca1), .val (.int ca2), .val (.int (0 : Int32)), .val (.int cb0), .val (.int cb1), .val (.int cb2), .val (.ref b36), .val (.ref b37), .val (.int (p2 &&& (7 : Int32))), .val (.ref b60), .unset] [(.int va)])) t
          refine XS.iload X62.here hx rfl (hb hby at_131) rfl ?_
          show Steps p.tables e below (T62.setTop (mkF m 133 #[.val (.int p0), .val (.int p1), .val (.int p2), .val (.int va), .val (.int ca0), .val (.int ca1), .val (.int ca2), .val (.int (0 : Int32)), .val (.int cb0), .val (.int cb1), .val (.int cb2), .val (.ref b36), .val (.ref b37), .val (.int (p2 &&& (7 : Int32))), .val (.ref b60), .unset] [(.int ca0), (.int va)])) t
          refine XS.iload X62.here hx rfl (hb hby at_133) rfl ?_
          show Steps p.tables e below (T62.setTop (mkF m 135 #[.val (.int p0), .val (.int p1), .val (.int p2), .val (.int va), .val (.int ca0), .val (.int ca1), .val (.int ca2), .val (.int (0 : Int32)), .val (.int cb0), .val (.int cb1), .val (.int cb2), .val (.ref b36), .val (.ref b37), .val (.int (p2 &&& (7 : Int32))), .val (.ref b60), .unset] [(.int ca1), (.int ca0), (.int va)])) t
          refine XS.iload X62.here hx rfl (hb hby at_135) rfl ?_
          show Steps p.tables e below (T62.setTop (mkF m 137 #[.val (.int p0), .val (.int p1), .val (.int p2), .val (.int va), .val (.int ca0), .val (.int ca1), .val (.int ca2), .val (.int (0 : Int32)), .val (.int cb0), .val (.int cb1), .val (.int cb2), .val (.ref b36), .val (.ref b37), .val (.int (p2 &&& (7 : Int32))), .val (.ref b60), .unset] [(.int ca2), (.int ca1), (.int ca0), (.int va)])) t
          refine XS.iload X62.here hx rfl (hb hby at_137) rfl ?_
          show Steps p.tables e below (T62.setTop (mkF m 139 #[.val (.int p0), .val (.int p1), .val (.int p2), .val (.int va), .val (.int ca0), .val (.int ca1), .val (.int ca2), .val (.int (0 : Int32)), .val (.int cb0), .val (.int cb1), .val (.int cb2), .val (.ref b36), .val (.ref b37), .val (.int (p2 &&& (7 : Int32))), .val (.ref b60), .unset] [(.int (0 : Int32)), (.int ca2), (.int ca1), (.int ca0), (.int va)])) t
          refine XS.iload X62.here hx rfl (hb hby at_139) rfl ?_
          show Steps p.tables e below (T62.setTop (mkF m 141 #[.val (.int p0), .val (.int p1), .val (.int p2), .val (.int va), .val (.int ca0), .val (.int ca1), .val (.int ca2), .val (.int (0 : Int32)), .val (.int cb0), .val (.int cb1), .val (.int cb2), .val (.ref b36), .val (.ref b37), .val (.int (p2 &&& (7 : Int32))), .val (.ref b60), .unset] [(.int cb0), (.int (0 : Int32)), (.int ca2), (.int ca1), (.int ca0), (.int va)])) t
          refine XS.iload X62.here hx rfl (hb hby at_141) rfl ?_
          show Steps p.tables e below (T62.setTop (mkF m 143 #[.val (.int p0), .val (.int p1), .val (.int p2), .val (.int va), .val (.int ca0), .val (.int ca1), .val (.int ca2), .val (.int (0 : Int32)), .val (.int cb0), .val (.int cb1), .val (.int cb2), .val (.ref b36), .val (.ref b37), .val (.int (p2 &&& (7 : Int32))), .val (.ref b60), .unset] [(.int cb1), (.int cb0), (.int (0 : Int32)), (.int ca2), (.int ca1), (.int ca0), (.int va)])) t
          refine XS.iload X62.here hx rfl (hb hby at_143) rfl ?_
          exact kt
        obtain ⟨_, _, ⟨T63, L63, k63, n63⟩, -, X63, ⟨Lc63, hQ63, l63, y63, z63⟩, st63⟩ := Jvm.LawKit.callS X62 hx (y := (⟨"com/example/corollary/corollary/model/NamedClassEqualsPinLaw", "sameStr", "(ICCCICCC)Z"⟩ : MethodName)) hown (mvT hZ (hw _ (List.mem_of_getElem? (i := 75) rfl))) (mvT hZ (hw _ (List.mem_of_getElem? (i := 76) rfl))) (mvT hZ (hw _ (List.mem_of_getElem? (i := 2) rfl))) (mvT hZ (hw _ (List.mem_of_getElem? (i := 77) rfl))) (by decide) (backOf (W := 0) (rm14 l Z aw hw [] va ca0 ca1 ca2 (0 : Int32) cb0 cb1 cb2 T62.heap n0 (Nat.le_trans Z0 K62.1) ) hZ (hw _ (List.mem_of_getElem? (i := 77) rfl)) (hw _ (List.mem_of_getElem? (i := 2) rfl)) (by decide) (by decide)) (g := (mkF m 145 #[.val (.int p0), .val (.int p1), .val (.int p2), .val (.int va), .val (.int ca0), .val (.int ca1), .val (.int ca2), .val (.int (0 : Int32)), .val (.int cb0), .val (.int cb1), .val (.int cb2), .val (.ref b36), .val (.ref b37), .val (.int (p2 &&& (7 : Int32))), .val (.ref b60), .unset] [(.int cb2), (.int cb1), (.int cb0), (.int (0 : Int32)), (.int ca2), (.int ca1), (.int ca0), (.int va)])) rfl (by rw [hml]; rfl) (argsL := [(.int va), (.int ca0), (.int ca1), (.int ca2), (.int (0 : Int32)), (.int cb0), (.int cb1), (.int cb2)]) (rest := []) (lenOf pd_13 rfl) rfl (by show 2 * 0 + _ ≤ _; exact Nat.le_of_eq rfl) (hb hby at_145) (fun _ _ => ⟨rfl, rfl, (by decide : 13 + 0 ≤ _), (by decide : 52 + 0 ≤ _)⟩)
        dsimp only [Pt.U, Pt.locs, Pt.cells, Pt.slots] at X63 l63 y63 z63 st63 hQ63
        subst l63 y63 z63
        obtain ⟨rfl, N63q, e63⟩ := hQ63
        have N63 := Fr.app N62 N63q
        refine own_by (A' := T63.setTop (mkF m 148 #[.val (.int p0), .val (.int p1), .val (.int p2), .val (.int va), .val (.int ca0), .val (.int ca1), .val (.int ca2), .val (.int (0 : Int32)), .val (.int cb0), .val (.int cb1), .val (.int cb2), .val (.ref b36), .val (.ref b37), .val (.int (p2 &&& (7 : Int32))), .val (.ref b60), .unset] [(.int (own_f14 va ca0 ca1 ca2 (0 : Int32) cb0 cb1 cb2))])) (fun t kt => st63 t kt) ?_
        refine own_by (A' := T63.setTop (mkF m 258 #[.val (.int p0), .val (.int p1), .val (.int p2), .val (.int va), .val (.int ca0), .val (.int ca1), .val (.int ca2), .val (.int (0 : Int32)), .val (.int cb0), .val (.int cb1), .val (.int cb2), .val (.ref b36), .val (.ref b37), .val (.int (p2 &&& (7 : Int32))), .val (.ref b60), .val (.int (own_f14 va ca0 ca1 ca2 (0 : Int32) cb0 cb1 cb2))] [(.ref b60), (.ref b37)])) (fun t kt => ?_) ?_
        · show Steps p.tables e below (T63.setTop (mkF m 148 #[.val (.int p0), .val (.int p1), .val (.int p2), .val (.int va), .val (.int ca0), .val (.int ca1), .val (.int ca2), .val (.int (0 : Int32)), .val (.int cb0), .val (.int cb1), .val (.int cb2), .val (.ref b36), .val (.ref b37), .val (.int (p2 &&& (7 : Int32))), .val (.ref b60), .unset] [(.int (own_f14 va ca0 ca1 ca2 (0 : Int32) cb0 cb1 cb2))])) t
          refine XS.istore X63.here hx rfl (hb hby at_148) rfl (l' := #[.val (.int p0), .val (.int p1), .val (.int p2), .val (.int va), .val (.int ca0), .val (.int ca1), .val (.int ca2), .val (.int (0 : Int32)), .val (.int cb0), .val (.int cb1), .val (.int cb2), .val (.ref b36), .val (.ref b37), .val (.int (p2 &&& (7 : Int32))), .val (.ref b60), .val (.int (own_f14 va ca0 ca1 ca2 (0 : Int32) cb0 cb1 cb2))]) rfl ?_
          show Steps p.tables e below (T63.setTop (mkF m 150 #[.val (.int p0), .val (.int p1), .val (.int p2), .val (.int va), .val (.int ca0), .val (.int ca1), .val (.int ca2), .val (.int (0 : Int32)), .val (.int cb0), .val (.int cb1), .val (.int cb2), .val (.ref b36), .val (.ref b37), .val (.int (p2 &&& (7 : Int32))), .val (.ref b60), .val (.int (own_f14 va ca0 ca1 ca2 (0 : Int32) cb0 cb1 cb2))] [])) t
          refine XS.goto X63.here hx rfl (pc0 := 150) (pc' := 254) rfl (hb hby at_150) (by decide) (by decide) ?_
          show Steps p.tables e below (T63.setTop (mkF m 254 #[.val (.int p0), .val (.int p1), .val (.int p2), .val (.int va), .val (.int ca0), .val (.int ca1), .val (.int ca2), .val (.int (0 : Int32)), .val (.int cb0), .val (.int cb1), .val (.int cb2), .val (.ref b36), .val (.ref b37), .val (.int (p2 &&& (7 : Int32))), .val (.ref b60), .val (.int (own_f14 va ca0 ca1 ca2 (0 : Int32) cb0 cb1 cb2))] [])) t
          refine XS.aload X63.here hx rfl (hb hby at_254) rfl rfl ?_
          show Steps p.tables e below (T63.setTop (mkF m 256 #[.val (.int p0), .val (.int p1), .val (.int p2), .val (.int va), .val (.int ca0), .val (.int ca1), .val (.int ca2), .val (.int (0 : Int32)), .val (.int cb0), .val (.int cb1), .val (.int cb2), .val (.ref b36), .val (.ref b37), .val (.int (p2 &&& (7 : Int32))), .val (.ref b60), .val (.int (own_f14 va ca0 ca1 ca2 (0 : Int32) cb0 cb1 cb2))] [(.ref b37)])) t
          refine XS.aload X63.here hx rfl (hb hby at_256) rfl rfl ?_
          exact kt
        obtain ⟨cq64, kq64, q64a, q64b, q64c⟩ := isOf hZ e63 (((GE38.ext E60).keep Kq61).keep Kq62)
        obtain ⟨_, _, ⟨T64, L64, k64, n64⟩, -, X64, ⟨Lc64, hQ64, l64, y64, z64⟩, st64⟩ := X63.virtualBack hx (y := (⟨"com/example/corollary/corollary/model/NamedClass", "equals", "(Ljava/lang/Object;)Z"⟩ : MethodName)) (z := (⟨"com/example/corollary/corollary/model/NamedClass", "equals", "(Ljava/lang/Object;)Z"⟩ : MethodName)) hown (mvT hZ (hw _ (List.mem_of_getElem? (i := 45) rfl))) (mvT hZ (hw _ (List.mem_of_getElem? (i := 46) rfl))) (notFace_of_selects (args := #[]) (mvT hZ (hw _ (List.mem_of_getElem? (i := 48) rfl)))) (mvT hZ (hw _ (List.mem_of_getElem? (i := 48) rfl))) (mvT hZ (hw _ (List.mem_of_getElem? (i := 47) rfl))) (by decide) (backOf (W := 0) (rmeqN l Z aw hw [] b37 b60 b36 b61 (own_cs va ca0 ca1 ca2) (own_cs (0 : Int32) cb0 cb1 cb2) G1 T62.heap n0 (Nat.le_trans Z0 K62.1) (((GF38.ext E60).keep Kq61 nin0).keep Kq62 (ninS (Nat.ne_of_lt (Nat.lt_of_lt_of_le (GE38).lt (Nat.le_of_eq g60.symm))) nin0)) GE62 GF62 (own_OSkeep1 (own_OSkeep0 (own_OSext (own_OSkeep1 (own_OSext GO36 E37) Kq38 A37 (hw _ (List.mem_of_getElem? (i := 27) rfl)) (by decide)) E60) Kq61) Kq62 (A60.keep Kq61) (hw _ (List.mem_of_getElem? (i := 27) rfl)) (by decide)) (own_OSkeep1 GP61 Kq62 (A60.keep Kq61) (hw _ (List.mem_of_getElem? (i := 27) rfl)) (by decide)) (own_csb _ hca0 hca1 hca2) (own_csb _ hcb0 hcb1 hcb2) (own_csl va ca0 ca1 ca2) (own_csl (0 : Int32) cb0 cb1 cb2) (own_staKeep S_cs K62) P5) hZ (hw _ (List.mem_of_getElem? (i := 49) rfl)) (hw _ (List.mem_of_getElem? (i := 28) rfl)) (by decide) (by decide)) q64a q64c (g := (mkF m 258 #[.val (.int p0), .val (.int p1), .val (.int p2), .val (.int va), .val (.int ca0), .val (.int ca1), .val (.int ca2), .val (.int (0 : Int32)), .val (.int cb0), .val (.int cb1), .val (.int cb2), .val (.ref b36), .val (.ref b37), .val (.int (p2 &&& (7 : Int32))), .val (.ref b60), .val (.int (own_f14 va ca0 ca1 ca2 (0 : Int32) cb0 cb1 cb2))] [(.ref b60), (.ref b37)])) rfl (by rw [hml]; rfl) (Steps.refl _) (argsL := [(.ref b60)]) (rest := []) (lenOf pd_10 rfl) rfl (by show 2 * 0 + _ ≤ _; exact Nat.le_of_eq rfl) (hb hby at_258) (fun _ _ => ⟨rfl, e63, (by decide : 13 + 0 ≤ _), (by decide : 52 + 0 ≤ _)⟩)
        dsimp only [Pt.U, Pt.locs, Pt.cells, Pt.slots] at X64 l64 y64 z64 st64 hQ64
        subst l64 y64 z64
        obtain ⟨rfl, N64q, e64⟩ := hQ64
        have N64 := Fr.app N63 N64q
        refine own_by (A' := T64.setTop (mkF m 261 #[.val (.int p0), .val (.int p1), .val (.int p2), .val (.int va), .val (.int ca0), .val (.int ca1), .val (.int ca2), .val (.int (0 : Int32)), .val (.int cb0), .val (.int cb1), .val (.int cb2), .val (.ref b36), .val (.ref b37), .val (.int (p2 &&& (7 : Int32))), .val (.ref b60), .val (.int (own_f14 va ca0 ca1 ca2 (0 : Int32) cb0 cb1 cb2))] [(.int (own_eqr (own_cs va ca0 ca1 ca2) (own_cs (0 : Int32) cb0 cb1 cb2)))])) (fun t kt => st64.trans kt) ?_
        refine own_by (A' := T64.setTop (mkF m 263 #[.val (.int p0), .val (.int p1), .val (.int p2), .val (.int va), .val (.int ca0), .val (.int ca1), .val (.int ca2), .val (.int (0 : Int32)), .val (.int cb0), .val (.int cb1), .val (.int cb2), .val (.ref b36), .val (.ref b37), .val (.int (p2 &&& (7 : Int32))), .val (.ref b60), .val (.int (own_f14 va ca0 ca1 ca2 (0 : Int32) cb0 cb1 cb2))] [(.int (own_f14 va ca0 ca1 ca2 (0 : Int32) cb0 cb1 cb2)), (.int (own_eqr (own_cs va ca0 ca1 ca2) (own_cs (0 : Int32) cb0 cb1 cb2)))])) (fun t kt => ?_) ?_
        · show Steps p.tables e below (T64.setTop (mkF m 261 #[.val (.int p0), .val (.int p1), .val (.int p2), .val (.int va), .val (.int ca0), .val (.int ca1), .val (.int ca2), .val (.int (0 : Int32)), .val (.int cb0), .val (.int cb1), .val (.int cb2), .val (.ref b36), .val (.ref b37), .val (.int (p2 &&& (7 : Int32))), .val (.ref b60), .val (.int (own_f14 va ca0 ca1 ca2 (0 : Int32) cb0 cb1 cb2))] [(.int (own_eqr (own_cs va ca0 ca1 ca2) (own_cs (0 : Int32) cb0 cb1 cb2)))])) t
          refine XS.iload X64.here hx rfl (hb hby at_261) rfl ?_
          exact kt
        have hc263_65 : (own_eqr (own_cs va ca0 ca1 ca2) (own_cs (0 : Int32) cb0 cb1 cb2)) = (own_f14 va ca0 ca1 ca2 (0 : Int32) cb0 cb1 cb2) := own_final h4va (Or.inl rfl) _ _ _ _ _ _
        refine own_by (A' := T64.setTop (mkF m 271 #[.val (.int p0), .val (.int p1), .val (.int p2), .val (.int va), .val (.int ca0), .val (.int ca1), .val (.int ca2), .val (.int (0 : Int32)), .val (.int cb0), .val (.int cb1), .val (.int cb2), .val (.ref b36), .val (.ref b37), .val (.int (p2 &&& (7 : Int32))), .val (.ref b60), .val (.int (own_f14 va ca0 ca1 ca2 (0 : Int32) cb0 cb1 cb2))] [(.int (1 : Int32))])) (fun t kt => ?_) ?_
        · show Steps p.tables e below (T64.setTop (mkF m 263 #[.val (.int p0), .val (.int p1), .val (.int p2), .val (.int va), .val (.int ca0), .val (.int ca1), .val (.int ca2), .val (.int (0 : Int32)), .val (.int cb0), .val (.int cb1), .val (.int cb2), .val (.ref b36), .val (.ref b37), .val (.int (p2 &&& (7 : Int32))), .val (.ref b60), .val (.int (own_f14 va ca0 ca1 ca2 (0 : Int32) cb0 cb1 cb2))] [(.int (own_f14 va ca0 ca1 ca2 (0 : Int32) cb0 cb1 cb2)), (.int (own_eqr (own_cs va ca0 ca1 ca2) (own_cs (0 : Int32) cb0 cb1 cb2)))])) t
          refine XS.icmpNo X64.here hx rfl (hb hby at_263) rfl (teq hc263_65).2 ?_
          show Steps p.tables e below (T64.setTop (mkF m 266 #[.val (.int p0), .val (.int p1), .val (.int p2), .val (.int va), .val (.int ca0), .val (.int ca1), .val (.int ca2), .val (.int (0 : Int32)), .val (.int cb0), .val (.int cb1), .val (.int cb2), .val (.ref b36), .val (.ref b37), .val (.int (p2 &&& (7 : Int32))), .val (.ref b60), .val (.int (own_f14 va ca0 ca1 ca2 (0 : Int32) cb0 cb1 cb2))] [])) t
          refine XS.iconst X64.here hx rfl (hb hby at_266) ?_
          show Steps p.tables e below (T64.setTop (mkF m 267 #[.val (.int p0), .val (.int p1), .val (.int p2), .val (.int va), .val (.int ca0), .val (.int ca1), .val (.int ca2), .val (.int (0 : Int32)), .val (.int cb0), .val (.int cb1), .val (.int cb2), .val (.ref b36), .val (.ref b37), .val (.int (p2 &&& (7 : Int32))), .val (.ref b60), .val (.int (own_f14 va ca0 ca1 ca2 (0 : Int32) cb0 cb1 cb2))] [(.int (1 : Int32))])) t
          refine XS.goto X64.here hx rfl (pc0 := 267) (pc' := 271) rfl (hb hby at_267) (by decide) (by decide) ?_
          exact kt
        obtain ⟨fs, hr, hrun, hended, hEnd⟩ := X64.leaveW (s := s) hS62 (by rw [e64]; exact (Nat.le_refl T62.heap.size)) (v := some (.int (1 : Int32))) (fun h => by rw [Bd.returns] at h; cases h)
        refine ⟨_, _, ?_, hrun, hended, _, _, rfl, ?_, hEnd.1, hEnd.2.1, hEnd.2.2.1, hEnd.2.2.2.mono (by decide) (by decide)⟩
        · exact retN X64 hx (t := .boolean) Bd.returns (by simp) (hb hby at_271) hr
        · show Q0 Z p0 p1 p2 G1 h0 n0 _ T64.heap _ T64.vm
          rw [e64]
          exact ⟨rfl, N64⟩
      · skip
        refine own_by (A' := T60.setTop (mkF m 122 #[.val (.int p0), .val (.int p1), .val (.int p2), .val (.int va), .val (.int ca0), .val (.int ca1), .val (.int ca2), .val (.int vb), .val (.int cb0), .val (.int cb1), .val (.int cb2), .val (.ref b36), .val (.ref b37), .val (.int (p2 &&& (7 : Int32))), .unset, .unset] [(.int cb2), (.int cb1), (.int cb0), (.int vb), (.ref b60), (.ref b60)])) (fun t kt => ?_) ?_
        · show Steps p.tables e below (T60.setTop (mkF m 114 #[.val (.int p0), .val (.int p1), .val (.int p2), .val (.int va), .val (.int ca0), .val (.int ca1), .val (.int ca2), .val (.int vb), .val (.int cb0), .val (.int cb1), .val (.int cb2), .val (.ref b36), .val (.ref b37), .val (.int (p2 &&& (7 : Int32))), .unset, .unset] [(.ref b60), (.ref b60)])) t
          refine XS.iload X60.here hx rfl (hb hby at_114) rfl ?_
          show Steps p.tables e below (T60.setTop (mkF m 116 #[.val (.int p0), .val (.int p1), .val (.int p2), .val (.int va), .val (.int ca0), .val (.int ca1), .val (.int ca2), .val (.int vb), .val (.int cb0), .val (.int cb1), .val (.int cb2), .val (.ref b36), .val (.ref b37), .val (.int (p2 &&& (7 : Int32))), .unset, .unset] [(.int vb), (.ref b60), (.ref b60)])) t
          refine XS.iload X60.here hx rfl (hb hby at_116) rfl ?_
          show Steps p.tables e below (T60.setTop (mkF m 118 #[.val (.int p0), .val (.int p1), .val (.int p2), .val (.int va), .val (.int ca0), .val (.int ca1), .val (.int ca2), .val (.int vb), .val (.int cb0), .val (.int cb1), .val (.int cb2), .val (.ref b36), .val (.ref b37), .val (.int (p2 &&& (7 : Int32))), .unset, .unset] [(.int cb0), (.int vb), (.ref b60), (.ref b60)])) t
          refine XS.iload X60.here hx rfl (hb hby at_118) rfl ?_
          show Steps p.tables e below (T60.setTop (mkF m 120 #[.val (.int p0), .val (.int p1), .val (.int p2), .val (.int va), .val (.int ca0), .val (.int ca1), .val (.int ca2), .val (.int vb), .val (.int cb0), .val (.int cb1), .val (.int cb2), .val (.ref b36), .val (.ref b37), .val (.int (p2 &&& (7 : Int32))), .unset, .unset] [(.int cb1), (.int cb0), (.int vb), (.ref b60), (.ref b60)])) t
          refine XS.iload X60.here hx rfl (hb hby at_120) rfl ?_
          exact kt
        obtain ⟨_, _, ⟨T66, L66, k66, n66⟩, -, X66, ⟨Lc66, hQ66, l66, y66, z66⟩, st66⟩ := Jvm.LawKit.callS X60 hx (y := (⟨"com/example/corollary/corollary/model/NamedClassEqualsPinLaw", "mk", "(ICCC)Ljava/lang/String;"⟩ : MethodName)) hown (mvT hZ (hw _ (List.mem_of_getElem? (i := 0) rfl))) (mvT hZ (hw _ (List.mem_of_getElem? (i := 1) rfl))) (mvT hZ (hw _ (List.mem_of_getElem? (i := 2) rfl))) (mvT hZ (hw _ (List.mem_of_getElem? (i := 3) rfl))) (by decide) (backOf (W := 2) (rmmkN l Z aw hw [] vb cb0 cb1 cb2 G1 h60 n0 (Nat.le_trans Z0 K60.1) hvb hcb0 hcb1 hcb2 (own_staKeep S_cs K60) P5) hZ (hw _ (List.mem_of_getElem? (i := 3) rfl)) (hw _ (List.mem_of_getElem? (i := 2) rfl)) (by decide) (by decide)) (g := (mkF m 122 #[.val (.int p0), .val (.int p1), .val (.int p2), .val (.int va), .val (.int ca0), .val (.int ca1), .val (.int ca2), .val (.int vb), .val (.int cb0), .val (.int cb1), .val (.int cb2), .val (.ref b36), .val (.ref b37), .val (.int (p2 &&& (7 : Int32))), .unset, .unset] [(.int cb2), (.int cb1), (.int cb0), (.int vb), (.ref b60), (.ref b60)])) rfl (by rw [hml]; rfl) (argsL := [(.int vb), (.int cb0), (.int cb1), (.int cb2)]) (rest := [(.ref b60), (.ref b60)]) (lenOf pd_11 rfl) rfl (by show 2 * 0 + _ ≤ _; exact Nat.le_of_eq rfl) (hb hby at_122) (fun _ _ => ⟨rfl, e60, (by decide : 7 + 3 ≤ _), (by decide : 28 + 10 ≤ _)⟩)
        dsimp only [Pt.U, Pt.locs, Pt.cells, Pt.slots] at X66 l66 y66 z66 st66 hQ66
        subst l66 y66 z66
        obtain ⟨b66, rfl, N66q, Kq66, GO66⟩ := hQ66
        have N66 := Fr.app N38 N66q
        have gr66 := Nat.le_trans gr60 Kq66.1
        have K66 : Keep h0 T66.heap [] := K60.trans Kq66 all0
        obtain ⟨_, _, GE66, _⟩ := id GO66
        refine own_by (A' := T66.setTop (mkF m 125 #[.val (.int p0), .val (.int p1), .val (.int p2), .val (.int va), .val (.int ca0), .val (.int ca1), .val (.int ca2), .val (.int vb), .val (.int cb0), .val (.int cb1), .val (.int cb2), .val (.ref b36), .val (.ref b37), .val (.int (p2 &&& (7 : Int32))), .unset, .unset] [(.ref b66), (.ref b60), (.ref b60)])) (fun t kt => st66 t kt) ?_
        obtain ⟨_, _, ⟨T67, L67, k67, n67⟩, -, X67, hS67, hgr67, ⟨Lc67, hQ67, l67, y67, z67⟩, st67⟩ := X66.specialBackS hx (y := (⟨"com/example/corollary/corollary/model/NamedClass", "<init>", "(Ljava/lang/String;)V"⟩ : MethodName)) rfl hown (mvT hZ (hw _ (List.mem_of_getElem? (i := 29) rfl))) (mvT hZ (hw _ (List.mem_of_getElem? (i := 30) rfl))) (mvT hZ (hw _ (List.mem_of_getElem? (i := 31) rfl))) (by decide) (own_backOfV (W := 1) (rmnew5S l Z aw hw [] b60 b66 T66.heap n0 (Nat.le_trans Z0 K66.1) (A60.keep Kq66) (F_iri_b60.keep Kq66 nin0) g_b60) hZ (fun vm q => trivial) (hw _ (List.mem_of_getElem? (i := 31) rfl)) (hw _ (List.mem_of_getElem? (i := 28) rfl)) (by decide) (by decide)) (g := (mkF m 125 #[.val (.int p0), .val (.int p1), .val (.int p2), .val (.int va), .val (.int ca0), .val (.int ca1), .val (.int ca2), .val (.int vb), .val (.int cb0), .val (.int cb1), .val (.int cb2), .val (.ref b36), .val (.ref b37), .val (.int (p2 &&& (7 : Int32))), .unset, .unset] [(.ref b66), (.ref b60), (.ref b60)])) rfl (by rw [hml]; rfl) (Steps.refl _) (a := b60) (argsL := [(.ref b66)]) (rest := [(.ref b60)]) (lenOf pd_12 rfl) rfl (by show 2 * 0 + _ ≤ _; exact Nat.le_of_eq rfl) (hb hby at_125) (fun _ _ => ⟨rfl, rfl, (by decide : 10 + 2 ≤ _), (by decide : 38 + 16 ≤ _)⟩)
        dsimp only [Pt.U, Pt.locs, Pt.cells, Pt.slots] at hS67 hgr67
        dsimp only [Pt.U, Pt.locs, Pt.cells, Pt.slots] at X67 l67 y67 z67 st67 hQ67
        subst l67 y67 z67
        have hSl67 := hS67
        have hS67 : s.Since T67.vm T67.heap.size := Jvm.RoadKit.foldS (s := s) hS38 (by exact gr66) hSl67 hgr67
        have hown : (s.setVm T67.vm).vm.findClass "com/example/corollary/corollary/model/NamedClassEqualsPinLaw" = some m.cls := by
          show T67.vm.findClass _ = _
          rw [hSl67.1.alike.findClass]; exact hown
        have hZ : Z.Warmed39 (s.setVm T67.vm).vm := State.Warmed39.trans hZ hSl67.1
        obtain ⟨rfl, N67q, Kq67, GE67, GF67⟩ := hQ67
        have N67 := Fr.app N66 N67q
        have gr67 := Nat.le_trans gr66 Kq67.1
        have K67 : Keep h0 T67.heap [] := K66.trans Kq67 (allS (Or.inr sz_b60) all0)
        refine own_by (A' := T67.setTop (mkF m 128 #[.val (.int p0), .val (.int p1), .val (.int p2), .val (.int va), .val (.int ca0), .val (.int ca1), .val (.int ca2), .val (.int vb), .val (.int cb0), .val (.int cb1), .val (.int cb2), .val (.ref b36), .val (.ref b37), .val (.int (p2 &&& (7 : Int32))), .unset, .unset] [(.ref b60)])) (fun t kt => st67.trans kt) ?_
        refine own_by (A' := T67.setTop (mkF m 145 #[.val (.int p0), .val (.int p1), .val (.int p2), .val (.int va), .val (.int ca0), .val (.int ca1), .val (.int ca2), .val (.int vb), .val (.int cb0), .val (.int cb1), .val (.int cb2), .val (.ref b36), .val (.ref b37), .val (.int (p2 &&& (7 : Int32))), .val (.ref b60), .unset] [(.int cb2), (.int cb1), (.int cb0), (.int vb), (.int ca2), (.int ca1), (.int ca0), (.int va)])) (fun t kt => ?_) ?_
        · show Steps p.tables e below (T67.setTop (mkF m 128 #[.val (.int p0), .val (.int p1), .val (.int p2), .val (.int va), .val (.int ca0), .val (.int ca1), .val (.int ca2), .val (.int vb), .val (.int cb0), .val (.int cb1), .val (.int cb2), .val (.ref b36), .val (.ref b37), .val (.int (p2 &&& (7 : Int32))), .unset, .unset] [(.ref b60)])) t
          refine XS.astore X67.here hx rfl (hb hby at_128) rfl rfl (l' := #[.val (.int p0), .val (.int p1), .val (.int p2), .val (.int va), .val (.int ca0), .val (.int ca1), .val (.int ca2), .val (.int vb), .val (.int cb0), .val (.int cb1), .val (.int cb2), .val (.ref b36), .val (.ref b37), .val (.int (p2 &&& (7 : Int32))), .val (.ref b60), .unset]) rfl ?_
          show Steps p.tables e below (T67.setTop (mkF m 130 #[.val (.int p0), .val (.int p1), .val (.int p2), .val (.int va), .val (.int ca0), .val (.int ca1), .val (.int ca2), .val (.int vb), .val (.int cb0), .val (.int cb1), .val (.int cb2), .val (.ref b36), .val (.ref b37), .val (.int (p2 &&& (7 : Int32))), .val (.ref b60), .unset] [])) t
          refine XS.iloadN X67.here hx rfl (hb hby at_130) rfl ?_
          show Steps p.tables e below (T67.setTop (mkF m 131 #[.val (.int p0), .val (.int p1), .val (.int p2), .val (.int va), .val (.int ca0), .val (.int ca1), .val (.int ca2), .val (.int vb), .val (.int cb0), .val (.int cb1), .val (.int cb2), .val (.ref b36), .val (.ref b37), .val (.int (p2 &&& (7 : Int32))), .val (.ref b60), .unset] [(.int va)])) t
          refine XS.iload X67.here hx rfl (hb hby at_131) rfl ?_
          show Steps p.tables e below (T67.setTop (mkF m 133 #[.val (.int p0), .val (.int p1), .val (.int p2), .val (.int va), .val (.int ca0), .val (.int ca1), .val (.int ca2), .val (.int vb), .val (.int cb0), .val (.int cb1), .val (.int cb2), .val (.ref b36), .val (.ref b37), .val (.int (p2 &&& (7 : Int32))), .val (.ref b60), .unset] [(.int ca0), (.int va)])) t
          refine XS.iload X67.here hx rfl (hb hby at_133) rfl ?_
          show Steps p.tables e below (T67.setTop (mkF m 135 #[.val (.int p0), .val (.int p1), .val (.int p2), .val (.int va), .val (.int ca0), .val (.int ca1), .val (.int ca2), .val (.int vb), .val (.int cb0), .val (.int cb1), .val (.int cb2), .val (.ref b36), .val (.ref b37), .val (.int (p2 &&& (7 : Int32))), .val (.ref b60), .unset] [(.int ca1), (.int ca0), (.int va)])) t
          refine XS.iload X67.here hx rfl (hb hby at_135) rfl ?_
          show Steps p.tables e below (T67.setTop (mkF m 137 #[.val (.int p0), .val (.int p1), .val (.int p2), .val (.int va), .val (.int ca0), .val (.int ca1), .val (.int ca2), .val (.int vb), .val (.int cb0), .val (.int cb1), .val (.int cb2), .val (.ref b36), .val (.ref b37), .val (.int (p2 &&& (7 : Int32))), .val (.ref b60), .unset] [(.int ca2), (.int ca1), (.int ca0), (.int va)])) t
          refine XS.iload X67.here hx rfl (hb hby at_137) rfl ?_
          show Steps p.tables e below (T67.setTop (mkF m 139 #[.val (.int p0), .val (.int p1), .val (.int p2), .val (.int va), .val (.int ca0), .val (.int ca1), .val (.int ca2), .val (.int vb), .val (.int cb0), .val (.int cb1), .val (.int cb2), .val (.ref b36), .val (.ref b37), .val (.int (p2 &&& (7 : Int32))), .val (.ref b60), .unset] [(.int vb), (.int ca2), (.int ca1), (.int ca0), (.int va)])) t
          refine XS.iload X67.here hx rfl (hb hby at_139) rfl ?_
          show Steps p.tables e below (T67.setTop (mkF m 141 #[.val (.int p0), .val (.int p1), .val (.int p2), .val (.int va), .val (.int ca0), .val (.int ca1), .val (.int ca2), .val (.int vb), .val (.int cb0), .val (.int cb1), .val (.int cb2), .val (.ref b36), .val (.ref b37), .val (.int (p2 &&& (7 : Int32))), .val (.ref b60), .unset] [(.int cb0), (.int vb), (.int ca2), (.int ca1), (.int ca0), (.int va)])) t
          refine XS.iload X67.here hx rfl (hb hby at_141) rfl ?_
          show Steps p.tables e below (T67.setTop (mkF m 143 #[.val (.int p0), .val (.int p1), .val (.int p2), .val (.int va), .val (.int ca0), .val (.int ca1), .val (.int ca2), .val (.int vb), .val (.int cb0), .val (.int cb1), .val (.int cb2), .val (.ref b36), .val (.ref b37), .val (.int (p2 &&& (7 : Int32))), .val (.ref b60), .unset] [(.int cb1), (.int cb0), (.int vb), (.int ca2), (.int ca1), (.int ca0), (.int va)])) t
          refine XS.iload X67.here hx rfl (hb hby at_143) rfl ?_
          exact kt
        obtain ⟨_, _, ⟨T68, L68, k68, n68⟩, -, X68, ⟨Lc68, hQ68, l68, y68, z68⟩, st68⟩ := Jvm.LawKit.callS X67 hx (y := (⟨"com/example/corollary/corollary/model/NamedClassEqualsPinLaw", "sameStr", "(ICCCICCC)Z"⟩ : MethodName)) hown (mvT hZ (hw _ (List.mem_of_getElem? (i := 75) rfl))) (mvT hZ (hw _ (List.mem_of_getElem? (i := 76) rfl))) (mvT hZ (hw _ (List.mem_of_getElem? (i := 2) rfl))) (mvT hZ (hw _ (List.mem_of_getElem? (i := 77) rfl))) (by decide) (backOf (W := 0) (rm14 l Z aw hw [] va ca0 ca1 ca2 vb cb0 cb1 cb2 T67.heap n0 (Nat.le_trans Z0 K67.1) ) hZ (hw _ (List.mem_of_getElem? (i := 77) rfl)) (hw _ (List.mem_of_getElem? (i := 2) rfl)) (by decide) (by decide)) (g := (mkF m 145 #[.val (.int p0), .val (.int p1), .val (.int p2), .val (.int va), .val (.int ca0), .val (.int ca1), .val (.int ca2), .val (.int vb), .val (.int cb0), .val (.int cb1), .val (.int cb2), .val (.ref b36), .val (.ref b37), .val (.int (p2 &&& (7 : Int32))), .val (.ref b60), .unset] [(.int cb2), (.int cb1), (.int cb0), (.int vb), (.int ca2), (.int ca1), (.int ca0), (.int va)])) rfl (by rw [hml]; rfl) (argsL := [(.int va), (.int ca0), (.int ca1), (.int ca2), (.int vb), (.int cb0), (.int cb1), (.int cb2)]) (rest := []) (lenOf pd_13 rfl) rfl (by show 2 * 0 + _ ≤ _; exact Nat.le_of_eq rfl) (hb hby at_145) (fun _ _ => ⟨rfl, rfl, (by decide : 12 + 0 ≤ _), (by decide : 54 + 0 ≤ _)⟩)
        dsimp only [Pt.U, Pt.locs, Pt.cells, Pt.slots] at X68 l68 y68 z68 st68 hQ68
        subst l68 y68 z68
        obtain ⟨rfl, N68q, e68⟩ := hQ68
        have N68 := Fr.app N67 N68q
        refine own_by (A' := T68.setTop (mkF m 148 #[.val (.int p0), .val (.int p1), .val (.int p2), .val (.int va), .val (.int ca0), .val (.int ca1), .val (.int ca2), .val (.int vb), .val (.int cb0), .val (.int cb1), .val (.int cb2), .val (.ref b36), .val (.ref b37), .val (.int (p2 &&& (7 : Int32))), .val (.ref b60), .unset] [(.int (own_f14 va ca0 ca1 ca2 vb cb0 cb1 cb2))])) (fun t kt => st68 t kt) ?_
        refine own_by (A' := T68.setTop (mkF m 258 #[.val (.int p0), .val (.int p1), .val (.int p2), .val (.int va), .val (.int ca0), .val (.int ca1), .val (.int ca2), .val (.int vb), .val (.int cb0), .val (.int cb1), .val (.int cb2), .val (.ref b36), .val (.ref b37), .val (.int (p2 &&& (7 : Int32))), .val (.ref b60), .val (.int (own_f14 va ca0 ca1 ca2 vb cb0 cb1 cb2))] [(.ref b60), (.ref b37)])) (fun t kt => ?_) ?_
        · show Steps p.tables e below (T68.setTop (mkF m 148 #[.val (.int p0), .val (.int p1), .val (.int p2), .val (.int va), .val (.int ca0), .val (.int ca1), .val (.int ca2), .val (.int vb), .val (.int cb0), .val (.int cb1), .val (.int cb2), .val (.ref b36), .val (.ref b37), .val (.int (p2 &&& (7 : Int32))), .val (.ref b60), .unset] [(.int (own_f14 va ca0 ca1 ca2 vb cb0 cb1 cb2))])) t
          refine XS.istore X68.here hx rfl (hb hby at_148) rfl (l' := #[.val (.int p0), .val (.int p1), .val (.int p2), .val (.int va), .val (.int ca0), .val (.int ca1), .val (.int ca2), .val (.int vb), .val (.int cb0), .val (.int cb1), .val (.int cb2), .val (.ref b36), .val (.ref b37), .val (.int (p2 &&& (7 : Int32))), .val (.ref b60), .val (.int (own_f14 va ca0 ca1 ca2 vb cb0 cb1 cb2))]) rfl ?_
          show Steps p.tables e below (T68.setTop (mkF m 150 #[.val (.int p0), .val (.int p1), .val (.int p2), .val (.int va), .val (.int ca0), .val (.int ca1), .val (.int ca2), .val (.int vb), .val (.int cb0), .val (.int cb1), .val (.int cb2), .val (.ref b36), .val (.ref b37), .val (.int (p2 &&& (7 : Int32))), .val (.ref b60), .val (.int (own_f14 va ca0 ca1 ca2 vb cb0 cb1 cb2))] [])) t
          refine XS.goto X68.here hx rfl (pc0 := 150) (pc' := 254) rfl (hb hby at_150) (by decide) (by decide) ?_
          show Steps p.tables e below (T68.setTop (mkF m 254 #[.val (.int p0), .val (.int p1), .val (.int p2), .val (.int va), .val (.int ca0), .val (.int ca1), .val (.int ca2), .val (.int vb), .val (.int cb0), .val (.int cb1), .val (.int cb2), .val (.ref b36), .val (.ref b37), .val (.int (p2 &&& (7 : Int32))), .val (.ref b60), .val (.int (own_f14 va ca0 ca1 ca2 vb cb0 cb1 cb2))] [])) t
          refine XS.aload X68.here hx rfl (hb hby at_254) rfl rfl ?_
          show Steps p.tables e below (T68.setTop (mkF m 256 #[.val (.int p0), .val (.int p1), .val (.int p2), .val (.int va), .val (.int ca0), .val (.int ca1), .val (.int ca2), .val (.int vb), .val (.int cb0), .val (.int cb1), .val (.int cb2), .val (.ref b36), .val (.ref b37), .val (.int (p2 &&& (7 : Int32))), .val (.ref b60), .val (.int (own_f14 va ca0 ca1 ca2 vb cb0 cb1 cb2))] [(.ref b37)])) t
          refine XS.aload X68.here hx rfl (hb hby at_256) rfl rfl ?_
          exact kt
        obtain ⟨cq69, kq69, q69a, q69b, q69c⟩ := isOf hZ e68 (((GE38.ext E60).keep Kq66).keep Kq67)
        obtain ⟨_, _, ⟨T69, L69, k69, n69⟩, -, X69, ⟨Lc69, hQ69, l69, y69, z69⟩, st69⟩ := X68.virtualBack hx (y := (⟨"com/example/corollary/corollary/model/NamedClass", "equals", "(Ljava/lang/Object;)Z"⟩ : MethodName)) (z := (⟨"com/example/corollary/corollary/model/NamedClass", "equals", "(Ljava/lang/Object;)Z"⟩ : MethodName)) hown (mvT hZ (hw _ (List.mem_of_getElem? (i := 45) rfl))) (mvT hZ (hw _ (List.mem_of_getElem? (i := 46) rfl))) (notFace_of_selects (args := #[]) (mvT hZ (hw _ (List.mem_of_getElem? (i := 48) rfl)))) (mvT hZ (hw _ (List.mem_of_getElem? (i := 48) rfl))) (mvT hZ (hw _ (List.mem_of_getElem? (i := 47) rfl))) (by decide) (backOf (W := 0) (rmeqN l Z aw hw [] b37 b60 b36 b66 (own_cs va ca0 ca1 ca2) (own_cs vb cb0 cb1 cb2) G1 T67.heap n0 (Nat.le_trans Z0 K67.1) (((GF38.ext E60).keep Kq66 nin0).keep Kq67 (ninS (Nat.ne_of_lt (Nat.lt_of_lt_of_le (GE38).lt (Nat.le_of_eq g60.symm))) nin0)) GE67 GF67 (own_OSkeep1 (own_OSkeep0 (own_OSext (own_OSkeep1 (own_OSext GO36 E37) Kq38 A37 (hw _ (List.mem_of_getElem? (i := 27) rfl)) (by decide)) E60) Kq66) Kq67 (A60.keep Kq66) (hw _ (List.mem_of_getElem? (i := 27) rfl)) (by decide)) (own_OSkeep1 GO66 Kq67 (A60.keep Kq66) (hw _ (List.mem_of_getElem? (i := 27) rfl)) (by decide)) (own_csb _ hca0 hca1 hca2) (own_csb _ hcb0 hcb1 hcb2) (own_csl va ca0 ca1 ca2) (own_csl vb cb0 cb1 cb2) (own_staKeep S_cs K67) P5) hZ (hw _ (List.mem_of_getElem? (i := 49) rfl)) (hw _ (List.mem_of_getElem? (i := 28) rfl)) (by decide) (by decide)) q69a q69c (g := (mkF m 258 #[.val (.int p0), .val (.int p1), .val (.int p2), .val (.int va), .val (.int ca0), .val (.int ca1), .val (.int ca2), .val (.int vb), .val (.int cb0), .val (.int cb1), .val (.int cb2), .val (.ref b36), .val (.ref b37), .val (.int (p2 &&& (7 : Int32))), .val (.ref b60), .val (.int (own_f14 va ca0 ca1 ca2 vb cb0 cb1 cb2))] [(.ref b60), (.ref b37)])) rfl (by rw [hml]; rfl) (Steps.refl _) (argsL := [(.ref b60)]) (rest := []) (lenOf pd_10 rfl) rfl (by show 2 * 0 + _ ≤ _; exact Nat.le_of_eq rfl) (hb hby at_258) (fun _ _ => ⟨rfl, e68, (by decide : 12 + 0 ≤ _), (by decide : 54 + 0 ≤ _)⟩)
        dsimp only [Pt.U, Pt.locs, Pt.cells, Pt.slots] at X69 l69 y69 z69 st69 hQ69
        subst l69 y69 z69
        obtain ⟨rfl, N69q, e69⟩ := hQ69
        have N69 := Fr.app N68 N69q
        refine own_by (A' := T69.setTop (mkF m 261 #[.val (.int p0), .val (.int p1), .val (.int p2), .val (.int va), .val (.int ca0), .val (.int ca1), .val (.int ca2), .val (.int vb), .val (.int cb0), .val (.int cb1), .val (.int cb2), .val (.ref b36), .val (.ref b37), .val (.int (p2 &&& (7 : Int32))), .val (.ref b60), .val (.int (own_f14 va ca0 ca1 ca2 vb cb0 cb1 cb2))] [(.int (own_eqr (own_cs va ca0 ca1 ca2) (own_cs vb cb0 cb1 cb2)))])) (fun t kt => st69.trans kt) ?_
        refine own_by (A' := T69.setTop (mkF m 263 #[.val (.int p0), .val (.int p1), .val (.int p2), .val (.int va), .val (.int ca0), .val (.int ca1), .val (.int ca2), .val (.int vb), .val (.int cb0), .val (.int cb1), .val (.int cb2), .val (.ref b36), .val (.ref b37), .val (.int (p2 &&& (7 : Int32))), .val (.ref b60), .val (.int (own_f14 va ca0 ca1 ca2 vb cb0 cb1 cb2))] [(.int (own_f14 va ca0 ca1 ca2 vb cb0 cb1 cb2)), (.int (own_eqr (own_cs va ca0 ca1 ca2) (own_cs vb cb0 cb1 cb2)))])) (fun t kt => ?_) ?_
        · show Steps p.tables e below (T69.setTop (mkF m 261 #[.val (.int p0), .val (.int p1), .val (.int p2), .val (.int va), .val (.int ca0), .val (.int ca1), .val (.int ca2), .val (.int vb), .val (.int cb0), .val (.int cb1), .val (.int cb2), .val (.ref b36), .val (.ref b37), .val (.int (p2 &&& (7 : Int32))), .val (.ref b60), .val (.int (own_f14 va ca0 ca1 ca2 vb cb0 cb1 cb2))] [(.int (own_eqr (own_cs va ca0 ca1 ca2) (own_cs vb cb0 cb1 cb2)))])) t
          refine XS.iload X69.here hx rfl (hb hby at_261) rfl ?_
          exact kt
        have hc263_70 : (own_eqr (own_cs va ca0 ca1 ca2) (own_cs vb cb0 cb1 cb2)) = (own_f14 va ca0 ca1 ca2 vb cb0 cb1 cb2) := own_final h4va h4vb _ _ _ _ _ _
        refine own_by (A' := T69.setTop (mkF m 271 #[.val (.int p0), .val (.int p1), .val (.int p2), .val (.int va), .val (.int ca0), .val (.int ca1), .val (.int ca2), .val (.int vb), .val (.int cb0), .val (.int cb1), .val (.int cb2), .val (.ref b36), .val (.ref b37), .val (.int (p2 &&& (7 : Int32))), .val (.ref b60), .val (.int (own_f14 va ca0 ca1 ca2 vb cb0 cb1 cb2))] [(.int (1 : Int32))])) (fun t kt => ?_) ?_
        · show Steps p.tables e below (T69.setTop (mkF m 263 #[.val (.int p0), .val (.int p1), .val (.int p2), .val (.int va), .val (.int ca0), .val (.int ca1), .val (.int ca2), .val (.int vb), .val (.int cb0), .val (.int cb1), .val (.int cb2), .val (.ref b36), .val (.ref b37), .val (.int (p2 &&& (7 : Int32))), .val (.ref b60), .val (.int (own_f14 va ca0 ca1 ca2 vb cb0 cb1 cb2))] [(.int (own_f14 va ca0 ca1 ca2 vb cb0 cb1 cb2)), (.int (own_eqr (own_cs va ca0 ca1 ca2) (own_cs vb cb0 cb1 cb2)))])) t
          refine XS.icmpNo X69.here hx rfl (hb hby at_263) rfl (teq hc263_70).2 ?_
          show Steps p.tables e below (T69.setTop (mkF m 266 #[.val (.int p0), .val (.int p1), .val (.int p2), .val (.int va), .val (.int ca0), .val (.int ca1), .val (.int ca2), .val (.int vb), .val (.int cb0), .val (.int cb1), .val (.int cb2), .val (.ref b36), .val (.ref b37), .val (.int (p2 &&& (7 : Int32))), .val (.ref b60), .val (.int (own_f14 va ca0 ca1 ca2 vb cb0 cb1 cb2))] [])) t
          refine XS.iconst X69.here hx rfl (hb hby at_266) ?_
          show Steps p.tables e below (T69.setTop (mkF m 267 #[.val (.int p0), .val (.int p1), .val (.int p2), .val (.int va), .val (.int ca0), .val (.int ca1), .val (.int ca2), .val (.int vb), .val (.int cb0), .val (.int cb1), .val (.int cb2), .val (.ref b36), .val (.ref b37), .val (.int (p2 &&& (7 : Int32))), .val (.ref b60), .val (.int (own_f14 va ca0 ca1 ca2 vb cb0 cb1 cb2))] [(.int (1 : Int32))])) t
          refine XS.goto X69.here hx rfl (pc0 := 267) (pc' := 271) rfl (hb hby at_267) (by decide) (by decide) ?_
          exact kt
        obtain ⟨fs, hr, hrun, hended, hEnd⟩ := X69.leaveW (s := s) hS67 (by rw [e69]; exact (Nat.le_refl T67.heap.size)) (v := some (.int (1 : Int32))) (fun h => by rw [Bd.returns] at h; cases h)
        refine ⟨_, _, ?_, hrun, hended, _, _, rfl, ?_, hEnd.1, hEnd.2.1, hEnd.2.2.1, hEnd.2.2.2.mono (by decide) (by decide)⟩
        · exact retN X69 hx (t := .boolean) Bd.returns (by simp) (hb hby at_271) hr
        · show Q0 Z p0 p1 p2 G1 h0 n0 _ T69.heap _ T69.vm
          rw [e69]
          exact ⟨rfl, N69⟩
set_option maxRecDepth 65536 in
set_option maxHeartbeats 40000000 in
theorem comes_1 {Post : Tables → Env → Array Value → State → Outcome → State → Prop} (hpost : ∀ tb e args s v u, (limb_1_1.after args s (.returned v) u = true ∧ limb_1_2.after args s (.returned v) u = true ∧ True) → ReturnedEndW s (.returned v) u (Jvm.fieldLocs frame_1_writes args s ++ Jvm.arrayLocs frame_1_arrays args s ++ Jvm.staticLocs frame_1_statics s) 32 3200 → Post tb e args s (.returned v) u) :
    ArmFor flags0 classFile x code maxLocals ret World_1 tables_1 room_1 Calls_1 rest_1 Pre_1 Post := by
  intro l hfl _ _ p e ha hc hk s m args below hf hA hF happ hP
  obtain ⟨hcalls, hrest, hpre⟩ := hP
  obtain ⟨-, -, -, hnamed, -, -, -, hat⟩ := (Spec.applies_iff hf).mp happ
  obtain ⟨hg, hn⟩ := and_e (Cond.before_iff.mp (show (Jvm.Cond.and given_1 narrow_1).before args s = true from hpre))
  obtain ⟨ga1, ga2⟩ := and_e hg
  obtain ⟨ga3, ga4⟩ := and_e ga2
  obtain ⟨ga5, ga6⟩ := and_e ga4
  obtain ⟨w0, w1, w2, rfl⟩ : ∃ w0 w1 w2 : Value, args = #[w0, w1, w2] := by
    have hs : args.size = 3 := by simpa [Cond.value, given_1] using ga1
    obtain ⟨L⟩ := args
    match L, hs with
    | [w0, w1, w2], _ => exact ⟨w0, w1, w2, rfl⟩
  have hw := fun d (hd : d ∈ tables_1) => atoms_spec (ws := Jvm.Cond.code x code maxLocals ret :: tables_1) hat d (List.mem_cons_of_mem _ hd)
  have hfit : Fit s := fun {y c} hc i hi => by
    obtain ⟨ha, rfl⟩ := Array.getElem?_eq_some_iff.mp hc
    have q := List.all_eq_true.mp ((Array.all_eq_true_iff_forall_mem.mp hF) _ (Array.getElem_mem ha)) i (List.mem_range.mpr hi)
    simpa [Array.getElem?_eq_getElem hi] using q
  obtain ⟨hsets, hown0⟩ := atoms_of _ (rest_1_c_eq ▸ (show rest_1_c.before _ s = true from hrest))
  have n5 := not_v (Cond.before_iff.mp (hsets _ (List.mem_of_getElem? (i := 2) rfl)))
  obtain ⟨G1, e10⟩ := is_v (Cond.before_iff.mp (hsets _ (List.mem_of_getElem? (i := 1) rfl)))
  have S_cs : Sta s s.heap "java/lang/String" "COMPACT_STRINGS" "Z" (.int G1) := Sta.start e10 (Or.inl (hsets _ (List.mem_of_getElem? (i := 0) rfl)))
  have c17 : ¬ (G1 = (0 : Int32)) := gotF (Cond.eq_ints e10 (Term.int_eval (0))) n5
  have HCS : Jvm.Lit.constHeld s "java/lang/String" 7 := hcalls.1 ("java/lang/String", 7) (by simp [consts_1])
  have HCN : Jvm.Lit.constHeld s "com/example/corollary/corollary/model/NamedClass" 7 := hcalls.1 ("com/example/corollary/corollary/model/NamedClass", 7) (by simp [consts_1])
  have HW : Jvm.Lit.compactW.before _ s = true := hsets _ (List.mem_of_getElem? (i := 2) rfl)
  obtain ⟨i0, ei0⟩ := is_v ga3
  obtain rfl : w0 = (.int i0) := Option.some.inj ei0
  obtain ⟨i1, ei1⟩ := is_v ga5
  obtain rfl : w1 = (.int i1) := Option.some.inj ei1
  obtain ⟨i2, ei2⟩ := is_v ga6
  obtain rfl : w2 = (.int i2) := Option.some.inj ei2
  obtain ⟨n, o, h1, h2, h3, _, L, rfl, ⟨rfl, N⟩, hq⟩ := rm0 l s _ hw tables_1 i0 i1 i2 G1 s.heap s.heap.size (Nat.le_refl _) S_cs c17 rfl HCS HCN HW p e ha hc hk s m _ below hf ((Spec.applies_iff_loose hf).mp happ).1 ⟨rfl, State.Warmed39.refl s, rfl, IB.start⟩ trivial
  refine ⟨n, _, h1, h2, h3, hpost _ _ _ _ _ _ ⟨Cond.after_iff.mpr rfl, Cond.after_iff.mpr (eq_i res_at (Term.int_eval (1)) rfl), trivial⟩ ⟨hq.1, hq.2.1, hq.2.2.1, (hq.2.2.2.sift fun y hy => Or.inr (N y hy)).mono (by decide) (by decide)⟩⟩
theorem main_1_1 : Claimed_1_1 := comes_1 fun _ _ _ _ _ _ h hF => ⟨h.1, hF⟩
theorem main_1_2 : Claimed_1_2 := comes_1 fun _ _ _ _ _ _ h hF => ⟨h.2.1, hF⟩
end Jvm.Pilot.@@N@@
namespace Jvm.Pilot.@@N@@
open Jvm Jvm.ClassFile Sem Op Lib Jvm.Free Jvm.Stand Jvm.Pilot.@@N@@.Jvm.D
/-! MADE BY PROGRAM (witnessworld.py) out of the Statement's table words and the real class files: 25 classes; the members and pool entries that the words name. The judged class is class 1, her method 3. -/
namespace start1
open Jvm.ClassFile
def u (s : String) : CpInfo := .utf8 (stringToUtf16 s)
/-- a pool by its gaps: so many unusable entries, then the entry; so many at the end -/
def gap : Nat → List CpInfo → List CpInfo
  | 0, r => r
  | n + 1, r => .unusable :: gap n r
def poolList (es : List (Nat × CpInfo)) (last : Nat) : List CpInfo := es.foldr (fun e r => gap e.1 (e.2 :: r)) (gap last [])
def pool (es : List (Nat × CpInfo)) (last : Nat) : Array CpInfo := ⟨poolList es last⟩
def fileOf (pool : Array CpInfo) (this : Nat) (attrs : Array Attribute := #[]) (ms : Array MethodInfo := #[]) (fl : Nat := 33) (sup : Nat := 0) (ifs : Array Nat := #[]) (fds : Array FieldInfo := #[]) : ClassFile where
  minorVersion := 0
  majorVersion := 65
  constantPool := pool
  accessFlags := fl
  thisClass := this
  superClass := sup
  interfaces := ifs
  fields := fds
  methods := ms
  attributes := attrs
def plain (name : String) (sup : Option ClassId) : Class where
  name := name
  kind := .ordinary
  loader := none
  accessFlags := 33
  super := sup
  interfaces := #[]
  cf := none
  fields := #[]
  methods := #[]
  instanceTypes := #[]
  staticTypes := #[]
  resolved := #[]
  callSites := []
  init := .initialized
  statics := none
  mirror := none

def pool0 : Array CpInfo := pool [(5, u "<init>"), (0, u "()V"), (1, .class_ 10), (1, u "java/lang/Object")] 113

def k0c0 : Code := { maxStack := 0, maxLocals := 1, code := object_method_1_code, exceptionTable := #[], attributes := #[] }
def k0m0 : Method := { name := "<init>", desc := "()V", sig := { parameters := [], returnType := none }, accessFlags := 1, code := some k0c0 }
/-- java/lang/Object -/
def k0 : Class := { plain "java/lang/Object" none with
  accessFlags := 33
  interfaces := #[]
  cf := some (fileOf pool0 8 #[] #[{ accessFlags := 1, nameIndex := 5, descriptorIndex := 6, attributes := #[] }] 33 0 #[] #[])
  fields := #[]
  methods := #[k0m0]
  instanceTypes := #[]
  staticTypes := #[]
  resolved := Array.replicate 124 none
  statics := none }

def pool1 : Array CpInfo := pool [(2, .class_ 4), (1, u "java/lang/Object"), (0, u "<init>"), (0, u "()V"), (0, .class_ 8), (0, u "java/lang/String"), (0, .methodref 7 10), (0, .nameAndType 5 11), (0, u "([C)V"), (0, .methodref 13 14), (0, .class_ 15), (0, .nameAndType 16 17), (0, u "com/example/corollary/corollary/model/NamedClassEqualsPinLaw"), (0, u "mk"), (0, u "(ICCC)Ljava/lang/String;"), (0, .class_ 19), (0, u "com/example/corollary/corollary/model/NamedClass"), (0, .methodref 18 21), (0, .nameAndType 5 22), (0, u "(Ljava/lang/String;)V"), (0, .methodref 13 24), (0, .nameAndType 25 26), (0, u "sameStr"), (0, u "(ICCCICCC)Z"), (0, .class_ 28), (0, u "com/example/corollary/corollary/model/ObjectProperty"), (0, .methodref 27 21), (0, .methodref 18 31), (0, .nameAndType 32 33), (0, u "equals"), (0, u "(Ljava/lang/Object;)Z"), (3, u "law"), (0, u "(III)Z")] 2

def k1m0 : Method := { name := "<init>", desc := "()V", sig := { parameters := [], returnType := none }, accessFlags := 1, code := none }
def k1c1 : Code := { maxStack := 6, maxLocals := 4, code := method_2_code, exceptionTable := #[], attributes := #[] }
def k1m1 : Method := { name := "mk", desc := "(ICCC)Ljava/lang/String;", sig := { parameters := [.int, .char, .char, .char], returnType := some (.object "java/lang/String") }, accessFlags := 10, code := some k1c1 }
def k1c2 : Code := { maxStack := 2, maxLocals := 8, code := method_3_code, exceptionTable := #[], attributes := #[] }
def k1m2 : Method := { name := "sameStr", desc := "(ICCCICCC)Z", sig := { parameters := [.int, .char, .char, .char, .int, .char, .char, .char], returnType := some .boolean }, accessFlags := 10, code := some k1c2 }
def k1c3 : Code := { maxStack := 8, maxLocals := 16, code := code, exceptionTable := #[], attributes := #[] }
def k1m3 : Method := { name := "law", desc := "(III)Z", sig := { parameters := [.int, .int, .int], returnType := some .boolean }, accessFlags := 9, code := some k1c3 }
/-- com/example/corollary/corollary/model/NamedClassEqualsPinLaw -/
def k1 : Class := { plain "com/example/corollary/corollary/model/NamedClassEqualsPinLaw" (some 0) with
  accessFlags := 49
  interfaces := #[]
  cf := some (fileOf pool1 13 #[] #[{ accessFlags := 1, nameIndex := 5, descriptorIndex := 6, attributes := #[] }, { accessFlags := 10, nameIndex := 16, descriptorIndex := 17, attributes := #[] }, { accessFlags := 10, nameIndex := 25, descriptorIndex := 26, attributes := #[] }, { accessFlags := 9, nameIndex := 37, descriptorIndex := 38, attributes := #[] }] 49 2 #[] #[])
  fields := #[]
  methods := #[k1m0, k1m1, k1m2, k1m3]
  instanceTypes := #[]
  staticTypes := #[]
  resolved := Array.replicate 41 none
  statics := none }

def pool2 : Array CpInfo := pool [(1, .class_ 2), (0, u "java/io/Serializable"), (0, .class_ 4), (0, u "java/lang/Object")] 2

/-- java/io/Serializable -/
def k2 : Class := { plain "java/io/Serializable" (some 0) with
  accessFlags := 1537
  interfaces := #[]
  cf := some (fileOf pool2 1 #[] #[] 1537 3 #[] #[])
  fields := #[]
  methods := #[]
  instanceTypes := #[]
  staticTypes := #[]
  resolved := Array.replicate 7 none
  statics := none }

def pool3 : Array CpInfo := pool [(1, .class_ 2), (0, u "java/lang/Comparable"), (0, .class_ 4), (0, u "java/lang/Object")] 7

/-- java/lang/Comparable -/
def k3 : Class := { plain "java/lang/Comparable" (some 0) with
  accessFlags := 1537
  interfaces := #[]
  cf := some (fileOf pool3 1 #[] #[] 1537 3 #[] #[])
  fields := #[]
  methods := #[]
  instanceTypes := #[]
  staticTypes := #[]
  resolved := Array.replicate 12 none
  statics := none }

def pool4 : Array CpInfo := pool [(2, .class_ 4), (1, u "java/lang/CharSequence"), (42, .class_ 48), (0, u "java/lang/CharSequence$1CodePointIterator"), (10, .class_ 60), (0, u "java/lang/CharSequence$1CharIterator"), (5, .class_ 67), (0, u "java/lang/Object")] 63

/-- java/lang/CharSequence -/
def k4 : Class := { plain "java/lang/CharSequence" (some 0) with
  accessFlags := 1537
  interfaces := #[]
  cf := some (fileOf pool4 2 #[.nestMembers #[47, 59]] #[] 1537 66 #[] #[])
  fields := #[]
  methods := #[]
  instanceTypes := #[]
  staticTypes := #[]
  resolved := Array.replicate 131 none
  statics := none }

def pool5 : Array CpInfo := pool [(1, .class_ 2), (0, u "java/lang/constant/Constable"), (0, .class_ 4), (0, u "java/lang/Object")] 6

/-- java/lang/constant/Constable -/
def k5 : Class := { plain "java/lang/constant/Constable" (some 0) with
  accessFlags := 1537
  interfaces := #[]
  cf := some (fileOf pool5 1 #[] #[] 1537 3 #[] #[])
  fields := #[]
  methods := #[]
  instanceTypes := #[]
  staticTypes := #[]
  resolved := Array.replicate 11 none
  statics := none }

def pool6 : Array CpInfo := pool [(1, .class_ 2), (0, u "java/lang/constant/ConstantDesc"), (0, .class_ 4), (0, u "java/lang/Object")] 32

/-- java/lang/constant/ConstantDesc -/
def k6 : Class := { plain "java/lang/constant/ConstantDesc" (some 0) with
  accessFlags := 1537
  interfaces := #[]
  cf := some (fileOf pool6 1 #[] #[] 1537 3 #[] #[])
  fields := #[]
  methods := #[]
  instanceTypes := #[]
  staticTypes := #[]
  resolved := Array.replicate 37 none
  statics := none }

def pool7 : Array CpInfo := pool [(1, .methodref 2 3), (0, .class_ 4), (0, .nameAndType 5 6), (0, u "java/lang/Object"), (0, u "<init>"), (0, u "()V"), (0, .string 8), (0, u ""), (0, .fieldref 10 11), (0, .class_ 12), (0, .nameAndType 13 14), (0, u "java/lang/String"), (0, u "value"), (0, u "[B"), (0, .fieldref 10 16), (0, .nameAndType 17 18), (0, u "coder"), (0, u "B"), (2, u "hash"), (0, u "I"), (2, u "hashIsZero"), (0, u "Z"), (0, .methodref 10 28), (0, .nameAndType 5 29), (0, u "([CIILjava/lang/Void;)V"), (8, .fieldref 10 39), (0, .nameAndType 40 26), (0, u "COMPACT_STRINGS"), (1, .class_ 44), (1, u "java/lang/StringUTF16"), (0, u "compress"), (1, .methodref 42 48), (0, .nameAndType 49 50), (0, u "coderFromArrayLen"), (0, u "([BI)B"), (56, .class_ 109), (1, u "java/lang/StringLatin1"), (67, .methodref 42 178), (0, .nameAndType 45 179), (0, u "([CII)[B"), (361, .methodref 107 542), (0, .nameAndType 543 544), (0, u "equals"), (0, u "([B[B)Z"), (28, u "(Ljava/lang/Object;)Z"), (1, .class_ 576), (0, u "java/lang/CharSequence"), (22, u "CASE_INSENSITIVE_ORDER"), (0, u "Ljava/util/Comparator;"), (409, u "([C)V"), (90, u "serialPersistentFields"), (0, u "[Ljava/io/ObjectStreamField;"), (0, .class_ 1104), (0, u "java/lang/String$CaseInsensitiveComparator"), (1, .class_ 1107), (0, u "java/io/Serializable"), (0, .class_ 1109), (0, u "java/lang/Comparable"), (0, .class_ 1111), (0, u "java/lang/constant/Constable"), (0, .class_ 1113), (0, u "java/lang/constant/ConstantDesc"), (2, u "serialVersionUID"), (0, u "J"), (3, u "REPL"), (0, u "C"), (2, u "LATIN1"), (1, u "UTF16")] 323

def k7m0 : Method := { name := "<init>", desc := "()V", sig := { parameters := [], returnType := none }, accessFlags := 1, code := none }
def k7c1 : Code := { maxStack := 5, maxLocals := 2, code := jdk_42_method_3_code, exceptionTable := #[], attributes := #[] }
def k7m1 : Method := { name := "<init>", desc := "([C)V", sig := { parameters := [(.array .char)], returnType := none }, accessFlags := 1, code := some k7c1 }
def k7c2 : Code := { maxStack := 2, maxLocals := 3, code := jdk_42_method_66_code, exceptionTable := #[], attributes := #[] }
def k7m2 : Method := { name := "equals", desc := "(Ljava/lang/Object;)Z", sig := { parameters := [(.object "java/lang/Object")], returnType := some .boolean }, accessFlags := 1, code := some k7c2 }
def k7c3 : Code := { maxStack := 4, maxLocals := 6, code := jdk_42_method_149_code, exceptionTable := #[], attributes := #[] }
def k7m3 : Method := { name := "<init>", desc := "([CIILjava/lang/Void;)V", sig := { parameters := [(.array .char), .int, .int, (.object "java/lang/Void")], returnType := none }, accessFlags := 2, code := some k7c3 }
/-- java/lang/String -/
def k7 : Class := { plain "java/lang/String" (some 0) with
  accessFlags := 49
  interfaces := #[2, 3, 4, 5, 6]
  cf := some (fileOf pool7 10 #[.nestMembers #[1103]] #[{ accessFlags := 1, nameIndex := 5, descriptorIndex := 6, attributes := #[] }, { accessFlags := 1, nameIndex := 5, descriptorIndex := 1010, attributes := #[] }, { accessFlags := 1, nameIndex := 543, descriptorIndex := 573, attributes := #[] }, { accessFlags := 2, nameIndex := 5, descriptorIndex := 29, attributes := #[] }] 49 2 #[1106, 1108, 575, 1110, 1112] #[{ accessFlags := 18, nameIndex := 13, descriptorIndex := 14, attributes := #[] }, { accessFlags := 18, nameIndex := 17, descriptorIndex := 18, attributes := #[] }, { accessFlags := 2, nameIndex := 21, descriptorIndex := 22, attributes := #[] }, { accessFlags := 2, nameIndex := 25, descriptorIndex := 26, attributes := #[] }, { accessFlags := 26, nameIndex := 1116, descriptorIndex := 1117, attributes := #[] }, { accessFlags := 24, nameIndex := 40, descriptorIndex := 26, attributes := #[] }, { accessFlags := 26, nameIndex := 1101, descriptorIndex := 1102, attributes := #[] }, { accessFlags := 26, nameIndex := 1121, descriptorIndex := 1122, attributes := #[] }, { accessFlags := 25, nameIndex := 599, descriptorIndex := 600, attributes := #[] }, { accessFlags := 24, nameIndex := 1125, descriptorIndex := 18, attributes := #[] }, { accessFlags := 24, nameIndex := 1127, descriptorIndex := 18, attributes := #[] }])
  fields := #[{ name := "value", type := (.array .byte), accessFlags := 18, slot := 0, constantValue := 0 }, { name := "coder", type := .byte, accessFlags := 18, slot := 1, constantValue := 0 }, { name := "hash", type := .int, accessFlags := 2, slot := 2, constantValue := 0 }, { name := "hashIsZero", type := .boolean, accessFlags := 2, slot := 3, constantValue := 0 }, { name := "serialVersionUID", type := .long, accessFlags := 26, slot := 0, constantValue := 0 }, { name := "COMPACT_STRINGS", type := .boolean, accessFlags := 24, slot := 1, constantValue := 0 }, { name := "serialPersistentFields", type := (.array (.object "java/io/ObjectStreamField")), accessFlags := 26, slot := 2, constantValue := 0 }, { name := "REPL", type := .char, accessFlags := 26, slot := 3, constantValue := 0 }, { name := "CASE_INSENSITIVE_ORDER", type := (.object "java/util/Comparator"), accessFlags := 25, slot := 4, constantValue := 0 }, { name := "LATIN1", type := .byte, accessFlags := 24, slot := 5, constantValue := 0 }, { name := "UTF16", type := .byte, accessFlags := 24, slot := 6, constantValue := 0 }]
  methods := #[k7m0, k7m1, k7m2, k7m3]
  instanceTypes := #[(.array .byte), .byte, .int, .boolean]
  staticTypes := #[.long, .boolean, (.array (.object "java/io/ObjectStreamField")), .char, (.object "java/util/Comparator"), .byte, .byte]
  resolved := Array.replicate 1451 none
  statics := some 0 }

def pool8 : Array CpInfo := pool [(1, .methodref 2 3), (0, .class_ 4), (0, .nameAndType 5 6), (0, u "java/lang/Object"), (0, u "<init>"), (0, u "()V"), (0, .class_ 8), (0, u "java/lang/Record")] 13

def k8c0 : Code := { maxStack := 1, maxLocals := 1, code := jdk_30_method_1_code, exceptionTable := #[], attributes := #[] }
def k8m0 : Method := { name := "<init>", desc := "()V", sig := { parameters := [], returnType := none }, accessFlags := 4, code := some k8c0 }
/-- java/lang/Record -/
def k8 : Class := { plain "java/lang/Record" (some 0) with
  accessFlags := 1057
  interfaces := #[]
  cf := some (fileOf pool8 7 #[] #[{ accessFlags := 4, nameIndex := 5, descriptorIndex := 6, attributes := #[] }] 1057 2 #[] #[])
  fields := #[]
  methods := #[k8m0]
  instanceTypes := #[]
  staticTypes := #[]
  resolved := Array.replicate 22 none
  statics := none }

def pool9 : Array CpInfo := pool [(1, .class_ 2), (0, u "com/example/corollary/corollary/model/ClassExpression"), (0, .class_ 4), (0, u "java/lang/Object")] 19

/-- com/example/corollary/corollary/model/ClassExpression -/
def k9 : Class := { plain "com/example/corollary/corollary/model/ClassExpression" (some 0) with
  accessFlags := 1537
  interfaces := #[]
  cf := some (fileOf pool9 1 #[] #[] 1537 3 #[] #[])
  fields := #[]
  methods := #[]
  instanceTypes := #[]
  staticTypes := #[]
  resolved := Array.replicate 24 none
  statics := none }

def pool10 : Array CpInfo := pool [(1, .methodref 2 3), (0, .class_ 4), (0, .nameAndType 5 6), (0, u "java/lang/Record"), (0, u "<init>"), (0, u "()V"), (0, .string 8), (0, u "iri"), (0, .methodref 10 11), (0, .class_ 12), (0, .nameAndType 13 14), (0, u "java/util/Objects"), (0, u "requireNonNull"), (0, u "(Ljava/lang/Object;Ljava/lang/String;)Ljava/lang/Object;"), (0, .fieldref 16 17), (0, .class_ 18), (0, .nameAndType 8 19), (0, u "com/example/corollary/corollary/model/NamedClass"), (0, u "Ljava/lang/String;"), (0, .methodref 21 22), (0, .class_ 23), (0, .nameAndType 24 25), (0, u "java/lang/String"), (0, u "equals"), (0, u "(Ljava/lang/Object;)Z"), (12, u "(Ljava/lang/String;)V"), (2, u "THING"), (0, u "Lcom/example/corollary/corollary/model/NamedClass;"), (4, u "NOTHING"), (0, .class_ 49), (0, u "com/example/corollary/corollary/model/ClassExpression")] 24

def k10c0 : Code := { maxStack := 2, maxLocals := 2, code := prog_11_method_1_code, exceptionTable := #[], attributes := #[] }
def k10m0 : Method := { name := "<init>", desc := "(Ljava/lang/String;)V", sig := { parameters := [(.object "java/lang/String")], returnType := none }, accessFlags := 1, code := some k10c0 }
def k10c1 : Code := { maxStack := 2, maxLocals := 3, code := prog_11_method_2_code, exceptionTable := #[], attributes := #[] }
def k10m1 : Method := { name := "equals", desc := "(Ljava/lang/Object;)Z", sig := { parameters := [(.object "java/lang/Object")], returnType := some .boolean }, accessFlags := 1, code := some k10c1 }
/-- com/example/corollary/corollary/model/NamedClass -/
def k10 : Class := { plain "com/example/corollary/corollary/model/NamedClass" (some 8) with
  accessFlags := 49
  interfaces := #[9]
  cf := some (fileOf pool10 16 #[] #[{ accessFlags := 1, nameIndex := 5, descriptorIndex := 38, attributes := #[] }, { accessFlags := 1, nameIndex := 24, descriptorIndex := 25, attributes := #[] }] 49 2 #[48] #[{ accessFlags := 18, nameIndex := 8, descriptorIndex := 19, attributes := #[] }, { accessFlags := 25, nameIndex := 41, descriptorIndex := 42, attributes := #[] }, { accessFlags := 25, nameIndex := 47, descriptorIndex := 42, attributes := #[] }])
  fields := #[{ name := "iri", type := (.object "java/lang/String"), accessFlags := 18, slot := 0, constantValue := 0 }, { name := "THING", type := (.object "com/example/corollary/corollary/model/NamedClass"), accessFlags := 25, slot := 0, constantValue := 0 }, { name := "NOTHING", type := (.object "com/example/corollary/corollary/model/NamedClass"), accessFlags := 25, slot := 1, constantValue := 0 }]
  methods := #[k10m0, k10m1]
  instanceTypes := #[(.object "java/lang/String")]
  staticTypes := #[(.object "com/example/corollary/corollary/model/NamedClass"), (.object "com/example/corollary/corollary/model/NamedClass")]
  resolved := Array.replicate 74 none
  statics := none }

def pool11 : Array CpInfo := pool [(2, .class_ 4), (1, u "java/lang/Object"), (0, u "<init>"), (0, u "()V"), (35, .class_ 44), (1, u "java/util/Objects"), (0, u "requireNonNull"), (48, u "(Ljava/lang/Object;Ljava/lang/String;)Ljava/lang/Object;")] 89

def k11m0 : Method := { name := "<init>", desc := "()V", sig := { parameters := [], returnType := none }, accessFlags := 2, code := none }
def k11c1 : Code := { maxStack := 3, maxLocals := 2, code := jdk_31_method_11_code, exceptionTable := #[], attributes := #[] }
def k11m1 : Method := { name := "requireNonNull", desc := "(Ljava/lang/Object;Ljava/lang/String;)Ljava/lang/Object;", sig := { parameters := [(.object "java/lang/Object"), (.object "java/lang/String")], returnType := some (.object "java/lang/Object") }, accessFlags := 9, code := some k11c1 }
/-- java/util/Objects -/
def k11 : Class := { plain "java/util/Objects" (some 0) with
  accessFlags := 49
  interfaces := #[]
  cf := some (fileOf pool11 42 #[] #[{ accessFlags := 2, nameIndex := 5, descriptorIndex := 6, attributes := #[] }, { accessFlags := 9, nameIndex := 45, descriptorIndex := 94, attributes := #[] }] 49 2 #[] #[])
  fields := #[]
  methods := #[k11m0, k11m1]
  instanceTypes := #[]
  staticTypes := #[]
  resolved := Array.replicate 184 none
  statics := none }

def pool12 : Array CpInfo := pool [(4, .class_ 6), (1, u "java/lang/Object"), (0, u "<init>"), (0, u "()V"), (5, .class_ 16), (1, u "java/lang/StringLatin1"), (104, u "$assertionsDisabled"), (0, u "Z"), (98, .class_ 223), (1, u "java/lang/StringLatin1$LinesSpliterator"), (57, u "equals"), (0, u "([B[B)Z"), (107, .class_ 391), (0, u "java/lang/StringLatin1$CharsSpliterator")] 3

def k12m0 : Method := { name := "<init>", desc := "()V", sig := { parameters := [], returnType := none }, accessFlags := 0, code := none }
def k12c1 : Code := { maxStack := 3, maxLocals := 3, code := jdk_43_method_13_code, exceptionTable := #[], attributes := #[] }
def k12m1 : Method := { name := "equals", desc := "([B[B)Z", sig := { parameters := [(.array .byte), (.array .byte)], returnType := some .boolean }, accessFlags := 9, code := some k12c1 }
/-- java/lang/StringLatin1 -/
def k12 : Class := { plain "java/lang/StringLatin1" (some 0) with
  accessFlags := 48
  interfaces := #[]
  cf := some (fileOf pool12 14 #[.nestMembers #[390, 221]] #[{ accessFlags := 0, nameIndex := 7, descriptorIndex := 8, attributes := #[] }, { accessFlags := 9, nameIndex := 281, descriptorIndex := 282, attributes := #[] }] 48 4 #[] #[{ accessFlags := 4120, nameIndex := 121, descriptorIndex := 122, attributes := #[] }])
  fields := #[{ name := "$assertionsDisabled", type := .boolean, accessFlags := 4120, slot := 0, constantValue := 0 }]
  methods := #[k12m0, k12m1]
  instanceTypes := #[]
  staticTypes := #[.boolean]
  resolved := Array.replicate 395 none
  statics := none }

def pool13 : Array CpInfo := pool [(6, .class_ 8), (1, u "java/lang/Object"), (0, u "<init>"), (0, u "()V"), (1, .class_ 14), (1, u "java/lang/StringUTF16"), (31, u "$assertionsDisabled"), (0, u "Z"), (13, u "HI_BYTE_SHIFT"), (0, u "I"), (2, u "LO_BYTE_SHIFT"), (49, .methodref 12 116), (0, .nameAndType 117 118), (0, u "compress"), (0, u "([CI[BII)I"), (3, u "([CII)[B"), (138, u "coderFromArrayLen"), (0, u "([BI)B"), (106, .class_ 371), (1, u "java/lang/StringUTF16$LinesSpliterator"), (58, u "MAX_LENGTH"), (196, .class_ 628), (0, u "java/lang/StringUTF16$CodePointsSpliterator"), (0, .class_ 630), (0, u "java/lang/StringUTF16$CharsSpliterator")] 4

def k13m0 : Method := { name := "<init>", desc := "()V", sig := { parameters := [], returnType := none }, accessFlags := 0, code := none }
def k13c1 : Code := { maxStack := 2, maxLocals := 2, code := jdk_52_method_15_code, exceptionTable := #[], attributes := #[] }
def k13m1 : Method := { name := "coderFromArrayLen", desc := "([BI)B", sig := { parameters := [(.array .byte), .int], returnType := some .byte }, accessFlags := 8, code := some k13c1 }
def k13c2 : Code := { maxStack := 5, maxLocals := 6, code := jdk_52_method_16_code, exceptionTable := #[], attributes := #[] }
def k13m2 : Method := { name := "compress", desc := "([CII)[B", sig := { parameters := [(.array .char), .int, .int], returnType := some (.array .byte) }, accessFlags := 9, code := some k13c2 }
def k13c3 : Code := { maxStack := 3, maxLocals := 7, code := jdk_52_method_21_code, exceptionTable := #[], attributes := #[] }
def k13m3 : Method := { name := "compress", desc := "([CI[BII)I", sig := { parameters := [(.array .char), .int, (.array .byte), .int, .int], returnType := some .int }, accessFlags := 9, code := some k13c3 }
/-- java/lang/StringUTF16 -/
def k13 : Class := { plain "java/lang/StringUTF16" (some 0) with
  accessFlags := 48
  interfaces := #[]
  cf := some (fileOf pool13 12 #[.nestMembers #[627, 629, 369]] #[{ accessFlags := 0, nameIndex := 9, descriptorIndex := 10, attributes := #[] }, { accessFlags := 8, nameIndex := 261, descriptorIndex := 262, attributes := #[] }, { accessFlags := 9, nameIndex := 117, descriptorIndex := 122, attributes := #[] }, { accessFlags := 9, nameIndex := 117, descriptorIndex := 118, attributes := #[] }] 48 6 #[] #[{ accessFlags := 26, nameIndex := 61, descriptorIndex := 62, attributes := #[] }, { accessFlags := 26, nameIndex := 65, descriptorIndex := 62, attributes := #[] }, { accessFlags := 24, nameIndex := 430, descriptorIndex := 62, attributes := #[] }, { accessFlags := 4120, nameIndex := 46, descriptorIndex := 47, attributes := #[] }])
  fields := #[{ name := "HI_BYTE_SHIFT", type := .int, accessFlags := 26, slot := 0, constantValue := 0 }, { name := "LO_BYTE_SHIFT", type := .int, accessFlags := 26, slot := 1, constantValue := 0 }, { name := "MAX_LENGTH", type := .int, accessFlags := 24, slot := 2, constantValue := 0 }, { name := "$assertionsDisabled", type := .boolean, accessFlags := 4120, slot := 3, constantValue := 0 }]
  methods := #[k13m0, k13m1, k13m2, k13m3]
  instanceTypes := #[]
  staticTypes := #[.int, .int, .int, .boolean]
  resolved := Array.replicate 635 none
  statics := none }

def pool14 : Array CpInfo := pool [(1, .class_ 2), (0, u "com/example/corollary/corollary/model/ObjectPropertyExpression"), (0, .class_ 4), (0, u "java/lang/Object")] 11

/-- com/example/corollary/corollary/model/ObjectPropertyExpression -/
def k14 : Class := { plain "com/example/corollary/corollary/model/ObjectPropertyExpression" (some 0) with
  accessFlags := 1537
  interfaces := #[]
  cf := some (fileOf pool14 1 #[] #[] 1537 3 #[] #[])
  fields := #[]
  methods := #[]
  instanceTypes := #[]
  staticTypes := #[]
  resolved := Array.replicate 16 none
  statics := none }

def pool15 : Array CpInfo := pool [(1, .methodref 2 3), (0, .class_ 4), (0, .nameAndType 5 6), (0, u "java/lang/Record"), (0, u "<init>"), (0, u "()V"), (0, .string 8), (0, u "iri"), (0, .methodref 10 11), (0, .class_ 12), (0, .nameAndType 13 14), (0, u "java/util/Objects"), (0, u "requireNonNull"), (0, u "(Ljava/lang/Object;Ljava/lang/String;)Ljava/lang/Object;"), (0, .fieldref 16 17), (0, .class_ 18), (0, .nameAndType 8 19), (0, u "com/example/corollary/corollary/model/ObjectProperty"), (0, u "Ljava/lang/String;"), (23, u "(Ljava/lang/String;)V"), (2, u "TOP"), (0, u "Lcom/example/corollary/corollary/model/ObjectProperty;"), (4, u "BOTTOM"), (0, .class_ 54), (0, u "com/example/corollary/corollary/model/ObjectPropertyExpression")] 28

def k15c0 : Code := { maxStack := 2, maxLocals := 2, code := prog_20_method_1_code, exceptionTable := #[], attributes := #[] }
def k15m0 : Method := { name := "<init>", desc := "(Ljava/lang/String;)V", sig := { parameters := [(.object "java/lang/String")], returnType := none }, accessFlags := 1, code := some k15c0 }
/-- com/example/corollary/corollary/model/ObjectProperty -/
def k15 : Class := { plain "com/example/corollary/corollary/model/ObjectProperty" (some 8) with
  accessFlags := 49
  interfaces := #[14]
  cf := some (fileOf pool15 16 #[] #[{ accessFlags := 1, nameIndex := 5, descriptorIndex := 43, attributes := #[] }] 49 2 #[53] #[{ accessFlags := 18, nameIndex := 8, descriptorIndex := 19, attributes := #[] }, { accessFlags := 25, nameIndex := 46, descriptorIndex := 47, attributes := #[] }, { accessFlags := 25, nameIndex := 52, descriptorIndex := 47, attributes := #[] }])
  fields := #[{ name := "iri", type := (.object "java/lang/String"), accessFlags := 18, slot := 0, constantValue := 0 }, { name := "TOP", type := (.object "com/example/corollary/corollary/model/ObjectProperty"), accessFlags := 25, slot := 0, constantValue := 0 }, { name := "BOTTOM", type := (.object "com/example/corollary/corollary/model/ObjectProperty"), accessFlags := 25, slot := 1, constantValue := 0 }]
  methods := #[k15m0]
  instanceTypes := #[(.object "java/lang/String")]
  staticTypes := #[(.object "com/example/corollary/corollary/model/ObjectProperty"), (.object "com/example/corollary/corollary/model/ObjectProperty")]
  resolved := Array.replicate 83 none
  statics := none }

def pool16 : Array CpInfo := pool [(2, .class_ 4), (1, u "java/lang/Object"), (0, u "<init>"), (0, u "()V"), (17, .class_ 26), (1, u "jdk/internal/util/Preconditions"), (28, .class_ 56), (0, u "jdk/internal/util/Preconditions$4"), (57, .class_ 115), (0, u "jdk/internal/util/Preconditions$1"), (7, u "SIOOBE_FORMATTER"), (0, u "Ljava/util/function/BiFunction;"), (0, .class_ 126), (0, u "jdk/internal/util/Preconditions$2"), (3, u "AIOOBE_FORMATTER"), (0, .class_ 132), (0, u "jdk/internal/util/Preconditions$3"), (3, u "IOOBE_FORMATTER")] 57

def k16m0 : Method := { name := "<init>", desc := "()V", sig := { parameters := [], returnType := none }, accessFlags := 1, code := none }
/-- jdk/internal/util/Preconditions -/
def k16 : Class := { plain "jdk/internal/util/Preconditions" (some 0) with
  accessFlags := 33
  interfaces := #[]
  cf := some (fileOf pool16 24 #[.nestMembers #[55, 131, 125, 114]] #[{ accessFlags := 1, nameIndex := 5, descriptorIndex := 6, attributes := #[] }] 33 2 #[] #[{ accessFlags := 25, nameIndex := 123, descriptorIndex := 124, attributes := #[] }, { accessFlags := 25, nameIndex := 130, descriptorIndex := 124, attributes := #[] }, { accessFlags := 25, nameIndex := 136, descriptorIndex := 124, attributes := #[] }])
  fields := #[{ name := "SIOOBE_FORMATTER", type := (.object "java/util/function/BiFunction"), accessFlags := 25, slot := 0, constantValue := 0 }, { name := "AIOOBE_FORMATTER", type := (.object "java/util/function/BiFunction"), accessFlags := 25, slot := 1, constantValue := 0 }, { name := "IOOBE_FORMATTER", type := (.object "java/util/function/BiFunction"), accessFlags := 25, slot := 2, constantValue := 0 }]
  methods := #[k16m0]
  instanceTypes := #[]
  staticTypes := #[(.object "java/util/function/BiFunction"), (.object "java/util/function/BiFunction"), (.object "java/util/function/BiFunction")]
  resolved := Array.replicate 194 none
  statics := some 1 }

def pool17 : Array CpInfo := pool [(9, u "<init>"), (6, .class_ 18), (1, u "java/lang/Object"), (0, u "()V"), (1, .class_ 23), (1, u "jdk/internal/util/ArraysSupport"), (0, u "LOG2_ARRAY_LONG_INDEX_SCALE"), (0, u "I"), (2, u "U"), (0, u "Ljdk/internal/misc/Unsafe;"), (8, u "BIG_ENDIAN"), (0, u "Z"), (8, u "LOG2_BYTE_BIT_SIZE"), (4, u "LOG2_ARRAY_INT_INDEX_SCALE"), (54, u "JLA"), (0, u "Ljdk/internal/access/JavaLangAccess;"), (11, u "LOG2_ARRAY_BOOLEAN_INDEX_SCALE"), (9, u "LOG2_ARRAY_BYTE_INDEX_SCALE"), (5, u "LOG2_ARRAY_CHAR_INDEX_SCALE"), (5, u "LOG2_ARRAY_SHORT_INDEX_SCALE"), (18, u "LOG2_ARRAY_FLOAT_INDEX_SCALE"), (24, u "LOG2_ARRAY_DOUBLE_INDEX_SCALE"), (89, u "T_BOOLEAN"), (2, u "T_CHAR"), (1, u "T_FLOAT"), (1, u "T_DOUBLE"), (1, u "T_BYTE"), (1, u "T_SHORT"), (1, u "T_INT"), (1, u "T_LONG"), (1, u "SOFT_MAX_ARRAY_LENGTH")] 83

def k17m0 : Method := { name := "<init>", desc := "()V", sig := { parameters := [], returnType := none }, accessFlags := 2, code := none }
/-- jdk/internal/util/ArraysSupport -/
def k17 : Class := { plain "jdk/internal/util/ArraysSupport" (some 0) with
  accessFlags := 33
  interfaces := #[]
  cf := some (fileOf pool17 21 #[] #[{ accessFlags := 2, nameIndex := 9, descriptorIndex := 19, attributes := #[] }] 33 16 #[] #[{ accessFlags := 24, nameIndex := 28, descriptorIndex := 29, attributes := #[] }, { accessFlags := 26, nameIndex := 38, descriptorIndex := 39, attributes := #[] }, { accessFlags := 25, nameIndex := 121, descriptorIndex := 25, attributes := #[] }, { accessFlags := 25, nameIndex := 131, descriptorIndex := 25, attributes := #[] }, { accessFlags := 25, nameIndex := 137, descriptorIndex := 25, attributes := #[] }, { accessFlags := 25, nameIndex := 143, descriptorIndex := 25, attributes := #[] }, { accessFlags := 25, nameIndex := 53, descriptorIndex := 25, attributes := #[] }, { accessFlags := 25, nameIndex := 24, descriptorIndex := 25, attributes := #[] }, { accessFlags := 25, nameIndex := 162, descriptorIndex := 25, attributes := #[] }, { accessFlags := 25, nameIndex := 187, descriptorIndex := 25, attributes := #[] }, { accessFlags := 26, nameIndex := 48, descriptorIndex := 25, attributes := #[] }, { accessFlags := 25, nameIndex := 277, descriptorIndex := 25, attributes := #[] }, { accessFlags := 25, nameIndex := 280, descriptorIndex := 25, attributes := #[] }, { accessFlags := 25, nameIndex := 282, descriptorIndex := 25, attributes := #[] }, { accessFlags := 25, nameIndex := 284, descriptorIndex := 25, attributes := #[] }, { accessFlags := 25, nameIndex := 286, descriptorIndex := 25, attributes := #[] }, { accessFlags := 25, nameIndex := 288, descriptorIndex := 25, attributes := #[] }, { accessFlags := 25, nameIndex := 290, descriptorIndex := 25, attributes := #[] }, { accessFlags := 25, nameIndex := 292, descriptorIndex := 25, attributes := #[] }, { accessFlags := 26, nameIndex := 108, descriptorIndex := 109, attributes := #[] }, { accessFlags := 25, nameIndex := 294, descriptorIndex := 25, attributes := #[] }])
  fields := #[{ name := "U", type := (.object "jdk/internal/misc/Unsafe"), accessFlags := 24, slot := 0, constantValue := 0 }, { name := "BIG_ENDIAN", type := .boolean, accessFlags := 26, slot := 1, constantValue := 0 }, { name := "LOG2_ARRAY_BOOLEAN_INDEX_SCALE", type := .int, accessFlags := 25, slot := 2, constantValue := 0 }, { name := "LOG2_ARRAY_BYTE_INDEX_SCALE", type := .int, accessFlags := 25, slot := 3, constantValue := 0 }, { name := "LOG2_ARRAY_CHAR_INDEX_SCALE", type := .int, accessFlags := 25, slot := 4, constantValue := 0 }, { name := "LOG2_ARRAY_SHORT_INDEX_SCALE", type := .int, accessFlags := 25, slot := 5, constantValue := 0 }, { name := "LOG2_ARRAY_INT_INDEX_SCALE", type := .int, accessFlags := 25, slot := 6, constantValue := 0 }, { name := "LOG2_ARRAY_LONG_INDEX_SCALE", type := .int, accessFlags := 25, slot := 7, constantValue := 0 }, { name := "LOG2_ARRAY_FLOAT_INDEX_SCALE", type := .int, accessFlags := 25, slot := 8, constantValue := 0 }, { name := "LOG2_ARRAY_DOUBLE_INDEX_SCALE", type := .int, accessFlags := 25, slot := 9, constantValue := 0 }, { name := "LOG2_BYTE_BIT_SIZE", type := .int, accessFlags := 26, slot := 10, constantValue := 0 }, { name := "T_BOOLEAN", type := .int, accessFlags := 25, slot := 11, constantValue := 0 }, { name := "T_CHAR", type := .int, accessFlags := 25, slot := 12, constantValue := 0 }, { name := "T_FLOAT", type := .int, accessFlags := 25, slot := 13, constantValue := 0 }, { name := "T_DOUBLE", type := .int, accessFlags := 25, slot := 14, constantValue := 0 }, { name := "T_BYTE", type := .int, accessFlags := 25, slot := 15, constantValue := 0 }, { name := "T_SHORT", type := .int, accessFlags := 25, slot := 16, constantValue := 0 }, { name := "T_INT", type := .int, accessFlags := 25, slot := 17, constantValue := 0 }, { name := "T_LONG", type := .int, accessFlags := 25, slot := 18, constantValue := 0 }, { name := "JLA", type := (.object "jdk/internal/access/JavaLangAccess"), accessFlags := 26, slot := 19, constantValue := 0 }, { name := "SOFT_MAX_ARRAY_LENGTH", type := .int, accessFlags := 25, slot := 20, constantValue := 0 }]
  methods := #[k17m0]
  instanceTypes := #[]
  staticTypes := #[(.object "jdk/internal/misc/Unsafe"), .boolean, .int, .int, .int, .int, .int, .int, .int, .int, .int, .int, .int, .int, .int, .int, .int, .int, .int, (.object "jdk/internal/access/JavaLangAccess"), .int]
  resolved := Array.replicate 378 none
  statics := none }

def pool18 : Array CpInfo := pool [(1, u "java/lang/Cloneable"), (0, .class_ 1), (0, u "java/lang/Object"), (0, .class_ 3)] 3

/-- java/lang/Cloneable -/
def k18 : Class := { plain "java/lang/Cloneable" (some 0) with
  accessFlags := 1537
  interfaces := #[]
  cf := some (fileOf pool18 2 #[] #[] 1537 4 #[] #[])
  fields := #[]
  methods := #[]
  instanceTypes := #[]
  staticTypes := #[]
  resolved := Array.replicate 8 none
  statics := none }

/-- the primitive byte -/
def k19 : Class := { plain "byte" none with kind := .primitive 'B', accessFlags := 0x411 }
/-- [B -/
def k20 : Class := { plain "[B" (some 0) with kind := .array 19 .byte, interfaces := #[18, 2], accessFlags := 1041 }

/-- the primitive char -/
def k21 : Class := { plain "char" none with kind := .primitive 'C', accessFlags := 0x411 }
/-- [C -/
def k22 : Class := { plain "[C" (some 0) with kind := .array 21 .char, interfaces := #[18, 2], accessFlags := 1041 }

/-- the primitive int -/
def k23 : Class := { plain "int" none with kind := .primitive 'I', accessFlags := 0x411 }
/-- [I -/
def k24 : Class := { plain "[I" (some 0) with kind := .array 23 .int, interfaces := #[18, 2], accessFlags := 1041 }

def heap : Heap := #[{ cls := 7, slots := #[.long 0, .int 1, .null, .int 0, .null, .int 0, .int 0], vm := .statics 7 },
  { cls := 16, slots := #[.null, .null, .null], vm := .statics 16 }]
def classes : Array Class := #[k0, k1, k2, k3, k4, k5, k6, k7, k8, k9, k10, k11, k12, k13, k14, k15, k16, k17, k18, k19, k20, k21, k22, k23, k24]
def interned : List (Array UInt16 × Addr) := []
def slotsUsed : Nat := 10
def theMethod : MethodId := ⟨1, 3⟩
def args0 : Array Value := #[.int 7, .int 9, .int 5]
def aboutOver (below : List Frame) : State where
  vm := { classes := classes, interned := interned.toArray }
  heap := heap
  slotsUsed := slotsUsed
  threads := #[{ frames := .invoking theMethod args0 :: below }]
def below0 : List Frame := [.native { method := ⟨0, 0⟩, args := #[] }]
def about1 : State := aboutOver below0
def p0 : Program := .bare "" "" ""
def e0 : Env := launch0.env 0 0 0
theorem w_frames : about1.frames = Frame.invoking theMethod args0 :: below0 := rfl
set_option maxRecDepth 65536 in
theorem w_args : argsFit about1.vm theMethod args0 = true := by decide +kernel
set_option maxRecDepth 65536 in
theorem w_heap : heapFits about1 = true := by decide +kernel
set_option maxRecDepth 65536 in
theorem w_runnable : about1.curStatus? = some .runnable := by decide +kernel
set_option maxRecDepth 65536 in
theorem w_alone : about1.alone = true := by decide +kernel
set_option maxRecDepth 65536 in
theorem w_named : about1.methodNamed? x = some theMethod := by decide +kernel
set_option maxRecDepth 65536 in
theorem w_hears : about1.hears theMethod below0 = true := by decide +kernel
set_option maxRecDepth 65536 in
theorem w_ripe : about1.ripe theMethod args0 below0 = true := by decide +kernel
theorem w_running : about1.status = .running := rfl
set_option maxRecDepth 65536 in
theorem w_room : about1.hasRoom e0.platform room_1 = true :=
  launch0.hasRoom_least _ room_1 (by decide +kernel) (by decide +kernel) (by decide +kernel) (by decide +kernel) (by decide +kernel) (by decide +kernel)
theorem allAtoms_all (ts : List Jvm.Cond) (a : Array Jvm.Value) (st : Jvm.State) : (allAtoms ts).before a st = ts.all (fun c => c.before a st) := by
  induction ts with
  | nil => rfl
  | cons c t ih =>
    show (Jvm.Cond.and c (allAtoms t)).before a st = _
    rw [Jvm.Cond.before_and, ih, List.all_cons]
def words1 : List Jvm.Cond := Jvm.Cond.code x code maxLocals ret :: tables_1
/-- a 'code' word, met by the world's own term for the bytes: nothing is compared byte by byte -/
theorem code_word {y : MethodName} {bytes : ByteArray} {mx : Nat} {rt : Option FieldType} {a : Array Value} {s : State} {m : MethodId} {meth : Method} {c : Code} (h1 : s.methodNamed? y = some m) (h2 : s.vm.method? m = some meth) (h3 : meth.code = some c) (h4 : c.code = bytes)
    (h5 : (c.maxLocals == mx && c.exceptionTable.isEmpty && decide (c.maxStack ≤ mostOperands) && decide (meth.sig.returnType = rt) && !meth.locks && decide (parseMethodDescriptor y.desc = some meth.sig)) = true) : (Jvm.Cond.code y bytes mx rt).before a s = true := by
  simp only [Bool.and_eq_true, beq_iff_eq, Bool.not_eq_true', decide_eq_true_eq] at h5
  obtain ⟨⟨⟨⟨⟨g1, g2⟩, g3⟩, g4⟩, g5⟩, g6⟩ := h5
  simp [Cond.before, Cond.holds, Cond.value, h1, h2, h3, h4, g1, g2, g3, g4, g5, g6]
def isCode : Jvm.Cond → Bool
  | .code _ _ _ _ => true
  | _ => false
theorem all_split {L : List Jvm.Cond} {P : Jvm.Cond → Bool} (h1 : L.all (fun c => isCode c || P c) = true) (h2 : ∀ c ∈ L.filter isCode, P c = true) : L.all P = true := by
  refine List.all_eq_true.mpr fun c hc => ?_
  have h := List.all_eq_true.mp h1 c hc
  rcases Bool.eq_false_or_eq_true (isCode c) with hi | hi
  · exact h2 c (List.mem_filter.mpr ⟨hc, hi⟩)
  · simpa [hi] using h
set_option maxRecDepth 65536 in
theorem w_c0 : (Jvm.Cond.code x code maxLocals ret).before args0 about1 = true := code_word (m := ⟨1, 3⟩) (meth := k1m3) (c := k1c3) (by decide +kernel) rfl rfl rfl (by decide +kernel)
set_option maxRecDepth 65536 in
theorem w_c1 : (Jvm.Cond.code ({ cls := "com/example/corollary/corollary/model/NamedClassEqualsPinLaw", name := "mk", desc := "(ICCC)Ljava/lang/String;" } : Jvm.MethodName) method_2_code (4 : Nat) (Option.some (Jvm.ClassFile.FieldType.object "java/lang/String"))).before args0 about1 = true := code_word (m := ⟨1, 1⟩) (meth := k1m1) (c := k1c1) (by decide +kernel) rfl rfl rfl (by decide +kernel)
set_option maxRecDepth 65536 in
theorem w_c2 : (Jvm.Cond.code ({ cls := "java/lang/String", name := "<init>", desc := "([C)V" } : Jvm.MethodName) jdk_42_method_3_code (2 : Nat) (Option.none : Option Jvm.ClassFile.FieldType)).before args0 about1 = true := code_word (m := ⟨7, 1⟩) (meth := k7m1) (c := k7c1) (by decide +kernel) rfl rfl rfl (by decide +kernel)
set_option maxRecDepth 65536 in
theorem w_c3 : (Jvm.Cond.code ({ cls := "java/lang/String", name := "<init>", desc := "([CIILjava/lang/Void;)V" } : Jvm.MethodName) jdk_42_method_149_code (6 : Nat) (Option.none : Option Jvm.ClassFile.FieldType)).before args0 about1 = true := code_word (m := ⟨7, 3⟩) (meth := k7m3) (c := k7c3) (by decide +kernel) rfl rfl rfl (by decide +kernel)
set_option maxRecDepth 65536 in
theorem w_c4 : (Jvm.Cond.code ({ cls := "java/lang/Object", name := "<init>", desc := "()V" } : Jvm.MethodName) object_method_1_code (1 : Nat) (Option.none : Option Jvm.ClassFile.FieldType)).before args0 about1 = true := code_word (m := ⟨0, 0⟩) (meth := k0m0) (c := k0c0) (by decide +kernel) rfl rfl rfl (by decide +kernel)
set_option maxRecDepth 65536 in
theorem w_c5 : (Jvm.Cond.code ({ cls := "com/example/corollary/corollary/model/NamedClass", name := "<init>", desc := "(Ljava/lang/String;)V" } : Jvm.MethodName) prog_11_method_1_code (2 : Nat) (Option.none : Option Jvm.ClassFile.FieldType)).before args0 about1 = true := code_word (m := ⟨10, 0⟩) (meth := k10m0) (c := k10c0) (by decide +kernel) rfl rfl rfl (by decide +kernel)
set_option maxRecDepth 65536 in
theorem w_c6 : (Jvm.Cond.code ({ cls := "java/lang/Record", name := "<init>", desc := "()V" } : Jvm.MethodName) jdk_30_method_1_code (1 : Nat) (Option.none : Option Jvm.ClassFile.FieldType)).before args0 about1 = true := code_word (m := ⟨8, 0⟩) (meth := k8m0) (c := k8c0) (by decide +kernel) rfl rfl rfl (by decide +kernel)
set_option maxRecDepth 65536 in
theorem w_c7 : (Jvm.Cond.code ({ cls := "java/util/Objects", name := "requireNonNull", desc := "(Ljava/lang/Object;Ljava/lang/String;)Ljava/lang/Object;" } : Jvm.MethodName) jdk_31_method_11_code (2 : Nat) (Option.some (Jvm.ClassFile.FieldType.object "java/lang/Object"))).before args0 about1 = true := code_word (m := ⟨11, 1⟩) (meth := k11m1) (c := k11c1) (by decide +kernel) rfl rfl rfl (by decide +kernel)
set_option maxRecDepth 65536 in
theorem w_c8 : (Jvm.Cond.code ({ cls := "com/example/corollary/corollary/model/NamedClass", name := "equals", desc := "(Ljava/lang/Object;)Z" } : Jvm.MethodName) prog_11_method_2_code (3 : Nat) (Option.some Jvm.ClassFile.FieldType.boolean)).before args0 about1 = true := code_word (m := ⟨10, 1⟩) (meth := k10m1) (c := k10c1) (by decide +kernel) rfl rfl rfl (by decide +kernel)
set_option maxRecDepth 65536 in
theorem w_c9 : (Jvm.Cond.code ({ cls := "java/lang/String", name := "equals", desc := "(Ljava/lang/Object;)Z" } : Jvm.MethodName) jdk_42_method_66_code (3 : Nat) (Option.some Jvm.ClassFile.FieldType.boolean)).before args0 about1 = true := code_word (m := ⟨7, 2⟩) (meth := k7m2) (c := k7c2) (by decide +kernel) rfl rfl rfl (by decide +kernel)
set_option maxRecDepth 65536 in
theorem w_c10 : (Jvm.Cond.code ({ cls := "java/lang/StringLatin1", name := "equals", desc := "([B[B)Z" } : Jvm.MethodName) jdk_43_method_13_code (3 : Nat) (Option.some Jvm.ClassFile.FieldType.boolean)).before args0 about1 = true := code_word (m := ⟨12, 1⟩) (meth := k12m1) (c := k12c1) (by decide +kernel) rfl rfl rfl (by decide +kernel)
set_option maxRecDepth 65536 in
theorem w_c11 : (Jvm.Cond.code ({ cls := "java/lang/StringUTF16", name := "compress", desc := "([CII)[B" } : Jvm.MethodName) jdk_52_method_16_code (6 : Nat) (Option.some (Jvm.ClassFile.FieldType.array Jvm.ClassFile.FieldType.byte))).before args0 about1 = true := code_word (m := ⟨13, 2⟩) (meth := k13m2) (c := k13c2) (by decide +kernel) rfl rfl rfl (by decide +kernel)
set_option maxRecDepth 65536 in
theorem w_c12 : (Jvm.Cond.code ({ cls := "java/lang/StringUTF16", name := "compress", desc := "([CI[BII)I" } : Jvm.MethodName) jdk_52_method_21_code (7 : Nat) (Option.some Jvm.ClassFile.FieldType.int)).before args0 about1 = true := code_word (m := ⟨13, 3⟩) (meth := k13m3) (c := k13c3) (by decide +kernel) rfl rfl rfl (by decide +kernel)
set_option maxRecDepth 65536 in
theorem w_c13 : (Jvm.Cond.code ({ cls := "java/lang/StringUTF16", name := "coderFromArrayLen", desc := "([BI)B" } : Jvm.MethodName) jdk_52_method_15_code (2 : Nat) (Option.some Jvm.ClassFile.FieldType.byte)).before args0 about1 = true := code_word (m := ⟨13, 1⟩) (meth := k13m1) (c := k13c1) (by decide +kernel) rfl rfl rfl (by decide +kernel)
set_option maxRecDepth 65536 in
theorem w_c14 : (Jvm.Cond.code ({ cls := "com/example/corollary/corollary/model/NamedClassEqualsPinLaw", name := "sameStr", desc := "(ICCCICCC)Z" } : Jvm.MethodName) method_3_code (8 : Nat) (Option.some Jvm.ClassFile.FieldType.boolean)).before args0 about1 = true := code_word (m := ⟨1, 2⟩) (meth := k1m2) (c := k1c2) (by decide +kernel) rfl rfl rfl (by decide +kernel)
set_option maxRecDepth 65536 in
theorem w_c15 : (Jvm.Cond.code ({ cls := "com/example/corollary/corollary/model/ObjectProperty", name := "<init>", desc := "(Ljava/lang/String;)V" } : Jvm.MethodName) prog_20_method_1_code (2 : Nat) (Option.none : Option Jvm.ClassFile.FieldType)).before args0 about1 = true := code_word (m := ⟨15, 0⟩) (meth := k15m0) (c := k15c0) (by decide +kernel) rfl rfl rfl (by decide +kernel)
def codes1 : List Jvm.Cond := [Jvm.Cond.code x code maxLocals ret, Jvm.Cond.code ({ cls := "com/example/corollary/corollary/model/NamedClassEqualsPinLaw", name := "mk", desc := "(ICCC)Ljava/lang/String;" } : Jvm.MethodName) method_2_code (4 : Nat) (Option.some (Jvm.ClassFile.FieldType.object "java/lang/String")), Jvm.Cond.code ({ cls := "java/lang/String", name := "<init>", desc := "([C)V" } : Jvm.MethodName) jdk_42_method_3_code (2 : Nat) (Option.none : Option Jvm.ClassFile.FieldType), Jvm.Cond.code ({ cls := "java/lang/String", name := "<init>", desc := "([CIILjava/lang/Void;)V" } : Jvm.MethodName) jdk_42_method_149_code (6 : Nat) (Option.none : Option Jvm.ClassFile.FieldType), Jvm.Cond.code ({ cls := "java/lang/Object", name := "<init>", desc := "()V" } : Jvm.MethodName) object_method_1_code (1 : Nat) (Option.none : Option Jvm.ClassFile.FieldType), Jvm.Cond.code ({ cls := "com/example/corollary/corollary/model/NamedClass", name := "<init>", desc := "(Ljava/lang/String;)V" } : Jvm.MethodName) prog_11_method_1_code (2 : Nat) (Option.none : Option Jvm.ClassFile.FieldType), Jvm.Cond.code ({ cls := "java/lang/Record", name := "<init>", desc := "()V" } : Jvm.MethodName) jdk_30_method_1_code (1 : Nat) (Option.none : Option Jvm.ClassFile.FieldType), Jvm.Cond.code ({ cls := "java/util/Objects", name := "requireNonNull", desc := "(Ljava/lang/Object;Ljava/lang/String;)Ljava/lang/Object;" } : Jvm.MethodName) jdk_31_method_11_code (2 : Nat) (Option.some (Jvm.ClassFile.FieldType.object "java/lang/Object")), Jvm.Cond.code ({ cls := "com/example/corollary/corollary/model/NamedClass", name := "equals", desc := "(Ljava/lang/Object;)Z" } : Jvm.MethodName) prog_11_method_2_code (3 : Nat) (Option.some Jvm.ClassFile.FieldType.boolean), Jvm.Cond.code ({ cls := "java/lang/String", name := "equals", desc := "(Ljava/lang/Object;)Z" } : Jvm.MethodName) jdk_42_method_66_code (3 : Nat) (Option.some Jvm.ClassFile.FieldType.boolean), Jvm.Cond.code ({ cls := "java/lang/StringLatin1", name := "equals", desc := "([B[B)Z" } : Jvm.MethodName) jdk_43_method_13_code (3 : Nat) (Option.some Jvm.ClassFile.FieldType.boolean), Jvm.Cond.code ({ cls := "java/lang/StringUTF16", name := "compress", desc := "([CII)[B" } : Jvm.MethodName) jdk_52_method_16_code (6 : Nat) (Option.some (Jvm.ClassFile.FieldType.array Jvm.ClassFile.FieldType.byte)), Jvm.Cond.code ({ cls := "java/lang/StringUTF16", name := "compress", desc := "([CI[BII)I" } : Jvm.MethodName) jdk_52_method_21_code (7 : Nat) (Option.some Jvm.ClassFile.FieldType.int), Jvm.Cond.code ({ cls := "java/lang/StringUTF16", name := "coderFromArrayLen", desc := "([BI)B" } : Jvm.MethodName) jdk_52_method_15_code (2 : Nat) (Option.some Jvm.ClassFile.FieldType.byte), Jvm.Cond.code ({ cls := "com/example/corollary/corollary/model/NamedClassEqualsPinLaw", name := "sameStr", desc := "(ICCCICCC)Z" } : Jvm.MethodName) method_3_code (8 : Nat) (Option.some Jvm.ClassFile.FieldType.boolean), Jvm.Cond.code ({ cls := "com/example/corollary/corollary/model/ObjectProperty", name := "<init>", desc := "(Ljava/lang/String;)V" } : Jvm.MethodName) prog_20_method_1_code (2 : Nat) (Option.none : Option Jvm.ClassFile.FieldType)]
set_option maxRecDepth 65536 in
theorem codes_eq : words1.filter isCode = codes1 := rfl
theorem w_codes : ∀ c ∈ words1.filter isCode, c.before args0 about1 = true := by
  rw [codes_eq]
  intro c hc
  simp only [codes1, List.mem_cons, List.not_mem_nil, or_false] at hc
  rcases hc with rfl | rfl | rfl | rfl | rfl | rfl | rfl | rfl | rfl | rfl | rfl | rfl | rfl | rfl | rfl | rfl
  · exact w_c0
  · exact w_c1
  · exact w_c2
  · exact w_c3
  · exact w_c4
  · exact w_c5
  · exact w_c6
  · exact w_c7
  · exact w_c8
  · exact w_c9
  · exact w_c10
  · exact w_c11
  · exact w_c12
  · exact w_c13
  · exact w_c14
  · exact w_c15
set_option maxRecDepth 65536 in
theorem w_t1 : (words1.take 24).all (fun c => isCode c || c.before args0 about1) = true := by decide +kernel
set_option maxRecDepth 65536 in
theorem w_t2 : ((words1.drop 24).take 24).all (fun c => isCode c || c.before args0 about1) = true := by decide +kernel
set_option maxRecDepth 65536 in
theorem w_t3 : (((words1.drop 24).drop 24).take 24).all (fun c => isCode c || c.before args0 about1) = true := by decide +kernel
set_option maxRecDepth 65536 in
theorem w_t4 : (((words1.drop 24).drop 24).drop 24).all (fun c => isCode c || c.before args0 about1) = true := by decide +kernel
theorem w_tables : (allAtoms (Jvm.Cond.code x code maxLocals ret :: tables_1)).before args0 about1 = true := by
  rw [allAtoms_all]
  show words1.all (fun c => c.before args0 about1) = true
  refine all_split ?_ w_codes
  rw [← List.take_append_drop 24 words1, List.all_append, w_t1, ← List.take_append_drop 24 (words1.drop 24), List.all_append, w_t2, ← List.take_append_drop 24 ((words1.drop 24).drop 24), List.all_append, w_t3, w_t4]
  rfl
set_option maxRecDepth 65536 in
theorem w_rest : rest_1_c.before args0 about1 = true := by decide +kernel
set_option maxRecDepth 65536 in
theorem w_case : (Jvm.Cond.and given_1 narrow_1).before args0 about1 = true := by decide +kernel
set_option maxRecDepth 65536 in
theorem w_consts : constsHeld consts_1 about1 := Jvm.Lit.constsHeldB_iff.mp (by decide +kernel)
theorem w_applies : (headSpec (Jvm.Cond.code x code maxLocals ret :: tables_1) room_1).applies x e0.platform about1 = true :=
  (Spec.applies_iff w_frames).mpr ⟨w_running, w_runnable, w_alone, w_named, w_hears, w_ripe, w_room, w_tables⟩
theorem atStart : AtStart classFile x code maxLocals ret World_1 tables_1 room_1 Calls_1 rest_1 Pre_1 launch0 p0 e0 about1 theMethod args0 below0 :=
  ⟨lists_1, trivial, launch0.admits_env _ _ _, launch0.least_env, fairChoices_fair.cas, fairChoices_fair.clock, w_frames, w_args, w_heap, w_applies, ⟨w_consts, trivial⟩, w_rest, w_case⟩
end start1
theorem witness_1 : WitnessClaimed_1 := ⟨start1.p0, start1.e0, start1.about1, start1.theMethod, start1.args0, start1.below0, start1.atStart⟩
end Jvm.Pilot.@@N@@
