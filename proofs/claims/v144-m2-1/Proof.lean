import JvmDerived
import JvmDerived.Pilot.@@N@@Statement
import JvmDerived.Pilot.@@N@@Code
set_option linter.unusedVariables false
set_option linter.unusedSimpArgs false
/- laws to paste: Road.backV, Road.eqW, Road.codOf (cut by pick.py; bodies as the Statement names them) -/
namespace Jvm.Pilot.@@N@@
namespace StrChars
open Jvm Sem ClassFile Op Lib Jvm.Stand Jvm.Free.XT Jvm.Free.ALB Jvm.Free.JM Jvm.Free
open Jvm.Lib.Cold (StaticIs)
/-- a char array whose places are chars -/
def Ch (a : Addr) (A : Cell) (U : State) : Prop := Arr .char a A U ∧ Typed .char A
theorem Ch.mv {a : Addr} {A : Cell} {U U' : State} (h : Ch a A U) (hal : U.vm.Alike U'.vm) (hh : U'.heap = U.heap) : Ch a A U' := ⟨h.1.mv hal hh, h.2⟩
theorem Ch.keep {a : Addr} {A : Cell} {U U' : State} (h : Ch a A U) (hal : U.vm.Alike U'.vm) (hk : U'.heap[a]? = some A) : Ch a A U' := ⟨h.1.keep hal hk, h.2⟩
/-- what place i of a char[]'s cell holds -/
def cv (A : Cell) (i : Nat) : Int32 := match A.slots[i]? with | some (.int x) => x | _ => 0
theorem Ch.get {a : Addr} {A : Cell} {U : State} (h : Ch a A U) {i : Nat} (hi : i < A.slots.size) : A.slots[i]? = some (.int (cv A i)) := by
  have e := Array.getElem?_eq_getElem hi
  have f := h.2 i _ e
  unfold cv; rw [e]
  generalize A.slots[i] = v at f
  cases v <;> simp [fits] at f ⊢
/-- the byte that i2b leaves of a char -/
def lo8 (x : Int32) : Int32 := x.toInt8.toInt32
theorem fits_lo8 (y : Int32) : fits .byte (.int (lo8 y)) = true := by
  have h1 := y.toInt8.le_toInt
  have h2 := y.toInt8.toInt_lt
  simp only [lo8, fits, Bool.and_eq_true, decide_eq_true_eq, Int32.le_iff_toInt_le, Int8.toInt_toInt32, show (-128 : Int32).toInt = -128 from by decide, show (127 : Int32).toInt = 127 from by decide]
  omega
/-- A' is A but that each place j of lo .. hi - 1 holds f j -/
def Laid (A A' : Cell) (lo hi : Nat) (f : Nat → Value) : Prop := A'.cls = A.cls ∧ A'.vm = A.vm ∧ A'.slots.size = A.slots.size ∧ ∀ i, A'.slots[i]? = if lo ≤ i ∧ i < hi then some (f i) else A.slots[i]?
theorem Laid.zero (A : Cell) (lo : Nat) (f : Nat → Value) : Laid A A lo (lo + 0) f := ⟨rfl, rfl, rfl, fun i => by rw [if_neg (by omega)]⟩
theorem Laid.step {A Ak : Cell} {lo k : Nat} {f : Nat → Value} {v : Value} (h : Laid A Ak lo k f) (hlo : lo ≤ k) (hk : k < Ak.slots.size) (hv : v = f k) : Laid A (Ak.setSlot k v) lo (k + 1) f := by
  refine ⟨h.1, h.2.1, by simpa [Cell.setSlot] using h.2.2.1, fun i => ?_⟩
  by_cases e : k = i
  · subst e; rw [Cell.slots_setSlot_self v hk, if_pos (by omega), hv]
  · rw [Cell.slots_setSlot_ne v e, h.2.2.2 i]
    by_cases q : lo ≤ i ∧ i < k
    · rw [if_pos q, if_pos (by omega)]
    · rw [if_neg q, if_neg (by omega)]
def U16 : String := "java/lang/StringUTF16"
namespace Cmp5
def yN : MethodName := ⟨"java/lang/StringUTF16", "compress", "([CI[BII)I"⟩
abbrev yB : ByteArray := jdk_52_method_21_code
theorem d0 : decode yB 0 = .ok (.iconst 0, 1) := by decide +kernel
theorem d1 : decode yB 1 = .ok (.istore 5, 2) := by decide +kernel
theorem d3 : decode yB 3 = .ok (.iload 5, 2) := by decide +kernel
theorem d5 : decode yB 5 = .ok (.iload 4, 2) := by decide +kernel
theorem d7 : decode yB 7 = .ok (.if_icmp (.ge) 37, 3) := by decide +kernel
theorem d10 : decode yB 10 = .ok (.aload_n 0, 1) := by decide +kernel
theorem d11 : decode yB 11 = .ok (.iload_n 1, 1) := by decide +kernel
theorem d12 : decode yB 12 = .ok (.caload, 1) := by decide +kernel
theorem d13 : decode yB 13 = .ok (.istore 6, 2) := by decide +kernel
theorem d15 : decode yB 15 = .ok (.iload 6, 2) := by decide +kernel
theorem d17 : decode yB 17 = .ok (.sipush 255, 3) := by decide +kernel
theorem d20 : decode yB 20 = .ok (.if_icmp (.le) 6, 3) := by decide +kernel
theorem d26 : decode yB 26 = .ok (.aload_n 2, 1) := by decide +kernel
theorem d27 : decode yB 27 = .ok (.iload_n 3, 1) := by decide +kernel
theorem d28 : decode yB 28 = .ok (.iload 6, 2) := by decide +kernel
theorem d30 : decode yB 30 = .ok (.i2b, 1) := by decide +kernel
theorem d31 : decode yB 31 = .ok (.bastore, 1) := by decide +kernel
theorem d32 : decode yB 32 = .ok (.iinc 1 1, 3) := by decide +kernel
theorem d35 : decode yB 35 = .ok (.iinc 3 1, 3) := by decide +kernel
theorem d38 : decode yB 38 = .ok (.iinc 5 1, 3) := by decide +kernel
theorem d41 : decode yB 41 = .ok (.goto (-38), 3) := by decide +kernel
theorem d44 : decode yB 44 = .ok (.iload 4, 2) := by decide +kernel
theorem d46 : decode yB 46 = .ok (.ireturn, 1) := by decide +kernel
def site : List Cond := []
def tab : Cond := tabOf yN yB 7 (some .int) site
def P (b : Addr) (A : Cell) (d : Addr) (B : Cell) (o q len : Nat) (args : Array Value) (s : State) : Prop := args = #[.ref b, .int (Int32.ofNat o), .ref d, .int (Int32.ofNat q), .int (Int32.ofNat len)] ∧ Ch b A s ∧ Arr .byte d B s ∧ b ≠ d ∧ o + len ≤ A.slots.size ∧ q + len ≤ B.slots.size ∧ ∀ i, i < len → ¬ 255 < cv A (o + i)
def E (b : Addr) (A : Cell) (d : Addr) (B : Cell) (o q len : Nat) (r : Option Value) (s u : State) : Prop := r = some (.int (Int32.ofNat len)) ∧ ∃ B', Put d B' s u ∧ Laid B B' q (q + len) (fun j => Value.int (lo8 (cv A (o + (j - q)))))
/-- no char of the range above 255: len; the places written hold each char's low byte -/
theorem law (l : Launch) (b : Addr) (A : Cell) (d : Addr) (B : Cell) (o q len : Nat) : Law l yN 5 5 0 0 yB 7 (some .int) site (P b A d B o q len) (E b A d B o q len) (copyLocs d q len) 0 0 := by
  refine Law.of_walk (plainFor_of_name (by decide +kernel)) (by decide +kernel) (by decide +kernel) (by decide) (fun _ _ h => by rw [h.1]; rfl) (fun _ U U' hal hh h => ⟨h.1, h.2.1.mv hal hh, h.2.2.1.mv hal hh, h.2.2.2⟩) (fun r U U' V V' h1 hal h2 h => ⟨h.1, h.2.elim fun B' q => ⟨B', q.1.mv h1 h2, q.2⟩⟩) ?_
  intro p e s m args below meth c s₁ X0 hexec hbytes hml hret hlk hnm hown hh0 W hP
  obtain ⟨rfl, hA, hB, hne, l1, l2, hp⟩ := hP
  have c1 : Steps p.tables e below (s₁.setTop (entryFrame m #[.ref b, .int (Int32.ofNat o), .ref d, .int (Int32.ofNat q), .int (Int32.ofNat len)] 7)) (s₁.setTop (mkF m 0 #[.val (.ref b), .val (.int (Int32.ofNat o)), .val (.ref d), .val (.int (Int32.ofNat q)), .val (.int (Int32.ofNat len)), .unset, .unset] [])) := entry rfl
  have hA0 := hA.1.mv X0.warmed.alike hh0
  have hB0 := hB.mv X0.warmed.alike hh0
  have a31 := hA.1.2.2.2
  have c2 : Steps p.tables e below (s₁.setTop (entryFrame m #[.ref b, .int (Int32.ofNat o), .ref d, .int (Int32.ofNat q), .int (Int32.ofNat len)] 7)) (s₁.setTop (mkF m 3 #[.val (.ref b), .val (.int (Int32.ofNat o)), .val (.ref d), .val (.int (Int32.ofNat q)), .val (.int (Int32.ofNat len)), .val (.int 0), .unset] [])) := c1.trans (by
    refine iconstV X0.here hexec rfl 0 (hb hbytes d0) (by decide) ?_
    refine XS.istore X0.here hexec rfl (hb hbytes d1) rfl rfl ?_
    exact Steps.refl _)
  have loop : ∀ (r i : Nat), i + r = len → ∀ (z : Slot), (z = .unset ∨ ∃ w, z = .val w ∧ w.category = 1) → ∀ (Tl : State) (Bk : Cell), Stand p l e { frames := 0, locals := 0, cells := 0, slots := 0 } s m #[.ref b, .int (Int32.ofNat o), .ref d, .int (Int32.ofNat q), .int (Int32.ofNat len)] below meth c Tl ([] ++ copyLocs d q i) 0 0 → Put d Bk s₁ Tl → Laid B Bk q (q + i) (fun j => Value.int (lo8 (cv A (o + (j - q))))) →
      Steps p.tables e below (s₁.setTop (entryFrame m #[.ref b, .int (Int32.ofNat o), .ref d, .int (Int32.ofNat q), .int (Int32.ofNat len)] 7)) (Tl.setTop (mkF m 3 #[.val (.ref b), .val (.int (Int32.ofNat (o + i))), .val (.ref d), .val (.int (Int32.ofNat (q + i))), .val (.int (Int32.ofNat len)), .val (.int (Int32.ofNat i)), z] [])) → ∃ (T' : State) (B' : Cell) (z' : Slot), Stand p l e { frames := 0, locals := 0, cells := 0, slots := 0 } s m #[.ref b, .int (Int32.ofNat o), .ref d, .int (Int32.ofNat q), .int (Int32.ofNat len)] below meth c T' ([] ++ copyLocs d q len) 0 0 ∧ Put d B' s₁ T' ∧ Laid B B' q (q + len) (fun j => Value.int (lo8 (cv A (o + (j - q))))) ∧
      Steps p.tables e below (s₁.setTop (entryFrame m #[.ref b, .int (Int32.ofNat o), .ref d, .int (Int32.ofNat q), .int (Int32.ofNat len)] 7)) (T'.setTop (mkF m 3 #[.val (.ref b), .val (.int (Int32.ofNat (o + len))), .val (.ref d), .val (.int (Int32.ofNat (q + len))), .val (.int (Int32.ofNat len)), .val (.int (Int32.ofNat len)), z'] [])) := by
    intro r
    induction r with
    | zero =>
      intro i hi z hz Tl Bk Xl pl fl cl
      have hil : i = len := by omega
      rw [hil] at Xl fl cl
      exact ⟨Tl, Bk, z, Xl, pl, fl, cl⟩
    | succ r ih =>
      intro i hi z hz Tl Bk Xl pl fl cl
      have all := X0.warmed.alike.symm.trans Xl.warmed.alike
      have hAl := hA0.keep all (pl.other hne hA0.1)
      have hBk := hB0.like all pl.1 fl.1 fl.2.1 fl.2.2.1
      have hlt : q + i < Bk.slots.size := by rw [fl.2.2.1]; omega
      have c3 : Steps p.tables e below (s₁.setTop (entryFrame m #[.ref b, .int (Int32.ofNat o), .ref d, .int (Int32.ofNat q), .int (Int32.ofNat len)] 7)) (Tl.setTop (mkF m 12 #[.val (.ref b), .val (.int (Int32.ofNat (o + i))), .val (.ref d), .val (.int (Int32.ofNat (q + i))), .val (.int (Int32.ofNat len)), .val (.int (Int32.ofNat i)), z] [.int (Int32.ofNat (o + i)), .ref b])) := cl.trans (by
        refine XS.iload Xl.here hexec rfl (hb hbytes d3) rfl ?_
        refine XS.iload Xl.here hexec rfl (hb hbytes d5) rfl ?_
        refine XS.icmpNo Xl.here hexec rfl (hb hbytes d7) rfl (ii_ge_f (lt32 (by omega) (by omega))) ?_
        refine XS.aloadN Xl.here hexec rfl (hb hbytes d10) rfl rfl ?_
        refine XS.iloadN Xl.here hexec rfl (hb hbytes d11) rfl ?_
        exact Steps.refl _)
      have c4 : Steps p.tables e below (s₁.setTop (entryFrame m #[.ref b, .int (Int32.ofNat o), .ref d, .int (Int32.ofNat q), .int (Int32.ofNat len)] 7)) (Tl.setTop (mkF m 13 #[.val (.ref b), .val (.int (Int32.ofNat (o + i))), .val (.ref d), .val (.int (Int32.ofNat (q + i))), .val (.int (Int32.ofNat len)), .val (.int (Int32.ofNat i)), z] [.int (cv A (o + i))])) := c3.trans (by
        refine Xl.aget hexec hAl rfl (hA.get (i := o + i) (by omega)) rfl rfl (hb hbytes d12) ?_
        exact Steps.refl _)
      have c5 : Steps p.tables e below (s₁.setTop (entryFrame m #[.ref b, .int (Int32.ofNat o), .ref d, .int (Int32.ofNat q), .int (Int32.ofNat len)] 7)) (Tl.setTop (mkF m 15 #[.val (.ref b), .val (.int (Int32.ofNat (o + i))), .val (.ref d), .val (.int (Int32.ofNat (q + i))), .val (.int (Int32.ofNat len)), .val (.int (Int32.ofNat i)), .val (.int (cv A (o + i)))] [])) := c4.trans (by
        refine XS.istoreS Xl.here hexec rfl (hb hbytes d13) rfl rfl hz ?_
        exact Steps.refl _)
      have c6 : Steps p.tables e below (s₁.setTop (entryFrame m #[.ref b, .int (Int32.ofNat o), .ref d, .int (Int32.ofNat q), .int (Int32.ofNat len)] 7)) (Tl.setTop (mkF m 31 #[.val (.ref b), .val (.int (Int32.ofNat (o + i))), .val (.ref d), .val (.int (Int32.ofNat (q + i))), .val (.int (Int32.ofNat len)), .val (.int (Int32.ofNat i)), .val (.int (cv A (o + i)))] [.int (lo8 (cv A (o + i))), .int (Int32.ofNat (q + i)), .ref d])) := c5.trans (by
        refine XS.iload Xl.here hexec rfl (hb hbytes d15) rfl ?_
        refine sipushV Xl.here hexec rfl 255 (hb hbytes d17) (by decide) ?_
        refine XS.icmpYes Xl.here hexec rfl (pc0 := 20) rfl (hb hbytes d20) rfl (ii_le_t (hp i (by omega))) (by decide) rfl ?_
        refine XS.aloadN Xl.here hexec rfl (hb hbytes d26) rfl rfl ?_
        refine XS.iloadN Xl.here hexec rfl (hb hbytes d27) rfl ?_
        refine XS.iload Xl.here hexec rfl (hb hbytes d28) rfl ?_
        refine i2b Xl.here hexec rfl (hb hbytes d30) rfl ?_
        exact Steps.refl _)
      obtain ⟨T7, X7, p7, st7⟩ := Xl.aput hexec hBk rfl hlt rfl (fits_lo8 (cv A (o + i))) (g := (mkF m 31 #[.val (.ref b), .val (.int (Int32.ofNat (o + i))), .val (.ref d), .val (.int (Int32.ofNat (q + i))), .val (.int (Int32.ofNat len)), .val (.int (Int32.ofNat i)), .val (.int (cv A (o + i)))] [.int (lo8 (cv A (o + i))), .int (Int32.ofNat (q + i)), .ref d])) rfl (rest := []) rfl (hb hbytes d31)
      have c8 : Steps p.tables e below (s₁.setTop (entryFrame m #[.ref b, .int (Int32.ofNat o), .ref d, .int (Int32.ofNat q), .int (Int32.ofNat len)] 7)) (T7.setTop (mkF m 32 #[.val (.ref b), .val (.int (Int32.ofNat (o + i))), .val (.ref d), .val (.int (Int32.ofNat (q + i))), .val (.int (Int32.ofNat len)), .val (.int (Int32.ofNat i)), .val (.int (cv A (o + i)))] [])) := c6.trans (st7 _ (Steps.refl _))
      have c9 : Steps p.tables e below (s₁.setTop (entryFrame m #[.ref b, .int (Int32.ofNat o), .ref d, .int (Int32.ofNat q), .int (Int32.ofNat len)] 7)) (T7.setTop (mkF m 3 #[.val (.ref b), .val (.int (Int32.ofNat (o + i) + 1)), .val (.ref d), .val (.int (Int32.ofNat (q + i) + 1)), .val (.int (Int32.ofNat len)), .val (.int (Int32.ofNat i + 1)), .val (.int (cv A (o + i)))] [])) := c8.trans (by
        refine iincV X7.here hexec rfl 1 (hb hbytes d32) (by decide) rfl rfl ?_
        refine iincV X7.here hexec rfl 1 (hb hbytes d35) (by decide) rfl rfl ?_
        refine iincV X7.here hexec rfl 1 (hb hbytes d38) (by decide) rfl rfl ?_
        refine XS.goto X7.here hexec rfl (pc0 := 41) rfl (hb hbytes d41) (by decide) rfl ?_
        exact Steps.refl _)
      have c10 : Steps p.tables e below (s₁.setTop (entryFrame m #[.ref b, .int (Int32.ofNat o), .ref d, .int (Int32.ofNat q), .int (Int32.ofNat len)] 7)) (T7.setTop (mkF m 3 #[.val (.ref b), .val (.int (Int32.ofNat (o + (i + 1)))), .val (.ref d), .val (.int (Int32.ofNat (q + (i + 1)))), .val (.int (Int32.ofNat len)), .val (.int (Int32.ofNat (i + 1))), .val (.int (cv A (o + i)))] [])) := by
        have := c9
        rw [succ32, succ32, succ32] at this
        exact this
      exact ih (i + 1) (by omega) _ (Or.inr ⟨_, rfl, rfl⟩) T7 _ (by rw [copyLocs_step, ← List.append_assoc]; exact X7) (pl.trans p7) (fl.step (by omega) hlt (by simp)) c10
  obtain ⟨T9, B9, z9, X9, p9, f9, g9⟩ := loop len 0 (by omega) .unset (Or.inl rfl) s₁ B (by simpa [copyLocs] using X0) ⟨hB0.1, fun _ _ => rfl, rfl⟩ (Laid.zero _ _ _) c2
  have c11 : Steps p.tables e below (s₁.setTop (entryFrame m #[.ref b, .int (Int32.ofNat o), .ref d, .int (Int32.ofNat q), .int (Int32.ofNat len)] 7)) (T9.setTop (mkF m 46 #[.val (.ref b), .val (.int (Int32.ofNat (o + len))), .val (.ref d), .val (.int (Int32.ofNat (q + len))), .val (.int (Int32.ofNat len)), .val (.int (Int32.ofNat len)), z9] [.int (Int32.ofNat len)])) := g9.trans (by
    refine XS.iload X9.here hexec rfl (hb hbytes d3) rfl ?_
    refine XS.iload X9.here hexec rfl (hb hbytes d5) rfl ?_
    refine XS.icmpYes X9.here hexec rfl (pc0 := 7) rfl (hb hbytes d7) rfl (ii_ge_t (nlt32 (by omega) (Nat.le_refl _))) (by decide) rfl ?_
    refine XS.iload X9.here hexec rfl (hb hbytes d44) rfl ?_
    exact Steps.refl _)
  exact ⟨T9, some (.int (Int32.ofNat len)), _, _, _, X9, by simp, rfl, rfl, (fun h => by cases h), ⟨rfl, B9, p9.from hh0, f9⟩, fun fs hl => c11.trans (X9.ireturnOut hexec hret rfl (Or.inl rfl) (hb hbytes d46) hl)⟩
end Cmp5
namespace Cmp3
def yN : MethodName := ⟨"java/lang/StringUTF16", "compress", "([CII)[B"⟩
abbrev yB : ByteArray := jdk_52_method_16_code
theorem d0 : decode yB 0 = .ok (.iload_n 2, 1) := by decide +kernel
theorem d1 : decode yB 1 = .ok (.newarray .byte, 2) := by decide +kernel
theorem d3 : decode yB 3 = .ok (.astore_n 3, 1) := by decide +kernel
theorem d4 : decode yB 4 = .ok (.aload_n 0, 1) := by decide +kernel
theorem d5 : decode yB 5 = .ok (.iload_n 1, 1) := by decide +kernel
theorem d6 : decode yB 6 = .ok (.aload_n 3, 1) := by decide +kernel
theorem d7 : decode yB 7 = .ok (.iconst 0, 1) := by decide +kernel
theorem d8 : decode yB 8 = .ok (.iload_n 2, 1) := by decide +kernel
theorem d9 : decode yB 9 = .ok (.invokestatic 115, 3) := by decide +kernel
theorem d12 : decode yB 12 = .ok (.istore 4, 2) := by decide +kernel
theorem d14 : decode yB 14 = .ok (.iload 4, 2) := by decide +kernel
theorem d16 : decode yB 16 = .ok (.iload_n 2, 1) := by decide +kernel
theorem d17 : decode yB 17 = .ok (.if_icmp (.eq) 40, 3) := by decide +kernel
theorem d57 : decode yB 57 = .ok (.aload_n 3, 1) := by decide +kernel
theorem d58 : decode yB 58 = .ok (.areturn, 1) := by decide +kernel
def site : List Cond := [.arrayClass .byte, Cmp5.tab] ++ staticW U16 115 Cmp5.yN
def tab : Cond := tabOf yN yB 6 (some (.array .byte)) site
def P (b : Addr) (A : Cell) (o len : Nat) (args : Array Value) (s : State) : Prop := args = #[.ref b, .int (Int32.ofNat o), .int (Int32.ofNat len)] ∧ Ch b A s ∧ o + len ≤ A.slots.size ∧ len ≤ 536870912 ∧ ∀ i, i < len → ¬ 255 < cv A (o + i)
def E (b : Addr) (A : Cell) (o len : Nat) (r : Option Value) (s u : State) : Prop := NewArr .byte "[B" len (fun j => .int (lo8 (cv A (o + j)))) r s u ∧ u.heap.size = s.heap.size + 1
/-- no char of the range above 255: a new byte[] of their low bytes -/
theorem law (l : Launch) (b : Addr) (A : Cell) (o len : Nat) : Law l yN 3 3 1 18 yB 6 (some (.array .byte)) site (P b A o len) (E b A o len) [] 1 len := by
  refine Law.of_walk (plainFor_of_name (by decide +kernel)) (by decide +kernel) (by decide +kernel) (by decide) (fun _ _ h => by rw [h.1]; rfl) (fun _ U U' hal hh h => ⟨h.1, h.2.1.mv hal hh, h.2.2⟩) (fun r U U' V V' h1 hal h2 h => ⟨NewArr.mv r U U' V V' h1 hal h2 h.1, by rw [h1, h2]; exact h.2⟩) ?_
  intro p e s m args below meth c s₁ X0 hexec hbytes hml hret hlk hnm hown hh0 W hP
  obtain ⟨rfl, hA, l1, l2, hp⟩ := hP
  have a31 := hA.1.2.2.2
  have c1 : Steps p.tables e below (s₁.setTop (entryFrame m #[.ref b, .int (Int32.ofNat o), .int (Int32.ofNat len)] 6)) (s₁.setTop (mkF m 0 #[.val (.ref b), .val (.int (Int32.ofNat o)), .val (.int (Int32.ofNat len)), .unset, .unset, .unset] [])) := entry rfl
  have c2 : Steps p.tables e below (s₁.setTop (entryFrame m #[.ref b, .int (Int32.ofNat o), .int (Int32.ofNat len)] 6)) (s₁.setTop (mkF m 1 #[.val (.ref b), .val (.int (Int32.ofNat o)), .val (.int (Int32.ofNat len)), .unset, .unset, .unset] [.int (Int32.ofNat len)])) := c1.trans (by
    refine XS.iloadN X0.here hexec rfl (hb hbytes d0) rfl ?_
    exact Steps.refl _)
  obtain ⟨T3, B3, X3, ba3, bs3, bv3, bh3, bf3, st3⟩ := X0.anew hexec (atype := .byte) (wk W (.arrayClass .byte)) rfl (by show len * 1 ≤ _; omega) (by omega) (g := (mkF m 1 #[.val (.ref b), .val (.int (Int32.ofNat o)), .val (.int (Int32.ofNat len)), .unset, .unset, .unset] [.int (Int32.ofNat len)])) rfl (hb hbytes d1) (rest := []) rfl (Nat.le_refl _) (by show 0 + len ≤ len; omega)
  rw [hh0] at ba3 st3
  have kp3 : XT.Kept s T3 := (XT.Kept.of_eq hh0).push bh3
  have hA3 := hA.keep X3.warmed.alike (kp3 _ _ hA.1.1)
  have hne : b ≠ s.heap.size := hA.1.ne
  have c4 : Steps p.tables e below (s₁.setTop (entryFrame m #[.ref b, .int (Int32.ofNat o), .int (Int32.ofNat len)] 6)) (T3.setTop (mkF m 3 #[.val (.ref b), .val (.int (Int32.ofNat o)), .val (.int (Int32.ofNat len)), .unset, .unset, .unset] [.ref s.heap.size])) := c2.trans (st3 _ (Steps.refl _))
  have c5 : Steps p.tables e below (s₁.setTop (entryFrame m #[.ref b, .int (Int32.ofNat o), .int (Int32.ofNat len)] 6)) (T3.setTop (mkF m 9 #[.val (.ref b), .val (.int (Int32.ofNat o)), .val (.int (Int32.ofNat len)), .val (.ref s.heap.size), .unset, .unset] [.int (Int32.ofNat len), .int 0, .ref s.heap.size, .int (Int32.ofNat o), .ref b])) := c4.trans (by
    refine XS.astoreN X3.here hexec rfl (hb hbytes d3) rfl rfl rfl ?_
    refine XS.aloadN X3.here hexec rfl (hb hbytes d4) rfl rfl ?_
    refine XS.iloadN X3.here hexec rfl (hb hbytes d5) rfl ?_
    refine XS.aloadN X3.here hexec rfl (hb hbytes d6) rfl rfl ?_
    refine iconstV X3.here hexec rfl 0 (hb hbytes d7) (by decide) ?_
    refine XS.iloadN X3.here hexec rfl (hb hbytes d8) rfl ?_
    exact Steps.refl _)
  obtain ⟨v6, T6, X6, E6, g6⟩ := X3.callS hexec (Cmp5.law l b A s.heap.size B3 o 0 len) hown (wks W (staticW U16 115 Cmp5.yN)) (wk W Cmp5.tab) (W := 0) (Nat.le_of_ble_eq_true rfl) (Nat.le_of_ble_eq_true rfl) (Nat.le_refl _) (by show 0 + len + 0 ≤ len; omega) (g := (mkF m 9 #[.val (.ref b), .val (.int (Int32.ofNat o)), .val (.int (Int32.ofNat len)), .val (.ref s.heap.size), .unset, .unset] [.int (Int32.ofNat len), .int (Int32.ofNat 0), .ref s.heap.size, .int (Int32.ofNat o), .ref b])) rfl (by rw [hml]; rfl) c5 (argsL := [.ref b, .int (Int32.ofNat o), .ref s.heap.size, .int (Int32.ofNat 0), .int (Int32.ofNat len)]) (rest := []) rfl rfl (by show 2 * 0 + 0 ≤ _; decide) (hb hbytes d9) (⟨rfl, hA3, ba3, hne, l1, by rw [bs3]; simp, hp⟩)
  obtain ⟨rfl, B6, p6, f6⟩ := E6
  have c7 : Steps p.tables e below (s₁.setTop (entryFrame m #[.ref b, .int (Int32.ofNat o), .int (Int32.ofNat len)] 6)) (T6.setTop (mkF m 12 #[.val (.ref b), .val (.int (Int32.ofNat o)), .val (.int (Int32.ofNat len)), .val (.ref s.heap.size), .unset, .unset] [.int (Int32.ofNat len)])) := g6
  have c8 : Steps p.tables e below (s₁.setTop (entryFrame m #[.ref b, .int (Int32.ofNat o), .int (Int32.ofNat len)] 6)) (T6.setTop (mkF m 58 #[.val (.ref b), .val (.int (Int32.ofNat o)), .val (.int (Int32.ofNat len)), .val (.ref s.heap.size), .val (.int (Int32.ofNat len)), .unset] [.ref s.heap.size])) := c7.trans (by
    refine XS.istore X6.here hexec rfl (hb hbytes d12) rfl rfl ?_
    refine XS.iload X6.here hexec rfl (hb hbytes d14) rfl ?_
    refine XS.iloadN X6.here hexec rfl (hb hbytes d16) rfl ?_
    refine XS.icmpYes X6.here hexec rfl (pc0 := 17) rfl (hb hbytes d17) rfl (ii_eq_t rfl) (by decide) rfl ?_
    refine XS.aloadN X6.here hexec rfl (hb hbytes d57) rfl rfl ?_
    exact Steps.refl _)
  have X8 := X6.wide (L' := []) (cells' := 1) (slots' := len) (fun x hx hlt => by
    simp only [List.nil_append, copyLocs, List.mem_map, List.mem_range] at hx
    obtain ⟨i, -, rfl⟩ := hx
    exact absurd hlt (Nat.lt_irrefl _)) (Nat.le_refl _) (by omega)
  exact ⟨T6, some (.ref s.heap.size), _, _, _, X8, rfl, rfl, rfl, (fun h => by cases h), ⟨⟨rfl, B6, ba3.like (X3.warmed.alike.symm.trans X6.warmed.alike) p6.1 f6.1 f6.2.1 f6.2.2.1, f6.2.1.trans bv3, by rw [X6.warmed.alike.findClass, f6.1]; exact bf3, by rw [f6.2.2.1, bs3]; simp, fun j hj => by rw [f6.2.2.2 j, if_pos (by omega)]; rfl, kp3.put p6 (Nat.le_refl _)⟩, by rw [p6.2.2, bh3, hh0]; simp⟩, fun fs hl => c8.trans (X8.areturnOut hexec rfl hret rfl (hb hbytes d58) hl)⟩
end Cmp3
namespace CodL
def yN : MethodName := ⟨"java/lang/StringUTF16", "coderFromArrayLen", "([BI)B"⟩
abbrev yB : ByteArray := jdk_52_method_15_code
theorem d0 : decode yB 0 = .ok (.iload_n 1, 1) := by decide +kernel
theorem d1 : decode yB 1 = .ok (.aload_n 0, 1) := by decide +kernel
theorem d2 : decode yB 2 = .ok (.arraylength, 1) := by decide +kernel
theorem d3 : decode yB 3 = .ok (.isub, 1) := by decide +kernel
theorem d4 : decode yB 4 = .ok (.bipush 31, 2) := by decide +kernel
theorem d6 : decode yB 6 = .ok (.iushr, 1) := by decide +kernel
theorem d7 : decode yB 7 = .ok (.i2b, 1) := by decide +kernel
theorem d8 : decode yB 8 = .ok (.ireturn, 1) := by decide +kernel
def site : List Cond := []
def tab : Cond := tabOf yN yB 2 (some .byte) site
def P (d : Addr) (B : Cell) (args : Array Value) (s : State) : Prop := args = #[.ref d, .int (Int32.ofNat B.slots.size)] ∧ Arr .byte d B s
def E (r : Option Value) (s u : State) : Prop := XT.PureE (some (.int 0)) r s u
/-- an array as long as the number of chars: LATIN1 -/
theorem law (l : Launch) (d : Addr) (B : Cell) : Law l yN 2 2 0 0 yB 2 (some .byte) site (P d B) E [] 0 0 := by
  refine Law.of_walk (plainFor_of_name (by decide +kernel)) (by decide +kernel) (by decide +kernel) (by decide) (fun _ _ h => by rw [h.1]; rfl) (fun _ U U' hal hh h => ⟨h.1, h.2.mv hal hh⟩) (fun r U U' V V' h1 hal h2 h => XT.PureE.mv r U U' V V' h1 hal h2 h) ?_
  intro p e s m args below meth c s₁ X0 hexec hbytes hml hret hlk hnm hown hh0 W hP
  obtain ⟨rfl, hB⟩ := hP
  have hB0 := hB.mv X0.warmed.alike hh0
  have c1 : Steps p.tables e below (s₁.setTop (entryFrame m #[.ref d, .int (Int32.ofNat B.slots.size)] 2)) (s₁.setTop (mkF m 0 #[.val (.ref d), .val (.int (Int32.ofNat B.slots.size))] [])) := entry rfl
  have c2 : Steps p.tables e below (s₁.setTop (entryFrame m #[.ref d, .int (Int32.ofNat B.slots.size)] 2)) (s₁.setTop (mkF m 2 #[.val (.ref d), .val (.int (Int32.ofNat B.slots.size))] [.ref d, .int (Int32.ofNat B.slots.size)])) := c1.trans (by
    refine XS.iloadN X0.here hexec rfl (hb hbytes d0) rfl ?_
    refine XS.aloadN X0.here hexec rfl (hb hbytes d1) rfl rfl ?_
    exact Steps.refl _)
  have c3 : Steps p.tables e below (s₁.setTop (entryFrame m #[.ref d, .int (Int32.ofNat B.slots.size)] 2)) (s₁.setTop (mkF m 8 #[.val (.ref d), .val (.int (Int32.ofNat B.slots.size))] [.int (lo8 (ushr (Int32.ofNat B.slots.size - Int32.ofNat B.slots.size) 31))])) := c2.trans (by
    refine X0.alen hexec hB0 rfl rfl (hb hbytes d2) ?_
    refine XS.isub X0.here hexec rfl (hb hbytes d3) rfl ?_
    refine bipushV X0.here hexec rfl 31 (hb hbytes d4) (by decide) ?_
    refine iushr X0.here hexec rfl (hb hbytes d6) rfl ?_
    refine i2b X0.here hexec rfl (hb hbytes d7) rfl ?_
    exact Steps.refl _)
  have e0 : lo8 (ushr (Int32.ofNat B.slots.size - Int32.ofNat B.slots.size) 31) = 0 := by rw [Int32.sub_self]; decide
  rw [e0] at c3
  exact ⟨s₁, some (.int 0), _, _, _, X0, rfl, rfl, rfl, (fun h => by cases h), ⟨rfl, hh0⟩, fun fs hl => c3.trans (X0.ireturnOut hexec hret rfl (Or.inr (Or.inr (Or.inl rfl))) (hb hbytes d8) hl)⟩
end CodL
/-- the String at a is Latin-1 over a new byte[] (the heap's one new cell): the low bytes of the len chars of A from o on; every cell but a is kept -/
def Got (a : Addr) (D : Cell) (fV fC : Field) (A : Cell) (o len : Nat) (r : Option Value) (s u : State) : Prop := r = none ∧ ∃ D' V : Cell, Blank "java/lang/String" a D' u ∧ Same D D' [fV.slot, fC.slot] ∧ D'.slots[fV.slot]? = some (.ref s.heap.size) ∧ D'.slots[fC.slot]? = some (.int 0) ∧ Arr .byte s.heap.size V u ∧ V.vm = .none ∧ u.vm.findClass "[B" = some V.cls ∧ V.slots.size = len ∧ (∀ j, j < len → V.slots[j]? = some (.int (lo8 (cv A (o + j))))) ∧ (∀ (y : Addr) (c : Cell), y ≠ a → s.heap[y]? = some c → u.heap[y]? = some c) ∧ u.heap.size = s.heap.size + 1
theorem Got.mv {a : Addr} {D A : Cell} {fV fC : Field} {o len : Nat} : ∀ r (U U' V V' : State), U'.heap = U.heap → V.vm.Alike V'.vm → V'.heap = V.heap → Got a D fV fC A o len r U V → Got a D fV fC A o len r U' V' :=
  fun r U U' V V' h1 hal h2 ⟨e0, D', X, a1, a2, a3, a4, a5, a6, a7, a8, a9, a10, a11⟩ => ⟨e0, D', X, a1.mv hal h2, a2, by rw [h1]; exact a3, a4, by rw [h1]; exact a5.mv hal h2, a6, by rw [hal.findClass]; exact a7, a8, a9, by rw [h1, h2]; exact a10, by rw [h1, h2]; exact a11⟩
namespace New4
def yN : MethodName := ⟨"java/lang/String", "<init>", "([CIILjava/lang/Void;)V"⟩
abbrev yB : ByteArray := jdk_42_method_149_code
theorem d0 : decode yB 0 = .ok (.aload_n 0, 1) := by decide +kernel
theorem d1 : decode yB 1 = .ok (.invokespecial 1, 3) := by decide +kernel
theorem d4 : decode yB 4 = .ok (.iload_n 3, 1) := by decide +kernel
theorem d5 : decode yB 5 = .ok (.ifCond (.ne) 22, 3) := by decide +kernel
theorem d27 : decode yB 27 = .ok (.getstatic 38, 3) := by decide +kernel
theorem d30 : decode yB 30 = .ok (.ifCond (.eq) 28, 3) := by decide +kernel
theorem d33 : decode yB 33 = .ok (.aload_n 1, 1) := by decide +kernel
theorem d34 : decode yB 34 = .ok (.iload_n 2, 1) := by decide +kernel
theorem d35 : decode yB 35 = .ok (.iload_n 3, 1) := by decide +kernel
theorem d36 : decode yB 36 = .ok (.invokestatic 177, 3) := by decide +kernel
theorem d39 : decode yB 39 = .ok (.astore 5, 2) := by decide +kernel
theorem d41 : decode yB 41 = .ok (.aload_n 0, 1) := by decide +kernel
theorem d42 : decode yB 42 = .ok (.aload 5, 2) := by decide +kernel
theorem d44 : decode yB 44 = .ok (.iload_n 3, 1) := by decide +kernel
theorem d45 : decode yB 45 = .ok (.invokestatic 47, 3) := by decide +kernel
theorem d48 : decode yB 48 = .ok (.putfield 15, 3) := by decide +kernel
theorem d51 : decode yB 51 = .ok (.aload_n 0, 1) := by decide +kernel
theorem d52 : decode yB 52 = .ok (.aload 5, 2) := by decide +kernel
theorem d54 : decode yB 54 = .ok (.putfield 9, 3) := by decide +kernel
theorem d57 : decode yB 57 = .ok (.return_, 1) := by decide +kernel
def site : List Cond := [.fieldLink "java/lang/String" 38 "java/lang/String" "COMPACT_STRINGS" "Z", Cmp3.tab, CodL.tab, .laysFinal "java/lang/String" "java/lang/String" "value" "[B", .fieldLink "java/lang/String" 9 "java/lang/String" "value" "[B", .laysFinal "java/lang/String" "java/lang/String" "coder" "B", .fieldLink "java/lang/String" 15 "java/lang/String" "coder" "B"] ++ objW "java/lang/String" 1 ++ staticW "java/lang/String" 177 Cmp3.yN ++ staticW "java/lang/String" 47 CodL.yN
def tab : Cond := tabOf yN yB 6 none site
def P (a : Addr) (D : Cell) (fV fC : Field) (b : Addr) (A : Cell) (z : Int32) (o len : Nat) (args : Array Value) (s : State) : Prop := args = #[.ref a, .ref b, .int (Int32.ofNat o), .int (Int32.ofNat len), .null] ∧ Blank "java/lang/String" a D s ∧ Found "java/lang/String" "value" "[B" fV s ∧ Found "java/lang/String" "coder" "B" fC s ∧ Ch b A s ∧ StaticIs s "java/lang/String" "COMPACT_STRINGS" "Z" (.int z) ∧ ¬ z = 0 ∧ 0 < len ∧ o + len ≤ A.slots.size ∧ len ≤ 536870912 ∧ ∀ i, i < len → ¬ 255 < cv A (o + i)
def E (a : Addr) (D : Cell) (fV fC : Field) (A : Cell) (o len : Nat) (r : Option Value) (s u : State) : Prop := Got a D fV fC A o len r s u
/-- len > 0, no char of the range above 255: a Latin-1 String of their low bytes -/
theorem law (l : Launch) (a : Addr) (D : Cell) (fV fC : Field) (b : Addr) (A : Cell) (z : Int32) (o len : Nat) : Law l yN 5 4 2 35 yB 6 none site (P a D fV fC b A z o len) (E a D fV fC A o len) [⟨a, fC.slot⟩, ⟨a, fV.slot⟩] 1 len := by
  refine Law.of_walk (plainFor_of_name (by decide +kernel)) (by decide +kernel) (by decide +kernel) (by decide) (fun _ _ h => by rw [h.1]; rfl) (fun _ U U' hal hh h => ⟨h.1, h.2.1.mv hal hh, h.2.2.1.al hal, h.2.2.2.1.al hal, h.2.2.2.2.1.mv hal hh, h.2.2.2.2.2.1.there hal hh, h.2.2.2.2.2.2⟩) (fun r U U' V V' h1 hal h2 h => Got.mv r U U' V V' h1 hal h2 h) ?_
  intro p e s m args below meth c s₁ X0 hexec hbytes hml hret hlk hnm hown hh0 W hP
  obtain ⟨rfl, hB, f1, f2, hA, s1, hz, l0, l1, l2, hp⟩ := hP
  have a31 := hA.1.2.2.2
  have c1 : Steps p.tables e below (s₁.setTop (entryFrame m #[.ref a, .ref b, .int (Int32.ofNat o), .int (Int32.ofNat len), .null] 6)) (s₁.setTop (mkF m 0 #[.val (.ref a), .val (.ref b), .val (.int (Int32.ofNat o)), .val (.int (Int32.ofNat len)), .val .null, .unset] [])) := entry rfl
  have c2 : Steps p.tables e below (s₁.setTop (entryFrame m #[.ref a, .ref b, .int (Int32.ofNat o), .int (Int32.ofNat len), .null] 6)) (s₁.setTop (mkF m 1 #[.val (.ref a), .val (.ref b), .val (.int (Int32.ofNat o)), .val (.int (Int32.ofNat len)), .val .null, .unset] [.ref a])) := c1.trans (by
    refine XS.aloadN X0.here hexec rfl (hb hbytes d0) rfl rfl ?_
    exact Steps.refl _)
  obtain ⟨T3, X3, q3, st3⟩ := X0.oinit hexec hown (wks W (objW "java/lang/String" 1)) (g := (mkF m 1 #[.val (.ref a), .val (.ref b), .val (.int (Int32.ofNat o)), .val (.int (Int32.ofNat len)), .val .null, .unset] [.ref a])) rfl (by rw [hml]; rfl) (rest := []) rfl (hb hbytes d1) (W := 0) (by show 2 * 0 + 0 ≤ _; decide) (Nat.le_of_ble_eq_true rfl) (Nat.le_of_ble_eq_true rfl)
  have hh3 := q3.trans hh0
  have c4 : Steps p.tables e below (s₁.setTop (entryFrame m #[.ref a, .ref b, .int (Int32.ofNat o), .int (Int32.ofNat len), .null] 6)) (T3.setTop (mkF m 27 #[.val (.ref a), .val (.ref b), .val (.int (Int32.ofNat o)), .val (.int (Int32.ofNat len)), .val .null, .unset] [])) := (c2.trans (st3 _ (Steps.refl _))).trans (by
    refine XS.iloadN X3.here hexec rfl (hb hbytes d4) rfl ?_
    refine XS.ifYes X3.here hexec rfl (pc0 := 5) rfl (hb hbytes d5) rfl (i0_ne_t (nz32 (by omega) l0)) (by decide) rfl ?_
    exact Steps.refl _)
  obtain ⟨T5, X5, q5, st5⟩ := X3.sget hexec hown (wk W (.fieldLink "java/lang/String" 38 "java/lang/String" "COMPACT_STRINGS" "Z")) s1 (fun _ _ h => by rw [hh3]; exact h) (g := (mkF m 27 #[.val (.ref a), .val (.ref b), .val (.int (Int32.ofNat o)), .val (.int (Int32.ofNat len)), .val .null, .unset] [])) rfl (hb hbytes d27)
  have hh5 := q5.trans hh3
  have c6 : Steps p.tables e below (s₁.setTop (entryFrame m #[.ref a, .ref b, .int (Int32.ofNat o), .int (Int32.ofNat len), .null] 6)) (T5.setTop (mkF m 30 #[.val (.ref a), .val (.ref b), .val (.int (Int32.ofNat o)), .val (.int (Int32.ofNat len)), .val .null, .unset] [.int z])) := c4.trans (st5 _ (Steps.refl _))
  have c7 : Steps p.tables e below (s₁.setTop (entryFrame m #[.ref a, .ref b, .int (Int32.ofNat o), .int (Int32.ofNat len), .null] 6)) (T5.setTop (mkF m 36 #[.val (.ref a), .val (.ref b), .val (.int (Int32.ofNat o)), .val (.int (Int32.ofNat len)), .val .null, .unset] [.int (Int32.ofNat len), .int (Int32.ofNat o), .ref b])) := c6.trans (by
    refine XS.ifNo X5.here hexec rfl (hb hbytes d30) rfl (i0_eq_f hz) ?_
    refine XS.aloadN X5.here hexec rfl (hb hbytes d33) rfl rfl ?_
    refine XS.iloadN X5.here hexec rfl (hb hbytes d34) rfl ?_
    refine XS.iloadN X5.here hexec rfl (hb hbytes d35) rfl ?_
    exact Steps.refl _)
  obtain ⟨v8, T8, X8, E8, g8⟩ := X5.callS hexec (Cmp3.law l b A o len) hown (wks W (staticW "java/lang/String" 177 Cmp3.yN)) (wk W Cmp3.tab) (W := 0) (Nat.le_of_ble_eq_true rfl) (Nat.le_of_ble_eq_true rfl) (Nat.le_refl _) (by show 0 + len ≤ len; omega) (g := (mkF m 36 #[.val (.ref a), .val (.ref b), .val (.int (Int32.ofNat o)), .val (.int (Int32.ofNat len)), .val .null, .unset] [.int (Int32.ofNat len), .int (Int32.ofNat o), .ref b])) rfl (by rw [hml]; rfl) c7 (argsL := [.ref b, .int (Int32.ofNat o), .int (Int32.ofNat len)]) (rest := []) rfl rfl (by show 2 * 0 + 0 ≤ _; decide) (hb hbytes d36) (⟨rfl, hA.mv X5.warmed.alike hh5, l1, l2, hp⟩)
  obtain ⟨e8, z8⟩ := E8
  obtain ⟨rfl, N, n1, n2, n3, n4, n5, n6⟩ := NewArr.mv _ T5 s _ _ hh5.symm (Vm.Alike.refl _) rfl e8
  rw [hh5] at z8
  have hB1 := hB.keep X8.warmed.alike (n6 _ _ hB.1)
  have hne : s.heap.size ≠ a := (Nat.ne_of_lt (Array.getElem?_eq_some_iff.mp hB.1).1).symm
  have c9 : Steps p.tables e below (s₁.setTop (entryFrame m #[.ref a, .ref b, .int (Int32.ofNat o), .int (Int32.ofNat len), .null] 6)) (T8.setTop (mkF m 39 #[.val (.ref a), .val (.ref b), .val (.int (Int32.ofNat o)), .val (.int (Int32.ofNat len)), .val .null, .unset] [.ref s.heap.size])) := g8
  have c10 : Steps p.tables e below (s₁.setTop (entryFrame m #[.ref a, .ref b, .int (Int32.ofNat o), .int (Int32.ofNat len), .null] 6)) (T8.setTop (mkF m 45 #[.val (.ref a), .val (.ref b), .val (.int (Int32.ofNat o)), .val (.int (Int32.ofNat len)), .val .null, .val (.ref s.heap.size)] [.int (Int32.ofNat N.slots.size), .ref s.heap.size, .ref a])) := by
    have hc : Steps p.tables e below (s₁.setTop (entryFrame m #[.ref a, .ref b, .int (Int32.ofNat o), .int (Int32.ofNat len), .null] 6)) (T8.setTop (mkF m 45 #[.val (.ref a), .val (.ref b), .val (.int (Int32.ofNat o)), .val (.int (Int32.ofNat len)), .val .null, .val (.ref s.heap.size)] [.int (Int32.ofNat len), .ref s.heap.size, .ref a])) := c9.trans (by
      refine XS.astore X8.here hexec rfl (hb hbytes d39) rfl rfl rfl ?_
      refine XS.aloadN X8.here hexec rfl (hb hbytes d41) rfl rfl ?_
      refine XS.aload X8.here hexec rfl (hb hbytes d42) rfl rfl ?_
      refine XS.iloadN X8.here hexec rfl (hb hbytes d44) rfl ?_
      exact Steps.refl _)
    rw [n4]; exact hc
  obtain ⟨v11, T11, X11, E11, g11⟩ := X8.callS hexec (CodL.law l s.heap.size N) hown (wks W (staticW "java/lang/String" 47 CodL.yN)) (wk W CodL.tab) (W := 1) (Nat.le_of_ble_eq_true rfl) (Nat.le_of_ble_eq_true rfl) (Nat.le_refl _) (by show 0 + len + 0 ≤ len; omega) (g := (mkF m 45 #[.val (.ref a), .val (.ref b), .val (.int (Int32.ofNat o)), .val (.int (Int32.ofNat len)), .val .null, .val (.ref s.heap.size)] [.int (Int32.ofNat N.slots.size), .ref s.heap.size, .ref a])) rfl (by rw [hml]; rfl) c10 (argsL := [.ref s.heap.size, .int (Int32.ofNat N.slots.size)]) (rest := [.ref a]) rfl rfl (by show 2 * 0 + (1 + 0) ≤ _; decide) (hb hbytes d45) (⟨rfl, n1⟩)
  obtain ⟨rfl, q11⟩ := E11
  have hB11 := hB1.mv (X8.warmed.alike.symm.trans X11.warmed.alike) q11
  have c12 : Steps p.tables e below (s₁.setTop (entryFrame m #[.ref a, .ref b, .int (Int32.ofNat o), .int (Int32.ofNat len), .null] 6)) (T11.setTop (mkF m 48 #[.val (.ref a), .val (.ref b), .val (.int (Int32.ofNat o)), .val (.int (Int32.ofNat len)), .val .null, .val (.ref s.heap.size)] [.int 0, .ref a])) := g11
  obtain ⟨T13, X13, p13, bl13, sl13, st13⟩ := X11.finit hexec hown (wk W (.fieldLink "java/lang/String" 15 "java/lang/String" "coder" "B")) (Or.inr ⟨_, (wk W (.laysFinal "java/lang/String" "java/lang/String" "coder" "B"))⟩) (Or.inl ⟨rfl, hnm⟩) f2 (Or.inl rfl) hB11 (t := .byte) (by decide +kernel) rfl (g := (mkF m 48 #[.val (.ref a), .val (.ref b), .val (.int (Int32.ofNat o)), .val (.int (Int32.ofNat len)), .val .null, .val (.ref s.heap.size)] [.int 0, .ref a])) rfl (rest := []) rfl (hb hbytes d48)
  have c14 : Steps p.tables e below (s₁.setTop (entryFrame m #[.ref a, .ref b, .int (Int32.ofNat o), .int (Int32.ofNat len), .null] 6)) (T13.setTop (mkF m 54 #[.val (.ref a), .val (.ref b), .val (.int (Int32.ofNat o)), .val (.int (Int32.ofNat len)), .val .null, .val (.ref s.heap.size)] [.ref s.heap.size, .ref a])) := (c12.trans (st13 _ (Steps.refl _))).trans (by
    refine XS.aloadN X13.here hexec rfl (hb hbytes d51) rfl rfl ?_
    refine XS.aload X13.here hexec rfl (hb hbytes d52) rfl rfl ?_
    exact Steps.refl _)
  obtain ⟨T15, X15, p15, bl15, sl15, st15⟩ := X13.finit hexec hown (wk W (.fieldLink "java/lang/String" 9 "java/lang/String" "value" "[B")) (Or.inr ⟨_, (wk W (.laysFinal "java/lang/String" "java/lang/String" "value" "[B"))⟩) (Or.inl ⟨rfl, hnm⟩) f1 (Or.inl rfl) bl13 (t := (.array .byte)) (by decide +kernel) rfl (g := (mkF m 54 #[.val (.ref a), .val (.ref b), .val (.int (Int32.ofNat o)), .val (.int (Int32.ofNat len)), .val .null, .val (.ref s.heap.size)] [.ref s.heap.size, .ref a])) rfl (rest := []) rfl (hb hbytes d54)
  have c16 : Steps p.tables e below (s₁.setTop (entryFrame m #[.ref a, .ref b, .int (Int32.ofNat o), .int (Int32.ofNat len), .null] 6)) (T15.setTop (mkF m 57 #[.val (.ref a), .val (.ref b), .val (.int (Int32.ofNat o)), .val (.int (Int32.ofNat len)), .val .null, .val (.ref s.heap.size)] [])) := c14.trans (st15 _ (Steps.refl _))
  have ap := apart (Or.inr ⟨_, (wk W (.laysFinal "java/lang/String" "java/lang/String" "value" "[B"))⟩) (Or.inr ⟨_, (wk W (.laysFinal "java/lang/String" "java/lang/String" "coder" "B"))⟩) f1 f2 (t₁ := .array .byte) (t₂ := .byte) (by decide +kernel) (by decide +kernel) (by decide)
  have al := X8.warmed.alike.symm.trans X15.warmed.alike
  have n7 : T11.heap[s.heap.size]? = some N := by rw [q11]; exact n1.1
  exact ⟨T15, none, _, _, _, X15, by simp, rfl, by omega, (fun _ => rfl), ⟨rfl, _, N, bl15, ((Same.refl D _).set _ (by simp)).set _ (by simp), sl15, (Cell.slots_setSlot_ne _ ap).trans sl13, n1.keep al (p15.other hne (p13.other hne n7)), n2, by rw [al.findClass]; exact n3, n4, n5, fun y c h1 h2 => p15.other h1 (p13.other h1 (by rw [q11]; exact n6 y c h2)), by rw [p15.2.2, p13.2.2, q11]; exact z8⟩, fun fs hl => c16.trans (X15.returnOut hexec hret (hb hbytes d57) hl)⟩
end New4
namespace New1
def yN : MethodName := ⟨"java/lang/String", "<init>", "([C)V"⟩
abbrev yB : ByteArray := jdk_42_method_3_code
theorem d0 : decode yB 0 = .ok (.aload_n 0, 1) := by decide +kernel
theorem d1 : decode yB 1 = .ok (.aload_n 1, 1) := by decide +kernel
theorem d2 : decode yB 2 = .ok (.iconst 0, 1) := by decide +kernel
theorem d3 : decode yB 3 = .ok (.aload_n 1, 1) := by decide +kernel
theorem d4 : decode yB 4 = .ok (.arraylength, 1) := by decide +kernel
theorem d5 : decode yB 5 = .ok (.aconst_null, 1) := by decide +kernel
theorem d6 : decode yB 6 = .ok (.invokespecial 27, 3) := by decide +kernel
theorem d9 : decode yB 9 = .ok (.return_, 1) := by decide +kernel
def site : List Cond := [New4.tab] ++ initW "java/lang/String" 27 New4.yN
def tab : Cond := tabOf yN yB 2 none site
def P (a : Addr) (D : Cell) (fV fC : Field) (b : Addr) (A : Cell) (z : Int32) (args : Array Value) (s : State) : Prop := args = #[.ref a, .ref b] ∧ Blank "java/lang/String" a D s ∧ Found "java/lang/String" "value" "[B" fV s ∧ Found "java/lang/String" "coder" "B" fC s ∧ Ch b A s ∧ StaticIs s "java/lang/String" "COMPACT_STRINGS" "Z" (.int z) ∧ ¬ z = 0 ∧ 0 < A.slots.size ∧ A.slots.size ≤ 536870912 ∧ ∀ i, i < A.slots.size → ¬ 255 < cv A i
def E (a : Addr) (D : Cell) (fV fC : Field) (A : Cell) (r : Option Value) (s u : State) : Prop := Got a D fV fC A 0 A.slots.size r s u
/-- new String(chars), not empty, no char above 255: a Latin-1 String of their low bytes -/
theorem law (l : Launch) (a : Addr) (D : Cell) (fV fC : Field) (b : Addr) (A : Cell) (z : Int32) : Law l yN 2 1 3 52 yB 2 none site (P a D fV fC b A z) (E a D fV fC A) [⟨a, fC.slot⟩, ⟨a, fV.slot⟩] 1 A.slots.size := by
  refine Law.of_walk (plainFor_of_name (by decide +kernel)) (by decide +kernel) (by decide +kernel) (by decide) (fun _ _ h => by rw [h.1]; rfl) (fun _ U U' hal hh h => ⟨h.1, h.2.1.mv hal hh, h.2.2.1.al hal, h.2.2.2.1.al hal, h.2.2.2.2.1.mv hal hh, h.2.2.2.2.2.1.there hal hh, h.2.2.2.2.2.2⟩) (fun r U U' V V' h1 hal h2 h => Got.mv r U U' V V' h1 hal h2 h) ?_
  intro p e s m args below meth c s₁ X0 hexec hbytes hml hret hlk hnm hown hh0 W hP
  obtain ⟨rfl, hB, f1, f2, hA, s1, hz, l0, l2, hp⟩ := hP
  have c1 : Steps p.tables e below (s₁.setTop (entryFrame m #[.ref a, .ref b] 2)) (s₁.setTop (mkF m 0 #[.val (.ref a), .val (.ref b)] [])) := entry rfl
  have c2 : Steps p.tables e below (s₁.setTop (entryFrame m #[.ref a, .ref b] 2)) (s₁.setTop (mkF m 6 #[.val (.ref a), .val (.ref b)] [.null, .int (Int32.ofNat A.slots.size), .int 0, .ref b, .ref a])) := c1.trans (by
    refine XS.aloadN X0.here hexec rfl (hb hbytes d0) rfl rfl ?_
    refine XS.aloadN X0.here hexec rfl (hb hbytes d1) rfl rfl ?_
    refine iconstV X0.here hexec rfl 0 (hb hbytes d2) (by decide) ?_
    refine XS.aloadN X0.here hexec rfl (hb hbytes d3) rfl rfl ?_
    refine X0.alen hexec (hA.1.mv X0.warmed.alike hh0) rfl rfl (hb hbytes d4) ?_
    refine XS.aconstNull X0.here hexec rfl (hb hbytes d5) ?_
    exact Steps.refl _)
  obtain ⟨v3, T3, X3, E3, g3⟩ := X0.callN hexec (New4.law l a D fV fC b A z 0 A.slots.size) rfl hown (wks W (initW "java/lang/String" 27 New4.yN)) (W New4.tab (by simp only [site, List.mem_cons, List.mem_append, true_or, or_true])) (W := 0) (Nat.le_of_ble_eq_true rfl) (Nat.le_of_ble_eq_true rfl) (Nat.le_refl _) (by show 0 + A.slots.size ≤ A.slots.size; omega) (g := (mkF m 6 #[.val (.ref a), .val (.ref b)] [.null, .int (Int32.ofNat A.slots.size), .int (Int32.ofNat 0), .ref b, .ref a])) rfl (by rw [hml]; rfl) c2 (argsL := [.ref b, .int (Int32.ofNat 0), .int (Int32.ofNat A.slots.size), .null]) (rest := []) rfl rfl (by show 2 * 0 + 0 ≤ _; decide) (hb hbytes d6) (⟨rfl, hB.mv X0.warmed.alike hh0, f1.al X0.warmed.alike, f2.al X0.warmed.alike, hA.mv X0.warmed.alike hh0, s1.there X0.warmed.alike hh0, hz, l0, by omega, l2, fun i hi => by rw [Nat.zero_add]; exact hp i hi⟩)
  have e0 := Got.mv _ s₁ s _ _ hh0.symm (Vm.Alike.refl _) rfl E3
  obtain rfl := e0.1
  have c4 : Steps p.tables e below (s₁.setTop (entryFrame m #[.ref a, .ref b] 2)) (T3.setTop (mkF m 9 #[.val (.ref a), .val (.ref b)] [])) := g3
  exact ⟨T3, none, _, _, _, X3, by simp, rfl, by omega, (fun _ => rfl), e0, fun fs hl => c4.trans (X3.returnOut hexec hret (hb hbytes d9) hl)⟩
theorem pays {l : Launch} {R : Room} {p : Program} {e : Env} {below : List Frame} {s : State} {sargs : Array Value} {len W : Nat} (a : Addr) (D : Cell) (fV fC : Field) (b : Addr) (A : Cell) (z : Int32) (htab : tab.before sargs s = true) (hfr : 4 ≤ R.frames) (hlo : W + 65 ≤ R.locals) :
    Back l R p e below s sargs yN len W (fun A₁ a₁ => A₁.cells + 1 ≤ R.cells ∧ A₁.slots + A.slots.size ≤ R.slots ∧ P a D fV fC b A z a₁ A₁.U) (fun A₁ _ v₁ B₁ => E a D fV fC A v₁ A₁.U B₁.U ∧ B₁.locs = A₁.locs ++ [⟨a, fC.slot⟩, ⟨a, fV.slot⟩] ∧ B₁.cells = A₁.cells + 1 ∧ B₁.slots = A₁.slots + A.slots.size) :=
  (law l a D fV fC b A z).pays htab hfr (by omega)
end New1
/-- the byte, read back as charAt reads it, is the char -/
theorem lo8_mask {x : Int32} (h0 : ¬ x < 0) (h1 : ¬ 255 < x) : lo8 x &&& 255 = x := by
  have t : ∀ k : Fin 256, lo8 (Int32.ofNat k.val) &&& 255 = Int32.ofNat k.val := by decide +kernel
  rw [Int32.lt_iff_toInt_lt] at h0 h1
  have e0 : (0 : Int32).toInt = 0 := rfl
  have e1 : (255 : Int32).toInt = 255 := rfl
  obtain ⟨k, hk⟩ : ∃ k : Nat, x.toInt = k := ⟨x.toInt.toNat, by omega⟩
  have hx : x = Int32.ofNat k := Int32.toInt_inj.mp (by rw [hk, Int32.toInt_ofNat_small (by omega)])
  rw [hx]
  exact t ⟨k, by omega⟩
end StrChars
namespace StrChars.Road
open Jvm Sem ClassFile Op Lib Jvm.Stand Jvm.Free Jvm.Free.XT
open Jvm.Lib.Cold (StaticIs)
abbrev ST : String := "java/lang/String"
/-- every table word that New1's law asks, flat -/
abbrev words : List Jvm.Cond := [.code New1.yN New1.yB 2 none, .initialized ST, .methodLink ST 27 New4.yN, .instanceMethod New4.yN,
  .code New4.yN New4.yB 6 none, .fieldLink ST 38 ST "COMPACT_STRINGS" "Z", .laysFinal ST ST "value" "[B", .fieldLink ST 9 ST "value" "[B", .laysFinal ST ST "coder" "B", .fieldLink ST 15 ST "coder" "B",
  .methodLink ST 1 Lib.objectInit, .instanceMethod Lib.objectInit, .code Lib.objectInit ⟨#[0xb1]⟩ 1 none, .methodLink ST 177 Cmp3.yN, .static Cmp3.yN, .methodLink ST 47 CodL.yN, .static CodL.yN,
  .code Cmp3.yN Cmp3.yB 6 (some (.array .byte)), .initialized U16, .arrayClass .byte, .methodLink U16 115 Cmp5.yN, .static Cmp5.yN, .code Cmp5.yN Cmp5.yB 7 (some .int), .code CodL.yN CodL.yB 2 (some .byte)]
theorem tab_of {a : Array Value} {s : State} (h : ∀ w ∈ words, w.before a s = true) : New1.tab.before a s = true := by
  have h5 : Cmp5.tab.before a s = true := unparts (wk h (.code Cmp5.yN Cmp5.yB 7 (some .int))) (wks h (.initialized Cmp5.yN.cls :: Cmp5.site))
  have hc : CodL.tab.before a s = true := unparts (wk h (.code CodL.yN CodL.yB 2 (some .byte))) (wks h (.initialized CodL.yN.cls :: CodL.site))
  have q5 : ∀ w ∈ Cmp5.tab :: words, w.before a s = true := fun w hw => (List.mem_cons.mp hw).elim (fun e => e ▸ h5) (h w)
  have h3 : Cmp3.tab.before a s = true := unparts (wk q5 (.code Cmp3.yN Cmp3.yB 6 (some (.array .byte)))) (wks q5 (.initialized Cmp3.yN.cls :: Cmp3.site))
  have q3 : ∀ w ∈ Cmp3.tab :: CodL.tab :: words, w.before a s = true := fun w hw => (List.mem_cons.mp hw).elim (fun e => e ▸ h3) fun hw => (List.mem_cons.mp hw).elim (fun e => e ▸ hc) (h w)
  have h4 : New4.tab.before a s = true := unparts (wk q3 (.code New4.yN New4.yB 6 none)) (wks q3 (.initialized New4.yN.cls :: New4.site))
  have q4 : ∀ w ∈ New4.tab :: words, w.before a s = true := fun w hw => (List.mem_cons.mp hw).elim (fun e => e ▸ h4) (h w)
  exact unparts (wk q4 (.code New1.yN New1.yB 2 none)) (wks q4 (.initialized New1.yN.cls :: New1.site))
/-- the words ride from the start Z to the walk's own state -/
theorem moved {Z s : State} {a0 args : Array Value} (hZ : Z.Warmed39 s.vm) (hw : ∀ d ∈ words, d.before a0 Z = true) : ∀ d ∈ words, d.before args s = true := fun d hd => by
  have q := hw d hd
  have t : ∀ d ∈ words, d = .arrayClass .byte ∨ (d.onTables && d.keepsFace) = true := by decide +kernel
  rcases t d hd with rfl | t
  · exact RoadKit.mvA hZ q
  · exact RoadKit.mv hZ q t
/-- WHAT COMES BACK, over the tables of the start Z: h the heap at the call, h' behind it -/
def Q (Z : State) (x : Addr) (A : Cell) (h : Heap) (v : Option Value) (h' : Heap) (L : List Loc) : Prop := v = none ∧ (∀ y ∈ L, y.base = x) ∧ RoadKit.Keep h h' [x] ∧ h'.size = h.size + 1 ∧ RoadKit.Exa Z h' x ST ∧ RoadKit.Fld Z h' x ST "value" "[B" (.ref h.size) ∧ RoadKit.Fld Z h' x ST "coder" "B" (.int 0) ∧
  (∃ V : Cell, RoadKit.Arr Z h' h.size V .byte ∧ V.vm = .none ∧ Z.vm.findClass "[B" = some V.cls ∧ V.slots.size = A.slots.size ∧ ∀ j, j < A.slots.size → V.slots[j]? = some (.int (lo8 (cv A j)))) ∧
  ∀ (O n d : String) (w : Value), RoadKit.Fld Z h x O n d w → RoadKit.slotOf Z O n d ≠ RoadKit.slotOf Z ST "value" "[B" → RoadKit.slotOf Z O n d ≠ RoadKit.slotOf Z ST "coder" "B" → RoadKit.Fld Z h' x O n d w
/-- **new String(chars) AT A CALL, IN THE ROAD'S FORM**: for specialBack behind newO: x the fresh String, b the char[] with the cell A -/
theorem back {p : Program} {l : Launch} {e : Env} {R : Room} {s : State} {args : Array Value} {below : List Frame} {len W : Nat} {Z : State} {a0 : Array Value} {h : Heap} (hZ : Z.Warmed39 s.vm) (hw : ∀ d ∈ words, d.before a0 Z = true) {kI : Nat} (wi : (Jvm.Cond.instantiable ST kI).before a0 Z = true)
    {x b : Addr} {A : Cell} {z : Int32} {v0 c0 : Value} (E : RoadKit.Exa Z h x ST) (V : RoadKit.Fld Z h x ST "value" "[B" v0) (C : RoadKit.Fld Z h x ST "coder" "B" c0) (K : RoadKit.Arr Z h b A .char) (hty : Typed .char A) (S : RoadKit.Sta Z h ST "COMPACT_STRINGS" "Z" (.int z)) (hz : ¬ z = 0)
    (l0 : 0 < A.slots.size) (l2 : A.slots.size ≤ 536870912) (hp : ∀ i, i < A.slots.size → ¬ 255 < cv A i) (hfr : 4 ≤ R.frames) (hlo : W + 65 ≤ R.locals) :
    Back l R p e below s args New1.yN len W (fun P a => a = #[.ref x, .ref b] ∧ P.U.heap = h ∧ P.cells + 1 ≤ R.cells ∧ P.slots + A.slots.size ≤ R.slots)
      (fun P _ v B => ∃ L, Q Z x A h v B.U.heap L ∧ B.locs = P.locs ++ L ∧ B.cells = P.cells + 1 ∧ B.slots = P.slots + A.slots.size) := by
  intro m meth c P g ig mk a X hg hsize hdg hW hn hp'
  obtain ⟨rfl, rfl, r1, r2⟩ := hp'
  have al : Z.vm.Alike P.U.vm := hZ.alike.trans X.warmed.alike
  obtain ⟨D, cfV, kV, iV, fV, hD, gV, stV, knV, obV, asV, slV⟩ := id V
  obtain ⟨D', cfC, kC, iC, fC, hD', gC, stC, -, -, asC, slC⟩ := id C
  cases hD.symm.trans hD'
  obtain ⟨D2, kD, e1, e2, e3, e4, e5⟩ := id E
  cases hD.symm.trans e1
  obtain ⟨c2, k2, i1, i2, i3, -⟩ := Cond.instantiable_spec wi
  cases e2.symm.trans i1
  cases e3.symm.trans i2
  obtain ⟨kU, u1, u2⟩ := al.2.2 _ _ e3
  have hB : Blank ST x D P.U := ⟨hD, ⟨knV, fun q hq => by rw [hq] at obV; cases obV⟩, by rw [al.findClass]; exact e2, kU, u1, by rw [u2]; exact i3, by rw [u2]; exact e5 i3⟩
  have F1 : Found ST "value" "[B" fV P.U := ⟨SBG.found_only al ⟨cfV, kV, iV, gV⟩, stV⟩
  have F2 : Found ST "coder" "B" fC P.U := ⟨SBG.found_only al ⟨cfC, kC, iC, gC⟩, stC⟩
  have hA : Ch b A P.U := ⟨⟨K.1, State.isArrayOf_alike al K.2.1, K.2.2, by omega⟩, hty⟩
  have hS : StaticIs P.U ST "COMPACT_STRINGS" "Z" (.int z) := by
    obtain ⟨cfS, iS, kS, fS, st, cS, t1, t2, t3, t4, t5, t6, t7⟩ := S
    exact StaticIs.there (s := { Z with heap := P.U.heap }) ⟨cfS, iS, kS, fS, st, cS, t1, t2, t3, t4, t5, (fun q => by rw [q] at t6; cases t6), t7⟩ al rfl
  obtain ⟨v, B, X', ⟨⟨hv, E', V', q1, q2, q3, q4, q5, q6, q7, q8, q9, q10, q11⟩, hl, hc, hs⟩, st⟩ := New1.pays x D fV fC b A z (tab_of (moved hZ hw)) hfr hlo m meth c P g ig mk _ X hg hsize hdg hW hn ⟨r1, r2, rfl, hB, F1, F2, hA, hS, hz, l0, l2, hp⟩
  have al' : Z.vm.Alike B.U.vm := hZ.alike.trans X'.warmed.alike
  have hsz : E'.slots.size = D.slots.size := by
    obtain ⟨-, -, -, kB, w1, w2, w3⟩ := q1
    obtain ⟨kB', y1, y2⟩ := al'.2.2 _ _ e3
    rw [q2.2.1] at w1
    cases w1.symm.trans y1
    rw [w3, e5 i3, y2]
  refine ⟨v, B, X', ⟨_, ⟨hv, ?_, ⟨by omega, fun y cy hy hn' => q10 y cy (by simpa using hn') hy, fun y cy hy => ?_⟩, q11, ⟨E', _, q1.1, by rw [q2.2.1]; exact e2, by rw [q2.2.1]; exact e3, by rw [q2.1]; exact obV, fun _ => by rw [hsz]; exact e5 i3⟩,
    ⟨E', cfV, kV, iV, fV, q1.1, gV, stV, by rw [q2.1]; exact knV, by rw [q2.1]; exact obV, by rw [q2.2.1]; exact asV, q3⟩, ⟨E', cfC, kC, iC, fC, q1.1, gC, stC, by rw [q2.1]; exact knV, by rw [q2.1]; exact obV, by rw [q2.2.1]; exact asC, q4⟩,
    ⟨V', ⟨q5.1, State.isArrayOf_alike al'.symm q5.2.1, q5.2.2.1⟩, q6, by rw [← al'.findClass]; exact q7, q8, fun j hj => by have := q9 j hj; rwa [Nat.zero_add] at this⟩, fun O n d w F n1 n2 => ?_⟩, hl, hc, hs⟩, st⟩
  · intro y hy
    simp only [List.mem_cons, List.not_mem_nil, or_false] at hy
    rcases hy with rfl | rfl <;> rfl
  · by_cases q : y = x
    · subst q
      cases hD.symm.trans hy
      exact ⟨E', q1.1, q2.2.1, q2.1, hsz⟩
    · exact ⟨cy, q10 y cy q hy, rfl, rfl, rfl⟩
  · obtain ⟨D3, cf, k, i, f, g1, g2, g3, g4, g5, g6, g7⟩ := F
    cases hD.symm.trans g1
    simp only [RoadKit.slotOf, g2, gV, gC, Option.map_some, Option.getD_some] at n1 n2
    exact ⟨E', cf, k, i, f, q1.1, g2, g3, by rw [q2.1]; exact g4, by rw [q2.1]; exact g5, by rw [q2.2.1]; exact g6, by rw [q2.2.2 f.slot (by simp [n1, n2])]; exact g7⟩
end StrChars.Road
namespace StrChars.Road
open Jvm Sem ClassFile Op Lib Jvm.Stand Jvm.Free Jvm.Free.XT
/-- WHAT COMES BACK, the byte[] as a list of values -/
def QA (Z : State) (x : Addr) (zn : Int32) (cs : List Int32) (h : Heap) (v : Option Value) (h' : Heap) (L : List Loc) : Prop := v = none ∧ (∀ y ∈ L, y.base = x) ∧ RoadKit.Keep h h' [x] ∧ h'.size = h.size + 1 ∧ RoadKit.Exa Z h' x ST ∧ RoadKit.Fld Z h' x ST "value" "[B" (.ref h.size) ∧ RoadKit.Fld Z h' x ST "coder" "B" (.int 0) ∧
  (∃ kb, Z.vm.findClass "[B" = some kb ∧ RoadKit.Arv Z h' h.size kb .byte zn (cs.map fun c => .int (lo8 c)) (.int 0)) ∧
  ∀ (O n d : String) (w : Value), RoadKit.Fld Z h x O n d w → RoadKit.slotOf Z O n d ≠ RoadKit.slotOf Z ST "value" "[B" → RoadKit.slotOf Z O n d ≠ RoadKit.slotOf Z ST "coder" "B" → RoadKit.Fld Z h' x O n d w
/-- **new String(chars) AT A CALL, THE ARRAYS AS LISTS**: the char[] at b holds cs, not empty, no char above 255 -/
theorem backArv {p : Program} {l : Launch} {e : Env} {R : Room} {s : State} {args : Array Value} {below : List Frame} {len W : Nat} {Z : State} {a0 : Array Value} {h : Heap} (hZ : Z.Warmed39 s.vm) (hw : ∀ d ∈ words, d.before a0 Z = true) {kI : Nat} (wi : (Jvm.Cond.instantiable ST kI).before a0 Z = true)
    {x b : Addr} {k : ClassId} {zn z : Int32} {cs : List Int32} {dv v0 c0 : Value} (E : RoadKit.Exa Z h x ST) (V : RoadKit.Fld Z h x ST "value" "[B" v0) (C : RoadKit.Fld Z h x ST "coder" "B" c0) (K : RoadKit.Arv Z h b k .char zn (cs.map Value.int) dv) (S : RoadKit.Sta Z h ST "COMPACT_STRINGS" "Z" (.int z)) (hz : ¬ z = 0)
    (hlen : zn.toNatClampNeg = cs.length) (h0 : 0 < cs.length) (hbig : cs.length ≤ 536870912) (hall : ∀ c ∈ cs, ¬ 255 < c) (hfr : 4 ≤ R.frames) (hlo : W + 65 ≤ R.locals) :
    Back l R p e below s args New1.yN len W (fun P a => a = #[.ref x, .ref b] ∧ P.U.heap = h ∧ P.cells + 1 ≤ R.cells ∧ P.slots + cs.length ≤ R.slots)
      (fun P _ v B => ∃ L, QA Z x zn cs h v B.U.heap L ∧ B.locs = P.locs ++ L ∧ B.cells = P.cells + 1 ∧ B.slots = P.slots + cs.length) := by
  obtain ⟨A, K1, K2, K3, K4, K5, K6⟩ := K
  have e : A.slots.size = cs.length := K3.trans hlen
  have hat : ∀ (i : Nat) (hi : i < cs.length), A.slots[i]? = some (.int cs[i]) := fun i hi => by rw [K5 i (by omega)]; simp [List.getD_eq_getElem?_getD, hi]
  have hcv : ∀ (i : Nat) (hi : i < cs.length), cv A i = cs[i] := fun i hi => by unfold cv; rw [hat i hi]
  have hty : Typed .char A := fun i v hv => by
    have hi : i < A.slots.size := (Array.getElem?_eq_some_iff.mp hv).1
    have q := K5 i hi
    rw [hv] at q
    rw [Option.some.inj q]
    exact K6 i hi
  refine Back.mono (back hZ hw wi E V C K1 hty S hz (by omega) (by omega) (fun i hi => by rw [hcv i (by omega)]; exact hall _ (List.getElem_mem _)) hfr hlo) (fun P a hp => ⟨hp.1, hp.2.1, hp.2.2.1, by rw [e]; exact hp.2.2.2⟩) (fun P a v B hp hq => ?_)
  obtain ⟨L, ⟨q1, q2, q3, q4, q5, q6, q7, ⟨V', v1, v2, v3, v4, v5⟩, q9⟩, hl, hc, hs⟩ := hq
  refine ⟨L, ⟨q1, q2, q3, q4, q5, q6, q7, ⟨V'.cls, v3, V', v1, rfl, by rw [v4, e, hlen], K4, fun i hi => ?_, fun i hi => ?_⟩, q9⟩, hl, hc, by rw [hs, e]⟩
  · have hi' : i < cs.length := by omega
    rw [v5 i (by omega), hcv i hi']; simp [List.getD_eq_getElem?_getD, hi']
  · have hi' : i < cs.length := by omega
    simp only [List.getD_eq_getElem?_getD, List.getElem?_map, List.getElem?_eq_getElem hi', Option.map_some, Option.getD_some]
    exact fits_lo8 _
end StrChars.Road
namespace StrChars.Road
open Jvm Sem ClassFile Op Lib Jvm.Stand Jvm.Free Jvm.Free.XT
/-- WHAT COMES BACK, in the writer's own shape -/
def QV (Z : State) (x : Addr) (N : Int32) (bs : List Int32) (h : Heap) (n0 : Nat) (v : Option Value) (h' : Heap) (L : List Loc) : Prop := v = none ∧ RoadKit.Fr n0 L ∧ RoadKit.Keep h h' [x] ∧ RoadKit.Exa Z h' x ST ∧ RoadKit.Fld Z h' x ST "coder" "B" (.int 0) ∧
  ∃ (t : Addr) (kb : ClassId), n0 ≤ t ∧ h.size ≤ t ∧ ¬ t = x ∧ RoadKit.Fld Z h' x ST "value" "[B" (.ref t) ∧ RoadKit.Arv Z h' t kb .byte N (bs.map Value.int) (.int 0)
/-- **new String(chars) AT A CALL, FOR THE WRITER**: a char[] of n known ints, each 0 to 255 -/
theorem backV {p : Program} {l : Launch} {e : Env} {R : Room} {s : State} {args : Array Value} {below : List Frame} {len W : Nat} {Z : State} {a0 : Array Value} {h : Heap} (hZ : Z.Warmed39 s.vm) (hw : ∀ d ∈ words, d.before a0 Z = true) {kI : Nat} (wi : (Jvm.Cond.instantiable ST kI).before a0 Z = true)
    {x b : Addr} {kC : ClassId} {cs bs : List Int32} {d v0 c0 : Value} {z N : Int32} {n n0 : Nat} (hx0 : n0 ≤ x) (hh0 : n0 ≤ h.size) (E : RoadKit.Exa Z h x ST) (V : RoadKit.Fld Z h x ST "value" "[B" v0) (C : RoadKit.Fld Z h x ST "coder" "B" c0) (K : RoadKit.Arv Z h b kC .char N (cs.map Value.int) d) (S : RoadKit.Sta Z h ST "COMPACT_STRINGS" "Z" (.int z)) (hz : ¬ z = 0)
    (hn : cs.length = n) (hN : N = Int32.ofNat n) (l0 : 0 < n) (l2 : n ≤ 4000) (hp : ∀ c ∈ cs, ¬ c < 0 ∧ ¬ (255 : Int32) < c) (hb : bs = cs.map (fun c => c.toInt8.toInt32)) (hfr : 4 ≤ R.frames) (hlo : W + 65 ≤ R.locals) :
    Back l R p e below s args (⟨"java/lang/String", "<init>", "([C)V"⟩ : MethodName) len W (fun P a => a = #[.ref x, .ref b] ∧ P.U.heap = h ∧ P.cells + 1 ≤ R.cells ∧ P.slots + n ≤ R.slots)
      (fun P _ v B => ∃ L, QV Z x N bs h n0 v B.U.heap L ∧ B.locs = P.locs ++ L ∧ B.cells = P.cells + 1 ∧ B.slots = P.slots + n) := by
  subst hn hN hb
  refine Back.mono (backArv hZ hw wi E V C K S hz (n32 (by omega)) l0 (by omega) (fun c hc => (hp c hc).2) hfr hlo) (fun P a hp => hp) (fun P a v B hp hq => ?_)
  obtain ⟨L, ⟨q1, q2, q3, q4, q5, q6, q7, ⟨kb, v1, v2⟩, q9⟩, hl, hc, hs⟩ := hq
  exact ⟨L, ⟨q1, fun y hy => by rw [q2 y hy]; exact hx0, q3, q5, q7, h.size, kb, hh0, Nat.le_refl _, Nat.ne_of_gt E.lt, q6, by rw [List.map_map]; exact v2⟩, hl, hc, hs⟩
end StrChars.Road
namespace StrChars
open Jvm Sem ClassFile Op Lib Jvm.Stand Jvm.Free.XT Jvm.Free.ALB Jvm.Free.JM Jvm.Free
open Jvm.Lib.Cold (StaticIs)
def hi8 (x : Int32) : Int32 := lo8 (x >>> ((8 : Int32) &&& 31))
/-- what StringUTF16.getChar makes of two bytes -/
def pairCh (u v : Int32) : Int32 := (((u &&& 255) <<< ((0 : Int32) &&& 31)) ||| ((v &&& 255) <<< ((8 : Int32) &&& 31))).toUInt32.toUInt16.toUInt32.toInt32
theorem lo8_and (x : Int32) : (lo8 x &&& 255).toBitVec.toNat = x.toBitVec.toNat % 256 := by
  have h : (lo8 x).toBitVec = (x.toBitVec.signExtend 8).signExtend 32 := by rw [lo8, Int8.toBitVec_toInt32, Int32.toBitVec_toInt8]
  rw [Int32.toBitVec_and, BitVec.toNat_and, h]
  have e : ((x.toBitVec.signExtend 8).signExtend 32).toNat % 256 = x.toBitVec.toNat % 256 := by
    rw [BitVec.toNat_signExtend]
    have hlt := x.toBitVec.isLt
    simp only [BitVec.toNat_setWidth, BitVec.toNat_signExtend]
    split <;> split <;> omega
  rw [← e]
  exact Nat.and_two_pow_sub_one_eq_mod _ 8
theorem pair_says {c : Int32} (h0 : ¬ c < 0) (h1 : ¬ 65535 < c) : pairCh (lo8 c) (hi8 c) = c := by
  rw [Int32.lt_iff_toInt_lt] at h0 h1
  have e0 : (0 : Int32).toInt = 0 := rfl
  have e1 : (65535 : Int32).toInt = 65535 := rfl
  have hc : c.toInt = c.toBitVec.toNat := by
    have := c.toBitVec.isLt
    have e : c.toInt = c.toBitVec.toInt := rfl
    rw [e] at h0 h1
    rw [e]
    rw [BitVec.toInt_eq_toNat_cond] at h0 h1 ⊢
    split at h0 <;> split <;> omega
  have hn : c.toBitVec.toNat < 65536 := by omega
  have a1 := lo8_and c
  have a2 : (hi8 c &&& 255).toBitVec.toNat = c.toBitVec.toNat / 256 := by
    rw [hi8, lo8_and]
    have e : ((8 : Int32) &&& 31) = 8 := by decide
    rw [e, Int32.toBitVec_shiftRight]
    have e2 : ((8 : Int32).toBitVec.smod 32) = 8#32 := by decide
    rw [e2, BitVec.sshiftRight_eq', BitVec.toNat_sshiftRight_of_msb_false (by rw [BitVec.msb_eq_false_iff_two_mul_lt]; omega)]
    show c.toBitVec.toNat >>> 8 % 256 = _
    rw [Nat.shiftRight_eq_div_pow]
    omega
  unfold pairCh
  apply Int32.toBitVec_inj.mp
  apply BitVec.eq_of_toNat_eq
  have f0 : ((0 : Int32) &&& 31) = 0 := by decide
  have f8 : ((8 : Int32) &&& 31) = 8 := by decide
  rw [f0, f8]
  have g : (((lo8 c &&& 255) <<< (0 : Int32)) ||| ((hi8 c &&& 255) <<< (8 : Int32))).toBitVec.toNat = c.toBitVec.toNat := by
    rw [Int32.toBitVec_or, Int32.toBitVec_shiftLeft, Int32.toBitVec_shiftLeft]
    have s0 : ((0 : Int32).toBitVec.smod 32) = 0#32 := by decide
    have s8 : ((8 : Int32).toBitVec.smod 32) = 8#32 := by decide
    rw [s0, s8, BitVec.toNat_or]
    simp only [BitVec.shiftLeft_eq', BitVec.toNat_shiftLeft, a1, a2]
    show (c.toBitVec.toNat % 256) <<< 0 % 2 ^ 32 ||| (c.toBitVec.toNat / 256) <<< 8 % 2 ^ 32 = _
    rw [Nat.shiftLeft_zero, Nat.mod_eq_of_lt (show c.toBitVec.toNat % 256 < 2 ^ 32 by omega), Nat.mod_eq_of_lt (show (c.toBitVec.toNat / 256) <<< 8 < 2 ^ 32 by rw [Nat.shiftLeft_eq]; omega), Nat.or_comm, ← Nat.shiftLeft_add_eq_or_of_lt (by omega), Nat.shiftLeft_eq]
    omega
  show BitVec.toNat (((((lo8 c &&& 255) <<< (0 : Int32)) ||| ((hi8 c &&& 255) <<< (8 : Int32))).toBitVec.setWidth 16).setWidth 32) = _
  rw [BitVec.toNat_setWidth, BitVec.toNat_setWidth, g]
  omega
end StrChars
namespace StrChars
open Jvm Sem ClassFile Op Lib Jvm.Stand Jvm.Free.XT Jvm.Free.ALB Jvm.Free.JM Jvm.Free
open Jvm.Lib.Cold (StaticIs)
/-- the array's cell V codes the n chars f 0 .. f (n - 1) by the coder cd, as the JDK does: coder 1 just where some char is above 255 -/
def Cod (cd : Int32) (n : Nat) (f : Nat → Int32) (V : Cell) : Prop := (cd = 0 ∧ V.slots.size = n ∧ ∀ j, j < n → V.slots[j]? = some (.int (lo8 (f j))) ∧ ¬ 255 < f j) ∨ (cd = 1 ∧ V.slots.size = 2 * n ∧ (∀ j, j < n → V.slots[2 * j]? = some (.int (lo8 (f j))) ∧ V.slots[2 * j + 1]? = some (.int (hi8 (f j)))) ∧ ∃ j, j < n ∧ 255 < f j)
/-- **x is a String of the n chars f 0 .. f (n - 1)**, Latin-1 or UTF-16; its array at t has the cell V -/
def Txt (x t : Addr) (V : Cell) (cd : Int32) (n : Nat) (f : Nat → Int32) (U : State) : Prop := Exact "java/lang/String" x U ∧ Has x "java/lang/String" "value" "[B" (.ref t) U ∧ Has x "java/lang/String" "coder" "B" (.int cd) U ∧ XT.Arr .byte t V U ∧ Cod cd n f V ∧ ∀ j, j < n → ¬ f j < 0 ∧ ¬ 65535 < f j
theorem Txt.mv {x t : Addr} {V : Cell} {cd : Int32} {n : Nat} {f : Nat → Int32} {U U' : State} (h : Txt x t V cd n f U) (hal : U.vm.Alike U'.vm) (hh : U'.heap = U.heap) : Txt x t V cd n f U' := ⟨h.1.mv hal hh, h.2.1.mv hal hh, h.2.2.1.mv hal hh, h.2.2.2.1.mv hal hh, h.2.2.2.2⟩
end StrChars
namespace StrChars.Road
open Jvm Sem ClassFile Op Lib Jvm.Stand Jvm.Free Jvm.Free.XT
open Jvm.Lib.Cold (StaticIs)
theorem consq {a : Array Value} {s : State} {c : Jvm.Cond} {L : List Jvm.Cond} (h0 : c.before a s = true) (h : ∀ w ∈ L, w.before a s = true) : ∀ w ∈ c :: L, w.before a s = true := fun w hw => (List.mem_cons.mp hw).elim (fun e => e ▸ h0) (h w)
/-- the bytes of the chars cs, low before high -/
def wideBytes : List Int32 → List Value
  | [] => []
  | c :: cs => .int (lo8 c) :: .int (hi8 c) :: wideBytes cs
theorem wide_lo (d : Value) : ∀ (cs : List Int32) (j : Nat), j < cs.length → (wideBytes cs).getD (2 * j) d = .int (lo8 (cs.getD j 0))
  | [], j, h => absurd h (Nat.not_lt_zero j)
  | c :: cs, 0, _ => rfl
  | c :: cs, j + 1, h => by
    have q := wide_lo d cs j (by simpa using h)
    rw [show 2 * (j + 1) = 2 * j + 1 + 1 from by omega]
    simpa [wideBytes] using q
theorem wide_hi (d : Value) : ∀ (cs : List Int32) (j : Nat), j < cs.length → (wideBytes cs).getD (2 * j + 1) d = .int (hi8 (cs.getD j 0))
  | [], j, h => absurd h (Nat.not_lt_zero j)
  | c :: cs, 0, _ => rfl
  | c :: cs, j + 1, h => by
    have q := wide_hi d cs j (by simpa using h)
    rw [show 2 * (j + 1) + 1 = 2 * j + 1 + 1 + 1 from by omega]
    simpa [wideBytes] using q
theorem low_at (d : Value) (cs : List Int32) (j : Nat) (h : j < cs.length) : (cs.map fun c => Value.int (lo8 c)).getD j d = .int (lo8 (cs.getD j 0)) := by
  simp [List.getD_eq_getElem?_getD, h]
/-- an array of N2 bytes vs codes the chars cs by the coder cd -/
def CodA (cs : List Int32) (cd N2 : Int32) (vs : List Value) : Prop := (cd = 0 ∧ N2 = Int32.ofNat cs.length ∧ vs = (cs.map fun c => Value.int (lo8 c)) ∧ ∀ c ∈ cs, ¬ 255 < c) ∨ (cd = 1 ∧ N2 = Int32.ofNat (2 * cs.length) ∧ vs = wideBytes cs ∧ ∃ c ∈ cs, 255 < c)
theorem CodA.cod {cs : List Int32} {cd N2 : Int32} {vs : List Value} {V : Cell} (h : CodA cs cd N2 vs) (hn : 2 * cs.length < 2 ^ 31) (hs : V.slots.size = N2.toNatClampNeg) (hv : RoadKit.Has V vs (.int 0)) : Cod cd cs.length (fun j => cs.getD j 0) V := by
  rcases h with ⟨rfl, rfl, rfl, h⟩ | ⟨rfl, rfl, rfl, c, hc, hw⟩
  · rw [n32 (by omega)] at hs
    exact Or.inl ⟨rfl, hs, fun j hj => ⟨by rw [hv j (by omega), low_at _ _ _ hj], by
      have e : cs.getD j 0 = cs[j] := by simp [List.getD_eq_getElem?_getD, hj]
      show ¬ 255 < cs.getD j 0
      rw [e]; exact h _ (List.getElem_mem _)⟩⟩
  · rw [n32 (by omega)] at hs
    obtain ⟨j, hj, rfl⟩ := List.getElem_of_mem hc
    exact Or.inr ⟨rfl, hs, fun j hj => ⟨by rw [hv _ (by omega), wide_lo _ _ _ hj], by rw [hv _ (by omega), wide_hi _ _ _ hj]⟩, j, hj, by
      have e : cs.getD j 0 = cs[j] := by simp [List.getD_eq_getElem?_getD, hj]
      show 255 < cs.getD j 0
      rw [e]; exact hw⟩
/-- an object of exactly java/lang/String, its two fields found: as the laws ask it -/
theorem strObj {Z U : State} {a0 : Array Value} {kI : Nat} (wi : (Jvm.Cond.instantiable ST kI).before a0 Z = true) (al : Z.vm.Alike U.vm) {x : Addr} {v0 c0 : Value} (E : RoadKit.Exa Z U.heap x ST) (V : RoadKit.Fld Z U.heap x ST "value" "[B" v0) (C : RoadKit.Fld Z U.heap x ST "coder" "B" c0) :
    ∃ (D : Cell) (fV fC : Field), Blank ST x D U ∧ Found ST "value" "[B" fV U ∧ Found ST "coder" "B" fC U ∧ D.slots[fV.slot]? = some v0 ∧ D.slots[fC.slot]? = some c0 ∧ RoadKit.slotOf Z ST "value" "[B" = fV.slot ∧ RoadKit.slotOf Z ST "coder" "B" = fC.slot := by
  obtain ⟨D, cfV, kV, iV, fV, hD, gV, stV, knV, obV, asV, slV⟩ := V
  obtain ⟨D', cfC, kC, iC, fC, hD', gC, stC, -, -, asC, slC⟩ := C
  cases hD.symm.trans hD'
  obtain ⟨D2, kD, e1, e2, e3, e4, e5⟩ := E
  cases hD.symm.trans e1
  obtain ⟨c2, k2, i1, i2, i3, -⟩ := Cond.instantiable_spec wi
  cases e2.symm.trans i1
  cases e3.symm.trans i2
  obtain ⟨kU, u1, u2⟩ := al.2.2 _ _ e3
  exact ⟨D, fV, fC, ⟨hD, ⟨knV, fun q hq => by rw [hq] at obV; cases obV⟩, by rw [al.findClass]; exact e2, kU, u1, by rw [u2]; exact i3, by rw [u2]; exact e5 i3⟩, ⟨SBG.found_only al ⟨cfV, kV, iV, gV⟩, stV⟩, ⟨SBG.found_only al ⟨cfC, kC, iC, gC⟩, stC⟩, slV, slC, by simp [RoadKit.slotOf, gV], by simp [RoadKit.slotOf, gC]⟩
theorem sta_is {Z U : State} (al : Z.vm.Alike U.vm) {C n d : String} {v : Value} (S : RoadKit.Sta Z U.heap C n d v) : StaticIs U C n d v := by
  obtain ⟨cfS, iS, kS, fS, st, cS, t1, t2, t3, t4, t5, t6, t7⟩ := S
  exact StaticIs.there (s := { Z with heap := U.heap }) ⟨cfS, iS, kS, fS, st, cS, t1, t2, t3, t4, t5, (fun q => by rw [q] at t6; cases t6), t7⟩ al rfl
end StrChars.Road
namespace StrChars
open Jvm Sem ClassFile Op Lib Jvm.Stand Jvm.Free.XT Jvm.Free.ALB Jvm.Free.JM Jvm.Free
open Jvm.Lib.Cold (StaticIs)
/-- what place i of a byte[]'s cell holds -/
def yv (A : Cell) (i : Nat) : Int32 := match A.slots[i]? with | some (.int x) => x | _ => 0
theorem yv_get {a : Addr} {A : Cell} {U : State} (h : XT.Arr .byte a A U) (ht : Typed .byte A) {i : Nat} (hi : i < A.slots.size) : A.slots[i]? = some (.int (yv A i)) := by
  have e := Array.getElem?_eq_getElem hi
  have f := ht i _ e
  unfold yv; rw [e]
  generalize A.slots[i] = v at f
  cases v <;> simp [fits] at f ⊢
/-- the two arrays are equal, place for place -/
def EqC (A B : Cell) : Prop := A.slots.size = B.slots.size ∧ ∀ i, i < A.slots.size → yv A i = yv B i
/-- a boolean that says whether p -/
def Says01 (q : Prop) (r : Option Value) (s u : State) : Prop := ∃ v : Int32, r = some (.int v) ∧ u.heap = s.heap ∧ ((v = 1 ∧ q) ∨ (v = 0 ∧ ¬ q))
theorem Says01.mv {q : Prop} : ∀ r (U U' V V' : State), U'.heap = U.heap → V.vm.Alike V'.vm → V'.heap = V.heap → Says01 q r U V → Says01 q r U' V' :=
  fun r U U' V V' h1 _ h2 ⟨v, a, b, c⟩ => ⟨v, a, by rw [h1, h2]; exact b, c⟩
namespace LEq
def yN : MethodName := ⟨"java/lang/StringLatin1", "equals", "([B[B)Z"⟩
abbrev yB : ByteArray := jdk_43_method_13_code
theorem d0 : decode yB 0 = .ok (.aload_n 0, 1) := by decide +kernel
theorem d1 : decode yB 1 = .ok (.arraylength, 1) := by decide +kernel
theorem d2 : decode yB 2 = .ok (.aload_n 1, 1) := by decide +kernel
theorem d3 : decode yB 3 = .ok (.arraylength, 1) := by decide +kernel
theorem d4 : decode yB 4 = .ok (.if_icmp (.ne) 30, 3) := by decide +kernel
theorem d7 : decode yB 7 = .ok (.iconst 0, 1) := by decide +kernel
theorem d8 : decode yB 8 = .ok (.istore_n 2, 1) := by decide +kernel
theorem d9 : decode yB 9 = .ok (.iload_n 2, 1) := by decide +kernel
theorem d10 : decode yB 10 = .ok (.aload_n 0, 1) := by decide +kernel
theorem d11 : decode yB 11 = .ok (.arraylength, 1) := by decide +kernel
theorem d12 : decode yB 12 = .ok (.if_icmp (.ge) 20, 3) := by decide +kernel
theorem d15 : decode yB 15 = .ok (.aload_n 0, 1) := by decide +kernel
theorem d16 : decode yB 16 = .ok (.iload_n 2, 1) := by decide +kernel
theorem d17 : decode yB 17 = .ok (.baload, 1) := by decide +kernel
theorem d18 : decode yB 18 = .ok (.aload_n 1, 1) := by decide +kernel
theorem d19 : decode yB 19 = .ok (.iload_n 2, 1) := by decide +kernel
theorem d20 : decode yB 20 = .ok (.baload, 1) := by decide +kernel
theorem d21 : decode yB 21 = .ok (.if_icmp (.eq) 5, 3) := by decide +kernel
theorem d24 : decode yB 24 = .ok (.iconst 0, 1) := by decide +kernel
theorem d25 : decode yB 25 = .ok (.ireturn, 1) := by decide +kernel
theorem d26 : decode yB 26 = .ok (.iinc 2 1, 3) := by decide +kernel
theorem d29 : decode yB 29 = .ok (.goto (-20), 3) := by decide +kernel
theorem d32 : decode yB 32 = .ok (.iconst 1, 1) := by decide +kernel
theorem d33 : decode yB 33 = .ok (.ireturn, 1) := by decide +kernel
theorem d34 : decode yB 34 = .ok (.iconst 0, 1) := by decide +kernel
theorem d35 : decode yB 35 = .ok (.ireturn, 1) := by decide +kernel
def site : List Cond := []
def tab : Cond := tabOf yN yB 3 (some .boolean) site
def P (a : Addr) (A : Cell) (b : Addr) (B : Cell) (args : Array Value) (s : State) : Prop := args = #[.ref a, .ref b] ∧ XT.Arr .byte a A s ∧ Typed .byte A ∧ XT.Arr .byte b B s ∧ Typed .byte B
/-- whether two byte[] are equal, place for place -/
theorem law (l : Launch) (a : Addr) (A : Cell) (b : Addr) (B : Cell) : Law l yN 2 2 0 0 yB 3 (some .boolean) site (P a A b B) (Says01 (EqC A B)) [] 0 0 := by
  refine Law.of_walk (plainFor_of_name (by decide +kernel)) (by decide +kernel) (by decide +kernel) (by decide) (fun _ _ h => by rw [h.1]; rfl) (fun _ U U' hal hh h => ⟨h.1, h.2.1.mv hal hh, h.2.2.1, h.2.2.2.1.mv hal hh, h.2.2.2.2⟩) (fun r U U' V V' h1 hal h2 h => Says01.mv r U U' V V' h1 hal h2 h) ?_
  intro p e s m args below meth c s₁ X0 hexec hbytes hml hret hlk hnm hown hh0 W hP
  obtain ⟨rfl, hA, tA, hB, tB⟩ := hP
  have a31 := hA.2.2.2
  have b31 := hB.2.2.2
  have hA0 := hA.mv X0.warmed.alike hh0
  have hB0 := hB.mv X0.warmed.alike hh0
  have c1 : Steps p.tables e below (s₁.setTop (entryFrame m #[.ref a, .ref b] 3)) (s₁.setTop (mkF m 0 #[.val (.ref a), .val (.ref b), .unset] [])) := entry rfl
  have c2 : Steps p.tables e below (s₁.setTop (entryFrame m #[.ref a, .ref b] 3)) (s₁.setTop (mkF m 4 #[.val (.ref a), .val (.ref b), .unset] [.int (Int32.ofNat B.slots.size), .int (Int32.ofNat A.slots.size)])) := c1.trans (by
    refine XS.aloadN X0.here hexec rfl (hb hbytes d0) rfl rfl ?_
    refine X0.alen hexec hA0 rfl rfl (hb hbytes d1) ?_
    refine XS.aloadN X0.here hexec rfl (hb hbytes d2) rfl rfl ?_
    refine X0.alen hexec hB0 rfl rfl (hb hbytes d3) ?_
    exact Steps.refl _)
  by_cases hs : A.slots.size = B.slots.size
  · have c3 : Steps p.tables e below (s₁.setTop (entryFrame m #[.ref a, .ref b] 3)) (s₁.setTop (mkF m 9 #[.val (.ref a), .val (.ref b), .val (.int 0)] [])) := c2.trans (by
      refine XS.icmpNo X0.here hexec rfl (hb hbytes d4) rfl (ii_ne_f (by rw [hs])) ?_
      refine iconstV X0.here hexec rfl 0 (hb hbytes d7) (by decide) ?_
      refine XS.istoreN X0.here hexec rfl (hb hbytes d8) rfl rfl ?_
      exact Steps.refl _)
    have loop : ∀ (r i : Nat), i + r = A.slots.size → (∀ j, j < i → yv A j = yv B j) → Steps p.tables e below (s₁.setTop (entryFrame m #[.ref a, .ref b] 3)) (s₁.setTop (mkF m 9 #[.val (.ref a), .val (.ref b), .val (.int (Int32.ofNat i))] [])) → ∃ (pc : Nat) (Ls : Array Slot) (v : Int32), (pc = 25 ∨ pc = 33) ∧ ((v = 1 ∧ EqC A B) ∨ (v = 0 ∧ ¬ EqC A B)) ∧ Steps p.tables e below (s₁.setTop (entryFrame m #[.ref a, .ref b] 3)) (s₁.setTop (mkF m pc Ls [.int v])) := by
      intro r
      induction r with
      | zero =>
        intro i hi he cl
        exact ⟨33, _, 1, Or.inr rfl, Or.inl ⟨rfl, hs, fun j hj => he j (by omega)⟩, cl.trans (by
          refine XS.iloadN X0.here hexec rfl (hb hbytes d9) rfl ?_
          refine XS.aloadN X0.here hexec rfl (hb hbytes d10) rfl rfl ?_
          refine X0.alen hexec hA0 rfl rfl (hb hbytes d11) ?_
          refine XS.icmpYes X0.here hexec rfl (pc0 := 12) rfl (hb hbytes d12) rfl (ii_ge_t (nlt32 (by omega) (by omega))) (by decide) rfl ?_
          refine iconstV X0.here hexec rfl 1 (hb hbytes d32) (by decide) ?_
          exact Steps.refl _)⟩
      | succ r ih =>
        intro i hi he cl
        have c4 : Steps p.tables e below (s₁.setTop (entryFrame m #[.ref a, .ref b] 3)) (s₁.setTop (mkF m 21 #[.val (.ref a), .val (.ref b), .val (.int (Int32.ofNat i))] [.int (yv B i), .int (yv A i)])) := cl.trans (by
          refine XS.iloadN X0.here hexec rfl (hb hbytes d9) rfl ?_
          refine XS.aloadN X0.here hexec rfl (hb hbytes d10) rfl rfl ?_
          refine X0.alen hexec hA0 rfl rfl (hb hbytes d11) ?_
          refine XS.icmpNo X0.here hexec rfl (hb hbytes d12) rfl (ii_ge_f (lt32 (by omega) (by omega))) ?_
          refine XS.aloadN X0.here hexec rfl (hb hbytes d15) rfl rfl ?_
          refine XS.iloadN X0.here hexec rfl (hb hbytes d16) rfl ?_
          refine X0.aget hexec hA0 rfl (yv_get hA tA (i := i) (by omega)) rfl rfl (hb hbytes d17) ?_
          refine XS.aloadN X0.here hexec rfl (hb hbytes d18) rfl rfl ?_
          refine XS.iloadN X0.here hexec rfl (hb hbytes d19) rfl ?_
          refine X0.aget hexec hB0 rfl (yv_get hB tB (i := i) (by omega)) rfl rfl (hb hbytes d20) ?_
          exact Steps.refl _)
        by_cases hv : yv A i = yv B i
        · have c5 : Steps p.tables e below (s₁.setTop (entryFrame m #[.ref a, .ref b] 3)) (s₁.setTop (mkF m 9 #[.val (.ref a), .val (.ref b), .val (.int (Int32.ofNat i + 1))] [])) := c4.trans (by
            refine XS.icmpYes X0.here hexec rfl (pc0 := 21) rfl (hb hbytes d21) rfl (ii_eq_t hv) (by decide) rfl ?_
            refine iincV X0.here hexec rfl 1 (hb hbytes d26) (by decide) rfl rfl ?_
            refine XS.goto X0.here hexec rfl (pc0 := 29) rfl (hb hbytes d29) (by decide) rfl ?_
            exact Steps.refl _)
          rw [succ32] at c5
          exact ih (i + 1) (by omega) (fun j hj => by
            by_cases e : j = i
            · rw [e]; exact hv
            · exact he j (by omega)) c5
        · exact ⟨25, _, 0, Or.inl rfl, Or.inr ⟨rfl, fun q => hv (q.2 i (by omega))⟩, c4.trans (by
            refine XS.icmpNo X0.here hexec rfl (hb hbytes d21) rfl (ii_eq_f hv) ?_
            refine iconstV X0.here hexec rfl 0 (hb hbytes d24) (by decide) ?_
            exact Steps.refl _)⟩
    obtain ⟨pc, Ls, v, hpc, hv, cz⟩ := loop A.slots.size 0 (by omega) (fun j hj => absurd hj (Nat.not_lt_zero j)) c3
    have nv : narrow .boolean (.int v) = .int v := by rcases hv with ⟨rfl, -⟩ | ⟨rfl, -⟩ <;> rfl
    rcases hpc with rfl | rfl
    · exact ⟨s₁, some (.int v), _, _, _, X0, rfl, rfl, rfl, (fun h => by cases h), ⟨v, rfl, hh0, hv⟩, fun fs hl => cz.trans (X0.ireturnOut hexec hret nv (Or.inr (Or.inl rfl)) (hb hbytes d25) hl)⟩
    · exact ⟨s₁, some (.int v), _, _, _, X0, rfl, rfl, rfl, (fun h => by cases h), ⟨v, rfl, hh0, hv⟩, fun fs hl => cz.trans (X0.ireturnOut hexec hret nv (Or.inr (Or.inl rfl)) (hb hbytes d33) hl)⟩
  · have c3 : Steps p.tables e below (s₁.setTop (entryFrame m #[.ref a, .ref b] 3)) (s₁.setTop (mkF m 35 #[.val (.ref a), .val (.ref b), .unset] [.int 0])) := c2.trans (by
      refine XS.icmpYes X0.here hexec rfl (pc0 := 4) rfl (hb hbytes d4) rfl (ii_ne_t (ne32 a31 b31 hs)) (by decide) rfl ?_
      refine iconstV X0.here hexec rfl 0 (hb hbytes d34) (by decide) ?_
      exact Steps.refl _)
    exact ⟨s₁, some (.int 0), _, _, _, X0, rfl, rfl, rfl, (fun h => by cases h), ⟨0, rfl, hh0, Or.inr ⟨rfl, fun q => hs q.1⟩⟩, fun fs hl => c3.trans (X0.ireturnOut hexec hret rfl (Or.inr (Or.inl rfl)) (hb hbytes d35) hl)⟩
end LEq
theorem Cod.ty {cd : Int32} {n : Nat} {f : Nat → Int32} {V : Cell} (h : Cod cd n f V) : Typed .byte V := fun i v hv => by
  have hi : i < V.slots.size := (Array.getElem?_eq_some_iff.mp hv).1
  rcases h with ⟨-, k1, k2⟩ | ⟨-, k1, k2, -⟩
  · rw [(k2 i (by omega)).1] at hv; cases hv; exact fits_lo8 _
  · rcases Nat.mod_two_eq_zero_or_one i with e | e
    · obtain ⟨j, rfl⟩ : ∃ j, i = 2 * j := ⟨i / 2, by omega⟩
      rw [(k2 j (by omega)).1] at hv; cases hv; exact fits_lo8 _
    · obtain ⟨j, rfl⟩ : ∃ j, i = 2 * j + 1 := ⟨i / 2, by omega⟩
      rw [(k2 j (by omega)).2] at hv; cases hv; exact fits_lo8 _
/-- the same text -/
def SameT (n : Nat) (f : Nat → Int32) (k : Nat) (g : Nat → Int32) : Prop := n = k ∧ ∀ j, j < n → f j = g j
theorem lo8_inj {x y : Int32} (h0 : ¬ x < 0) (h1 : ¬ 255 < x) (k0 : ¬ y < 0) (k1 : ¬ 255 < y) (h : lo8 x = lo8 y) : x = y := by
  rw [← lo8_mask h0 h1, ← lo8_mask k0 k1, h]
/-- arrays coded by one coder are equal just where the texts are -/
theorem Cod.eqv {cd : Int32} {n k : Nat} {f g : Nat → Int32} {V V' : Cell} (h : Cod cd n f V) (h' : Cod cd k g V') (hf : ∀ j, j < n → ¬ f j < 0 ∧ ¬ 65535 < f j) (hg : ∀ j, j < k → ¬ g j < 0 ∧ ¬ 65535 < g j) : EqC V V' ↔ SameT n f k g := by
  have yvv : ∀ {W : Cell} {i : Nat} {x : Int32}, W.slots[i]? = some (.int x) → yv W i = x := fun q => by unfold yv; rw [q]
  rcases h with ⟨rfl, k1, k2⟩ | ⟨rfl, k1, k2, -⟩
  · rcases h' with ⟨-, m1, m2⟩ | ⟨e, -⟩
    · constructor
      · rintro ⟨e1, e2⟩
        refine ⟨by omega, fun j hj => ?_⟩
        have q := e2 j (by omega)
        rw [yvv (k2 j hj).1, yvv (m2 j (by omega)).1] at q
        exact lo8_inj (hf j hj).1 (k2 j hj).2 (hg j (by omega)).1 (m2 j (by omega)).2 q
      · rintro ⟨rfl, e2⟩
        refine ⟨by omega, fun j hj => ?_⟩
        rw [yvv (k2 j (by omega)).1, yvv (m2 j (by omega)).1, e2 j (by omega)]
    · exact absurd e (by decide)
  · rcases h' with ⟨e, -⟩ | ⟨-, m1, m2, -⟩
    · exact absurd e (by decide)
    · constructor
      · rintro ⟨e1, e2⟩
        refine ⟨by omega, fun j hj => ?_⟩
        have q1 := e2 (2 * j) (by omega)
        have q2 := e2 (2 * j + 1) (by omega)
        rw [yvv (k2 j hj).1, yvv (m2 j (by omega)).1] at q1
        rw [yvv (k2 j hj).2, yvv (m2 j (by omega)).2] at q2
        rw [← pair_says (hf j hj).1 (hf j hj).2, ← pair_says (hg j (by omega)).1 (hg j (by omega)).2, q1, q2]
      · rintro ⟨rfl, e2⟩
        refine ⟨by omega, fun i hi => ?_⟩
        rcases Nat.mod_two_eq_zero_or_one i with e | e
        · obtain ⟨j, rfl⟩ : ∃ j, i = 2 * j := ⟨i / 2, by omega⟩
          rw [yvv (k2 j (by omega)).1, yvv (m2 j (by omega)).1, e2 j (by omega)]
        · obtain ⟨j, rfl⟩ : ∃ j, i = 2 * j + 1 := ⟨i / 2, by omega⟩
          rw [yvv (k2 j (by omega)).2, yvv (m2 j (by omega)).2, e2 j (by omega)]
/-- two codings differ: so do the texts -/
theorem Cod.dif {cd cd' : Int32} {n k : Nat} {f g : Nat → Int32} {V V' : Cell} (h : Cod cd n f V) (h' : Cod cd' k g V') (hne : ¬ cd = cd') : ¬ SameT n f k g := by
  rintro ⟨rfl, e⟩
  rcases h with ⟨rfl, -, k2⟩ | ⟨rfl, -, -, j, hj, hw⟩
  · rcases h' with ⟨rfl, -⟩ | ⟨-, -, -, j, hj, hw⟩
    · exact hne rfl
    · exact (k2 j hj).2 (by rw [e j hj]; exact hw)
  · rcases h' with ⟨-, -, m2⟩ | ⟨rfl, -⟩
    · exact (m2 j hj).2 (by rw [← e j hj]; exact hw)
    · exact hne rfl
/-- an object of exactly C is an instance of C -/
theorem cinst {p : Program} {l : Launch} {e : Env} {R : Room} {s : State} {m : MethodId} {args : Array Value} {below : List Frame} {meth : Method} {c : Code} {T : State} {locs : List Loc} {cells slots : Nat} (X : Stand p l e R s m args below meth c T locs cells slots) (hexec : p.tables.exec = Jvm.exec) {own C : String} {index : Nat} (hown : s.vm.findClass own = some m.cls) (hlink : (Cond.classLink own index C).before args s = true) {a : Addr} (hE : Exact C a T)
    {g : JFrame} (hg : g.method = m) {rest : List Value} (hstack : g.stack = .ref a :: rest) (hdg : decode c.code g.pc = .ok (.instanceof index, 3)) :
    ∃ T', Stand p l e R s m args below meth c T' locs cells slots ∧ T'.heap = T.heap ∧ ∀ target, Steps p.tables e below (T'.setTop { g with pc := g.pc + 3, stack := .int 1 :: rest }) target → Steps p.tables e below (T.setTop g) target := by
  obtain ⟨cB, h1, D, h2, h3, h4⟩ := hE
  have h1' : s.vm.findClass C = some cB := by rw [← X.warmed.alike.findClass]; exact h1
  obtain ⟨vm', X', st⟩ := X.instanceofYes hexec hown hlink h2 h4 h1' (by rw [h3]; exact Jvm.Free.SB.assignable_self _ _) hg hstack hdg
  exact ⟨_, X', rfl, st⟩
theorem cself {p : Program} {l : Launch} {e : Env} {R : Room} {s : State} {m : MethodId} {args : Array Value} {below : List Frame} {meth : Method} {c : Code} {T : State} {locs : List Loc} {cells slots : Nat} (X : Stand p l e R s m args below meth c T locs cells slots) (hexec : p.tables.exec = Jvm.exec) {own C : String} {index : Nat} (hown : s.vm.findClass own = some m.cls) (hlink : (Cond.classLink own index C).before args s = true) {a : Addr} (hE : Exact C a T)
    {g : JFrame} (hg : g.method = m) {rest : List Value} (hstack : g.stack = .ref a :: rest) (hdg : decode c.code g.pc = .ok (.checkcast index, 3)) :
    ∃ T', Stand p l e R s m args below meth c T' locs cells slots ∧ T'.heap = T.heap ∧ ∀ target, Steps p.tables e below (T'.setTop { g with pc := g.pc + 3, stack := .ref a :: rest }) target → Steps p.tables e below (T.setTop g) target := by
  obtain ⟨cB, h1, D, h2, h3, h4⟩ := hE
  have h1' : s.vm.findClass C = some cB := by rw [← X.warmed.alike.findClass]; exact h1
  obtain ⟨vm', X', st⟩ := X.checkcastYes hexec hown hlink h2 h4 h1' (by rw [h3]; exact Jvm.Free.SB.assignable_self _ _) hg hstack hdg
  exact ⟨_, X', rfl, fun t h => st t (by rw [← hstack] at h; exact h)⟩
namespace SEq
def yN : MethodName := ⟨"java/lang/String", "equals", "(Ljava/lang/Object;)Z"⟩
abbrev yB : ByteArray := jdk_42_method_66_code
theorem d0 : decode yB 0 = .ok (.aload_n 0, 1) := by decide +kernel
theorem d1 : decode yB 1 = .ok (.aload_n 1, 1) := by decide +kernel
theorem d2 : decode yB 2 = .ok (.if_acmp (.ne) 5, 3) := by decide +kernel
theorem d5 : decode yB 5 = .ok (.iconst 1, 1) := by decide +kernel
theorem d6 : decode yB 6 = .ok (.ireturn, 1) := by decide +kernel
theorem d7 : decode yB 7 = .ok (.aload_n 1, 1) := by decide +kernel
theorem d8 : decode yB 8 = .ok (.instanceof 10, 3) := by decide +kernel
theorem d11 : decode yB 11 = .ok (.ifCond (.eq) 43, 3) := by decide +kernel
theorem d14 : decode yB 14 = .ok (.aload_n 1, 1) := by decide +kernel
theorem d15 : decode yB 15 = .ok (.checkcast 10, 3) := by decide +kernel
theorem d18 : decode yB 18 = .ok (.astore_n 2, 1) := by decide +kernel
theorem d19 : decode yB 19 = .ok (.getstatic 38, 3) := by decide +kernel
theorem d22 : decode yB 22 = .ok (.ifCond (.eq) 14, 3) := by decide +kernel
theorem d25 : decode yB 25 = .ok (.aload_n 0, 1) := by decide +kernel
theorem d26 : decode yB 26 = .ok (.getfield 15, 3) := by decide +kernel
theorem d29 : decode yB 29 = .ok (.aload_n 2, 1) := by decide +kernel
theorem d30 : decode yB 30 = .ok (.getfield 15, 3) := by decide +kernel
theorem d33 : decode yB 33 = .ok (.if_icmp (.ne) 21, 3) := by decide +kernel
theorem d36 : decode yB 36 = .ok (.aload_n 0, 1) := by decide +kernel
theorem d37 : decode yB 37 = .ok (.getfield 9, 3) := by decide +kernel
theorem d40 : decode yB 40 = .ok (.aload_n 2, 1) := by decide +kernel
theorem d41 : decode yB 41 = .ok (.getfield 9, 3) := by decide +kernel
theorem d44 : decode yB 44 = .ok (.invokestatic 541, 3) := by decide +kernel
theorem d47 : decode yB 47 = .ok (.ifCond (.eq) 7, 3) := by decide +kernel
theorem d50 : decode yB 50 = .ok (.iconst 1, 1) := by decide +kernel
theorem d51 : decode yB 51 = .ok (.goto 4, 3) := by decide +kernel
theorem d54 : decode yB 54 = .ok (.iconst 0, 1) := by decide +kernel
theorem d55 : decode yB 55 = .ok (.ireturn, 1) := by decide +kernel
def site : List Cond := [.classLink "java/lang/String" 10 "java/lang/String", .fieldLink "java/lang/String" 38 "java/lang/String" "COMPACT_STRINGS" "Z", .fieldLink "java/lang/String" 15 "java/lang/String" "coder" "B", .fieldLink "java/lang/String" 9 "java/lang/String" "value" "[B", LEq.tab] ++ staticW "java/lang/String" 541 LEq.yN
def tab : Cond := tabOf yN yB 3 (some .boolean) site
def P (x t : Addr) (V : Cell) (cd : Int32) (n : Nat) (f : Nat → Int32) (y t' : Addr) (V' : Cell) (cd' : Int32) (k : Nat) (g : Nat → Int32) (z : Int32) (args : Array Value) (s : State) : Prop := args = #[.ref x, .ref y] ∧ Txt x t V cd n f s ∧ Txt y t' V' cd' k g s ∧ StaticIs s "java/lang/String" "COMPACT_STRINGS" "Z" (.int z) ∧ ¬ z = 0
/-- equals(Object) of two Strings: whether the texts are the same -/
theorem law (l : Launch) (x t : Addr) (V : Cell) (cd : Int32) (n : Nat) (f : Nat → Int32) (y t' : Addr) (V' : Cell) (cd' : Int32) (k : Nat) (g : Nat → Int32) (z : Int32) : Law l yN 2 1 1 14 yB 3 (some .boolean) site (P x t V cd n f y t' V' cd' k g z) (Says01 (SameT n f k g)) [] 0 0 := by
  refine Law.of_walk (plainFor_of_name (by decide +kernel)) (by decide +kernel) (by decide +kernel) (by decide) (fun _ _ h => by rw [h.1]; rfl) (fun _ U U' hal hh h => ⟨h.1, h.2.1.mv hal hh, h.2.2.1.mv hal hh, h.2.2.2.1.there hal hh, h.2.2.2.2⟩) (fun r U U' V V' h1 hal h2 h => Says01.mv r U U' V V' h1 hal h2 h) ?_
  intro p e s m args below meth c s₁ X0 hexec hbytes hml hret hlk hnm hown hh0 W hP
  obtain ⟨rfl, hx, hy, s1, hz⟩ := hP
  have c1 : Steps p.tables e below (s₁.setTop (entryFrame m #[.ref x, .ref y] 3)) (s₁.setTop (mkF m 2 #[.val (.ref x), .val (.ref y), .unset] [.ref y, .ref x])) := Steps.trans (entry rfl) (by
    show Steps p.tables e below (s₁.setTop (mkF m 0 #[.val (.ref x), .val (.ref y), .unset] [])) _
    refine XS.aloadN X0.here hexec rfl (hb hbytes d0) rfl rfl ?_
    refine XS.aloadN X0.here hexec rfl (hb hbytes d1) rfl rfl ?_
    exact Steps.refl _)
  by_cases hxy : x = y
  · have c2 : Steps p.tables e below (s₁.setTop (entryFrame m #[.ref x, .ref y] 3)) (s₁.setTop (mkF m 6 #[.val (.ref x), .val (.ref y), .unset] [.int 1])) := c1.trans (by
      refine acmpNo X0.here hexec rfl (hb hbytes d2) rfl rfl rfl (by simp [acmp, hxy]) ?_
      refine iconstV X0.here hexec rfl 1 (hb hbytes d5) (by decide) ?_
      exact Steps.refl _)
    subst hxy
    have ec : cd = cd' := by
      obtain ⟨D, fd, a1, a2, a3⟩ := hx.2.2.1
      obtain ⟨D', fd', b1, b2, b3⟩ := hy.2.2.1
      cases a1.symm.trans b1
      obtain ⟨q1, q2, q3, q4⟩ := a2.1
      obtain ⟨r1, r2, r3, r4⟩ := b2.1
      cases q4.symm.trans r4
      cases a3.symm.trans b3; rfl
    have et : t = t' := by
      obtain ⟨D, fd, a1, a2, a3⟩ := hx.2.1
      obtain ⟨D', fd', b1, b2, b3⟩ := hy.2.1
      cases a1.symm.trans b1
      obtain ⟨q1, q2, q3, q4⟩ := a2.1
      obtain ⟨r1, r2, r3, r4⟩ := b2.1
      cases q4.symm.trans r4
      cases a3.symm.trans b3; rfl
    subst ec et
    have ev : V = V' := by cases hx.2.2.2.1.1.symm.trans hy.2.2.2.1.1; rfl
    subst ev
    have hs : SameT n f k g := (Cod.eqv hx.2.2.2.2.1 hy.2.2.2.2.1 hx.2.2.2.2.2 hy.2.2.2.2.2).mp ⟨rfl, fun _ _ => rfl⟩
    exact ⟨s₁, some (.int 1), _, _, _, X0, rfl, rfl, rfl, (fun h => by cases h), ⟨1, rfl, hh0, Or.inl ⟨rfl, hs⟩⟩, fun fs hl => c2.trans (X0.ireturnOut hexec hret rfl (Or.inr (Or.inl rfl)) (hb hbytes d6) hl)⟩
  · have c2 : Steps p.tables e below (s₁.setTop (entryFrame m #[.ref x, .ref y] 3)) (s₁.setTop (mkF m 8 #[.val (.ref x), .val (.ref y), .unset] [.ref y])) := c1.trans (by
      refine acmpYes X0.here hexec rfl (pc0 := 2) rfl (hb hbytes d2) rfl rfl rfl (by simp [acmp, hxy]) (by decide) rfl ?_
      refine XS.aloadN X0.here hexec rfl (hb hbytes d7) rfl rfl ?_
      exact Steps.refl _)
    obtain ⟨T3, X3, q3, st3⟩ := cinst X0 hexec hown (wk W (.classLink "java/lang/String" 10 "java/lang/String")) (hy.mv X0.warmed.alike hh0).1 (g := (mkF m 8 #[.val (.ref x), .val (.ref y), .unset] [.ref y])) rfl (rest := []) rfl (hb hbytes d8)
    have hh3 := q3.trans hh0
    have c4 : Steps p.tables e below (s₁.setTop (entryFrame m #[.ref x, .ref y] 3)) (T3.setTop (mkF m 15 #[.val (.ref x), .val (.ref y), .unset] [.ref y])) := (c2.trans (st3 _ (Steps.refl _))).trans (by
      refine XS.ifNo X3.here hexec rfl (hb hbytes d11) rfl (i0_eq_f (by decide)) ?_
      refine XS.aloadN X3.here hexec rfl (hb hbytes d14) rfl rfl ?_
      exact Steps.refl _)
    obtain ⟨T5, X5, q5, st5⟩ := cself X3 hexec hown (wk W (.classLink "java/lang/String" 10 "java/lang/String")) (hy.mv X3.warmed.alike hh3).1 (g := (mkF m 15 #[.val (.ref x), .val (.ref y), .unset] [.ref y])) rfl (rest := []) rfl (hb hbytes d15)
    have hh5 := q5.trans hh3
    have c6 : Steps p.tables e below (s₁.setTop (entryFrame m #[.ref x, .ref y] 3)) (T5.setTop (mkF m 19 #[.val (.ref x), .val (.ref y), .val (.ref y)] [])) := (c4.trans (st5 _ (Steps.refl _))).trans (by
      refine XS.astoreN X5.here hexec rfl (hb hbytes d18) rfl rfl rfl ?_
      exact Steps.refl _)
    obtain ⟨T7, X7, q7, st7⟩ := X5.sget hexec hown (wk W (.fieldLink "java/lang/String" 38 "java/lang/String" "COMPACT_STRINGS" "Z")) s1 (fun _ _ h => by rw [hh5]; exact h) (g := (mkF m 19 #[.val (.ref x), .val (.ref y), .val (.ref y)] [])) rfl (hb hbytes d19)
    have hh7 := q7.trans hh5
    have c8 : Steps p.tables e below (s₁.setTop (entryFrame m #[.ref x, .ref y] 3)) (T7.setTop (mkF m 26 #[.val (.ref x), .val (.ref y), .val (.ref y)] [.ref x])) := (c6.trans (st7 _ (Steps.refl _))).trans (by
      refine XS.ifNo X7.here hexec rfl (hb hbytes d22) rfl (i0_eq_f hz) ?_
      refine XS.aloadN X7.here hexec rfl (hb hbytes d25) rfl rfl ?_
      exact Steps.refl _)
    obtain ⟨T9, X9, q9, st9⟩ := X7.hget hexec hown (wk W (.fieldLink "java/lang/String" 15 "java/lang/String" "coder" "B")) (hx.mv X7.warmed.alike hh7).2.2.1 (g := (mkF m 26 #[.val (.ref x), .val (.ref y), .val (.ref y)] [.ref x])) rfl (rest := []) rfl (hb hbytes d26)
    have hh9 := q9.trans hh7
    have c10 : Steps p.tables e below (s₁.setTop (entryFrame m #[.ref x, .ref y] 3)) (T9.setTop (mkF m 30 #[.val (.ref x), .val (.ref y), .val (.ref y)] [.ref y, .int cd])) := (c8.trans (st9 _ (Steps.refl _))).trans (by
      refine XS.aloadN X9.here hexec rfl (hb hbytes d29) rfl rfl ?_
      exact Steps.refl _)
    obtain ⟨T11, X11, q11, st11⟩ := X9.hget hexec hown (wk W (.fieldLink "java/lang/String" 15 "java/lang/String" "coder" "B")) (hy.mv X9.warmed.alike hh9).2.2.1 (g := (mkF m 30 #[.val (.ref x), .val (.ref y), .val (.ref y)] [.ref y, .int cd])) rfl (rest := [.int cd]) rfl (hb hbytes d30)
    have hh11 := q11.trans hh9
    have c12 : Steps p.tables e below (s₁.setTop (entryFrame m #[.ref x, .ref y] 3)) (T11.setTop (mkF m 33 #[.val (.ref x), .val (.ref y), .val (.ref y)] [.int cd', .int cd])) := c10.trans (st11 _ (Steps.refl _))
    by_cases hcd : cd = cd'
    · subst hcd
      have c13 : Steps p.tables e below (s₁.setTop (entryFrame m #[.ref x, .ref y] 3)) (T11.setTop (mkF m 37 #[.val (.ref x), .val (.ref y), .val (.ref y)] [.ref x])) := c12.trans (by
        refine XS.icmpNo X11.here hexec rfl (hb hbytes d33) rfl (ii_ne_f rfl) ?_
        refine XS.aloadN X11.here hexec rfl (hb hbytes d36) rfl rfl ?_
        exact Steps.refl _)
      obtain ⟨T14, X14, q14, st14⟩ := X11.hget hexec hown (wk W (.fieldLink "java/lang/String" 9 "java/lang/String" "value" "[B")) (hx.mv X11.warmed.alike hh11).2.1 (g := (mkF m 37 #[.val (.ref x), .val (.ref y), .val (.ref y)] [.ref x])) rfl (rest := []) rfl (hb hbytes d37)
      have hh14 := q14.trans hh11
      have c15 : Steps p.tables e below (s₁.setTop (entryFrame m #[.ref x, .ref y] 3)) (T14.setTop (mkF m 41 #[.val (.ref x), .val (.ref y), .val (.ref y)] [.ref y, .ref t])) := (c13.trans (st14 _ (Steps.refl _))).trans (by
        refine XS.aloadN X14.here hexec rfl (hb hbytes d40) rfl rfl ?_
        exact Steps.refl _)
      obtain ⟨T16, X16, q16, st16⟩ := X14.hget hexec hown (wk W (.fieldLink "java/lang/String" 9 "java/lang/String" "value" "[B")) (hy.mv X14.warmed.alike hh14).2.1 (g := (mkF m 41 #[.val (.ref x), .val (.ref y), .val (.ref y)] [.ref y, .ref t])) rfl (rest := [.ref t]) rfl (hb hbytes d41)
      have hh16 := q16.trans hh14
      have c17 : Steps p.tables e below (s₁.setTop (entryFrame m #[.ref x, .ref y] 3)) (T16.setTop (mkF m 44 #[.val (.ref x), .val (.ref y), .val (.ref y)] [.ref t', .ref t])) := c15.trans (st16 _ (Steps.refl _))
      obtain ⟨v18, T18, X18, E18, g18⟩ := X16.callS hexec (LEq.law l t V t' V') hown (wks W (staticW "java/lang/String" 541 LEq.yN)) (wk W LEq.tab) (W := 0) (Nat.le_of_ble_eq_true rfl) (Nat.le_of_ble_eq_true rfl) (Nat.le_refl _) (Nat.le_refl _) (g := (mkF m 44 #[.val (.ref x), .val (.ref y), .val (.ref y)] [.ref t', .ref t])) rfl (by rw [hml]; rfl) c17 (argsL := [.ref t, .ref t']) (rest := []) rfl rfl (by show 2 * 0 + 0 ≤ _; decide) (hb hbytes d44) (⟨rfl, hx.2.2.2.1.mv X16.warmed.alike hh16, hx.2.2.2.2.1.ty, hy.2.2.2.1.mv X16.warmed.alike hh16, hy.2.2.2.2.1.ty⟩)
      obtain ⟨v, rfl, q18, hv⟩ := E18
      have iff := Cod.eqv hx.2.2.2.2.1 hy.2.2.2.2.1 hx.2.2.2.2.2 hy.2.2.2.2.2
      rcases hv with ⟨rfl, he⟩ | ⟨rfl, he⟩
      · have c19 : Steps p.tables e below (s₁.setTop (entryFrame m #[.ref x, .ref y] 3)) (T18.setTop (mkF m 55 #[.val (.ref x), .val (.ref y), .val (.ref y)] [.int 1])) := Steps.trans g18 (by
          refine XS.ifNo X18.here hexec rfl (hb hbytes d47) rfl (i0_eq_f (by decide)) ?_
          refine iconstV X18.here hexec rfl 1 (hb hbytes d50) (by decide) ?_
          refine XS.goto X18.here hexec rfl (pc0 := 51) rfl (hb hbytes d51) (by decide) rfl ?_
          exact Steps.refl _)
        exact ⟨T18, some (.int 1), _, _, _, X18, rfl, rfl, rfl, (fun h => by cases h), ⟨1, rfl, q18.trans hh16, Or.inl ⟨rfl, iff.mp he⟩⟩, fun fs hl => c19.trans (X18.ireturnOut hexec hret rfl (Or.inr (Or.inl rfl)) (hb hbytes d55) hl)⟩
      · have c19 : Steps p.tables e below (s₁.setTop (entryFrame m #[.ref x, .ref y] 3)) (T18.setTop (mkF m 55 #[.val (.ref x), .val (.ref y), .val (.ref y)] [.int 0])) := Steps.trans g18 (by
          refine XS.ifYes X18.here hexec rfl (pc0 := 47) rfl (hb hbytes d47) rfl (i0_eq_t rfl) (by decide) rfl ?_
          refine iconstV X18.here hexec rfl 0 (hb hbytes d54) (by decide) ?_
          exact Steps.refl _)
        exact ⟨T18, some (.int 0), _, _, _, X18, rfl, rfl, rfl, (fun h => by cases h), ⟨0, rfl, q18.trans hh16, Or.inr ⟨rfl, fun q => he (iff.mpr q)⟩⟩, fun fs hl => c19.trans (X18.ireturnOut hexec hret rfl (Or.inr (Or.inl rfl)) (hb hbytes d55) hl)⟩
    · have c13 : Steps p.tables e below (s₁.setTop (entryFrame m #[.ref x, .ref y] 3)) (T11.setTop (mkF m 55 #[.val (.ref x), .val (.ref y), .val (.ref y)] [.int 0])) := c12.trans (by
        refine XS.icmpYes X11.here hexec rfl (pc0 := 33) rfl (hb hbytes d33) rfl (ii_ne_t hcd) (by decide) rfl ?_
        refine iconstV X11.here hexec rfl 0 (hb hbytes d54) (by decide) ?_
        exact Steps.refl _)
      exact ⟨T11, some (.int 0), _, _, _, X11, rfl, rfl, rfl, (fun h => by cases h), ⟨0, rfl, hh11, Or.inr ⟨rfl, Cod.dif hx.2.2.2.2.1 hy.2.2.2.2.1 hcd⟩⟩, fun fs hl => c13.trans (X11.ireturnOut hexec hret rfl (Or.inr (Or.inl rfl)) (hb hbytes d55) hl)⟩
theorem pays {l : Launch} {R : Room} {p : Program} {e : Env} {below : List Frame} {s : State} {sargs : Array Value} {len W : Nat} (x t : Addr) (V : Cell) (cd : Int32) (n : Nat) (f : Nat → Int32) (y t' : Addr) (V' : Cell) (cd' : Int32) (k : Nat) (g : Nat → Int32) (z : Int32) (htab : tab.before sargs s = true) (hfr : 2 ≤ R.frames) (hlo : W + 28 ≤ R.locals) :
    Back l R p e below s sargs yN len W (fun A₁ a₁ => A₁.cells + 0 ≤ R.cells ∧ A₁.slots + 0 ≤ R.slots ∧ P x t V cd n f y t' V' cd' k g z a₁ A₁.U) (fun A₁ _ v₁ B₁ => Says01 (SameT n f k g) v₁ A₁.U B₁.U ∧ B₁.locs = A₁.locs ++ [] ∧ B₁.cells = A₁.cells + 0 ∧ B₁.slots = A₁.slots + 0) :=
  (law l x t V cd n f y t' V' cd' k g z).pays htab hfr (by omega)
end SEq
end StrChars
namespace StrChars.Road
open Jvm Sem ClassFile Op Lib Jvm.Stand Jvm.Free Jvm.Free.XT
open Jvm.Lib.Cold (StaticIs)
/-- the words of String.equals(Object) -/
abbrev wordsEq : List Jvm.Cond := [.code SEq.yN SEq.yB 3 (some .boolean), .initialized ST, .classLink ST 10 ST, .fieldLink ST 38 ST "COMPACT_STRINGS" "Z", .fieldLink ST 15 ST "coder" "B", .fieldLink ST 9 ST "value" "[B", .methodLink ST 541 LEq.yN, .static LEq.yN, .code LEq.yN LEq.yB 3 (some .boolean), .initialized "java/lang/StringLatin1"]
theorem tabEq_of {a : Array Value} {s : State} (h : ∀ w ∈ wordsEq, w.before a s = true) : SEq.tab.before a s = true := by
  have hl : LEq.tab.before a s = true := unparts (wk h (.code LEq.yN LEq.yB 3 (some .boolean))) (wks h (.initialized LEq.yN.cls :: LEq.site))
  have q := consq hl h
  exact unparts (wk q (.code SEq.yN SEq.yB 3 (some .boolean))) (wks q (.initialized SEq.yN.cls :: SEq.site))
theorem movedEq {Z s : State} {a0 args : Array Value} (hZ : Z.Warmed39 s.vm) (hw : ∀ d ∈ wordsEq, d.before a0 Z = true) : ∀ d ∈ wordsEq, d.before args s = true := fun d hd => by
  have t : ∀ d ∈ wordsEq, (d.onTables && d.keepsFace) = true := by decide +kernel
  exact RoadKit.mv hZ (hw d hd) (t d hd)
/-- the road's facts of a String, as the laws ask it -/
theorem txt_of {Z U : State} {a0 : Array Value} {kI : Nat} (wi : (Jvm.Cond.instantiable ST kI).before a0 Z = true) (al : Z.vm.Alike U.vm) {x t : Addr} {kb : ClassId} {cs : List Int32} {cd N2 : Int32} {vs : List Value} (E : RoadKit.Exa Z U.heap x ST) (V : RoadKit.Fld Z U.heap x ST "value" "[B" (.ref t)) (C : RoadKit.Fld Z U.heap x ST "coder" "B" (.int cd)) (K : RoadKit.Arv Z U.heap t kb .byte N2 vs (.int 0)) (hc : CodA cs cd N2 vs) (hb : ∀ c ∈ cs, ¬ c < 0 ∧ ¬ (65535 : Int32) < c) (l2 : cs.length ≤ 4000) :
    ∃ A, Txt x t A cd cs.length (fun j => cs.getD j 0) U := by
  obtain ⟨A, K1, K2, K3, K4, K5, K6⟩ := K
  have hcod := hc.cod (by omega) K3 K5
  obtain ⟨D, fV, fC, hB, F1, F2, g1, g2, -, -⟩ := strObj wi al E V C
  exact ⟨A, ⟨_, hB.2.2.1, D, hB.1, rfl, by cases q : D.vm <;> first | rfl | exact absurd q (hB.2.1.2 _)⟩, Has.of hB F1 g1, Has.of hB F2 g2, ⟨K1.1, State.isArrayOf_alike al K1.2.1, K1.2.2, by rcases hcod with ⟨-, q, -⟩ | ⟨-, q, -⟩ <;> omega⟩, hcod, fun j hj => by
    have e : cs.getD j 0 = cs[j] := by simp [List.getD_eq_getElem?_getD, hj]
    show ¬ cs.getD j 0 < 0 ∧ ¬ 65535 < cs.getD j 0
    rw [e]; exact hb _ (List.getElem_mem _)⟩
theorem same_list (cs ds : List Int32) : SameT cs.length (fun j => cs.getD j 0) ds.length (fun j => ds.getD j 0) ↔ cs = ds := by
  constructor
  · rintro ⟨e, q⟩
    refine List.ext_getElem e fun j h1 h2 => ?_
    have := q j h1
    simpa [List.getD_eq_getElem?_getD, h1, h2] using this
  · rintro rfl
    exact ⟨rfl, fun _ _ => rfl⟩
/-- **equals(Object) OF TWO SUCH STRINGS**: 1 just where the chars are the same -/
theorem eqW {p : Program} {l : Launch} {e : Env} {R : Room} {s : State} {args : Array Value} {below : List Frame} {len W : Nat} {Z : State} {a0 : Array Value} {h : Heap} (hZ : Z.Warmed39 s.vm) (hw : ∀ d ∈ wordsEq, d.before a0 Z = true) {kI : Nat} (wi : (Jvm.Cond.instantiable ST kI).before a0 Z = true)
    {x t : Addr} {kb : ClassId} {cs : List Int32} {cd N2 : Int32} {vs : List Value} (E : RoadKit.Exa Z h x ST) (V : RoadKit.Fld Z h x ST "value" "[B" (.ref t)) (C : RoadKit.Fld Z h x ST "coder" "B" (.int cd)) (K : RoadKit.Arv Z h t kb .byte N2 vs (.int 0)) (hc : CodA cs cd N2 vs) (hb : ∀ c ∈ cs, ¬ c < 0 ∧ ¬ (65535 : Int32) < c) (l2 : cs.length ≤ 4000)
    {y t' : Addr} {kb' : ClassId} {ds : List Int32} {cd' N2' : Int32} {vs' : List Value} (E' : RoadKit.Exa Z h y ST) (V' : RoadKit.Fld Z h y ST "value" "[B" (.ref t')) (C' : RoadKit.Fld Z h y ST "coder" "B" (.int cd')) (K' : RoadKit.Arv Z h t' kb' .byte N2' vs' (.int 0)) (hc' : CodA ds cd' N2' vs') (hb' : ∀ c ∈ ds, ¬ c < 0 ∧ ¬ (65535 : Int32) < c) (l2' : ds.length ≤ 4000)
    {z : Int32} (S : RoadKit.Sta Z h ST "COMPACT_STRINGS" "Z" (.int z)) (hz : ¬ z = 0) (hfr : 2 ≤ R.frames) (hlo : W + 28 ≤ R.locals) :
    Back l R p e below s args (⟨"java/lang/String", "equals", "(Ljava/lang/Object;)Z"⟩ : MethodName) len W (fun P a => a = #[.ref x, .ref y] ∧ P.U.heap = h ∧ P.cells + 0 ≤ R.cells ∧ P.slots + 0 ≤ R.slots)
      (fun P _ v B => ∃ L, (((v = some (.int 1) ∧ cs = ds) ∨ (v = some (.int 0) ∧ ¬ cs = ds)) ∧ L = [] ∧ B.U.heap = h) ∧ B.locs = P.locs ++ L ∧ B.cells = P.cells + 0 ∧ B.slots = P.slots + 0) := by
  intro m meth c P g ig mk a X hg hsize hdg hW hn hp'
  obtain ⟨rfl, rfl, r1, r2⟩ := hp'
  have al : Z.vm.Alike P.U.vm := hZ.alike.trans X.warmed.alike
  obtain ⟨A, hx⟩ := txt_of wi al E V C K hc hb l2
  obtain ⟨A', hy⟩ := txt_of wi al E' V' C' K' hc' hb' l2'
  obtain ⟨v, B, X', ⟨⟨w, hv, hh, hq⟩, hl, hk, hs⟩, st⟩ := SEq.pays x t A cd cs.length (fun j => cs.getD j 0) y t' A' cd' ds.length (fun j => ds.getD j 0) z (tabEq_of (movedEq hZ hw)) hfr hlo m meth c P g ig mk _ X hg hsize hdg hW hn ⟨r1, r2, rfl, hx, hy, sta_is al S, hz⟩
  refine ⟨v, B, X', ⟨[], ⟨?_, rfl, hh⟩, hl, hk, hs⟩, st⟩
  rcases hq with ⟨rfl, q⟩ | ⟨rfl, q⟩
  · exact Or.inl ⟨hv, (same_list cs ds).mp q⟩
  · exact Or.inr ⟨hv, fun e => q ((same_list cs ds).mpr e)⟩
end StrChars.Road
namespace StrChars.Road
open Jvm Sem ClassFile Op Lib Jvm.Stand Jvm.Free Jvm.Free.XT
open Jvm.Lib.Cold (StaticIs)
/-- what backV says of its String, as the contracts of this text ask it: cs's low bytes, coder 0 -/
theorem codOf {cs : List Int32} {n : Nat} (hn : cs.length = n) (hb : ∀ c ∈ cs, ¬ 255 < c) : CodA cs 0 (Int32.ofNat n) ((cs.map lo8).map Value.int) := Or.inl ⟨rfl, by rw [hn], by simp [List.map_map, Function.comp_def], hb⟩
end StrChars.Road
end Jvm.Pilot.@@N@@
namespace Jvm.Pilot.@@N@@
open Jvm Jvm.ClassFile Sem Op Lib Jvm.Free Jvm.Stand Jvm.LawKit Jvm.RoadKit Bundle Jvm.Pilot.@@N@@.Jvm.D
section Own
variable {p : Program} {l : Launch} {e : Env} {R : Room} {s : State} {m : MethodId} {args : Array Value} {below : List Frame} {meth : Method} {c : Code} {T T' : State} {locs : List Loc} {cells slots : Nat} {g g' : JFrame} {C S n0 : Nat} {F : Outcome → State → List Loc → Prop} {Q : Option Value → Heap → Prop} {Z : State} {a0 : Array Value} {h h' h0 : Heap} {rest argsL : List Value} {own : String} {index : Nat} {a b : Addr} {k : ClassId} {ty : FieldType} {n j : Int32} {vs : List Value} {dv v : Value}
/-- from here the run comes to its return, and what it leaves is Q -/
def OEnds (p : Program) (e : Env) (below : List Frame) (F : Outcome → State → List Loc → Prop) (n0 : Nat) (Q : Option Value → Heap → Prop) (T : State) (g : JFrame) : Prop :=
  ∃ t o, Steps p.tables e below (T.setTop g) t ∧ t.status = .running ∧ Ended t below o ∧ ∃ v L, o = .returned v ∧ (Fr n0 L ∧ Q v t.heap) ∧ F o t L
/-- a body's contract -/
def OCon (l : Launch) (y : MethodName) (bytes : ByteArray) (ml : Nat) (ret : Option FieldType) (rm : Room) (Z : State) (as : Array Value) (h0 : Heap) (n0 : Nat) (Q : Option Value → Heap → Prop) : Prop :=
  ∀ ws, MetFree l y (head1 (Jvm.Cond.code y bytes ml ret :: ws) rm) (fun a U => a = as ∧ Z.Warmed39 U.vm ∧ U.heap = h0) (fun _ _ _ _ _ => True) (fun _ U o U' => ∃ v L, o = .returned v ∧ (Fr n0 L ∧ Q v U'.heap) ∧ FrameEnd U o U' L rm.cells rm.slots)
theorem own_body {y : MethodName} {bytes : ByteArray} {ml : Nat} {ret : Option FieldType} {rm : Room} {as : Array Value} (hp : plainFor y = true)
    (kk : ∀ (p : Program) (e : Env) (s : State) (m : MethodId) (below : List Frame) (meth : Method) (c : Code) (T : State), p.tables.exec = Jvm.exec → Z.Warmed39 s.vm → c.code = bytes → c.maxLocals = ml → s.vm.findClass y.cls = some m.cls → meth.name = y.name → meth.sig.returnType = ret → meth.locks = false → T.heap = h0 →
      Stand p l e rm s m as below meth c T [] 0 0 → OEnds p e below (fun o t L => FrameEnd s o t L rm.cells rm.slots) n0 Q T (entryFrame m as ml)) : OCon l y bytes ml ret rm Z as h0 n0 Q := by
  intro ws
  refine MetFree.of_bodySF hp hisR ?_
  intro p e s m args below meth c s₁ Bd hml0 hP hK
  obtain ⟨rfl, hZ, hh⟩ := hP
  exact kk p e s m below meth c s₁ Bd.exec hZ Bd.bytes hml0 (findClass_of_methodNamed Bd.named) (name_of_methodNamed Bd.named Bd.method).1 Bd.returns Bd.notSynchronized (by rw [← hh, Bd.state]; rfl) (Stand.of_body Bd)
theorem own_go (kk : ∀ t, Steps p.tables e below (T'.setTop g') t → Steps p.tables e below (T.setTop g) t) (hE : OEnds p e below F n0 Q T' g') : OEnds p e below F n0 Q T g := by
  obtain ⟨t, o, h1, h2⟩ := hE
  exact ⟨t, o, kk t h1, h2⟩
theorem own_at (q : g = g') (hE : OEnds p e below F n0 Q T g') : OEnds p e below F n0 Q T g := q ▸ hE
theorem own_let {α : Sort _} {P : α → Prop} (a : α) (hh : ∀ x, x = a → P x) : P a := hh a rfl
theorem own_cast {α : Sort _} {P : α → Prop} {a b : α} (q : a = b) (hh : P b) : P a := q ▸ hh
theorem own_fin (X : Stand p l e R s m args below meth c T locs cells slots) (hlk : meth.locks = false) {v : Option Value} (hv : meth.sig.returnType = none → v = none)
    (st : ∀ fs, (∀ (f : JFrame) (acts : List Action), f.method = m → f.locked = none → f.entered = [] → (doReturn e (T.setTop f) acts v).1 = T.setFrames fs) → Steps p.tables e below (T.setTop g) (T.setFrames fs))
    (N : Fr n0 locs) (hc : cells ≤ C) (hs : slots ≤ S) (q : Q v T.heap) : OEnds p e below (fun o t L => FrameEnd s o t L C S) n0 Q T g := by
  obtain ⟨fs, hr, hrun, hended, hW, hsame⟩ := X.leave (v := v) hv hlk
  exact ⟨_, _, st fs hr, hrun, hended, _, _, rfl, ⟨N, q⟩, ⟨_, rfl⟩, hW, hsame.mono hc hs⟩
theorem own_retI0 (X : Stand p l e R s m args below meth c T locs cells slots) (hx : p.tables.exec = Jvm.exec) {pc : Nat} {Ls : Array Slot} {z : Int32} {rest : List Value} (hret : meth.sig.returnType = some .int) (hd : decode c.code pc = .ok (.ireturn, 1)) {fs : List Frame}
    (hl : ∀ (f : JFrame) (acts : List Action), f.method = m → f.locked = none → f.entered = [] → (doReturn e (T.setTop f) acts (some (.int z))).1 = T.setFrames fs) : Steps p.tables e below (T.setTop (mkF m pc Ls (.int z :: rest))) (T.setFrames fs) := by
  have hm' : T.vm.method? m = some meth := X.method'
  have hn : narrow .int (.int z) = .int z := rfl
  show Steps p.tables e below (T.setTop { method := m, pc := pc, locals := Ls, stack := _ :: rest, locked := none }) _
  jvm_step X.here [X.here.top, hx, hd, hm', hret, hn]
  first | (intro acts; rw [hl _ acts rfl rfl rfl]) | rw [hl _ _ rfl rfl rfl]
  exact Steps.refl _
theorem own_retI (X : Stand p l e R s m args below meth c T locs cells slots) (hx : p.tables.exec = Jvm.exec) (hlk : meth.locks = false) {pc : Nat} {Ls : Array Slot} {z : Int32} (hret : meth.sig.returnType = some .int) (hd : decode c.code pc = .ok (.ireturn, 1)) (eT : T.heap = h) (N : Fr n0 locs) (hc : cells ≤ C) (hs : slots ≤ S) (q : Q (some (.int z)) h) : OEnds p e below (fun o t L => FrameEnd s o t L C S) n0 Q T (mkF m pc Ls (.int z :: rest)) :=
  own_fin X hlk (fun hn => by rw [hret] at hn; cases hn) (fun fs hl => own_retI0 X hx hret hd hl) N hc hs (eT ▸ q)
theorem own_retN (X : Stand p l e R s m args below meth c T locs cells slots) (hx : p.tables.exec = Jvm.exec) (hlk : meth.locks = false) {t : FieldType} {pc : Nat} {Ls : Array Slot} {z z' : Int32} (hret : meth.sig.returnType = some t) (ht : t = .boolean ∨ t = .byte ∨ t = .char ∨ t = .short) (hd : decode c.code pc = .ok (.ireturn, 1)) (hz : nar t z = z') (eT : T.heap = h) (N : Fr n0 locs) (hc : cells ≤ C) (hs : slots ≤ S) (q : Q (some (.int z')) h) : OEnds p e below (fun o t L => FrameEnd s o t L C S) n0 Q T (mkF m pc Ls (.int z :: rest)) :=
  own_fin X hlk (v := some (.int (nar t z))) (fun hn => by rw [hret] at hn; cases hn) (fun fs hl => retN X hx hret ht hd hl) N hc hs (by rw [hz, eT]; exact q)
theorem own_retJ (X : Stand p l e R s m args below meth c T locs cells slots) (hx : p.tables.exec = Jvm.exec) (hlk : meth.locks = false) {pc : Nat} {Ls : Array Slot} {z : Int64} (hret : meth.sig.returnType = some .long) (hd : decode c.code pc = .ok (.lreturn, 1)) (eT : T.heap = h) (N : Fr n0 locs) (hc : cells ≤ C) (hs : slots ≤ S) (q : Q (some (.long z)) h) : OEnds p e below (fun o t L => FrameEnd s o t L C S) n0 Q T (mkF m pc Ls [.long z]) :=
  own_fin X hlk (fun hn => by rw [hret] at hn; cases hn) (fun fs hl => X.lreturnOut hx hret hd hl) N hc hs (eT ▸ q)
theorem own_retA (X : Stand p l e R s m args below meth c T locs cells slots) (hx : p.tables.exec = Jvm.exec) (hlk : meth.locks = false) {t : FieldType} {pc : Nat} {Ls : Array Slot} {w : Value} (hw : w.isRef = true) (hret : meth.sig.returnType = some t) (ht : t.isReference = true) (hd : decode c.code pc = .ok (.areturn, 1)) (eT : T.heap = h) (N : Fr n0 locs) (hc : cells ≤ C) (hs : slots ≤ S) (q : Q (some w) h) : OEnds p e below (fun o t L => FrameEnd s o t L C S) n0 Q T (mkF m pc Ls [w]) :=
  own_fin X hlk (fun hn => by rw [hret] at hn; cases hn) (fun fs hl => X.areturnOut hx hw hret ht hd hl) N hc hs (eT ▸ q)
theorem own_retV (X : Stand p l e R s m args below meth c T locs cells slots) (hx : p.tables.exec = Jvm.exec) (hlk : meth.locks = false) {pc : Nat} {Ls : Array Slot} (hret : meth.sig.returnType = none) (hd : decode c.code pc = .ok (.return_, 1)) (eT : T.heap = h) (N : Fr n0 locs) (hc : cells ≤ C) (hs : slots ≤ S) (q : Q none h) : OEnds p e below (fun o t L => FrameEnd s o t L C S) n0 Q T (mkF m pc Ls []) :=
  own_fin X hlk (fun _ => rfl) (fun fs hl => X.returnOut hx hret hd hl) N hc hs (eT ▸ q)
/-! calls -/
theorem own_callS (X : Stand p l e R s m args below meth c T locs cells slots) (hx : p.tables.exec = Jvm.exec) (hZ : Z.Warmed39 s.vm) {y : MethodName} {bytes : ByteArray} {maxL W : Nat} {ret : Option FieldType} {rm : Room} {Qc : Option Value → Heap → Prop} (hown : s.vm.findClass own = some m.cls)
    (w1 : (Cond.methodLink own index y).before a0 Z = true) (w2 : (Cond.static y).before a0 Z = true) (w3 : (Cond.initialized y.cls).before a0 Z = true) (w4 : (Cond.code y bytes maxL ret).before a0 Z = true) (hy : y.cls ≠ "java/lang/invoke/MethodHandle" ∧ y.cls ≠ "java/lang/invoke/VarHandle")
    (K : OCon l y bytes maxL ret rm Z argsL.toArray h n0 Qc) (hfr : rm.frames + 1 ≤ R.frames) (hlo : W + (maxL + 11) + rm.locals ≤ R.locals) (hg : g.method = m) (hsize : g.locals.size = c.maxLocals) (hlen : ∀ sig, parseMethodDescriptor y.desc = some sig → argsL.length = sig.parameters.length)
    (hstack : g.stack = argsL.reverse ++ rest) (hW : 2 * g.monitorRoom + (rest.map fun v => v.category).sum ≤ W) (hd : decode c.code g.pc = .ok (.invokestatic index, 3)) (eT : T.heap = h) (N : Fr n0 locs) (hc : cells + rm.cells ≤ R.cells) (hs : slots + rm.slots ≤ R.slots)
    (kk : ∀ (v : Option Value) (T' : State) (locs' : List Loc), Stand p l e R s m args below meth c T' locs' (cells + rm.cells) (slots + rm.slots) → Fr n0 locs' → Qc v T'.heap → OEnds p e below F n0 Q T' { g with pc := g.pc + 3, stack := v.toList ++ rest }) : OEnds p e below F n0 Q T g := by
  obtain ⟨v, vm₁, ⟨T', L', k', n'⟩, -, X', ⟨Lc, ⟨N', hQ⟩, l', y', z'⟩, st⟩ := Jvm.LawKit.callS X hx hown (mvT hZ w1) (mvT hZ w2) (mvT hZ w3) (mvT hZ w4) hy (backOf (W := W) (Q := fun v h L => Fr n0 L ∧ Qc v h) (K []) hZ w4 w3 hfr hlo) hg hsize hlen hstack hW hd (fun _ _ => ⟨rfl, eT, hc, hs⟩)
  dsimp only [Pt.U, Pt.locs, Pt.cells, Pt.slots] at X' l' y' z' st hQ
  subst l' y' z'
  exact own_go st (kk v T' _ X' (Fr.app N N') hQ)
theorem own_callC (X : Stand p l e R s m args below meth c T locs cells slots) (hx : p.tables.exec = Jvm.exec) (hZ : Z.Warmed39 s.vm) {y : MethodName} {bytes : ByteArray} {maxL W : Nat} {rm : Room} {Qc : Option Value → Heap → Prop} (hy1 : y.name = "<init>") (hown : s.vm.findClass own = some m.cls)
    (w1 : (Cond.methodLink own index y).before a0 Z = true) (w2 : (Cond.instanceMethod y).before a0 Z = true) (w3 : (Cond.initialized y.cls).before a0 Z = true) (w4 : (Cond.code y bytes maxL none).before a0 Z = true) (hy : y.cls ≠ "java/lang/invoke/MethodHandle" ∧ y.cls ≠ "java/lang/invoke/VarHandle")
    (K : OCon l y bytes maxL none rm Z (.ref a :: argsL).toArray h n0 Qc) (hfr : rm.frames + 1 ≤ R.frames) (hlo : W + (maxL + 11) + rm.locals ≤ R.locals) (hg : g.method = m) (hsize : g.locals.size = c.maxLocals) (hlen : ∀ sig, parseMethodDescriptor y.desc = some sig → argsL.length = sig.parameters.length)
    (hstack : g.stack = argsL.reverse ++ .ref a :: rest) (hW : 2 * g.monitorRoom + (rest.map fun v => v.category).sum ≤ W) (hd : decode c.code g.pc = .ok (.invokespecial index, 3)) (eT : T.heap = h) (N : Fr n0 locs) (hc : cells + rm.cells ≤ R.cells) (hs : slots + rm.slots ≤ R.slots)
    (kk : ∀ (v : Option Value) (T' : State) (locs' : List Loc), Stand p l e R s m args below meth c T' locs' (cells + rm.cells) (slots + rm.slots) → Fr n0 locs' → Qc v T'.heap → OEnds p e below F n0 Q T' { g with pc := g.pc + 3, stack := v.toList ++ rest }) : OEnds p e below F n0 Q T g := by
  obtain ⟨v, vm₁, ⟨T', L', k', n'⟩, -, X', ⟨Lc, ⟨N', hQ⟩, l', y', z'⟩, st⟩ := X.specialBack hx hy1 hown (mvT hZ w1) (mvT hZ w2) (mvT hZ w4) hy (backOf (W := W) (Q := fun v h L => Fr n0 L ∧ Qc v h) (K []) hZ w4 w3 hfr hlo) hg hsize (Steps.refl _) hlen hstack hW hd (fun _ _ => ⟨rfl, eT, hc, hs⟩)
  dsimp only [Pt.U, Pt.locs, Pt.cells, Pt.slots] at X' l' y' z' st hQ
  subst l' y' z'
  exact own_go (fun t kt => st.trans kt) (kk v T' _ X' (Fr.app N N') hQ)
theorem own_callV (X : Stand p l e R s m args below meth c T locs cells slots) (hx : p.tables.exec = Jvm.exec) (hZ : Z.Warmed39 s.vm) {y : MethodName} {bytes : ByteArray} {maxL W : Nat} {ret : Option FieldType} {rm : Room} {Qc : Option Value → Heap → Prop} {C0 : String} (hown : s.vm.findClass own = some m.cls)
    (w1 : (Cond.methodLink own index y).before a0 Z = true) (wd : (Cond.declares y).before a0 Z = true) (ws : (Cond.selects C0 y y).before a0 Z = true) (w2 : (Cond.instanceMethod y).before a0 Z = true) (w3 : (Cond.initialized y.cls).before a0 Z = true) (w4 : (Cond.code y bytes maxL ret).before a0 Z = true) (hy : y.cls ≠ "java/lang/invoke/MethodHandle" ∧ y.cls ≠ "java/lang/invoke/VarHandle")
    (K : OCon l y bytes maxL ret rm Z (.ref a :: argsL).toArray h n0 Qc) (E : Exa Z h a C0) (hfr : rm.frames + 1 ≤ R.frames) (hlo : W + (maxL + 11) + rm.locals ≤ R.locals) (hg : g.method = m) (hsize : g.locals.size = c.maxLocals) (hlen : ∀ sig, parseMethodDescriptor y.desc = some sig → argsL.length = sig.parameters.length)
    (hstack : g.stack = argsL.reverse ++ .ref a :: rest) (hW : 2 * g.monitorRoom + (rest.map fun v => v.category).sum ≤ W) (hd : decode c.code g.pc = .ok (.invokevirtual index, 3)) (eT : T.heap = h) (N : Fr n0 locs) (hc : cells + rm.cells ≤ R.cells) (hs : slots + rm.slots ≤ R.slots)
    (kk : ∀ (v : Option Value) (T' : State) (locs' : List Loc), Stand p l e R s m args below meth c T' locs' (cells + rm.cells) (slots + rm.slots) → Fr n0 locs' → Qc v T'.heap → OEnds p e below F n0 Q T' { g with pc := g.pc + 3, stack := v.toList ++ rest }) : OEnds p e below F n0 Q T g := by
  obtain ⟨cq, kq, qa, qb, qc⟩ := isOf hZ eT E
  obtain ⟨v, vm₁, ⟨T', L', k', n'⟩, -, X', ⟨Lc, ⟨N', hQ⟩, l', y', z'⟩, st⟩ := X.virtualBack hx hown (mvT hZ w1) (mvT hZ wd) (notFace_of_selects (args := #[]) (mvT hZ ws)) (mvT hZ ws) (mvT hZ w2) hy (backOf (W := W) (Q := fun v h L => Fr n0 L ∧ Qc v h) (K []) hZ w4 w3 hfr hlo) qa qc hg hsize (Steps.refl _) hlen hstack hW hd (fun _ _ => ⟨rfl, eT, hc, hs⟩)
  dsimp only [Pt.U, Pt.locs, Pt.cells, Pt.slots] at X' l' y' z' st hQ
  subst l' y' z'
  exact own_go (fun t kt => st.trans kt) (kk v T' _ X' (Fr.app N N') hQ)
/-! fields -/
theorem own_getF (X : Stand p l e R s m args below meth c T locs cells slots) (hx : p.tables.exec = Jvm.exec) (hZ : Z.Warmed39 s.vm) {O nm d : String} (hown : s.vm.findClass own = some m.cls) (w : (Cond.fieldLink own index O nm d).before a0 Z = true) (eT : T.heap = h) (Fv : Fld Z h a O nm d v) (hg : g.method = m) (hs : g.stack = .ref a :: rest) (hd : decode c.code g.pc = .ok (.getfield index, 3))
    (kk : ∀ T', Stand p l e R s m args below meth c T' locs cells slots → T'.heap = h → OEnds p e below F n0 Q T' { g with pc := g.pc + 3, stack := v :: rest }) : OEnds p e below F n0 Q T g := by
  obtain ⟨T', X', e', st⟩ := getF X hx hZ hown (host := "") (Or.inl w) Via.refl eT Fv hg hs hd
  exact own_go st (kk T' X' e')
theorem own_putF (X : Stand p l e R s m args below meth c T locs cells slots) (hx : p.tables.exec = Jvm.exec) (hZ : Z.Warmed39 s.vm) {O nm d C0 : String} {kk0 : Nat} {v' old : Value} (hown : s.vm.findClass own = some m.cls) (w : (Cond.fieldLink own index O nm d).before a0 Z = true) (eT : T.heap = h) (Fv : Fld Z h a O nm d old) (E : Exa Z h a C0)
    (L : (Cond.lays C0 O nm d).before a0 Z = true ∨ ((Cond.laysFinal C0 O nm d).before a0 Z = true ∧ own = O ∧ meth.name = "<init>")) (wi : (Cond.instantiable C0 kk0).before a0 Z = true) (hty : parseFieldDescriptor d = some ty) (hn : narrow ty v = v') (hf : fits ty v' = true) (N : Fr n0 locs) (ga : n0 ≤ a) (hg : g.method = m) (hs : g.stack = v :: .ref a :: rest) (hd : decode c.code g.pc = .ok (.putfield index, 3))
    (kk : ∀ T' h' locs', Stand p l e R s m args below meth c T' locs' cells slots → T'.heap = h' → Fr n0 locs' → Wr h h' a (RoadKit.slotOf Z O nm d) v' → Fld Z h' a O nm d v' → OEnds p e below F n0 Q T' { g with pc := g.pc + 3, stack := rest }) : OEnds p e below F n0 Q T g := by
  obtain ⟨T', h', X', e', W', st⟩ := putFN X hx hZ hown w Via.refl eT Fv E L wi hty hn hf hg hs hd
  exact own_go st (kk T' h' _ X' e' (Fr.snoc X' N ga) W' (Fv.same W'))
theorem own_initO (X : Stand p l e R s m args below meth c T locs cells slots) (hx : p.tables.exec = Jvm.exec) (hZ : Z.Warmed39 s.vm) {W : Nat} (hown : s.vm.findClass own = some m.cls) (w1 : (Cond.methodLink own index Lib.objectInit).before a0 Z = true) (w2 : (Cond.instanceMethod Lib.objectInit).before a0 Z = true)
    (w3 : (Cond.code Lib.objectInit ⟨#[0xb1]⟩ 1 none).before a0 Z = true) (eT : T.heap = h) (hg : g.method = m) (hsize : g.locals.size = c.maxLocals) (hs : g.stack = .ref a :: rest) (hd : decode c.code g.pc = .ok (.invokespecial index, 3)) (hf : 1 ≤ R.frames) (hW : 2 * g.monitorRoom + (rest.map fun v => v.category).sum ≤ W) (hl : W + 12 ≤ R.locals)
    (kk : ∀ T', Stand p l e R s m args below meth c T' locs cells slots → T'.heap = h → OEnds p e below F n0 Q T' { g with pc := g.pc + 3, stack := rest }) : OEnds p e below F n0 Q T g := by
  obtain ⟨T', X', e', st⟩ := initO X hx hZ hown w1 w2 w3 eT hg hsize hs hd hf hW hl
  exact own_go st (kk T' X' e')
theorem own_new (X : Stand p l e R s m args below meth c T locs cells slots) (hx : p.tables.exec = Jvm.exec) (hZ : Z.Warmed39 s.vm) {C0 : String} {sl : Nat} (hown : s.vm.findClass own = some m.cls) (w : (Cond.classLink own index C0).before a0 Z = true) (wi : (Cond.instantiable C0 sl).before a0 Z = true) (wz : (Cond.initialized C0).before a0 Z = true) (eT : T.heap = h) (hg : g.method = m) (hd : decode c.code g.pc = .ok (.new index, 3)) (hc : cells + 1 ≤ R.cells) (hl : slots + sl ≤ R.slots)
    (kk : ∀ T' h' b, b = h.size → Stand p l e R s m args below meth c T' locs (cells + 1) (slots + sl) → T'.heap = h' → Ext h h' → Exa Z h' b C0 → (∀ {O nm d : String} {ty : FieldType}, Laid Z a0 C0 O nm d → parseFieldDescriptor d = some ty → Fld Z h' b O nm d (defaultValue ty)) → OEnds p e below F n0 Q T' { g with pc := g.pc + 3, stack := .ref b :: g.stack }) : OEnds p e below F n0 Q T g := by
  obtain ⟨T', h', X', e', E', A', D', -, st⟩ := newO X hx hZ hown w wi wz eT hg hd hc hl
  exact own_go st (kk T' h' _ rfl X' e' E' A' D')
/-! arrays -/
theorem own_newarr (X : Stand p l e R s m args below meth c T locs cells slots) (hx : p.tables.exec = Jvm.exec) (hZ : Z.Warmed39 s.vm) {aty : ArrayType} (w : (Cond.arrayClass (newarray.typeOf aty)).before a0 Z = true) (eT : T.heap = h) (hg : g.method = m) (hd : decode c.code g.pc = .ok (.newarray aty, 2)) (hs : g.stack = .int n :: rest) (hn : ¬ n < 0) {cap : Nat} (hcap : n.toNatClampNeg ≤ cap) (hb : cap * 8 ≤ 536870912) (hc : cells + 1 ≤ R.cells) (hl : slots + cap ≤ R.slots)
    (kk : ∀ T' h' b k, b = h.size → Stand p l e R s m args below meth c T' locs (cells + 1) (slots + cap) → T'.heap = h' → Ext h h' → Arv Z h' b k (newarray.typeOf aty) n (List.replicate cap (defaultValue (newarray.typeOf aty))) (defaultValue (newarray.typeOf aty)) → OEnds p e below F n0 Q T' { g with pc := g.pc + 2, stack := .ref b :: rest }) : OEnds p e below F n0 Q T g := by
  obtain ⟨T', h', kA, X', e', E', A', st⟩ := newP X hx hZ w eT hg hd hs hn hcap hb hc hl
  exact own_go st (kk T' h' _ kA rfl X' e' E' ((Arv.new A' hn).pad (pad_rep [] _ cap)))
theorem own_alen (X : Stand p l e R s m args below meth c T locs cells slots) (hx : p.tables.exec = Jvm.exec) (hZ : Z.Warmed39 s.vm) (eT : T.heap = h) (V : Arv Z h a k ty n vs dv) (hg : g.method = m) (hs : g.stack = .ref a :: rest) (hd : decode c.code g.pc = .ok (.arraylength, 1))
    (kk : OEnds p e below F n0 Q T { g with pc := g.pc + 1, stack := .int n :: rest }) : OEnds p e below F n0 Q T g := by
  obtain ⟨cl, Ar, -, Sz, M, H, -⟩ := V
  refine own_go (fun t kt => X.arraylength hx (by rw [eT]; exact Ar.1) (State.isArrayOf_alike hZ.alike Ar.2.1) hg hs hd t kt) ?_
  rw [len_of Sz M]; exact kk
theorem own_iaload (X : Stand p l e R s m args below meth c T locs cells slots) (hx : p.tables.exec = Jvm.exec) (hZ : Z.Warmed39 s.vm) (eT : T.heap = h) (V : Arv Z h a k .int n vs dv) (hj : ¬ j < 0 ∧ j < n) (hv : vs.getD j.toNatClampNeg dv = v) (hg : g.method = m) (hs : g.stack = .int j :: .ref a :: rest) (hd : decode c.code g.pc = .ok (.iaload, 1))
    (kk : OEnds p e below F n0 Q T { g with pc := g.pc + 1, stack := v :: rest }) : OEnds p e below F n0 Q T g := by
  obtain ⟨cl, Ar, -, Sz, M, H, -⟩ := V
  exact own_go (fun t kt => X.iaload hx (by rw [eT]; exact Ar.1) (State.isArrayOf_alike hZ.alike Ar.2.1) Ar.2.2 (inb_of Sz hj) (H.at (inb_of Sz hj) hv) hg hs hd t kt) kk
theorem own_laload (X : Stand p l e R s m args below meth c T locs cells slots) (hx : p.tables.exec = Jvm.exec) (hZ : Z.Warmed39 s.vm) (eT : T.heap = h) (V : Arv Z h a k .long n vs dv) (hj : ¬ j < 0 ∧ j < n) (hv : vs.getD j.toNatClampNeg dv = v) (hg : g.method = m) (hs : g.stack = .int j :: .ref a :: rest) (hd : decode c.code g.pc = .ok (.laload, 1))
    (kk : OEnds p e below F n0 Q T { g with pc := g.pc + 1, stack := v :: rest }) : OEnds p e below F n0 Q T g := by
  obtain ⟨cl, Ar, -, Sz, M, H, -⟩ := V
  exact own_go (fun t kt => X.laload hx (by rw [eT]; exact Ar.1) (State.isArrayOf_alike hZ.alike Ar.2.1) Ar.2.2 (inb_of Sz hj) (H.at (inb_of Sz hj) hv) hg hs hd t kt) kk
theorem own_caload (X : Stand p l e R s m args below meth c T locs cells slots) (hx : p.tables.exec = Jvm.exec) (hZ : Z.Warmed39 s.vm) (eT : T.heap = h) (V : Arv Z h a k .char n vs dv) (hj : ¬ j < 0 ∧ j < n) (hv : vs.getD j.toNatClampNeg dv = v) (hg : g.method = m) (hs : g.stack = .int j :: .ref a :: rest) (hd : decode c.code g.pc = .ok (.caload, 1))
    (kk : OEnds p e below F n0 Q T { g with pc := g.pc + 1, stack := v :: rest }) : OEnds p e below F n0 Q T g := by
  obtain ⟨cl, Ar, -, Sz, M, H, -⟩ := V
  exact own_go (fun t kt => X.caload hx (by rw [eT]; exact Ar.1) (State.isArrayOf_alike hZ.alike Ar.2.1) Ar.2.2 (inb_of Sz hj) (H.at (inb_of Sz hj) hv) hg hs hd t kt) kk
theorem own_baload (X : Stand p l e R s m args below meth c T locs cells slots) (hx : p.tables.exec = Jvm.exec) (hZ : Z.Warmed39 s.vm) (eT : T.heap = h) (V : Arv Z h a k .byte n vs dv) (hj : ¬ j < 0 ∧ j < n) (hv : vs.getD j.toNatClampNeg dv = v) (hg : g.method = m) (hs : g.stack = .int j :: .ref a :: rest) (hd : decode c.code g.pc = .ok (.baload, 1))
    (kk : OEnds p e below F n0 Q T { g with pc := g.pc + 1, stack := v :: rest }) : OEnds p e below F n0 Q T g := by
  obtain ⟨cl, Ar, -, Sz, M, H, -⟩ := V
  exact own_go (fun t kt => X.baloadBytes hx (by rw [eT]; exact Ar.1) (State.isArrayOf_alike hZ.alike Ar.2.1) Ar.2.2 (inb_of Sz hj) (H.at (inb_of Sz hj) hv) hg hs hd t kt) kk
theorem own_iastore (X : Stand p l e R s m args below meth c T locs cells slots) (hx : p.tables.exec = Jvm.exec) (hZ : Z.Warmed39 s.vm) {x : Int32} (eT : T.heap = h) (V : Arv Z h a k .int n vs dv) (hj : ¬ j < 0 ∧ j < n) (i : Nat) (hi : j.toNatClampNeg = i) (hl : i < vs.length) (N : Fr n0 locs) (ga : n0 ≤ a) (hg : g.method = m) (hs : g.stack = .int x :: .int j :: .ref a :: rest) (hd : decode c.code g.pc = .ok (.iastore, 1))
    (kk : ∀ T' h' locs', Stand p l e R s m args below meth c T' locs' cells slots → T'.heap = h' → Fr n0 locs' → Wr h h' a j.toNatClampNeg (.int x) → Arv Z h' a k .int n (vs.set i (.int x)) dv → OEnds p e below F n0 Q T' { g with pc := g.pc + 1, stack := rest }) : OEnds p e below F n0 Q T g := by
  obtain ⟨cl, Ar, q, Sz, M, H, G⟩ := V
  obtain ⟨T', h', X', e', W', st⟩ := stI X hx hZ eT Ar (j := j) (inb_of Sz hj) hg hs hd
  exact own_go st (kk T' h' _ X' e' (Fr.snoc X' N ga) W' (Arv.set Ar q Sz M H G rfl W' i hi hl))
theorem own_lastore (X : Stand p l e R s m args below meth c T locs cells slots) (hx : p.tables.exec = Jvm.exec) (hZ : Z.Warmed39 s.vm) {x : Int64} (eT : T.heap = h) (V : Arv Z h a k .long n vs dv) (hj : ¬ j < 0 ∧ j < n) (i : Nat) (hi : j.toNatClampNeg = i) (hl : i < vs.length) (N : Fr n0 locs) (ga : n0 ≤ a) (hg : g.method = m) (hs : g.stack = .long x :: .int j :: .ref a :: rest) (hd : decode c.code g.pc = .ok (.lastore, 1))
    (kk : ∀ T' h' locs', Stand p l e R s m args below meth c T' locs' cells slots → T'.heap = h' → Fr n0 locs' → Wr h h' a j.toNatClampNeg (.long x) → Arv Z h' a k .long n (vs.set i (.long x)) dv → OEnds p e below F n0 Q T' { g with pc := g.pc + 1, stack := rest }) : OEnds p e below F n0 Q T g := by
  obtain ⟨cl, Ar, q, Sz, M, H, G⟩ := V
  obtain ⟨T', h', X', e', W', st⟩ := stJ X hx hZ eT Ar (j := j) (inb_of Sz hj) hg hs hd
  exact own_go st (kk T' h' _ X' e' (Fr.snoc X' N ga) W' (Arv.set Ar q Sz M H G rfl W' i hi hl))
theorem own_bastore (X : Stand p l e R s m args below meth c T locs cells slots) (hx : p.tables.exec = Jvm.exec) (hZ : Z.Warmed39 s.vm) {x : Int32} (eT : T.heap = h) (V : Arv Z h a k .byte n vs dv) (hj : ¬ j < 0 ∧ j < n) (i : Nat) (hi : j.toNatClampNeg = i) (hl : i < vs.length) (N : Fr n0 locs) (ga : n0 ≤ a) (hg : g.method = m) (hs : g.stack = .int x :: .int j :: .ref a :: rest) (hd : decode c.code g.pc = .ok (.bastore, 1))
    (kk : ∀ T' h' locs', Stand p l e R s m args below meth c T' locs' cells slots → T'.heap = h' → Fr n0 locs' → Wr h h' a j.toNatClampNeg (.int (nar .byte x)) → Arv Z h' a k .byte n (vs.set i (.int (nar .byte x))) dv → OEnds p e below F n0 Q T' { g with pc := g.pc + 1, stack := rest }) : OEnds p e below F n0 Q T g := by
  obtain ⟨cl, Ar, q, Sz, M, H, G⟩ := V
  obtain ⟨T', h', X', e', W', st⟩ := stB X hx hZ eT Ar (j := j) (inb_of Sz hj) hg hs hd
  exact own_go st (kk T' h' _ X' e' (Fr.snoc X' N ga) W' (Arv.set Ar q Sz M H G (fits_nar_byte _) W' i hi hl))
theorem own_castore (X : Stand p l e R s m args below meth c T locs cells slots) (hx : p.tables.exec = Jvm.exec) (hZ : Z.Warmed39 s.vm) {x : Int32} (eT : T.heap = h) (V : Arv Z h a k .char n vs dv) (hj : ¬ j < 0 ∧ j < n) (i : Nat) (hi : j.toNatClampNeg = i) (hl : i < vs.length) (N : Fr n0 locs) (ga : n0 ≤ a) (hg : g.method = m) (hs : g.stack = .int x :: .int j :: .ref a :: rest) (hd : decode c.code g.pc = .ok (.castore, 1))
    (kk : ∀ T' h' locs', Stand p l e R s m args below meth c T' locs' cells slots → T'.heap = h' → Fr n0 locs' → Wr h h' a j.toNatClampNeg (.int (nar .char x)) → Arv Z h' a k .char n (vs.set i (.int (nar .char x))) dv → OEnds p e below F n0 Q T' { g with pc := g.pc + 1, stack := rest }) : OEnds p e below F n0 Q T g := by
  obtain ⟨cl, Ar, q, Sz, M, H, G⟩ := V
  obtain ⟨T', h', X', e', W', st⟩ := stC X hx hZ eT Ar (j := j) (inb_of Sz hj) hg hs hd
  exact own_go st (kk T' h' _ X' e' (Fr.snoc X' N ga) W' (Arv.set Ar q Sz M H G (fits_nar_char _) W' i hi hl))
/-! numbers -/
theorem own_lT {x y : Int64} (hh : x < y) : ifCond.holds .lt (lcmpW x y) = true ∧ ifCond.holds .ge (lcmpW x y) = false ∧ ifCond.holds .gt (lcmpW y x) = true ∧ ifCond.holds .le (lcmpW y x) = false := by
  simp only [if0]
  exact ⟨(tlt ((lw_lt x y).mpr hh)).1, (tlt ((lw_lt x y).mpr hh)).2.1, (tlt ((lw_gt y x).mpr hh)).2.2.1, (tlt ((lw_gt y x).mpr hh)).2.2.2⟩
theorem own_lF {x y : Int64} (hh : ¬ x < y) : ifCond.holds .lt (lcmpW x y) = false ∧ ifCond.holds .ge (lcmpW x y) = true ∧ ifCond.holds .gt (lcmpW y x) = false ∧ ifCond.holds .le (lcmpW y x) = true := by
  simp only [if0]
  have h1 : ¬ lcmpW x y < 0 := fun q => hh ((lw_lt x y).mp q)
  have h2 : ¬ 0 < lcmpW y x := fun q => hh ((lw_gt y x).mp q)
  exact ⟨(flt h1).1, (flt h1).2.1, (flt h2).2.2.1, (flt h2).2.2.2⟩
theorem own_eT {x y : Int64} (hh : x = y) : ifCond.holds .eq (lcmpW x y) = true ∧ ifCond.holds .ne (lcmpW x y) = false := by
  simp only [if0]
  exact teq ((lw_eq x y).mpr hh)
theorem own_eF {x y : Int64} (hh : ¬ x = y) : ifCond.holds .eq (lcmpW x y) = false ∧ ifCond.holds .ne (lcmpW x y) = true := by
  simp only [if0]
  exact feq (fun q => hh ((lw_eq x y).mp q))
end Own
section OwnW
variable {p : Program} {l : Launch} {e : Env} {R : Room} {s : State} {m : MethodId} {args : Array Value} {below : List Frame} {meth : Method} {c : Code} {T T' : State} {locs : List Loc} {cells slots : Nat} {g g' : JFrame} {C S n0 : Nat} {F : Outcome → State → List Loc → Prop} {Q : Option Value → Heap → Prop} {Z : State} {a0 : Array Value} {h h' h0 : Heap} {rest argsL : List Value} {own text : String} {index : Nat} {Ts : List String} {vm0 vm1 : Vm}
/-- a body's contract at the case's start itself; it may intern -/
def OConW (l : Launch) (y : MethodName) (bytes : ByteArray) (ml : Nat) (ret : Option FieldType) (rm : Room) (Z : State) (as : Array Value) (n0 : Nat) (Q : Option Value → Heap → Prop) : Prop :=
  ∀ ws, MetFree l y (head1 (Jvm.Cond.code y bytes ml ret :: ws) rm) (fun a U => a = as ∧ U = Z) (fun _ _ _ _ _ => True) (fun _ U o U' => ∃ v L, o = .returned v ∧ (Fr n0 L ∧ Q v U'.heap) ∧ ReturnedEndW Z o U' L rm.cells rm.slots)
theorem own_bodyW {y : MethodName} {bytes : ByteArray} {ml : Nat} {ret : Option FieldType} {rm : Room} {as : Array Value} (hp : plainFor y = true) (eh : h0 = Z.heap)
    (kk : ∀ (p : Program) (e : Env) (m : MethodId) (below : List Frame) (meth : Method) (c : Code) (T : State), p.tables.exec = Jvm.exec → c.code = bytes → c.maxLocals = ml → (Z.setVm Z.vm).vm.findClass y.cls = some m.cls → meth.name = y.name → meth.sig.returnType = ret → meth.locks = false → T.heap = h0 →
      Stand p l e rm (Z.setVm Z.vm) m as below meth c T [] 0 0 → OEnds p e below (fun o t L => ReturnedEndW Z o t L rm.cells rm.slots) n0 Q T (entryFrame m as ml)) : OConW l y bytes ml ret rm Z as n0 Q := by
  intro ws
  refine MetFree.of_bodySF hp hisR ?_
  intro p e s m args below meth c s₁ Bd hml0 hP hK
  obtain ⟨rfl, rfl⟩ := hP
  exact kk p e m below meth c s₁ Bd.exec Bd.bytes hml0 (findClass_of_methodNamed Bd.named) (name_of_methodNamed Bd.named Bd.method).1 Bd.returns Bd.notSynchronized (by rw [eh, Bd.state]; rfl) (Stand.of_body Bd)
theorem own_retNW (X : Stand p l e R (Z.setVm vm1) m args below meth c T locs cells slots) (hx : p.tables.exec = Jvm.exec) (hlk : meth.locks = false) {k1 : Nat} (hS : Z.Since vm1 k1) (hk : k1 ≤ h.size) {t : FieldType} {pc : Nat} {Ls : Array Slot} {z z' : Int32} (hret : meth.sig.returnType = some t) (ht : t = .boolean ∨ t = .byte ∨ t = .char ∨ t = .short) (hd : decode c.code pc = .ok (.ireturn, 1)) (hz : nar t z = z') (eT : T.heap = h) (N : Fr n0 locs) (hc : cells ≤ C) (hs : slots ≤ S) (q : Q (some (.int z')) h) : OEnds p e below (fun o t L => ReturnedEndW Z o t L C S) n0 Q T (mkF m pc Ls (.int z :: rest)) := by
  obtain ⟨fs, hr, hrun, hended, hE⟩ := X.leaveW hS (by rw [eT]; exact hk) (v := some (.int (nar t z))) (fun hn => by rw [hret] at hn; cases hn) hlk
  exact ⟨_, _, retN X hx hret ht hd hr, hrun, hended, _, _, rfl, ⟨N, by show Q (some (.int (nar t z))) T.heap; rw [hz, eT]; exact q⟩, hE.1, hE.2.1, hE.2.2.1, hE.2.2.2.mono hc hs⟩
theorem own_ldcS (X : Stand p l e R (Z.setVm vm0) m args below meth c T locs cells slots) (hx : p.tables.exec = Jvm.exec) (hZ : Z.Warmed39 (Z.setVm vm0).vm) (hown : (Z.setVm vm0).vm.findClass own = some m.cls) (w : (Cond.stringLink own index text).before a0 Z = true) (wS : ∀ a ∈ Bundle.stringAtoms, a.before a0 Z = true)
    (eT : T.heap = h) {k0 : Nat} (hS : Z.Since vm0 k0) (hk : k0 ≤ h.size) (N : Fr n0 locs) (hn0 : n0 = Z.heap.size) (I : IB Z vm0 Ts) (hnot : text ∉ Ts) (hh : Jvm.Lit.constHeld Z own index) (hcw : Jvm.Lit.compactW.before a0 Z = true)
    {vs : List Value} {z : Int32} (ht : (∀ c ∈ text.toList, c.toNat < 256) ∧ text.toList.map (fun c => Value.int (Jvm.Lit.byteI c.toNat.toUInt16)) = vs) (hz : ¬ z < 0) (hl : z.toNatClampNeg = vs.length)
    (hg : g.method = m) (hd : decode c.code g.pc = .ok (.ldc index, 2)) {n : Nat} (hn : 4 * text.toList.length ≤ n) (hbig : n ≤ 536870912) (hc : cells + 2 ≤ R.cells) (hl' : slots + (n + 4) ≤ R.slots)
    (kk : ∀ (a : Addr) (T' : State) (h' : Heap) (k1 : Nat) (b : Addr) (k : ClassId), Stand p l e R (Z.setVm T'.vm) m args below meth c T' locs (cells + 2) (slots + (n + 4)) → T'.heap = h' → Ext h h' → Z.Since T'.vm k1 → k1 ≤ h'.size → Z.Warmed39 (Z.setVm T'.vm).vm → (Z.setVm T'.vm).vm.findClass own = some m.cls →
      Exa Z h' a "java/lang/String" → Fld Z h' a "java/lang/String" "coder" "B" (.int 0) → Fld Z h' a "java/lang/String" "value" "[B" (.ref b) → Arv Z h' b k .byte z vs (.int 0) → IB Z T'.vm (text :: Ts) → OEnds p e below F n0 Q T' { g with pc := g.pc + 2, stack := .ref a :: g.stack }) : OEnds p e below F n0 Q T g := by
  subst hn0
  obtain ⟨a, T', h', k1, b, k, X', e', E', hS', hk', hZ', hown', f1, f2, f3, f4, -, -, I', st⟩ := ldcSV X hx hZ hown w wS eT hS hk N (fun _ _ q => q) I hnot hh hcw ht hz hl hg hd hn hbig hc hl'
  exact own_go st (kk a T' h' k1 b k X' e' E' hS' hk' hZ' hown' f1 f2 f3 f4 I')
end OwnW
section OwnS
variable {p : Program} {l : Launch} {e : Env} {R : Room} {s : State} {m : MethodId} {args : Array Value} {below : List Frame} {meth : Method} {c : Code} {T T' : State} {locs : List Loc} {cells slots : Nat} {g g' : JFrame} {C S n0 : Nat} {F : Outcome → State → List Loc → Prop} {Q : Option Value → Heap → Prop} {Z : State} {a0 : Array Value} {h h' h0 : Heap} {rest argsL : List Value} {own text : String} {index : Nat} {a : Addr}
theorem own_callVB (X : Stand p l e R s m args below meth c T locs cells slots) (hx : p.tables.exec = Jvm.exec) (hZ : Z.Warmed39 s.vm) {y : MethodName} {W c1 s1 : Nat} {Qc : Option Value → Heap → List Loc → Prop} {C0 : String} (hown : s.vm.findClass own = some m.cls)
    (w1 : (Cond.methodLink own index y).before a0 Z = true) (wd : (Cond.declares y).before a0 Z = true) (ws : (Cond.selects C0 y y).before a0 Z = true) (w2 : (Cond.instanceMethod y).before a0 Z = true) (hy : y.cls ≠ "java/lang/invoke/MethodHandle" ∧ y.cls ≠ "java/lang/invoke/VarHandle")
    (hK : Back l R p e below s args y 3 W (fun A b => b = (Value.ref a :: argsL).toArray ∧ A.U.heap = h ∧ A.cells + c1 ≤ R.cells ∧ A.slots + s1 ≤ R.slots) (fun A _ v B => ∃ L, Qc v B.U.heap L ∧ B.locs = A.locs ++ L ∧ B.cells = A.cells + c1 ∧ B.slots = A.slots + s1))
    (E : Exa Z h a C0) (hg : g.method = m) (hsize : g.locals.size = c.maxLocals) (hlen : ∀ sig, parseMethodDescriptor y.desc = some sig → argsL.length = sig.parameters.length)
    (hstack : g.stack = argsL.reverse ++ .ref a :: rest) (hW : 2 * g.monitorRoom + (rest.map fun v => v.category).sum ≤ W) (hd : decode c.code g.pc = .ok (.invokevirtual index, 3)) (eT : T.heap = h) (hc : cells + c1 ≤ R.cells) (hs : slots + s1 ≤ R.slots)
    (kk : ∀ (v : Option Value) (T' : State) (L : List Loc), Stand p l e R s m args below meth c T' (locs ++ L) (cells + c1) (slots + s1) → Qc v T'.heap L → OEnds p e below F n0 Q T' { g with pc := g.pc + 3, stack := v.toList ++ rest }) : OEnds p e below F n0 Q T g := by
  obtain ⟨cq, kq, qa, qb, qc⟩ := isOf hZ eT E
  obtain ⟨v, vm₁, ⟨T', L', k', n'⟩, -, X', ⟨Lc, hQ, l', y', z'⟩, st⟩ := X.virtualBack hx hown (mvT hZ w1) (mvT hZ wd) (notFace_of_selects (args := #[]) (mvT hZ ws)) (mvT hZ ws) (mvT hZ w2) hy hK qa qc hg hsize (Steps.refl _) hlen hstack hW hd (fun _ _ => ⟨rfl, eT, hc, hs⟩)
  dsimp only [Pt.U, Pt.locs, Pt.cells, Pt.slots] at X' l' y' z' st hQ
  subst l' y' z'
  exact own_go (fun t kt => st.trans kt) (kk v T' Lc X' hQ)
theorem own_callCB (X : Stand p l e R s m args below meth c T locs cells slots) (hx : p.tables.exec = Jvm.exec) (hZ : Z.Warmed39 s.vm) {y : MethodName} {bytes : ByteArray} {maxL W c1 s1 : Nat} {Qc : Option Value → Heap → List Loc → Prop} (hy1 : y.name = "<init>") (hown : s.vm.findClass own = some m.cls)
    (w1 : (Cond.methodLink own index y).before a0 Z = true) (w2 : (Cond.instanceMethod y).before a0 Z = true) (w4 : (Cond.code y bytes maxL none).before a0 Z = true) (hy : y.cls ≠ "java/lang/invoke/MethodHandle" ∧ y.cls ≠ "java/lang/invoke/VarHandle")
    (hK : Back l R p e below s args y 3 W (fun A b => b = (Value.ref a :: argsL).toArray ∧ A.U.heap = h ∧ A.cells + c1 ≤ R.cells ∧ A.slots + s1 ≤ R.slots) (fun A _ v B => ∃ L, Qc v B.U.heap L ∧ B.locs = A.locs ++ L ∧ B.cells = A.cells + c1 ∧ B.slots = A.slots + s1))
    (hg : g.method = m) (hsize : g.locals.size = c.maxLocals) (hlen : ∀ sig, parseMethodDescriptor y.desc = some sig → argsL.length = sig.parameters.length)
    (hstack : g.stack = argsL.reverse ++ .ref a :: rest) (hW : 2 * g.monitorRoom + (rest.map fun v => v.category).sum ≤ W) (hd : decode c.code g.pc = .ok (.invokespecial index, 3)) (eT : T.heap = h) (hc : cells + c1 ≤ R.cells) (hs : slots + s1 ≤ R.slots)
    (kk : ∀ (v : Option Value) (T' : State) (L : List Loc), Stand p l e R s m args below meth c T' (locs ++ L) (cells + c1) (slots + s1) → Qc v T'.heap L → OEnds p e below F n0 Q T' { g with pc := g.pc + 3, stack := v.toList ++ rest }) : OEnds p e below F n0 Q T g := by
  obtain ⟨v, vm₁, ⟨T', L', k', n'⟩, -, X', ⟨Lc, hQ, l', y', z'⟩, st⟩ := X.specialBack hx hy1 hown (mvT hZ w1) (mvT hZ w2) (mvT hZ w4) hy hK hg hsize (Steps.refl _) hlen hstack hW hd (fun _ _ => ⟨rfl, eT, hc, hs⟩)
  dsimp only [Pt.U, Pt.locs, Pt.cells, Pt.slots] at X' l' y' z' st hQ
  subst l' y' z'
  exact own_go (fun t kt => st.trans kt) (kk v T' Lc X' hQ)
end OwnS
section OwnI
variable {p : Program} {l : Launch} {e : Env} {R : Room} {s : State} {m : MethodId} {args : Array Value} {below : List Frame} {meth : Method} {c : Code} {T T' : State} {locs : List Loc} {cells slots : Nat} {g g' : JFrame} {C S n0 : Nat} {F : Outcome → State → List Loc → Prop} {Q : Option Value → Heap → Prop} {Z : State} {a0 : Array Value} {h h' h0 : Heap} {rest argsL : List Value} {own text : String} {index : Nat} {Ts : List String} {vm0 vm1 : Vm}
/-- the contract of a callee that may intern, called where nothing has been interned since the case's start -/
def OConS (l : Launch) (y : MethodName) (bytes : ByteArray) (ml : Nat) (ret : Option FieldType) (rm : Room) (Z : State) (as : Array Value) (h0 : Heap) (n0 : Nat) (Q : Option Value → Heap → Prop) : Prop :=
  ∀ ws, MetFree l y (head1 (Jvm.Cond.code y bytes ml ret :: ws) rm) (fun a U => a = as ∧ Z.Warmed39 U.vm ∧ U.heap = h0 ∧ U.vm.interned = Z.vm.interned) (fun _ _ _ _ _ => True) (fun _ U o U' => ∃ v L, o = .returned v ∧ (Fr n0 L ∧ Q v U'.heap) ∧ ReturnedEndW U o U' L rm.cells rm.slots)
theorem own_bodyS {y : MethodName} {bytes : ByteArray} {ml : Nat} {ret : Option FieldType} {rm : Room} {as : Array Value} (hp : plainFor y = true)
    (kk : ∀ (p : Program) (e : Env) (s : State) (m : MethodId) (below : List Frame) (meth : Method) (c : Code) (T : State), p.tables.exec = Jvm.exec → Z.Warmed39 (s.setVm s.vm).vm → c.code = bytes → c.maxLocals = ml → (s.setVm s.vm).vm.findClass y.cls = some m.cls → meth.name = y.name → meth.sig.returnType = ret → meth.locks = false → s.heap = h0 → s.vm.interned = Z.vm.interned → T.heap = h0 →
      Stand p l e rm (s.setVm s.vm) m as below meth c T [] 0 0 → OEnds p e below (fun o t L => ReturnedEndW s o t L rm.cells rm.slots) n0 Q T (entryFrame m as ml)) : OConS l y bytes ml ret rm Z as h0 n0 Q := by
  intro ws
  refine MetFree.of_bodySF hp hisR ?_
  intro p e s m args below meth c s₁ Bd hml0 hP hK
  obtain ⟨rfl, hZ, hh, hi⟩ := hP
  exact kk p e s m below meth c s₁ Bd.exec hZ Bd.bytes hml0 (findClass_of_methodNamed Bd.named) (name_of_methodNamed Bd.named Bd.method).1 Bd.returns Bd.notSynchronized hh hi (by rw [← hh, Bd.state]; rfl) (Stand.of_body Bd)
theorem own_IB0 (hi : s.vm.interned = Z.vm.interned) : IB Z s.vm [] := ⟨#[], by simp [hi], fun q hq => by simp at hq⟩
theorem own_retAW (X : Stand p l e R (s.setVm vm1) m args below meth c T locs cells slots) (hx : p.tables.exec = Jvm.exec) (hlk : meth.locks = false) {k1 : Nat} (hS : s.Since vm1 k1) (hk : k1 ≤ h.size) {t : FieldType} {pc : Nat} {Ls : Array Slot} {w : Value} (hw : w.isRef = true) (hret : meth.sig.returnType = some t) (ht : t.isReference = true) (hd : decode c.code pc = .ok (.areturn, 1)) (eT : T.heap = h) (N : Fr n0 locs) (hc : cells ≤ C) (hs : slots ≤ S) (q : Q (some w) h) : OEnds p e below (fun o t L => ReturnedEndW s o t L C S) n0 Q T (mkF m pc Ls [w]) := by
  obtain ⟨fs, hr, hrun, hended, hE⟩ := X.leaveW hS (by rw [eT]; exact hk) (v := some w) (fun hn => by rw [hret] at hn; cases hn) hlk
  exact ⟨_, _, X.areturnOut hx hw hret ht hd hr, hrun, hended, _, _, rfl, ⟨N, by show Q (some w) T.heap; rw [eT]; exact q⟩, hE.1, hE.2.1, hE.2.2.1, hE.2.2.2.mono hc hs⟩
theorem own_ldcG (X : Stand p l e R (s.setVm vm0) m args below meth c T [] cells slots) (hx : p.tables.exec = Jvm.exec) (hZ : Z.Warmed39 (s.setVm vm0).vm) (hown : (s.setVm vm0).vm.findClass own = some m.cls) (w : (Cond.stringLink own index text).before a0 Z = true) (wS : ∀ a ∈ Bundle.stringAtoms, a.before a0 Z = true)
    (eT : T.heap = h) {k0 : Nat} (hS : s.Since vm0 k0) (hk : k0 ≤ h.size) (hkeep : ∀ (b : Addr) (cl : Cell), Z.heap[b]? = some cl → s.heap[b]? = some cl) (I : IB Z vm0 Ts) (hnot : text ∉ Ts) (hh : Jvm.Lit.constHeld Z own index) (hcw : Jvm.Lit.compactW.before a0 Z = true)
    {vs : List Value} {z : Int32} (ht : (∀ c ∈ text.toList, c.toNat < 256) ∧ text.toList.map (fun c => Value.int (Jvm.Lit.byteI c.toNat.toUInt16)) = vs) (hz : ¬ z < 0) (hl : z.toNatClampNeg = vs.length)
    (hg : g.method = m) (hd : decode c.code g.pc = .ok (.ldc index, 2)) {n : Nat} (hn : 4 * text.toList.length ≤ n) (hbig : n ≤ 536870912) (hc : cells + 2 ≤ R.cells) (hl' : slots + (n + 4) ≤ R.slots)
    (kk : ∀ (a : Addr) (T' : State) (h' : Heap) (k1 : Nat) (b : Addr) (k : ClassId), Stand p l e R (s.setVm T'.vm) m args below meth c T' [] (cells + 2) (slots + (n + 4)) → T'.heap = h' → Ext h h' → s.Since T'.vm k1 → k1 ≤ h'.size → Z.Warmed39 (s.setVm T'.vm).vm → (s.setVm T'.vm).vm.findClass own = some m.cls →
      Exa Z h' a "java/lang/String" → Fld Z h' a "java/lang/String" "coder" "B" (.int 0) → Fld Z h' a "java/lang/String" "value" "[B" (.ref b) → Arv Z h' b k .byte z vs (.int 0) → IB Z T'.vm (text :: Ts) → OEnds p e below F n0 Q T' { g with pc := g.pc + 2, stack := .ref a :: g.stack }) : OEnds p e below F n0 Q T g := by
  obtain ⟨a, T', h', k1, b, k, X', e', E', hS', hk', hZ', hown', f1, f2, f3, f4, -, -, I', st⟩ := ldcSV X hx hZ hown w wS eT hS hk (Fr.nil _) hkeep I hnot hh hcw ht hz hl hg hd hn hbig hc hl'
  exact own_go st (kk a T' h' k1 b k X' e' E' hS' hk' hZ' hown' f1 f2 f3 f4 I')
theorem own_backS {y : MethodName} {bytes : ByteArray} {maxL : Nat} {ret : Option FieldType} {rm : Room} {len W : Nat} {as' : Array Value} {Qb : Option Value → Heap → List Loc → Prop}
    (hM : MetFree l y (head1 [Cond.code y bytes maxL ret] rm) (fun a U => a = as' ∧ Z.Warmed39 U.vm ∧ U.heap = h ∧ U.vm.interned = Z.vm.interned) (fun _ _ _ _ _ => True) (fun _ U o U' => ∃ v L, o = .returned v ∧ Qb v U'.heap L ∧ ReturnedEndW U o U' L rm.cells rm.slots))
    (hZ : Z.Warmed39 s.vm) (hsi : s.vm.interned = Z.vm.interned) (wc : (Cond.code y bytes maxL ret).before a0 Z = true) (wz : (Cond.initialized y.cls).before a0 Z = true) (hf : rm.frames + 1 ≤ R.frames) (hl : W + (maxL + 11) + rm.locals ≤ R.locals) :
    BackS l R p e below s args y len W (fun A a => a = as' ∧ A.U.heap = h ∧ A.cells + rm.cells ≤ R.cells ∧ A.slots + rm.slots ≤ R.slots)
      (fun A _ v B => ∃ L, Qb v B.U.heap L ∧ B.locs = A.locs ++ L ∧ B.cells = A.cells + rm.cells ∧ B.slots = A.slots + rm.slots) :=
  BackS.of_freeW (bytes := bytes) (maxL := maxL) (ret := ret) (E := fun _ _ o t L k n => k = rm.cells ∧ n = rm.slots ∧ ∃ v, o = .returned v ∧ Qb v t.heap L) hM hf hl
    (fun m meth c A a Y hp => have hU : Z.Warmed39 A.U.vm := wtrans hZ Y.warmed
      ⟨by show (Cond.and _ .tt).before a A.U = true; rw [Cond.before_and, mv hU wc]; rfl, mv hU wc, mv hU wz, hp.2.2.1, hp.2.2.2⟩)
    (fun m meth c A a g mk Y hp => ⟨hp.1, wtrans hZ Y.warmed, hp.2.1, (Y.warmed.interned_eq).trans hsi⟩) (fun _ _ _ _ _ _ _ _ _ => trivial)
    (fun _ _ _ _ ⟨v, L, h1, h2, h3⟩ => ⟨L, _, _, h3, rfl, rfl, v, h1, h2⟩)
    (fun m meth c A a g mk v t L k n Y hp _ _ ⟨e1, e2, v', e3, e4⟩ => by cases e3; subst e1 e2; exact ⟨L, e4, rfl, rfl, rfl⟩)
theorem own_callSW (X : Stand p l e R s m args below meth c T locs cells slots) (hx : p.tables.exec = Jvm.exec) (hZ : Z.Warmed39 s.vm) (hsi : s.vm.interned = Z.vm.interned) {y : MethodName} {bytes : ByteArray} {maxL W : Nat} {ret : Option FieldType} {rm : Room} {Qc : Option Value → Heap → Prop} (hown : s.vm.findClass own = some m.cls)
    (w1 : (Cond.methodLink own index y).before a0 Z = true) (w2 : (Cond.static y).before a0 Z = true) (w3 : (Cond.initialized y.cls).before a0 Z = true) (w4 : (Cond.code y bytes maxL ret).before a0 Z = true) (hy : y.cls ≠ "java/lang/invoke/MethodHandle" ∧ y.cls ≠ "java/lang/invoke/VarHandle")
    (K : OConS l y bytes maxL ret rm Z argsL.toArray h n0 Qc) (hfr : rm.frames + 1 ≤ R.frames) (hlo : W + (maxL + 11) + rm.locals ≤ R.locals) (hg : g.method = m) (hsize : g.locals.size = c.maxLocals) (hlen : ∀ sig, parseMethodDescriptor y.desc = some sig → argsL.length = sig.parameters.length)
    (hstack : g.stack = argsL.reverse ++ rest) (hW : 2 * g.monitorRoom + (rest.map fun v => v.category).sum ≤ W) (hd : decode c.code g.pc = .ok (.invokestatic index, 3)) (eT : T.heap = h) (N : Fr n0 locs) (hc : cells + rm.cells ≤ R.cells) (hs : slots + rm.slots ≤ R.slots)
    (kk : ∀ (v : Option Value) (T' : State) (locs' : List Loc), Stand p l e R (s.setVm T'.vm) m args below meth c T' locs' (cells + rm.cells) (slots + rm.slots) → s.Since T'.vm T'.heap.size → Fr n0 locs' → Qc v T'.heap → OEnds p e below F n0 Q T' { g with pc := g.pc + 3, stack := v.toList ++ rest }) : OEnds p e below F n0 Q T g := by
  obtain ⟨v, vm₁, ⟨T', L', k', n'⟩, -, X', hS', hle, ⟨Lc, ⟨N', hQ⟩, l', y', z'⟩, st⟩ := callSS X hx hown (mvT hZ w1) (mvT hZ w2) (mvT hZ w3) (mvT hZ w4) hy (own_backS (W := W) (Qb := fun v h L => Fr n0 L ∧ Qc v h) (K []) hZ hsi w4 w3 hfr hlo) hg hsize hlen hstack hW hd (fun _ _ => ⟨rfl, eT, hc, hs⟩)
  dsimp only [Pt.U, Pt.locs, Pt.cells, Pt.slots] at X' l' y' z' st hQ hS'
  subst l' y' z'
  exact own_go (fun t kt => st.trans kt) (kk v T' _ X' hS' (Fr.app N N') hQ)
end OwnI
theorem own_up (cs : List Int32) (hp : ∀ c ∈ cs, ¬ c < 0 ∧ ¬ (255 : Int32) < c) : ∀ c ∈ cs, ¬ c < 0 ∧ ¬ (65535 : Int32) < c := fun c hc => ⟨(hp c hc).1, fun q => (hp c hc).2 (by
  rw [Int32.lt_iff_toInt_lt] at q ⊢
  have e1 : (65535 : Int32).toInt = 65535 := rfl
  have e2 : (255 : Int32).toInt = 255 := rfl
  omega)⟩
theorem own_kext {h0 h : Heap} (K : Keep h0 h []) : Ext h0 h := ⟨K.1, fun a c q => K.2.1 a c q nin0⟩
theorem own_wi : ∀ d ∈ StrChars.Road.words, d ∈ tables_1 := by decide +kernel
theorem own_we : ∀ d ∈ StrChars.Road.wordsEq, d ∈ tables_1 := by decide +kernel
def own_txt (w : Option Jvm.Cond) : String := match w with | some (.stringLink _ _ t) => t | _ => ""
def own_t42 : String := own_txt tables_1[37]?
def own_v42 : List Value := own_t42.toList.map (fun c => Value.int (Jvm.Lit.byteI c.toNat.toUInt16))
def own_c42 : List Int32 := own_t42.toList.map (fun c => Int32.ofNat c.toNat)
theorem own_lat42 : (∀ c ∈ own_t42.toList, c.toNat < 256) := by decide +kernel
theorem own_len42 : (7 : Int32).toNatClampNeg = own_v42.length := by decide +kernel
theorem own_l442 : 4 * own_t42.toList.length ≤ 64 := by decide +kernel
theorem own_cod42 : StrChars.Road.CodA own_c42 0 (7 : Int32) own_v42 := Or.inl ⟨rfl, by decide +kernel, by decide +kernel, by decide +kernel⟩
theorem own_bd42 : ∀ c ∈ own_c42, ¬ c < 0 ∧ ¬ (65535 : Int32) < c := by decide +kernel
theorem own_ls42 : own_c42.length ≤ 4000 := by decide +kernel
theorem own_q42_42 :  own_c42 = ([(77 : Int32), (97 : Int32), (114 : Int32), (105 : Int32), (97 : Int32), (68 : Int32), (66 : Int32)] : List Int32) := by decide +kernel
theorem own_q42_50 : ¬ own_c42 = ([(77 : Int32), (121 : Int32), (83 : Int32), (81 : Int32), (76 : Int32)] : List Int32) := by decide +kernel
theorem own_q42_52 : ¬ own_c42 = ([(80 : Int32), (111 : Int32), (115 : Int32), (116 : Int32), (103 : Int32), (114 : Int32), (101 : Int32), (83 : Int32), (81 : Int32), (76 : Int32)] : List Int32) := by decide +kernel
def own_t50 : String := own_txt tables_1[53]?
def own_v50 : List Value := own_t50.toList.map (fun c => Value.int (Jvm.Lit.byteI c.toNat.toUInt16))
def own_c50 : List Int32 := own_t50.toList.map (fun c => Int32.ofNat c.toNat)
theorem own_lat50 : (∀ c ∈ own_t50.toList, c.toNat < 256) := by decide +kernel
theorem own_len50 : (5 : Int32).toNatClampNeg = own_v50.length := by decide +kernel
theorem own_l450 : 4 * own_t50.toList.length ≤ 64 := by decide +kernel
theorem own_cod50 : StrChars.Road.CodA own_c50 0 (5 : Int32) own_v50 := Or.inl ⟨rfl, by decide +kernel, by decide +kernel, by decide +kernel⟩
theorem own_bd50 : ∀ c ∈ own_c50, ¬ c < 0 ∧ ¬ (65535 : Int32) < c := by decide +kernel
theorem own_ls50 : own_c50.length ≤ 4000 := by decide +kernel
theorem own_q50_42 : ¬ own_c50 = ([(77 : Int32), (97 : Int32), (114 : Int32), (105 : Int32), (97 : Int32), (68 : Int32), (66 : Int32)] : List Int32) := by decide +kernel
theorem own_q50_50 :  own_c50 = ([(77 : Int32), (121 : Int32), (83 : Int32), (81 : Int32), (76 : Int32)] : List Int32) := by decide +kernel
theorem own_q50_52 : ¬ own_c50 = ([(80 : Int32), (111 : Int32), (115 : Int32), (116 : Int32), (103 : Int32), (114 : Int32), (101 : Int32), (83 : Int32), (81 : Int32), (76 : Int32)] : List Int32) := by decide +kernel
def own_t52 : String := own_txt tables_1[54]?
def own_v52 : List Value := own_t52.toList.map (fun c => Value.int (Jvm.Lit.byteI c.toNat.toUInt16))
def own_c52 : List Int32 := own_t52.toList.map (fun c => Int32.ofNat c.toNat)
theorem own_lat52 : (∀ c ∈ own_t52.toList, c.toNat < 256) := by decide +kernel
theorem own_len52 : (10 : Int32).toNatClampNeg = own_v52.length := by decide +kernel
theorem own_l452 : 4 * own_t52.toList.length ≤ 64 := by decide +kernel
theorem own_cod52 : StrChars.Road.CodA own_c52 0 (10 : Int32) own_v52 := Or.inl ⟨rfl, by decide +kernel, by decide +kernel, by decide +kernel⟩
theorem own_bd52 : ∀ c ∈ own_c52, ¬ c < 0 ∧ ¬ (65535 : Int32) < c := by decide +kernel
theorem own_ls52 : own_c52.length ≤ 4000 := by decide +kernel
theorem own_q52_42 : ¬ own_c52 = ([(77 : Int32), (97 : Int32), (114 : Int32), (105 : Int32), (97 : Int32), (68 : Int32), (66 : Int32)] : List Int32) := by decide +kernel
theorem own_q52_50 : ¬ own_c52 = ([(77 : Int32), (121 : Int32), (83 : Int32), (81 : Int32), (76 : Int32)] : List Int32) := by decide +kernel
theorem own_q52_52 :  own_c52 = ([(80 : Int32), (111 : Int32), (115 : Int32), (116 : Int32), (103 : Int32), (114 : Int32), (101 : Int32), (83 : Int32), (81 : Int32), (76 : Int32)] : List Int32) := by decide +kernel
theorem own_n50 : own_t50 ∉ [own_t42] := by decide +kernel
theorem own_n52 : own_t52 ∉ [own_t50, own_t42] := by decide +kernel
theorem own_cd42 : StrChars.Road.CodA ([(77 : Int32), (97 : Int32), (114 : Int32), (105 : Int32), (97 : Int32), (68 : Int32), (66 : Int32)] : List Int32) 0 (7 : Int32) ((([(77 : Int32), (97 : Int32), (114 : Int32), (105 : Int32), (97 : Int32), (68 : Int32), (66 : Int32)] : List Int32).map (fun c => c.toInt8.toInt32)).map Value.int) := StrChars.Road.codOf (n := 7) rfl (by decide)
theorem own_bb42 : ∀ c ∈ ([(77 : Int32), (97 : Int32), (114 : Int32), (105 : Int32), (97 : Int32), (68 : Int32), (66 : Int32)] : List Int32), ¬ c < 0 ∧ ¬ (65535 : Int32) < c := by decide
theorem own_d7_0 : decode prog_6_method_4_code 0 = .ok (.ldc 42, 2) := by decide +kernel
theorem own_d7_2 : decode prog_6_method_4_code 2 = .ok (.aload_n 0, 1) := by decide +kernel
theorem own_d7_3 : decode prog_6_method_4_code 3 = .ok (.invokevirtual 44, 3) := by decide +kernel
theorem own_d7_6 : decode prog_6_method_4_code 6 = .ok (.ifCond .ne 12, 3) := by decide +kernel
theorem own_d7_18 : decode prog_6_method_4_code 18 = .ok (.getstatic 3, 3) := by decide +kernel
theorem own_d7_21 : decode prog_6_method_4_code 21 = .ok (.astore_n 1, 1) := by decide +kernel
theorem own_d7_22 : decode prog_6_method_4_code 22 = .ok (.goto 33, 3) := by decide +kernel
theorem own_d7_55 : decode prog_6_method_4_code 55 = .ok (.aload_n 1, 1) := by decide +kernel
theorem own_d7_56 : decode prog_6_method_4_code 56 = .ok (.areturn, 1) := by decide +kernel
theorem own_pd0 : parseMethodDescriptor "(Ljava/lang/Object;)Z" = some ⟨[(.object "java/lang/Object")], some .boolean⟩ := by decide +kernel
theorem own_pn_7 : plainFor (⟨"com/example/cerrojo/cerrojo/jdbc/Dialect", "of", "(Ljava/lang/String;)Lcom/example/cerrojo/cerrojo/jdbc/Dialect;"⟩ : MethodName) = true := by first | exact plainFor_of_name (by first | (simp [plainName, overriddenIn]; done) | decide +kernel) | decide +kernel
theorem own_ef_own_of42 (m : MethodId) (x0 : Addr) : entryFrame m #[(.ref x0)] 2 = mkF m 0 #[.val (.ref x0), .unset] [] := by first | (simp [entryFrame, mkF, argsToLocals, Value.category]; done) | rfl
set_option maxRecDepth 65536 in
set_option maxHeartbeats 40000000 in
theorem own_of42 (l : Launch) (Z : State) (a0 : Array Value) (hw : ∀ d ∈ tables_1, d.before a0 Z = true) (a1 ab md pg : Addr) (kb : ClassId) (cs : Int32) (h0 : Heap) (n0 : Nat) (Z0 : n0 ≤ h0.size) (Ea : Exa Z h0 a1 "java/lang/String") (Gc : Fld Z h0 a1 "java/lang/String" "coder" "B" (.int (0 : Int32))) (Gv : Fld Z h0 a1 "java/lang/String" "value" "[B" (.ref ab)) (Vb : Arv Z h0 ab kb .byte (7 : Int32) ((([(77 : Int32), (97 : Int32), (114 : Int32), (105 : Int32), (97 : Int32), (68 : Int32), (66 : Int32)] : List Int32).map (fun c => c.toInt8.toInt32)).map Value.int) (.int (0 : Int32))) (S_c : Sta Z h0 "java/lang/String" "COMPACT_STRINGS" "Z" (.int cs)) (S_m : Sta Z h0 "com/example/cerrojo/cerrojo/jdbc/Dialect" "MARIADB" "Lcom/example/cerrojo/cerrojo/jdbc/Dialect;" (.ref md)) (S_p : Sta Z h0 "com/example/cerrojo/cerrojo/jdbc/Dialect" "POSTGRESQL" "Lcom/example/cerrojo/cerrojo/jdbc/Dialect;" (.ref pg)) (hcs : ¬ cs = 0) (hold : ∀ (b : Addr) (cl : Cell), Z.heap[b]? = some cl → h0[b]? = some cl) (hwS : ∀ a ∈ Bundle.stringAtoms, a.before a0 Z = true) (hcw : Jvm.Lit.compactW.before a0 Z = true) (hh42 : Jvm.Lit.constHeld Z "com/example/cerrojo/cerrojo/jdbc/Dialect" 42) (hh50 : Jvm.Lit.constHeld Z "com/example/cerrojo/cerrojo/jdbc/Dialect" 50) (hh52 : Jvm.Lit.constHeld Z "com/example/cerrojo/cerrojo/jdbc/Dialect" 52) :
    OConS l (⟨"com/example/cerrojo/cerrojo/jdbc/Dialect", "of", "(Ljava/lang/String;)Lcom/example/cerrojo/cerrojo/jdbc/Dialect;"⟩ : MethodName) prog_6_method_4_code 2 (some (.object "com/example/cerrojo/cerrojo/jdbc/Dialect")) ({ frames := 2, cells := 2, slots := 68, locals := 28 } : Room) Z #[(.ref a1)] h0 n0 (fun v h => v = some (.ref md) ∧ Keep h0 h []) := by
  refine own_bodyS own_pn_7 ?_
  intro p e s m below meth c T0 hx hZ hby hml hown hnm hret hlk hs0 hi0 e0 X0
  replace hown : (s.setVm s.vm).vm.findClass "com/example/cerrojo/cerrojo/jdbc/Dialect" = some m.cls := hown
  have hS : s.Since s.vm 0 := (State.WarmedH.refl s).since 0
  have hk : 0 ≤ h0.size := Nat.zero_le _
  have hI : IB Z s.vm [] := own_IB0 hi0
  have hkp : ∀ (b : Addr) (cl : Cell), Z.heap[b]? = some cl → s.heap[b]? = some cl := by rw [hs0]; exact hold
  replace hnm : meth.name = "of" := hnm
  have N0 := Fr.nil n0
  have K0 : Keep h0 h0 [] := Keep.refl _ _
  refine own_at (own_ef_own_of42 m a1) ?_
  have X0' : Stand p l e _ _ m _ below meth c T0 [] _ _ := X0
  refine own_ldcG X0' hx hZ hown (text := own_t42) (hw _ (List.mem_of_getElem? (i := 37) rfl)) hwS e0 hS hk hkp hI (by simp) hh42 hcw (vs := own_v42) (z := (7 : Int32)) ⟨own_lat42, rfl⟩ (by decide) own_len42 (g := (mkF m 0 #[.val (.ref a1), .unset] [])) rfl (hb hby own_d7_0) (n := 64) own_l442 (by decide) (by decide) (by decide) (fun b1 T1 h1 k1 d1 c1 X1 e1 E1 hS hk hZ hown A1 G1 F1 V1 hI => ?_)
  show OEnds _ _ _ _ _ _ T1 (mkF m 2 #[.val (.ref a1), .unset] [(.ref b1)])
  have Ea_h1 := Ea.ext E1
  have Gc_h1 := Gc.ext E1
  have Gv_h1 := Gv.ext E1
  have Vb_h1 := Vb.ext E1
  have S_c_h1 := S_c.ext E1
  have S_m_h1 := S_m.ext E1
  have S_p_h1 := S_p.ext E1
  have K1 := K0.ext E1
  refine own_go (g' := (mkF m 3 #[.val (.ref a1), .unset] [(.ref a1), (.ref b1)])) (fun t kt => XS.aloadN X1.here hx rfl (hb hby own_d7_2) rfl rfl kt) ?_
  refine own_callVB X1 hx hZ (a := b1) (W := 0) (argsL := [(.ref a1)]) (rest := []) (c1 := 0) (s1 := 0) (Qc := fun v h' L => ((v = some (.int 1) ∧ own_c42 = ([(77 : Int32), (97 : Int32), (114 : Int32), (105 : Int32), (97 : Int32), (68 : Int32), (66 : Int32)] : List Int32)) ∨ (v = some (.int 0) ∧ ¬ own_c42 = ([(77 : Int32), (97 : Int32), (114 : Int32), (105 : Int32), (97 : Int32), (68 : Int32), (66 : Int32)] : List Int32))) ∧ L = [] ∧ h' = h1) hown (hw _ (List.mem_of_getElem? (i := 40) rfl)) (hw _ (List.mem_of_getElem? (i := 41) rfl)) (hw _ (List.mem_of_getElem? (i := 43) rfl)) (hw _ (List.mem_of_getElem? (i := 42) rfl)) (by decide) (StrChars.Road.eqW (W := 0) hZ (fun d hd => hw d (own_we d hd)) (kI := 4) (hw _ (List.mem_of_getElem? (i := 6) rfl)) A1 F1 G1 V1 own_cod42 own_bd42 own_ls42 Ea_h1 Gv_h1 Gc_h1 Vb_h1 own_cd42 own_bb42 (Nat.le_of_ble_eq_true rfl) S_c_h1 hcs (by decide) (by decide)) A1 (g := (mkF m 3 #[.val (.ref a1), .unset] [(.ref a1), (.ref b1)])) rfl (by rw [hml]; rfl) (lenOf own_pd0 rfl) rfl (by show 2 * 0 + _ ≤ _; exact Nat.le_of_eq rfl) (hb hby own_d7_3) e1 (by decide) (by decide) (fun v2 T2 L2 X2 hq2 => ?_)
  obtain ⟨hcs2, rfl, e2⟩ := hq2
  obtain rfl : v2 = some (.int (1 : Int32)) := hcs2.elim (fun q => q.1) (fun q => absurd own_q42_42 q.2)
  have N2 := Fr.app N0 (Fr.nil n0)
  show OEnds _ _ _ _ _ _ T2 (mkF m 6 #[.val (.ref a1), .unset] [(.int (1 : Int32))])
  refine own_go (g' := (mkF m 18 #[.val (.ref a1), .unset] [])) (fun t kt => XS.ifYes X2.here hx rfl (pc0 := 6) (pc' := 18) rfl (hb hby own_d7_6) rfl ((if0 _ _).trans (feq ((by decide) : ¬ ((1 : Int32) = (0 : Int32)))).2) (by decide) (by decide) kt) ?_
  obtain ⟨T3, X3, e3, st3⟩ := getS2 X2 hx hZ hown (host := "") (Or.inl (hw _ (List.mem_of_getElem? (i := 50) rfl))) Via.refl e2 S_m_h1 (g := (mkF m 18 #[.val (.ref a1), .unset] [])) rfl (hb hby own_d7_18)
  refine own_go (T' := T3) (g' := (mkF m 21 #[.val (.ref a1), .unset] [(.ref md)])) st3 ?_
  refine own_go (g' := (mkF m 22 #[.val (.ref a1), .val (.ref md)] [])) (fun t kt => XS.astoreN X3.here hx rfl (hb hby own_d7_21) rfl rfl (l' := #[.val (.ref a1), .val (.ref md)]) rfl kt) ?_
  refine own_go (g' := (mkF m 55 #[.val (.ref a1), .val (.ref md)] [])) (fun t kt => XS.goto X3.here hx rfl (pc0 := 22) (pc' := 55) rfl (hb hby own_d7_22) (by decide) (by decide) kt) ?_
  refine own_go (g' := (mkF m 56 #[.val (.ref a1), .val (.ref md)] [(.ref md)])) (fun t kt => XS.aloadN X3.here hx rfl (hb hby own_d7_55) rfl rfl kt) ?_
  exact own_retAW X3 hx hlk hS hk (t := (.object "com/example/cerrojo/cerrojo/jdbc/Dialect")) rfl hret rfl (hb hby own_d7_56) e3 N2 (by decide) (by decide) (⟨rfl, K1⟩)
theorem own_cd50 : StrChars.Road.CodA ([(77 : Int32), (121 : Int32), (83 : Int32), (81 : Int32), (76 : Int32)] : List Int32) 0 (5 : Int32) ((([(77 : Int32), (121 : Int32), (83 : Int32), (81 : Int32), (76 : Int32)] : List Int32).map (fun c => c.toInt8.toInt32)).map Value.int) := StrChars.Road.codOf (n := 5) rfl (by decide)
theorem own_bb50 : ∀ c ∈ ([(77 : Int32), (121 : Int32), (83 : Int32), (81 : Int32), (76 : Int32)] : List Int32), ¬ c < 0 ∧ ¬ (65535 : Int32) < c := by decide
theorem own_d7_9 : decode prog_6_method_4_code 9 = .ok (.ldc 50, 2) := by decide +kernel
theorem own_d7_11 : decode prog_6_method_4_code 11 = .ok (.aload_n 0, 1) := by decide +kernel
theorem own_d7_12 : decode prog_6_method_4_code 12 = .ok (.invokevirtual 44, 3) := by decide +kernel
theorem own_d7_15 : decode prog_6_method_4_code 15 = .ok (.ifCond .eq 10, 3) := by decide +kernel
theorem own_ef_own_of50 (m : MethodId) (x0 : Addr) : entryFrame m #[(.ref x0)] 2 = mkF m 0 #[.val (.ref x0), .unset] [] := by first | (simp [entryFrame, mkF, argsToLocals, Value.category]; done) | rfl
set_option maxRecDepth 65536 in
set_option maxHeartbeats 40000000 in
theorem own_of50 (l : Launch) (Z : State) (a0 : Array Value) (hw : ∀ d ∈ tables_1, d.before a0 Z = true) (a1 ab md pg : Addr) (kb : ClassId) (cs : Int32) (h0 : Heap) (n0 : Nat) (Z0 : n0 ≤ h0.size) (Ea : Exa Z h0 a1 "java/lang/String") (Gc : Fld Z h0 a1 "java/lang/String" "coder" "B" (.int (0 : Int32))) (Gv : Fld Z h0 a1 "java/lang/String" "value" "[B" (.ref ab)) (Vb : Arv Z h0 ab kb .byte (5 : Int32) ((([(77 : Int32), (121 : Int32), (83 : Int32), (81 : Int32), (76 : Int32)] : List Int32).map (fun c => c.toInt8.toInt32)).map Value.int) (.int (0 : Int32))) (S_c : Sta Z h0 "java/lang/String" "COMPACT_STRINGS" "Z" (.int cs)) (S_m : Sta Z h0 "com/example/cerrojo/cerrojo/jdbc/Dialect" "MARIADB" "Lcom/example/cerrojo/cerrojo/jdbc/Dialect;" (.ref md)) (S_p : Sta Z h0 "com/example/cerrojo/cerrojo/jdbc/Dialect" "POSTGRESQL" "Lcom/example/cerrojo/cerrojo/jdbc/Dialect;" (.ref pg)) (hcs : ¬ cs = 0) (hold : ∀ (b : Addr) (cl : Cell), Z.heap[b]? = some cl → h0[b]? = some cl) (hwS : ∀ a ∈ Bundle.stringAtoms, a.before a0 Z = true) (hcw : Jvm.Lit.compactW.before a0 Z = true) (hh42 : Jvm.Lit.constHeld Z "com/example/cerrojo/cerrojo/jdbc/Dialect" 42) (hh50 : Jvm.Lit.constHeld Z "com/example/cerrojo/cerrojo/jdbc/Dialect" 50) (hh52 : Jvm.Lit.constHeld Z "com/example/cerrojo/cerrojo/jdbc/Dialect" 52) :
    OConS l (⟨"com/example/cerrojo/cerrojo/jdbc/Dialect", "of", "(Ljava/lang/String;)Lcom/example/cerrojo/cerrojo/jdbc/Dialect;"⟩ : MethodName) prog_6_method_4_code 2 (some (.object "com/example/cerrojo/cerrojo/jdbc/Dialect")) ({ frames := 2, cells := 4, slots := 136, locals := 28 } : Room) Z #[(.ref a1)] h0 n0 (fun v h => v = some (.ref md) ∧ Keep h0 h []) := by
  refine own_bodyS own_pn_7 ?_
  intro p e s m below meth c T0 hx hZ hby hml hown hnm hret hlk hs0 hi0 e0 X0
  replace hown : (s.setVm s.vm).vm.findClass "com/example/cerrojo/cerrojo/jdbc/Dialect" = some m.cls := hown
  have hS : s.Since s.vm 0 := (State.WarmedH.refl s).since 0
  have hk : 0 ≤ h0.size := Nat.zero_le _
  have hI : IB Z s.vm [] := own_IB0 hi0
  have hkp : ∀ (b : Addr) (cl : Cell), Z.heap[b]? = some cl → s.heap[b]? = some cl := by rw [hs0]; exact hold
  replace hnm : meth.name = "of" := hnm
  have N0 := Fr.nil n0
  have K0 : Keep h0 h0 [] := Keep.refl _ _
  refine own_at (own_ef_own_of50 m a1) ?_
  have X0' : Stand p l e _ _ m _ below meth c T0 [] _ _ := X0
  refine own_ldcG X0' hx hZ hown (text := own_t42) (hw _ (List.mem_of_getElem? (i := 37) rfl)) hwS e0 hS hk hkp hI (by simp) hh42 hcw (vs := own_v42) (z := (7 : Int32)) ⟨own_lat42, rfl⟩ (by decide) own_len42 (g := (mkF m 0 #[.val (.ref a1), .unset] [])) rfl (hb hby own_d7_0) (n := 64) own_l442 (by decide) (by decide) (by decide) (fun b1 T1 h1 k1 d1 c1 X1 e1 E1 hS hk hZ hown A1 G1 F1 V1 hI => ?_)
  show OEnds _ _ _ _ _ _ T1 (mkF m 2 #[.val (.ref a1), .unset] [(.ref b1)])
  have Ea_h1 := Ea.ext E1
  have Gc_h1 := Gc.ext E1
  have Gv_h1 := Gv.ext E1
  have Vb_h1 := Vb.ext E1
  have S_c_h1 := S_c.ext E1
  have S_m_h1 := S_m.ext E1
  have S_p_h1 := S_p.ext E1
  have K1 := K0.ext E1
  refine own_go (g' := (mkF m 3 #[.val (.ref a1), .unset] [(.ref a1), (.ref b1)])) (fun t kt => XS.aloadN X1.here hx rfl (hb hby own_d7_2) rfl rfl kt) ?_
  refine own_callVB X1 hx hZ (a := b1) (W := 0) (argsL := [(.ref a1)]) (rest := []) (c1 := 0) (s1 := 0) (Qc := fun v h' L => ((v = some (.int 1) ∧ own_c42 = ([(77 : Int32), (121 : Int32), (83 : Int32), (81 : Int32), (76 : Int32)] : List Int32)) ∨ (v = some (.int 0) ∧ ¬ own_c42 = ([(77 : Int32), (121 : Int32), (83 : Int32), (81 : Int32), (76 : Int32)] : List Int32))) ∧ L = [] ∧ h' = h1) hown (hw _ (List.mem_of_getElem? (i := 40) rfl)) (hw _ (List.mem_of_getElem? (i := 41) rfl)) (hw _ (List.mem_of_getElem? (i := 43) rfl)) (hw _ (List.mem_of_getElem? (i := 42) rfl)) (by decide) (StrChars.Road.eqW (W := 0) hZ (fun d hd => hw d (own_we d hd)) (kI := 4) (hw _ (List.mem_of_getElem? (i := 6) rfl)) A1 F1 G1 V1 own_cod42 own_bd42 own_ls42 Ea_h1 Gv_h1 Gc_h1 Vb_h1 own_cd50 own_bb50 (Nat.le_of_ble_eq_true rfl) S_c_h1 hcs (by decide) (by decide)) A1 (g := (mkF m 3 #[.val (.ref a1), .unset] [(.ref a1), (.ref b1)])) rfl (by rw [hml]; rfl) (lenOf own_pd0 rfl) rfl (by show 2 * 0 + _ ≤ _; exact Nat.le_of_eq rfl) (hb hby own_d7_3) e1 (by decide) (by decide) (fun v2 T2 L2 X2 hq2 => ?_)
  obtain ⟨hcs2, rfl, e2⟩ := hq2
  obtain rfl : v2 = some (.int (0 : Int32)) := hcs2.elim (fun q => absurd q.2 own_q42_50) (fun q => q.1)
  have N2 := Fr.app N0 (Fr.nil n0)
  show OEnds _ _ _ _ _ _ T2 (mkF m 6 #[.val (.ref a1), .unset] [(.int (0 : Int32))])
  refine own_go (g' := (mkF m 9 #[.val (.ref a1), .unset] [])) (fun t kt => XS.ifNo X2.here hx rfl (hb hby own_d7_6) rfl ((if0 _ _).trans (teq ((by decide) : (0 : Int32) = (0 : Int32))).2) kt) ?_
  have X2' : Stand p l e _ _ m _ below meth c T2 [] _ _ := X2
  refine own_ldcG X2' hx hZ hown (text := own_t50) (hw _ (List.mem_of_getElem? (i := 53) rfl)) hwS e2 hS hk hkp hI own_n50 hh50 hcw (vs := own_v50) (z := (5 : Int32)) ⟨own_lat50, rfl⟩ (by decide) own_len50 (g := (mkF m 9 #[.val (.ref a1), .unset] [])) rfl (hb hby own_d7_9) (n := 64) own_l450 (by decide) (by decide) (by decide) (fun b3 T3 h3 k3 d3 c3 X3 e3 E3 hS hk hZ hown A3 G3 F3 V3 hI => ?_)
  show OEnds _ _ _ _ _ _ T3 (mkF m 11 #[.val (.ref a1), .unset] [(.ref b3)])
  have Ea_h3 := Ea_h1.ext E3
  have Gc_h3 := Gc_h1.ext E3
  have Gv_h3 := Gv_h1.ext E3
  have Vb_h3 := Vb_h1.ext E3
  have S_c_h3 := S_c_h1.ext E3
  have S_m_h3 := S_m_h1.ext E3
  have S_p_h3 := S_p_h1.ext E3
  have A1_h3 := A1.ext E3
  have G1_h3 := G1.ext E3
  have F1_h3 := F1.ext E3
  have V1_h3 := V1.ext E3
  have K3 := K1.ext E3
  refine own_go (g' := (mkF m 12 #[.val (.ref a1), .unset] [(.ref a1), (.ref b3)])) (fun t kt => XS.aloadN X3.here hx rfl (hb hby own_d7_11) rfl rfl kt) ?_
  refine own_callVB X3 hx hZ (a := b3) (W := 0) (argsL := [(.ref a1)]) (rest := []) (c1 := 0) (s1 := 0) (Qc := fun v h' L => ((v = some (.int 1) ∧ own_c50 = ([(77 : Int32), (121 : Int32), (83 : Int32), (81 : Int32), (76 : Int32)] : List Int32)) ∨ (v = some (.int 0) ∧ ¬ own_c50 = ([(77 : Int32), (121 : Int32), (83 : Int32), (81 : Int32), (76 : Int32)] : List Int32))) ∧ L = [] ∧ h' = h3) hown (hw _ (List.mem_of_getElem? (i := 40) rfl)) (hw _ (List.mem_of_getElem? (i := 41) rfl)) (hw _ (List.mem_of_getElem? (i := 43) rfl)) (hw _ (List.mem_of_getElem? (i := 42) rfl)) (by decide) (StrChars.Road.eqW (W := 0) hZ (fun d hd => hw d (own_we d hd)) (kI := 4) (hw _ (List.mem_of_getElem? (i := 6) rfl)) A3 F3 G3 V3 own_cod50 own_bd50 own_ls50 Ea_h3 Gv_h3 Gc_h3 Vb_h3 own_cd50 own_bb50 (Nat.le_of_ble_eq_true rfl) S_c_h3 hcs (by decide) (by decide)) A3 (g := (mkF m 12 #[.val (.ref a1), .unset] [(.ref a1), (.ref b3)])) rfl (by rw [hml]; rfl) (lenOf own_pd0 rfl) rfl (by show 2 * 0 + _ ≤ _; exact Nat.le_of_eq rfl) (hb hby own_d7_12) e3 (by decide) (by decide) (fun v4 T4 L4 X4 hq4 => ?_)
  obtain ⟨hcs4, rfl, e4⟩ := hq4
  obtain rfl : v4 = some (.int (1 : Int32)) := hcs4.elim (fun q => q.1) (fun q => absurd own_q50_50 q.2)
  have N4 := Fr.app N0 (Fr.nil n0)
  show OEnds _ _ _ _ _ _ T4 (mkF m 15 #[.val (.ref a1), .unset] [(.int (1 : Int32))])
  refine own_go (g' := (mkF m 18 #[.val (.ref a1), .unset] [])) (fun t kt => XS.ifNo X4.here hx rfl (hb hby own_d7_15) rfl ((if0 _ _).trans (feq ((by decide) : ¬ ((1 : Int32) = (0 : Int32)))).1) kt) ?_
  obtain ⟨T5, X5, e5, st5⟩ := getS2 X4 hx hZ hown (host := "") (Or.inl (hw _ (List.mem_of_getElem? (i := 50) rfl))) Via.refl e4 S_m_h3 (g := (mkF m 18 #[.val (.ref a1), .unset] [])) rfl (hb hby own_d7_18)
  refine own_go (T' := T5) (g' := (mkF m 21 #[.val (.ref a1), .unset] [(.ref md)])) st5 ?_
  refine own_go (g' := (mkF m 22 #[.val (.ref a1), .val (.ref md)] [])) (fun t kt => XS.astoreN X5.here hx rfl (hb hby own_d7_21) rfl rfl (l' := #[.val (.ref a1), .val (.ref md)]) rfl kt) ?_
  refine own_go (g' := (mkF m 55 #[.val (.ref a1), .val (.ref md)] [])) (fun t kt => XS.goto X5.here hx rfl (pc0 := 22) (pc' := 55) rfl (hb hby own_d7_22) (by decide) (by decide) kt) ?_
  refine own_go (g' := (mkF m 56 #[.val (.ref a1), .val (.ref md)] [(.ref md)])) (fun t kt => XS.aloadN X5.here hx rfl (hb hby own_d7_55) rfl rfl kt) ?_
  exact own_retAW X5 hx hlk hS hk (t := (.object "com/example/cerrojo/cerrojo/jdbc/Dialect")) rfl hret rfl (hb hby own_d7_56) e5 N4 (by decide) (by decide) (⟨rfl, K3⟩)
theorem own_cd52 : StrChars.Road.CodA ([(80 : Int32), (111 : Int32), (115 : Int32), (116 : Int32), (103 : Int32), (114 : Int32), (101 : Int32), (83 : Int32), (81 : Int32), (76 : Int32)] : List Int32) 0 (10 : Int32) ((([(80 : Int32), (111 : Int32), (115 : Int32), (116 : Int32), (103 : Int32), (114 : Int32), (101 : Int32), (83 : Int32), (81 : Int32), (76 : Int32)] : List Int32).map (fun c => c.toInt8.toInt32)).map Value.int) := StrChars.Road.codOf (n := 10) rfl (by decide)
theorem own_bb52 : ∀ c ∈ ([(80 : Int32), (111 : Int32), (115 : Int32), (116 : Int32), (103 : Int32), (114 : Int32), (101 : Int32), (83 : Int32), (81 : Int32), (76 : Int32)] : List Int32), ¬ c < 0 ∧ ¬ (65535 : Int32) < c := by decide
theorem own_d7_25 : decode prog_6_method_4_code 25 = .ok (.ldc 52, 2) := by decide +kernel
theorem own_d7_27 : decode prog_6_method_4_code 27 = .ok (.aload_n 0, 1) := by decide +kernel
theorem own_d7_28 : decode prog_6_method_4_code 28 = .ok (.invokevirtual 44, 3) := by decide +kernel
theorem own_d7_31 : decode prog_6_method_4_code 31 = .ok (.ifCond .eq 10, 3) := by decide +kernel
theorem own_d7_34 : decode prog_6_method_4_code 34 = .ok (.getstatic 7, 3) := by decide +kernel
theorem own_d7_37 : decode prog_6_method_4_code 37 = .ok (.astore_n 1, 1) := by decide +kernel
theorem own_d7_38 : decode prog_6_method_4_code 38 = .ok (.goto 17, 3) := by decide +kernel
theorem own_ef_own_of52 (m : MethodId) (x0 : Addr) : entryFrame m #[(.ref x0)] 2 = mkF m 0 #[.val (.ref x0), .unset] [] := by first | (simp [entryFrame, mkF, argsToLocals, Value.category]; done) | rfl
set_option maxRecDepth 65536 in
set_option maxHeartbeats 40000000 in
theorem own_of52 (l : Launch) (Z : State) (a0 : Array Value) (hw : ∀ d ∈ tables_1, d.before a0 Z = true) (a1 ab md pg : Addr) (kb : ClassId) (cs : Int32) (h0 : Heap) (n0 : Nat) (Z0 : n0 ≤ h0.size) (Ea : Exa Z h0 a1 "java/lang/String") (Gc : Fld Z h0 a1 "java/lang/String" "coder" "B" (.int (0 : Int32))) (Gv : Fld Z h0 a1 "java/lang/String" "value" "[B" (.ref ab)) (Vb : Arv Z h0 ab kb .byte (10 : Int32) ((([(80 : Int32), (111 : Int32), (115 : Int32), (116 : Int32), (103 : Int32), (114 : Int32), (101 : Int32), (83 : Int32), (81 : Int32), (76 : Int32)] : List Int32).map (fun c => c.toInt8.toInt32)).map Value.int) (.int (0 : Int32))) (S_c : Sta Z h0 "java/lang/String" "COMPACT_STRINGS" "Z" (.int cs)) (S_m : Sta Z h0 "com/example/cerrojo/cerrojo/jdbc/Dialect" "MARIADB" "Lcom/example/cerrojo/cerrojo/jdbc/Dialect;" (.ref md)) (S_p : Sta Z h0 "com/example/cerrojo/cerrojo/jdbc/Dialect" "POSTGRESQL" "Lcom/example/cerrojo/cerrojo/jdbc/Dialect;" (.ref pg)) (hcs : ¬ cs = 0) (hold : ∀ (b : Addr) (cl : Cell), Z.heap[b]? = some cl → h0[b]? = some cl) (hwS : ∀ a ∈ Bundle.stringAtoms, a.before a0 Z = true) (hcw : Jvm.Lit.compactW.before a0 Z = true) (hh42 : Jvm.Lit.constHeld Z "com/example/cerrojo/cerrojo/jdbc/Dialect" 42) (hh50 : Jvm.Lit.constHeld Z "com/example/cerrojo/cerrojo/jdbc/Dialect" 50) (hh52 : Jvm.Lit.constHeld Z "com/example/cerrojo/cerrojo/jdbc/Dialect" 52) :
    OConS l (⟨"com/example/cerrojo/cerrojo/jdbc/Dialect", "of", "(Ljava/lang/String;)Lcom/example/cerrojo/cerrojo/jdbc/Dialect;"⟩ : MethodName) prog_6_method_4_code 2 (some (.object "com/example/cerrojo/cerrojo/jdbc/Dialect")) ({ frames := 2, cells := 6, slots := 204, locals := 28 } : Room) Z #[(.ref a1)] h0 n0 (fun v h => v = some (.ref pg) ∧ Keep h0 h []) := by
  refine own_bodyS own_pn_7 ?_
  intro p e s m below meth c T0 hx hZ hby hml hown hnm hret hlk hs0 hi0 e0 X0
  replace hown : (s.setVm s.vm).vm.findClass "com/example/cerrojo/cerrojo/jdbc/Dialect" = some m.cls := hown
  have hS : s.Since s.vm 0 := (State.WarmedH.refl s).since 0
  have hk : 0 ≤ h0.size := Nat.zero_le _
  have hI : IB Z s.vm [] := own_IB0 hi0
  have hkp : ∀ (b : Addr) (cl : Cell), Z.heap[b]? = some cl → s.heap[b]? = some cl := by rw [hs0]; exact hold
  replace hnm : meth.name = "of" := hnm
  have N0 := Fr.nil n0
  have K0 : Keep h0 h0 [] := Keep.refl _ _
  refine own_at (own_ef_own_of52 m a1) ?_
  have X0' : Stand p l e _ _ m _ below meth c T0 [] _ _ := X0
  refine own_ldcG X0' hx hZ hown (text := own_t42) (hw _ (List.mem_of_getElem? (i := 37) rfl)) hwS e0 hS hk hkp hI (by simp) hh42 hcw (vs := own_v42) (z := (7 : Int32)) ⟨own_lat42, rfl⟩ (by decide) own_len42 (g := (mkF m 0 #[.val (.ref a1), .unset] [])) rfl (hb hby own_d7_0) (n := 64) own_l442 (by decide) (by decide) (by decide) (fun b1 T1 h1 k1 d1 c1 X1 e1 E1 hS hk hZ hown A1 G1 F1 V1 hI => ?_)
  show OEnds _ _ _ _ _ _ T1 (mkF m 2 #[.val (.ref a1), .unset] [(.ref b1)])
  have Ea_h1 := Ea.ext E1
  have Gc_h1 := Gc.ext E1
  have Gv_h1 := Gv.ext E1
  have Vb_h1 := Vb.ext E1
  have S_c_h1 := S_c.ext E1
  have S_m_h1 := S_m.ext E1
  have S_p_h1 := S_p.ext E1
  have K1 := K0.ext E1
  refine own_go (g' := (mkF m 3 #[.val (.ref a1), .unset] [(.ref a1), (.ref b1)])) (fun t kt => XS.aloadN X1.here hx rfl (hb hby own_d7_2) rfl rfl kt) ?_
  refine own_callVB X1 hx hZ (a := b1) (W := 0) (argsL := [(.ref a1)]) (rest := []) (c1 := 0) (s1 := 0) (Qc := fun v h' L => ((v = some (.int 1) ∧ own_c42 = ([(80 : Int32), (111 : Int32), (115 : Int32), (116 : Int32), (103 : Int32), (114 : Int32), (101 : Int32), (83 : Int32), (81 : Int32), (76 : Int32)] : List Int32)) ∨ (v = some (.int 0) ∧ ¬ own_c42 = ([(80 : Int32), (111 : Int32), (115 : Int32), (116 : Int32), (103 : Int32), (114 : Int32), (101 : Int32), (83 : Int32), (81 : Int32), (76 : Int32)] : List Int32))) ∧ L = [] ∧ h' = h1) hown (hw _ (List.mem_of_getElem? (i := 40) rfl)) (hw _ (List.mem_of_getElem? (i := 41) rfl)) (hw _ (List.mem_of_getElem? (i := 43) rfl)) (hw _ (List.mem_of_getElem? (i := 42) rfl)) (by decide) (StrChars.Road.eqW (W := 0) hZ (fun d hd => hw d (own_we d hd)) (kI := 4) (hw _ (List.mem_of_getElem? (i := 6) rfl)) A1 F1 G1 V1 own_cod42 own_bd42 own_ls42 Ea_h1 Gv_h1 Gc_h1 Vb_h1 own_cd52 own_bb52 (Nat.le_of_ble_eq_true rfl) S_c_h1 hcs (by decide) (by decide)) A1 (g := (mkF m 3 #[.val (.ref a1), .unset] [(.ref a1), (.ref b1)])) rfl (by rw [hml]; rfl) (lenOf own_pd0 rfl) rfl (by show 2 * 0 + _ ≤ _; exact Nat.le_of_eq rfl) (hb hby own_d7_3) e1 (by decide) (by decide) (fun v2 T2 L2 X2 hq2 => ?_)
  obtain ⟨hcs2, rfl, e2⟩ := hq2
  obtain rfl : v2 = some (.int (0 : Int32)) := hcs2.elim (fun q => absurd q.2 own_q42_52) (fun q => q.1)
  have N2 := Fr.app N0 (Fr.nil n0)
  show OEnds _ _ _ _ _ _ T2 (mkF m 6 #[.val (.ref a1), .unset] [(.int (0 : Int32))])
  refine own_go (g' := (mkF m 9 #[.val (.ref a1), .unset] [])) (fun t kt => XS.ifNo X2.here hx rfl (hb hby own_d7_6) rfl ((if0 _ _).trans (teq ((by decide) : (0 : Int32) = (0 : Int32))).2) kt) ?_
  have X2' : Stand p l e _ _ m _ below meth c T2 [] _ _ := X2
  refine own_ldcG X2' hx hZ hown (text := own_t50) (hw _ (List.mem_of_getElem? (i := 53) rfl)) hwS e2 hS hk hkp hI own_n50 hh50 hcw (vs := own_v50) (z := (5 : Int32)) ⟨own_lat50, rfl⟩ (by decide) own_len50 (g := (mkF m 9 #[.val (.ref a1), .unset] [])) rfl (hb hby own_d7_9) (n := 64) own_l450 (by decide) (by decide) (by decide) (fun b3 T3 h3 k3 d3 c3 X3 e3 E3 hS hk hZ hown A3 G3 F3 V3 hI => ?_)
  show OEnds _ _ _ _ _ _ T3 (mkF m 11 #[.val (.ref a1), .unset] [(.ref b3)])
  have Ea_h3 := Ea_h1.ext E3
  have Gc_h3 := Gc_h1.ext E3
  have Gv_h3 := Gv_h1.ext E3
  have Vb_h3 := Vb_h1.ext E3
  have S_c_h3 := S_c_h1.ext E3
  have S_m_h3 := S_m_h1.ext E3
  have S_p_h3 := S_p_h1.ext E3
  have A1_h3 := A1.ext E3
  have G1_h3 := G1.ext E3
  have F1_h3 := F1.ext E3
  have V1_h3 := V1.ext E3
  have K3 := K1.ext E3
  refine own_go (g' := (mkF m 12 #[.val (.ref a1), .unset] [(.ref a1), (.ref b3)])) (fun t kt => XS.aloadN X3.here hx rfl (hb hby own_d7_11) rfl rfl kt) ?_
  refine own_callVB X3 hx hZ (a := b3) (W := 0) (argsL := [(.ref a1)]) (rest := []) (c1 := 0) (s1 := 0) (Qc := fun v h' L => ((v = some (.int 1) ∧ own_c50 = ([(80 : Int32), (111 : Int32), (115 : Int32), (116 : Int32), (103 : Int32), (114 : Int32), (101 : Int32), (83 : Int32), (81 : Int32), (76 : Int32)] : List Int32)) ∨ (v = some (.int 0) ∧ ¬ own_c50 = ([(80 : Int32), (111 : Int32), (115 : Int32), (116 : Int32), (103 : Int32), (114 : Int32), (101 : Int32), (83 : Int32), (81 : Int32), (76 : Int32)] : List Int32))) ∧ L = [] ∧ h' = h3) hown (hw _ (List.mem_of_getElem? (i := 40) rfl)) (hw _ (List.mem_of_getElem? (i := 41) rfl)) (hw _ (List.mem_of_getElem? (i := 43) rfl)) (hw _ (List.mem_of_getElem? (i := 42) rfl)) (by decide) (StrChars.Road.eqW (W := 0) hZ (fun d hd => hw d (own_we d hd)) (kI := 4) (hw _ (List.mem_of_getElem? (i := 6) rfl)) A3 F3 G3 V3 own_cod50 own_bd50 own_ls50 Ea_h3 Gv_h3 Gc_h3 Vb_h3 own_cd52 own_bb52 (Nat.le_of_ble_eq_true rfl) S_c_h3 hcs (by decide) (by decide)) A3 (g := (mkF m 12 #[.val (.ref a1), .unset] [(.ref a1), (.ref b3)])) rfl (by rw [hml]; rfl) (lenOf own_pd0 rfl) rfl (by show 2 * 0 + _ ≤ _; exact Nat.le_of_eq rfl) (hb hby own_d7_12) e3 (by decide) (by decide) (fun v4 T4 L4 X4 hq4 => ?_)
  obtain ⟨hcs4, rfl, e4⟩ := hq4
  obtain rfl : v4 = some (.int (0 : Int32)) := hcs4.elim (fun q => absurd q.2 own_q50_52) (fun q => q.1)
  have N4 := Fr.app N0 (Fr.nil n0)
  show OEnds _ _ _ _ _ _ T4 (mkF m 15 #[.val (.ref a1), .unset] [(.int (0 : Int32))])
  refine own_go (g' := (mkF m 25 #[.val (.ref a1), .unset] [])) (fun t kt => XS.ifYes X4.here hx rfl (pc0 := 15) (pc' := 25) rfl (hb hby own_d7_15) rfl ((if0 _ _).trans (teq ((by decide) : (0 : Int32) = (0 : Int32))).1) (by decide) (by decide) kt) ?_
  have X4' : Stand p l e _ _ m _ below meth c T4 [] _ _ := X4
  refine own_ldcG X4' hx hZ hown (text := own_t52) (hw _ (List.mem_of_getElem? (i := 54) rfl)) hwS e4 hS hk hkp hI own_n52 hh52 hcw (vs := own_v52) (z := (10 : Int32)) ⟨own_lat52, rfl⟩ (by decide) own_len52 (g := (mkF m 25 #[.val (.ref a1), .unset] [])) rfl (hb hby own_d7_25) (n := 64) own_l452 (by decide) (by decide) (by decide) (fun b5 T5 h5 k5 d5 c5 X5 e5 E5 hS hk hZ hown A5 G5 F5 V5 hI => ?_)
  show OEnds _ _ _ _ _ _ T5 (mkF m 27 #[.val (.ref a1), .unset] [(.ref b5)])
  have Ea_h5 := Ea_h3.ext E5
  have Gc_h5 := Gc_h3.ext E5
  have Gv_h5 := Gv_h3.ext E5
  have Vb_h5 := Vb_h3.ext E5
  have S_c_h5 := S_c_h3.ext E5
  have S_m_h5 := S_m_h3.ext E5
  have S_p_h5 := S_p_h3.ext E5
  have A1_h5 := A1_h3.ext E5
  have G1_h5 := G1_h3.ext E5
  have F1_h5 := F1_h3.ext E5
  have V1_h5 := V1_h3.ext E5
  have A3_h5 := A3.ext E5
  have G3_h5 := G3.ext E5
  have F3_h5 := F3.ext E5
  have V3_h5 := V3.ext E5
  have K5 := K3.ext E5
  refine own_go (g' := (mkF m 28 #[.val (.ref a1), .unset] [(.ref a1), (.ref b5)])) (fun t kt => XS.aloadN X5.here hx rfl (hb hby own_d7_27) rfl rfl kt) ?_
  refine own_callVB X5 hx hZ (a := b5) (W := 0) (argsL := [(.ref a1)]) (rest := []) (c1 := 0) (s1 := 0) (Qc := fun v h' L => ((v = some (.int 1) ∧ own_c52 = ([(80 : Int32), (111 : Int32), (115 : Int32), (116 : Int32), (103 : Int32), (114 : Int32), (101 : Int32), (83 : Int32), (81 : Int32), (76 : Int32)] : List Int32)) ∨ (v = some (.int 0) ∧ ¬ own_c52 = ([(80 : Int32), (111 : Int32), (115 : Int32), (116 : Int32), (103 : Int32), (114 : Int32), (101 : Int32), (83 : Int32), (81 : Int32), (76 : Int32)] : List Int32))) ∧ L = [] ∧ h' = h5) hown (hw _ (List.mem_of_getElem? (i := 40) rfl)) (hw _ (List.mem_of_getElem? (i := 41) rfl)) (hw _ (List.mem_of_getElem? (i := 43) rfl)) (hw _ (List.mem_of_getElem? (i := 42) rfl)) (by decide) (StrChars.Road.eqW (W := 0) hZ (fun d hd => hw d (own_we d hd)) (kI := 4) (hw _ (List.mem_of_getElem? (i := 6) rfl)) A5 F5 G5 V5 own_cod52 own_bd52 own_ls52 Ea_h5 Gv_h5 Gc_h5 Vb_h5 own_cd52 own_bb52 (Nat.le_of_ble_eq_true rfl) S_c_h5 hcs (by decide) (by decide)) A5 (g := (mkF m 28 #[.val (.ref a1), .unset] [(.ref a1), (.ref b5)])) rfl (by rw [hml]; rfl) (lenOf own_pd0 rfl) rfl (by show 2 * 0 + _ ≤ _; exact Nat.le_of_eq rfl) (hb hby own_d7_28) e5 (by decide) (by decide) (fun v6 T6 L6 X6 hq6 => ?_)
  obtain ⟨hcs6, rfl, e6⟩ := hq6
  obtain rfl : v6 = some (.int (1 : Int32)) := hcs6.elim (fun q => q.1) (fun q => absurd own_q52_52 q.2)
  have N6 := Fr.app N0 (Fr.nil n0)
  show OEnds _ _ _ _ _ _ T6 (mkF m 31 #[.val (.ref a1), .unset] [(.int (1 : Int32))])
  refine own_go (g' := (mkF m 34 #[.val (.ref a1), .unset] [])) (fun t kt => XS.ifNo X6.here hx rfl (hb hby own_d7_31) rfl ((if0 _ _).trans (feq ((by decide) : ¬ ((1 : Int32) = (0 : Int32)))).1) kt) ?_
  obtain ⟨T7, X7, e7, st7⟩ := getS2 X6 hx hZ hown (host := "") (Or.inl (hw _ (List.mem_of_getElem? (i := 55) rfl))) Via.refl e6 S_p_h5 (g := (mkF m 34 #[.val (.ref a1), .unset] [])) rfl (hb hby own_d7_34)
  refine own_go (T' := T7) (g' := (mkF m 37 #[.val (.ref a1), .unset] [(.ref pg)])) st7 ?_
  refine own_go (g' := (mkF m 38 #[.val (.ref a1), .val (.ref pg)] [])) (fun t kt => XS.astoreN X7.here hx rfl (hb hby own_d7_37) rfl rfl (l' := #[.val (.ref a1), .val (.ref pg)]) rfl kt) ?_
  refine own_go (g' := (mkF m 55 #[.val (.ref a1), .val (.ref pg)] [])) (fun t kt => XS.goto X7.here hx rfl (pc0 := 38) (pc' := 55) rfl (hb hby own_d7_38) (by decide) (by decide) kt) ?_
  refine own_go (g' := (mkF m 56 #[.val (.ref a1), .val (.ref pg)] [(.ref pg)])) (fun t kt => XS.aloadN X7.here hx rfl (hb hby own_d7_55) rfl rfl kt) ?_
  exact own_retAW X7 hx hlk hS hk (t := (.object "com/example/cerrojo/cerrojo/jdbc/Dialect")) rfl hret rfl (hb hby own_d7_56) e7 N6 (by decide) (by decide) (⟨rfl, K5⟩)
theorem own_pd1 : parseMethodDescriptor "([C)V" = some ⟨[(.array .char)], none⟩ := by decide +kernel
theorem own_pd2 : parseMethodDescriptor "(Ljava/lang/String;)Lcom/example/cerrojo/cerrojo/jdbc/Dialect;" = some ⟨[(.object "java/lang/String")], some (.object "com/example/cerrojo/cerrojo/jdbc/Dialect")⟩ := by decide +kernel
theorem own_pn_0 : plainFor x = true := by first | exact plainFor_of_name (by first | (simp [plainName, overriddenIn]; done) | decide +kernel) | decide +kernel
theorem own_ef_own_law (m : MethodId) (x0 : Int32) : entryFrame m #[(.int x0)] maxLocals = mkF m 0 #[.val (.int x0), .unset, .unset, .unset, .unset] [] := by first | (simp [entryFrame, mkF, argsToLocals, Value.category, maxLocals]; done) | rfl
set_option maxRecDepth 65536 in
set_option maxHeartbeats 40000000 in
theorem own_law (l : Launch) (Z : State) (a0 : Array Value) (hw : ∀ d ∈ tables_1, d.before a0 Z = true) (p1 cs : Int32) (md pg : Addr) (h0 : Heap) (eh0 : h0 = Z.heap) (n0 : Nat) (Z0 : n0 ≤ h0.size) (S_c : Sta Z h0 "java/lang/String" "COMPACT_STRINGS" "Z" (.int cs)) (S_m : Sta Z h0 "com/example/cerrojo/cerrojo/jdbc/Dialect" "MARIADB" "Lcom/example/cerrojo/cerrojo/jdbc/Dialect;" (.ref md)) (S_p : Sta Z h0 "com/example/cerrojo/cerrojo/jdbc/Dialect" "POSTGRESQL" "Lcom/example/cerrojo/cerrojo/jdbc/Dialect;" (.ref pg)) (hcs : ¬ cs = 0) (hwS : ∀ a ∈ Bundle.stringAtoms, a.before a0 Z = true) (hcw : Jvm.Lit.compactW.before a0 Z = true) (hh42 : Jvm.Lit.constHeld Z "com/example/cerrojo/cerrojo/jdbc/Dialect" 42) (hh50 : Jvm.Lit.constHeld Z "com/example/cerrojo/cerrojo/jdbc/Dialect" 50) (hh52 : Jvm.Lit.constHeld Z "com/example/cerrojo/cerrojo/jdbc/Dialect" 52) :
    OConW l x code maxLocals ret room_1 Z #[(.int p1)] n0 (fun v h => v = some (.int 1)) := by
  refine own_bodyW own_pn_0 eh0 ?_
  intro p e m below meth c T0 hx hby hml hown hnm hret hlk e0 X0
  replace hml : c.maxLocals = 5 := hml
  replace hown : (Z.setVm Z.vm).vm.findClass "com/example/cerrojo/cerrojo/jdbc/DialectOfPinLaw" = some m.cls := hown
  have hZ : Z.Warmed39 (Z.setVm Z.vm).vm := State.Warmed39.refl Z
  replace hnm : meth.name = "law" := hnm
  have N0 := Fr.nil n0
  have K0 : Keep h0 h0 [] := Keep.refl _ _
  refine own_at (own_ef_own_law m p1) ?_
  refine own_go (g' := (mkF m 1 #[.val (.int p1), .unset, .unset, .unset, .unset] [(.int p1)])) (fun t kt => XS.iloadN X0.here hx rfl (hb hby at_0) rfl kt) ?_
  refine own_go (g' := (mkF m 3 #[.val (.int p1), .unset, .unset, .unset, .unset] [(.int (2147483647 : Int32)), (.int p1)])) (fun t kt => X0.ldcInt hx hown (mvT hZ (hw _ (List.mem_of_getElem? (i := 0) rfl))) (g := (mkF m 1 #[.val (.int p1), .unset, .unset, .unset, .unset] [(.int p1)])) rfl (hb hby at_1) t kt) ?_
  refine own_go (g' := (mkF m 4 #[.val (.int p1), .unset, .unset, .unset, .unset] [(.int (p1 &&& (2147483647 : Int32)))])) (fun t kt => XS.iand X0.here hx rfl (hb hby at_3) rfl kt) ?_
  refine own_go (g' := (mkF m 5 #[.val (.int p1), .unset, .unset, .unset, .unset] [(.int (3 : Int32)), (.int (p1 &&& (2147483647 : Int32)))])) (fun t kt => XS.iconst X0.here hx rfl (hb hby at_4) kt) ?_
  refine own_go (g' := (mkF m 6 #[.val (.int p1), .unset, .unset, .unset, .unset] [(.int ((p1 &&& (2147483647 : Int32)) % (3 : Int32)))])) (fun t kt => iremM X0 hx rfl (hb hby at_5) rfl (by decide) kt) ?_
  refine own_go (g' := (mkF m 7 #[.val (.int p1), .val (.int ((p1 &&& (2147483647 : Int32)) % (3 : Int32))), .unset, .unset, .unset] [])) (fun t kt => XS.istoreN X0.here hx rfl (hb hby at_6) rfl (l' := #[.val (.int p1), .val (.int ((p1 &&& (2147483647 : Int32)) % (3 : Int32))), .unset, .unset, .unset]) rfl kt) ?_
  refine own_let (P := fun y1 => OEnds _ _ _ _ _ _ T0 (mkF m 7 #[.val (.int p1), .val (.int y1), .unset, .unset, .unset] [])) ((p1 &&& (2147483647 : Int32)) % (3 : Int32)) (fun y1 hv_y1 => ?_)
  refine own_go (g' := (mkF m 8 #[.val (.int p1), .val (.int y1), .unset, .unset, .unset] [(.int y1)])) (fun t kt => XS.iloadN X0.here hx rfl (hb hby at_7) rfl kt) ?_
  by_cases hc2 : y1 = (0 : Int32)
  · refine own_go (g' := (mkF m 11 #[.val (.int p1), .val (.int y1), .unset, .unset, .unset] [])) (fun t kt => XS.ifNo X0.here hx rfl (hb hby at_8) rfl ((if0 _ _).trans (teq hc2).2) kt) ?_
    refine own_go (g' := (mkF m 13 #[.val (.int p1), .val (.int y1), .unset, .unset, .unset] [(.int (7 : Int32))])) (fun t kt => XS.bipush X0.here hx rfl (hb hby at_11) kt) ?_
    refine own_newarr X0 hx hZ (hw _ (List.mem_of_getElem? (i := 1) rfl)) e0 (g := (mkF m 13 #[.val (.int p1), .val (.int y1), .unset, .unset, .unset] [(.int (7 : Int32))])) rfl (hb hby at_13) rfl (by decide) (cap := 7) (by decide) (by decide) (by decide) (by decide) (fun T3 h3 b3 k3 g3 X3 e3 E3 V3 => ?_)
    show OEnds _ _ _ _ _ _ T3 (mkF m 15 #[.val (.int p1), .val (.int y1), .unset, .unset, .unset] [(.ref b3)])
    have S_c_h3 := S_c.ext E3
    have S_m_h3 := S_m.ext E3
    have S_p_h3 := S_p.ext E3
    have gz_b3 : h0.size ≤ b3 := Nat.le_trans K0.1 (Nat.le_of_eq g3.symm)
    have ge_b3 : n0 ≤ b3 := Nat.le_trans Z0 gz_b3
    have K3 := K0.ext E3
    replace V3 : Arv Z h3 b3 k3 .char (7 : Int32) [(.int (0 : Int32)), (.int (0 : Int32)), (.int (0 : Int32)), (.int (0 : Int32)), (.int (0 : Int32)), (.int (0 : Int32)), (.int (0 : Int32))] (.int (0 : Int32)) := V3
    refine own_go (g' := (mkF m 16 #[.val (.int p1), .val (.int y1), .unset, .unset, .unset] [(.ref b3), (.ref b3)])) (fun t kt => XS.dup X3.here hx rfl (hb hby at_15) rfl rfl kt) ?_
    refine own_go (g' := (mkF m 17 #[.val (.int p1), .val (.int y1), .unset, .unset, .unset] [(.int (0 : Int32)), (.ref b3), (.ref b3)])) (fun t kt => XS.iconst X3.here hx rfl (hb hby at_16) kt) ?_
    refine own_go (g' := (mkF m 19 #[.val (.int p1), .val (.int y1), .unset, .unset, .unset] [(.int (77 : Int32)), (.int (0 : Int32)), (.ref b3), (.ref b3)])) (fun t kt => XS.bipush X3.here hx rfl (hb hby at_17) kt) ?_
    refine own_castore X3 hx hZ e3 V3 ⟨by decide, by decide⟩ 0 rfl (Nat.le_of_ble_eq_true rfl) N0 ge_b3 (g := (mkF m 19 #[.val (.int p1), .val (.int y1), .unset, .unset, .unset] [(.int (77 : Int32)), (.int (0 : Int32)), (.ref b3), (.ref b3)])) rfl rfl (hb hby at_19) (fun T4 h4 L4 X4 e4 N4 W4 V4 => ?_)
    show OEnds _ _ _ _ _ _ T4 (mkF m 20 #[.val (.int p1), .val (.int y1), .unset, .unset, .unset] [(.ref b3)])
    have S_c_h4 := S_c_h3.wr W4
    have S_m_h4 := S_m_h3.wr W4
    have S_p_h4 := S_p_h3.wr W4
    have K4 := K3.wr W4 (Or.inr gz_b3)
    replace V4 : Arv Z h4 b3 k3 .char (7 : Int32) [(.int (77 : Int32)), (.int (0 : Int32)), (.int (0 : Int32)), (.int (0 : Int32)), (.int (0 : Int32)), (.int (0 : Int32)), (.int (0 : Int32))] (.int (0 : Int32)) := V4
    refine own_go (g' := (mkF m 21 #[.val (.int p1), .val (.int y1), .unset, .unset, .unset] [(.ref b3), (.ref b3)])) (fun t kt => XS.dup X4.here hx rfl (hb hby at_20) rfl rfl kt) ?_
    refine own_go (g' := (mkF m 22 #[.val (.int p1), .val (.int y1), .unset, .unset, .unset] [(.int (1 : Int32)), (.ref b3), (.ref b3)])) (fun t kt => XS.iconst X4.here hx rfl (hb hby at_21) kt) ?_
    refine own_go (g' := (mkF m 24 #[.val (.int p1), .val (.int y1), .unset, .unset, .unset] [(.int (97 : Int32)), (.int (1 : Int32)), (.ref b3), (.ref b3)])) (fun t kt => XS.bipush X4.here hx rfl (hb hby at_22) kt) ?_
    refine own_castore X4 hx hZ e4 V4 ⟨by decide, by decide⟩ 1 rfl (Nat.le_of_ble_eq_true rfl) N4 ge_b3 (g := (mkF m 24 #[.val (.int p1), .val (.int y1), .unset, .unset, .unset] [(.int (97 : Int32)), (.int (1 : Int32)), (.ref b3), (.ref b3)])) rfl rfl (hb hby at_24) (fun T5 h5 L5 X5 e5 N5 W5 V5 => ?_)
    show OEnds _ _ _ _ _ _ T5 (mkF m 25 #[.val (.int p1), .val (.int y1), .unset, .unset, .unset] [(.ref b3)])
    have S_c_h5 := S_c_h4.wr W5
    have S_m_h5 := S_m_h4.wr W5
    have S_p_h5 := S_p_h4.wr W5
    have K5 := K4.wr W5 (Or.inr gz_b3)
    replace V5 : Arv Z h5 b3 k3 .char (7 : Int32) [(.int (77 : Int32)), (.int (97 : Int32)), (.int (0 : Int32)), (.int (0 : Int32)), (.int (0 : Int32)), (.int (0 : Int32)), (.int (0 : Int32))] (.int (0 : Int32)) := V5
    refine own_go (g' := (mkF m 26 #[.val (.int p1), .val (.int y1), .unset, .unset, .unset] [(.ref b3), (.ref b3)])) (fun t kt => XS.dup X5.here hx rfl (hb hby at_25) rfl rfl kt) ?_
    refine own_go (g' := (mkF m 27 #[.val (.int p1), .val (.int y1), .unset, .unset, .unset] [(.int (2 : Int32)), (.ref b3), (.ref b3)])) (fun t kt => XS.iconst X5.here hx rfl (hb hby at_26) kt) ?_
    refine own_go (g' := (mkF m 29 #[.val (.int p1), .val (.int y1), .unset, .unset, .unset] [(.int (114 : Int32)), (.int (2 : Int32)), (.ref b3), (.ref b3)])) (fun t kt => XS.bipush X5.here hx rfl (hb hby at_27) kt) ?_
    refine own_castore X5 hx hZ e5 V5 ⟨by decide, by decide⟩ 2 rfl (Nat.le_of_ble_eq_true rfl) N5 ge_b3 (g := (mkF m 29 #[.val (.int p1), .val (.int y1), .unset, .unset, .unset] [(.int (114 : Int32)), (.int (2 : Int32)), (.ref b3), (.ref b3)])) rfl rfl (hb hby at_29) (fun T6 h6 L6 X6 e6 N6 W6 V6 => ?_)
    show OEnds _ _ _ _ _ _ T6 (mkF m 30 #[.val (.int p1), .val (.int y1), .unset, .unset, .unset] [(.ref b3)])
    have S_c_h6 := S_c_h5.wr W6
    have S_m_h6 := S_m_h5.wr W6
    have S_p_h6 := S_p_h5.wr W6
    have K6 := K5.wr W6 (Or.inr gz_b3)
    replace V6 : Arv Z h6 b3 k3 .char (7 : Int32) [(.int (77 : Int32)), (.int (97 : Int32)), (.int (114 : Int32)), (.int (0 : Int32)), (.int (0 : Int32)), (.int (0 : Int32)), (.int (0 : Int32))] (.int (0 : Int32)) := V6
    refine own_go (g' := (mkF m 31 #[.val (.int p1), .val (.int y1), .unset, .unset, .unset] [(.ref b3), (.ref b3)])) (fun t kt => XS.dup X6.here hx rfl (hb hby at_30) rfl rfl kt) ?_
    refine own_go (g' := (mkF m 32 #[.val (.int p1), .val (.int y1), .unset, .unset, .unset] [(.int (3 : Int32)), (.ref b3), (.ref b3)])) (fun t kt => XS.iconst X6.here hx rfl (hb hby at_31) kt) ?_
    refine own_go (g' := (mkF m 34 #[.val (.int p1), .val (.int y1), .unset, .unset, .unset] [(.int (105 : Int32)), (.int (3 : Int32)), (.ref b3), (.ref b3)])) (fun t kt => XS.bipush X6.here hx rfl (hb hby at_32) kt) ?_
    refine own_castore X6 hx hZ e6 V6 ⟨by decide, by decide⟩ 3 rfl (Nat.le_of_ble_eq_true rfl) N6 ge_b3 (g := (mkF m 34 #[.val (.int p1), .val (.int y1), .unset, .unset, .unset] [(.int (105 : Int32)), (.int (3 : Int32)), (.ref b3), (.ref b3)])) rfl rfl (hb hby at_34) (fun T7 h7 L7 X7 e7 N7 W7 V7 => ?_)
    show OEnds _ _ _ _ _ _ T7 (mkF m 35 #[.val (.int p1), .val (.int y1), .unset, .unset, .unset] [(.ref b3)])
    have S_c_h7 := S_c_h6.wr W7
    have S_m_h7 := S_m_h6.wr W7
    have S_p_h7 := S_p_h6.wr W7
    have K7 := K6.wr W7 (Or.inr gz_b3)
    replace V7 : Arv Z h7 b3 k3 .char (7 : Int32) [(.int (77 : Int32)), (.int (97 : Int32)), (.int (114 : Int32)), (.int (105 : Int32)), (.int (0 : Int32)), (.int (0 : Int32)), (.int (0 : Int32))] (.int (0 : Int32)) := V7
    refine own_go (g' := (mkF m 36 #[.val (.int p1), .val (.int y1), .unset, .unset, .unset] [(.ref b3), (.ref b3)])) (fun t kt => XS.dup X7.here hx rfl (hb hby at_35) rfl rfl kt) ?_
    refine own_go (g' := (mkF m 37 #[.val (.int p1), .val (.int y1), .unset, .unset, .unset] [(.int (4 : Int32)), (.ref b3), (.ref b3)])) (fun t kt => XS.iconst X7.here hx rfl (hb hby at_36) kt) ?_
    refine own_go (g' := (mkF m 39 #[.val (.int p1), .val (.int y1), .unset, .unset, .unset] [(.int (97 : Int32)), (.int (4 : Int32)), (.ref b3), (.ref b3)])) (fun t kt => XS.bipush X7.here hx rfl (hb hby at_37) kt) ?_
    refine own_castore X7 hx hZ e7 V7 ⟨by decide, by decide⟩ 4 rfl (Nat.le_of_ble_eq_true rfl) N7 ge_b3 (g := (mkF m 39 #[.val (.int p1), .val (.int y1), .unset, .unset, .unset] [(.int (97 : Int32)), (.int (4 : Int32)), (.ref b3), (.ref b3)])) rfl rfl (hb hby at_39) (fun T8 h8 L8 X8 e8 N8 W8 V8 => ?_)
    show OEnds _ _ _ _ _ _ T8 (mkF m 40 #[.val (.int p1), .val (.int y1), .unset, .unset, .unset] [(.ref b3)])
    have S_c_h8 := S_c_h7.wr W8
    have S_m_h8 := S_m_h7.wr W8
    have S_p_h8 := S_p_h7.wr W8
    have K8 := K7.wr W8 (Or.inr gz_b3)
    replace V8 : Arv Z h8 b3 k3 .char (7 : Int32) [(.int (77 : Int32)), (.int (97 : Int32)), (.int (114 : Int32)), (.int (105 : Int32)), (.int (97 : Int32)), (.int (0 : Int32)), (.int (0 : Int32))] (.int (0 : Int32)) := V8
    refine own_go (g' := (mkF m 41 #[.val (.int p1), .val (.int y1), .unset, .unset, .unset] [(.ref b3), (.ref b3)])) (fun t kt => XS.dup X8.here hx rfl (hb hby at_40) rfl rfl kt) ?_
    refine own_go (g' := (mkF m 42 #[.val (.int p1), .val (.int y1), .unset, .unset, .unset] [(.int (5 : Int32)), (.ref b3), (.ref b3)])) (fun t kt => XS.iconst X8.here hx rfl (hb hby at_41) kt) ?_
    refine own_go (g' := (mkF m 44 #[.val (.int p1), .val (.int y1), .unset, .unset, .unset] [(.int (68 : Int32)), (.int (5 : Int32)), (.ref b3), (.ref b3)])) (fun t kt => XS.bipush X8.here hx rfl (hb hby at_42) kt) ?_
    refine own_castore X8 hx hZ e8 V8 ⟨by decide, by decide⟩ 5 rfl (Nat.le_of_ble_eq_true rfl) N8 ge_b3 (g := (mkF m 44 #[.val (.int p1), .val (.int y1), .unset, .unset, .unset] [(.int (68 : Int32)), (.int (5 : Int32)), (.ref b3), (.ref b3)])) rfl rfl (hb hby at_44) (fun T9 h9 L9 X9 e9 N9 W9 V9 => ?_)
    show OEnds _ _ _ _ _ _ T9 (mkF m 45 #[.val (.int p1), .val (.int y1), .unset, .unset, .unset] [(.ref b3)])
    have S_c_h9 := S_c_h8.wr W9
    have S_m_h9 := S_m_h8.wr W9
    have S_p_h9 := S_p_h8.wr W9
    have K9 := K8.wr W9 (Or.inr gz_b3)
    replace V9 : Arv Z h9 b3 k3 .char (7 : Int32) [(.int (77 : Int32)), (.int (97 : Int32)), (.int (114 : Int32)), (.int (105 : Int32)), (.int (97 : Int32)), (.int (68 : Int32)), (.int (0 : Int32))] (.int (0 : Int32)) := V9
    refine own_go (g' := (mkF m 46 #[.val (.int p1), .val (.int y1), .unset, .unset, .unset] [(.ref b3), (.ref b3)])) (fun t kt => XS.dup X9.here hx rfl (hb hby at_45) rfl rfl kt) ?_
    refine own_go (g' := (mkF m 48 #[.val (.int p1), .val (.int y1), .unset, .unset, .unset] [(.int (6 : Int32)), (.ref b3), (.ref b3)])) (fun t kt => XS.bipush X9.here hx rfl (hb hby at_46) kt) ?_
    refine own_go (g' := (mkF m 50 #[.val (.int p1), .val (.int y1), .unset, .unset, .unset] [(.int (66 : Int32)), (.int (6 : Int32)), (.ref b3), (.ref b3)])) (fun t kt => XS.bipush X9.here hx rfl (hb hby at_48) kt) ?_
    refine own_castore X9 hx hZ e9 V9 ⟨by decide, by decide⟩ 6 rfl (Nat.le_of_ble_eq_true rfl) N9 ge_b3 (g := (mkF m 50 #[.val (.int p1), .val (.int y1), .unset, .unset, .unset] [(.int (66 : Int32)), (.int (6 : Int32)), (.ref b3), (.ref b3)])) rfl rfl (hb hby at_50) (fun T10 h10 L10 X10 e10 N10 W10 V10 => ?_)
    show OEnds _ _ _ _ _ _ T10 (mkF m 51 #[.val (.int p1), .val (.int y1), .unset, .unset, .unset] [(.ref b3)])
    have S_c_h10 := S_c_h9.wr W10
    have S_m_h10 := S_m_h9.wr W10
    have S_p_h10 := S_p_h9.wr W10
    have K10 := K9.wr W10 (Or.inr gz_b3)
    replace V10 : Arv Z h10 b3 k3 .char (7 : Int32) [(.int (77 : Int32)), (.int (97 : Int32)), (.int (114 : Int32)), (.int (105 : Int32)), (.int (97 : Int32)), (.int (68 : Int32)), (.int (66 : Int32))] (.int (0 : Int32)) := V10
    refine own_go (g' := (mkF m 52 #[.val (.int p1), .val (.int y1), .val (.ref b3), .unset, .unset] [])) (fun t kt => XS.astoreN X10.here hx rfl (hb hby at_51) rfl rfl (l' := #[.val (.int p1), .val (.int y1), .val (.ref b3), .unset, .unset]) rfl kt) ?_
    obtain ⟨T11, X11, e11, st11⟩ := getS2 X10 hx hZ hown (host := "") (Or.inl (hw _ (List.mem_of_getElem? (i := 2) rfl))) Via.refl e10 S_m_h10 (g := (mkF m 52 #[.val (.int p1), .val (.int y1), .val (.ref b3), .unset, .unset] [])) rfl (hb hby at_52)
    refine own_go (T' := T11) (g' := (mkF m 55 #[.val (.int p1), .val (.int y1), .val (.ref b3), .unset, .unset] [(.ref md)])) st11 ?_
    refine own_go (g' := (mkF m 56 #[.val (.int p1), .val (.int y1), .val (.ref b3), .val (.ref md), .unset] [])) (fun t kt => XS.astoreN X11.here hx rfl (hb hby at_55) rfl rfl (l' := #[.val (.int p1), .val (.int y1), .val (.ref b3), .val (.ref md), .unset]) rfl kt) ?_
    refine own_go (g' := (mkF m 163 #[.val (.int p1), .val (.int y1), .val (.ref b3), .val (.ref md), .unset] [])) (fun t kt => XS.goto X11.here hx rfl (pc0 := 56) (pc' := 163) rfl (hb hby at_56) (by decide) (by decide) kt) ?_
    refine own_new X11 hx hZ hown (hw _ (List.mem_of_getElem? (i := 5) rfl)) (hw _ (List.mem_of_getElem? (i := 6) rfl)) (hw _ (List.mem_of_getElem? (i := 7) rfl)) e11 (g := (mkF m 163 #[.val (.int p1), .val (.int y1), .val (.ref b3), .val (.ref md), .unset] [])) rfl (hb hby at_163) (by decide) (by decide) (fun T12 h12 b12 g12 X12 e12 E12 A12 D12 => ?_)
    show OEnds _ _ _ _ _ _ T12 (mkF m 166 #[.val (.int p1), .val (.int y1), .val (.ref b3), .val (.ref md), .unset] [(.ref b12)])
    have ne_b3_b12 : b3 ≠ b12 := Nat.ne_of_lt (Nat.lt_of_lt_of_le V10.lt (Nat.le_of_eq g12.symm))
    have S_c_h12 := S_c_h10.ext E12
    have S_m_h12 := S_m_h10.ext E12
    have S_p_h12 := S_p_h10.ext E12
    have V10_h12 := V10.ext E12
    have gz_b12 : h0.size ≤ b12 := Nat.le_trans K10.1 (Nat.le_of_eq g12.symm)
    have ge_b12 : n0 ≤ b12 := Nat.le_trans Z0 gz_b12
    have K12 := K10.ext E12
    have F12_coder : Fld Z h12 b12 "java/lang/String" "coder" "B" (.int (0 : Int32)) := D12 (Or.inr (hw _ (List.mem_of_getElem? (i := 31) rfl))) (ty := .byte) (by decide)
    have F12_value : Fld Z h12 b12 "java/lang/String" "value" "[B" .null := D12 (Or.inr (hw _ (List.mem_of_getElem? (i := 33) rfl))) (ty := (.array .byte)) (by decide)
    refine own_go (g' := (mkF m 167 #[.val (.int p1), .val (.int y1), .val (.ref b3), .val (.ref md), .unset] [(.ref b12), (.ref b12)])) (fun t kt => XS.dup X12.here hx rfl (hb hby at_166) rfl rfl kt) ?_
    refine own_go (g' := (mkF m 168 #[.val (.int p1), .val (.int y1), .val (.ref b3), .val (.ref md), .unset] [(.ref b3), (.ref b12), (.ref b12)])) (fun t kt => XS.aloadN X12.here hx rfl (hb hby at_167) rfl rfl kt) ?_
    have hp13 : ∀ c ∈ ([(77 : Int32), (97 : Int32), (114 : Int32), (105 : Int32), (97 : Int32), (68 : Int32), (66 : Int32)] : List Int32), ¬ c < 0 ∧ ¬ (255 : Int32) < c := (by decide)
    refine own_callCB X12 hx hZ (a := b12) (W := 1) (argsL := [(.ref b3)]) (rest := [(.ref b12)]) (c1 := 1) (s1 := 7) (Qc := fun v h' L => StrChars.Road.QV Z b12 (7 : Int32) (([(77 : Int32), (97 : Int32), (114 : Int32), (105 : Int32), (97 : Int32), (68 : Int32), (66 : Int32)] : List Int32).map (fun c => c.toInt8.toInt32)) h12 n0 v h' L) rfl hown (hw _ (List.mem_of_getElem? (i := 8) rfl)) (hw _ (List.mem_of_getElem? (i := 9) rfl)) (hw _ (List.mem_of_getElem? (i := 10) rfl)) (by decide) (StrChars.Road.backV (W := 1) hZ (fun d hd => hw d (own_wi d hd)) (kI := 4) (hw _ (List.mem_of_getElem? (i := 6) rfl)) (cs := ([(77 : Int32), (97 : Int32), (114 : Int32), (105 : Int32), (97 : Int32), (68 : Int32), (66 : Int32)] : List Int32)) (bs := (([(77 : Int32), (97 : Int32), (114 : Int32), (105 : Int32), (97 : Int32), (68 : Int32), (66 : Int32)] : List Int32).map (fun c => c.toInt8.toInt32))) (n := 7) ge_b12 (Nat.le_trans Z0 K12.1) A12 F12_value F12_coder V10_h12 S_c_h12 hcs rfl rfl (by decide) (by decide) hp13 rfl (by decide) (by decide)) (g := (mkF m 168 #[.val (.int p1), .val (.int y1), .val (.ref b3), .val (.ref md), .unset] [(.ref b3), (.ref b12), (.ref b12)])) rfl (by rw [hml]; rfl) (lenOf own_pd1 rfl) rfl (by show 2 * 0 + _ ≤ _; exact Nat.le_of_eq rfl) (hb hby at_168) e12 (by decide) (by decide) (fun v13 T13 L13 X13 hq13 => ?_)
    obtain ⟨rfl, M13, Kc13, A13, G13, t13, c13, ge_t13, gy_t13, ny_t13, F13, V13⟩ := hq13
    have N13 := Fr.app N10 M13
    have ne_b3_t13 : b3 ≠ t13 := Nat.ne_of_lt (Nat.lt_of_lt_of_le V10_h12.lt gy_t13)
    have ne_b12_t13 : b12 ≠ t13 := Nat.ne_of_lt (Nat.lt_of_lt_of_le A12.lt gy_t13)
    have gz_t13 : h0.size ≤ t13 := Nat.le_trans K12.1 gy_t13
    have V10_h13 := V10_h12.keep Kc13 (ninS ne_b3_b12 nin0)
    have K13 := K12.trans Kc13 (allS (Or.inr gz_b12) all0)
    have S_c_h13 := S_c.ext (own_kext K13)
    have S_m_h13 := S_m.ext (own_kext K13)
    have S_p_h13 := S_p.ext (own_kext K13)
    have hcd13 := StrChars.Road.codOf (cs := ([(77 : Int32), (97 : Int32), (114 : Int32), (105 : Int32), (97 : Int32), (68 : Int32), (66 : Int32)] : List Int32)) (n := 7) rfl (fun c hc => (hp13 c hc).2)
    have hbd13 := own_up _ hp13
    show OEnds _ _ _ _ _ _ T13 (mkF m 171 #[.val (.int p1), .val (.int y1), .val (.ref b3), .val (.ref md), .unset] [(.ref b12)])
    refine own_callSW X13 hx hZ rfl (W := 0) (argsL := [(.ref b12)]) (rest := []) hown (hw _ (List.mem_of_getElem? (i := 34) rfl)) (hw _ (List.mem_of_getElem? (i := 35) rfl)) (hw _ (List.mem_of_getElem? (i := 3) rfl)) (hw _ (List.mem_of_getElem? (i := 36) rfl)) (by decide) (own_of42 l Z a0 hw b12 t13 md pg c13 cs T13.heap n0 (Nat.le_trans Z0 K13.1) A13 G13 F13 V13 S_c_h13 S_m_h13 S_p_h13 hcs (by rw [← eh0]; exact (own_kext K13).2) hwS hcw hh42 hh50 hh52) (by decide) (by decide) (g := (mkF m 171 #[.val (.int p1), .val (.int y1), .val (.ref b3), .val (.ref md), .unset] [(.ref b12)])) rfl (by rw [hml]; rfl) (lenOf own_pd2 rfl) rfl (by show 2 * 0 + _ ≤ _; exact Nat.le_of_eq rfl) (hb hby at_171) rfl N13 (by decide) (by decide) (fun v14 T14 L14 X14 hS N14 hq14 => ?_)
    obtain ⟨rfl, Kc14⟩ := hq14
    show OEnds _ _ _ _ _ _ T14 (mkF m 174 #[.val (.int p1), .val (.int y1), .val (.ref b3), .val (.ref md), .unset] [(.ref md)])
    refine own_go (g' := (mkF m 176 #[.val (.int p1), .val (.int y1), .val (.ref b3), .val (.ref md), .val (.ref md)] [])) (fun t kt => XS.astore X14.here hx rfl (hb hby at_174) rfl rfl (l' := #[.val (.int p1), .val (.int y1), .val (.ref b3), .val (.ref md), .val (.ref md)]) rfl kt) ?_
    refine own_go (g' := (mkF m 178 #[.val (.int p1), .val (.int y1), .val (.ref b3), .val (.ref md), .val (.ref md)] [(.ref md)])) (fun t kt => XS.aload X14.here hx rfl (hb hby at_176) rfl rfl kt) ?_
    refine own_go (g' := (mkF m 179 #[.val (.int p1), .val (.int y1), .val (.ref b3), .val (.ref md), .val (.ref md)] [(.ref md), (.ref md)])) (fun t kt => XS.aloadN X14.here hx rfl (hb hby at_178) rfl rfl kt) ?_
    refine own_go (g' := (mkF m 182 #[.val (.int p1), .val (.int y1), .val (.ref b3), .val (.ref md), .val (.ref md)] [])) (fun t kt => Jvm.RoadKit.acmp (g := (mkF m 179 #[.val (.int p1), .val (.int y1), .val (.ref b3), .val (.ref md), .val (.ref md)] [(.ref md), (.ref md)])) X14 hx rfl rfl rfl (pc0 := 179) (pc' := 182) (same := true) rfl (hb hby at_179) rfl (decide_eq_true rfl) (by decide) (by decide) kt) ?_
    refine own_go (g' := (mkF m 183 #[.val (.int p1), .val (.int y1), .val (.ref b3), .val (.ref md), .val (.ref md)] [(.int (1 : Int32))])) (fun t kt => XS.iconst X14.here hx rfl (hb hby at_182) kt) ?_
    refine own_go (g' := (mkF m 187 #[.val (.int p1), .val (.int y1), .val (.ref b3), .val (.ref md), .val (.ref md)] [(.int (1 : Int32))])) (fun t kt => XS.goto X14.here hx rfl (pc0 := 183) (pc' := 187) rfl (hb hby at_183) (by decide) (by decide) kt) ?_
    exact own_retNW X14 hx hlk hS (Nat.le_refl _) (t := .boolean) (z' := (1 : Int32)) hret (by simp) (hb hby at_187) rfl rfl N14 (by decide) (by decide) (rfl)
  · refine own_go (g' := (mkF m 59 #[.val (.int p1), .val (.int y1), .unset, .unset, .unset] [])) (fun t kt => XS.ifYes X0.here hx rfl (pc0 := 8) (pc' := 59) rfl (hb hby at_8) rfl ((if0 _ _).trans (feq hc2).2) (by decide) (by decide) kt) ?_
    refine own_go (g' := (mkF m 60 #[.val (.int p1), .val (.int y1), .unset, .unset, .unset] [(.int y1)])) (fun t kt => XS.iloadN X0.here hx rfl (hb hby at_59) rfl kt) ?_
    refine own_go (g' := (mkF m 61 #[.val (.int p1), .val (.int y1), .unset, .unset, .unset] [(.int (1 : Int32)), (.int y1)])) (fun t kt => XS.iconst X0.here hx rfl (hb hby at_60) kt) ?_
    by_cases hc15 : y1 = (1 : Int32)
    · refine own_go (g' := (mkF m 64 #[.val (.int p1), .val (.int y1), .unset, .unset, .unset] [])) (fun t kt => XS.icmpNo X0.here hx rfl (hb hby at_61) rfl (teq hc15).2 kt) ?_
      refine own_go (g' := (mkF m 65 #[.val (.int p1), .val (.int y1), .unset, .unset, .unset] [(.int (5 : Int32))])) (fun t kt => XS.iconst X0.here hx rfl (hb hby at_64) kt) ?_
      refine own_newarr X0 hx hZ (hw _ (List.mem_of_getElem? (i := 1) rfl)) e0 (g := (mkF m 65 #[.val (.int p1), .val (.int y1), .unset, .unset, .unset] [(.int (5 : Int32))])) rfl (hb hby at_65) rfl (by decide) (cap := 5) (by decide) (by decide) (by decide) (by decide) (fun T16 h16 b16 k16 g16 X16 e16 E16 V16 => ?_)
      show OEnds _ _ _ _ _ _ T16 (mkF m 67 #[.val (.int p1), .val (.int y1), .unset, .unset, .unset] [(.ref b16)])
      have S_c_h16 := S_c.ext E16
      have S_m_h16 := S_m.ext E16
      have S_p_h16 := S_p.ext E16
      have gz_b16 : h0.size ≤ b16 := Nat.le_trans K0.1 (Nat.le_of_eq g16.symm)
      have ge_b16 : n0 ≤ b16 := Nat.le_trans Z0 gz_b16
      have K16 := K0.ext E16
      replace V16 : Arv Z h16 b16 k16 .char (5 : Int32) [(.int (0 : Int32)), (.int (0 : Int32)), (.int (0 : Int32)), (.int (0 : Int32)), (.int (0 : Int32))] (.int (0 : Int32)) := V16
      refine own_go (g' := (mkF m 68 #[.val (.int p1), .val (.int y1), .unset, .unset, .unset] [(.ref b16), (.ref b16)])) (fun t kt => XS.dup X16.here hx rfl (hb hby at_67) rfl rfl kt) ?_
      refine own_go (g' := (mkF m 69 #[.val (.int p1), .val (.int y1), .unset, .unset, .unset] [(.int (0 : Int32)), (.ref b16), (.ref b16)])) (fun t kt => XS.iconst X16.here hx rfl (hb hby at_68) kt) ?_
      refine own_go (g' := (mkF m 71 #[.val (.int p1), .val (.int y1), .unset, .unset, .unset] [(.int (77 : Int32)), (.int (0 : Int32)), (.ref b16), (.ref b16)])) (fun t kt => XS.bipush X16.here hx rfl (hb hby at_69) kt) ?_
      refine own_castore X16 hx hZ e16 V16 ⟨by decide, by decide⟩ 0 rfl (Nat.le_of_ble_eq_true rfl) N0 ge_b16 (g := (mkF m 71 #[.val (.int p1), .val (.int y1), .unset, .unset, .unset] [(.int (77 : Int32)), (.int (0 : Int32)), (.ref b16), (.ref b16)])) rfl rfl (hb hby at_71) (fun T17 h17 L17 X17 e17 N17 W17 V17 => ?_)
      show OEnds _ _ _ _ _ _ T17 (mkF m 72 #[.val (.int p1), .val (.int y1), .unset, .unset, .unset] [(.ref b16)])
      have S_c_h17 := S_c_h16.wr W17
      have S_m_h17 := S_m_h16.wr W17
      have S_p_h17 := S_p_h16.wr W17
      have K17 := K16.wr W17 (Or.inr gz_b16)
      replace V17 : Arv Z h17 b16 k16 .char (5 : Int32) [(.int (77 : Int32)), (.int (0 : Int32)), (.int (0 : Int32)), (.int (0 : Int32)), (.int (0 : Int32))] (.int (0 : Int32)) := V17
      refine own_go (g' := (mkF m 73 #[.val (.int p1), .val (.int y1), .unset, .unset, .unset] [(.ref b16), (.ref b16)])) (fun t kt => XS.dup X17.here hx rfl (hb hby at_72) rfl rfl kt) ?_
      refine own_go (g' := (mkF m 74 #[.val (.int p1), .val (.int y1), .unset, .unset, .unset] [(.int (1 : Int32)), (.ref b16), (.ref b16)])) (fun t kt => XS.iconst X17.here hx rfl (hb hby at_73) kt) ?_
      refine own_go (g' := (mkF m 76 #[.val (.int p1), .val (.int y1), .unset, .unset, .unset] [(.int (121 : Int32)), (.int (1 : Int32)), (.ref b16), (.ref b16)])) (fun t kt => XS.bipush X17.here hx rfl (hb hby at_74) kt) ?_
      refine own_castore X17 hx hZ e17 V17 ⟨by decide, by decide⟩ 1 rfl (Nat.le_of_ble_eq_true rfl) N17 ge_b16 (g := (mkF m 76 #[.val (.int p1), .val (.int y1), .unset, .unset, .unset] [(.int (121 : Int32)), (.int (1 : Int32)), (.ref b16), (.ref b16)])) rfl rfl (hb hby at_76) (fun T18 h18 L18 X18 e18 N18 W18 V18 => ?_)
      show OEnds _ _ _ _ _ _ T18 (mkF m 77 #[.val (.int p1), .val (.int y1), .unset, .unset, .unset] [(.ref b16)])
      have S_c_h18 := S_c_h17.wr W18
      have S_m_h18 := S_m_h17.wr W18
      have S_p_h18 := S_p_h17.wr W18
      have K18 := K17.wr W18 (Or.inr gz_b16)
      replace V18 : Arv Z h18 b16 k16 .char (5 : Int32) [(.int (77 : Int32)), (.int (121 : Int32)), (.int (0 : Int32)), (.int (0 : Int32)), (.int (0 : Int32))] (.int (0 : Int32)) := V18
      refine own_go (g' := (mkF m 78 #[.val (.int p1), .val (.int y1), .unset, .unset, .unset] [(.ref b16), (.ref b16)])) (fun t kt => XS.dup X18.here hx rfl (hb hby at_77) rfl rfl kt) ?_
      refine own_go (g' := (mkF m 79 #[.val (.int p1), .val (.int y1), .unset, .unset, .unset] [(.int (2 : Int32)), (.ref b16), (.ref b16)])) (fun t kt => XS.iconst X18.here hx rfl (hb hby at_78) kt) ?_
      refine own_go (g' := (mkF m 81 #[.val (.int p1), .val (.int y1), .unset, .unset, .unset] [(.int (83 : Int32)), (.int (2 : Int32)), (.ref b16), (.ref b16)])) (fun t kt => XS.bipush X18.here hx rfl (hb hby at_79) kt) ?_
      refine own_castore X18 hx hZ e18 V18 ⟨by decide, by decide⟩ 2 rfl (Nat.le_of_ble_eq_true rfl) N18 ge_b16 (g := (mkF m 81 #[.val (.int p1), .val (.int y1), .unset, .unset, .unset] [(.int (83 : Int32)), (.int (2 : Int32)), (.ref b16), (.ref b16)])) rfl rfl (hb hby at_81) (fun T19 h19 L19 X19 e19 N19 W19 V19 => ?_)
      show OEnds _ _ _ _ _ _ T19 (mkF m 82 #[.val (.int p1), .val (.int y1), .unset, .unset, .unset] [(.ref b16)])
      have S_c_h19 := S_c_h18.wr W19
      have S_m_h19 := S_m_h18.wr W19
      have S_p_h19 := S_p_h18.wr W19
      have K19 := K18.wr W19 (Or.inr gz_b16)
      replace V19 : Arv Z h19 b16 k16 .char (5 : Int32) [(.int (77 : Int32)), (.int (121 : Int32)), (.int (83 : Int32)), (.int (0 : Int32)), (.int (0 : Int32))] (.int (0 : Int32)) := V19
      refine own_go (g' := (mkF m 83 #[.val (.int p1), .val (.int y1), .unset, .unset, .unset] [(.ref b16), (.ref b16)])) (fun t kt => XS.dup X19.here hx rfl (hb hby at_82) rfl rfl kt) ?_
      refine own_go (g' := (mkF m 84 #[.val (.int p1), .val (.int y1), .unset, .unset, .unset] [(.int (3 : Int32)), (.ref b16), (.ref b16)])) (fun t kt => XS.iconst X19.here hx rfl (hb hby at_83) kt) ?_
      refine own_go (g' := (mkF m 86 #[.val (.int p1), .val (.int y1), .unset, .unset, .unset] [(.int (81 : Int32)), (.int (3 : Int32)), (.ref b16), (.ref b16)])) (fun t kt => XS.bipush X19.here hx rfl (hb hby at_84) kt) ?_
      refine own_castore X19 hx hZ e19 V19 ⟨by decide, by decide⟩ 3 rfl (Nat.le_of_ble_eq_true rfl) N19 ge_b16 (g := (mkF m 86 #[.val (.int p1), .val (.int y1), .unset, .unset, .unset] [(.int (81 : Int32)), (.int (3 : Int32)), (.ref b16), (.ref b16)])) rfl rfl (hb hby at_86) (fun T20 h20 L20 X20 e20 N20 W20 V20 => ?_)
      show OEnds _ _ _ _ _ _ T20 (mkF m 87 #[.val (.int p1), .val (.int y1), .unset, .unset, .unset] [(.ref b16)])
      have S_c_h20 := S_c_h19.wr W20
      have S_m_h20 := S_m_h19.wr W20
      have S_p_h20 := S_p_h19.wr W20
      have K20 := K19.wr W20 (Or.inr gz_b16)
      replace V20 : Arv Z h20 b16 k16 .char (5 : Int32) [(.int (77 : Int32)), (.int (121 : Int32)), (.int (83 : Int32)), (.int (81 : Int32)), (.int (0 : Int32))] (.int (0 : Int32)) := V20
      refine own_go (g' := (mkF m 88 #[.val (.int p1), .val (.int y1), .unset, .unset, .unset] [(.ref b16), (.ref b16)])) (fun t kt => XS.dup X20.here hx rfl (hb hby at_87) rfl rfl kt) ?_
      refine own_go (g' := (mkF m 89 #[.val (.int p1), .val (.int y1), .unset, .unset, .unset] [(.int (4 : Int32)), (.ref b16), (.ref b16)])) (fun t kt => XS.iconst X20.here hx rfl (hb hby at_88) kt) ?_
      refine own_go (g' := (mkF m 91 #[.val (.int p1), .val (.int y1), .unset, .unset, .unset] [(.int (76 : Int32)), (.int (4 : Int32)), (.ref b16), (.ref b16)])) (fun t kt => XS.bipush X20.here hx rfl (hb hby at_89) kt) ?_
      refine own_castore X20 hx hZ e20 V20 ⟨by decide, by decide⟩ 4 rfl (Nat.le_of_ble_eq_true rfl) N20 ge_b16 (g := (mkF m 91 #[.val (.int p1), .val (.int y1), .unset, .unset, .unset] [(.int (76 : Int32)), (.int (4 : Int32)), (.ref b16), (.ref b16)])) rfl rfl (hb hby at_91) (fun T21 h21 L21 X21 e21 N21 W21 V21 => ?_)
      show OEnds _ _ _ _ _ _ T21 (mkF m 92 #[.val (.int p1), .val (.int y1), .unset, .unset, .unset] [(.ref b16)])
      have S_c_h21 := S_c_h20.wr W21
      have S_m_h21 := S_m_h20.wr W21
      have S_p_h21 := S_p_h20.wr W21
      have K21 := K20.wr W21 (Or.inr gz_b16)
      replace V21 : Arv Z h21 b16 k16 .char (5 : Int32) [(.int (77 : Int32)), (.int (121 : Int32)), (.int (83 : Int32)), (.int (81 : Int32)), (.int (76 : Int32))] (.int (0 : Int32)) := V21
      refine own_go (g' := (mkF m 93 #[.val (.int p1), .val (.int y1), .val (.ref b16), .unset, .unset] [])) (fun t kt => XS.astoreN X21.here hx rfl (hb hby at_92) rfl rfl (l' := #[.val (.int p1), .val (.int y1), .val (.ref b16), .unset, .unset]) rfl kt) ?_
      obtain ⟨T22, X22, e22, st22⟩ := getS2 X21 hx hZ hown (host := "") (Or.inl (hw _ (List.mem_of_getElem? (i := 2) rfl))) Via.refl e21 S_m_h21 (g := (mkF m 93 #[.val (.int p1), .val (.int y1), .val (.ref b16), .unset, .unset] [])) rfl (hb hby at_93)
      refine own_go (T' := T22) (g' := (mkF m 96 #[.val (.int p1), .val (.int y1), .val (.ref b16), .unset, .unset] [(.ref md)])) st22 ?_
      refine own_go (g' := (mkF m 97 #[.val (.int p1), .val (.int y1), .val (.ref b16), .val (.ref md), .unset] [])) (fun t kt => XS.astoreN X22.here hx rfl (hb hby at_96) rfl rfl (l' := #[.val (.int p1), .val (.int y1), .val (.ref b16), .val (.ref md), .unset]) rfl kt) ?_
      refine own_go (g' := (mkF m 163 #[.val (.int p1), .val (.int y1), .val (.ref b16), .val (.ref md), .unset] [])) (fun t kt => XS.goto X22.here hx rfl (pc0 := 97) (pc' := 163) rfl (hb hby at_97) (by decide) (by decide) kt) ?_
      refine own_new X22 hx hZ hown (hw _ (List.mem_of_getElem? (i := 5) rfl)) (hw _ (List.mem_of_getElem? (i := 6) rfl)) (hw _ (List.mem_of_getElem? (i := 7) rfl)) e22 (g := (mkF m 163 #[.val (.int p1), .val (.int y1), .val (.ref b16), .val (.ref md), .unset] [])) rfl (hb hby at_163) (by decide) (by decide) (fun T23 h23 b23 g23 X23 e23 E23 A23 D23 => ?_)
      show OEnds _ _ _ _ _ _ T23 (mkF m 166 #[.val (.int p1), .val (.int y1), .val (.ref b16), .val (.ref md), .unset] [(.ref b23)])
      have ne_b16_b23 : b16 ≠ b23 := Nat.ne_of_lt (Nat.lt_of_lt_of_le V21.lt (Nat.le_of_eq g23.symm))
      have S_c_h23 := S_c_h21.ext E23
      have S_m_h23 := S_m_h21.ext E23
      have S_p_h23 := S_p_h21.ext E23
      have V21_h23 := V21.ext E23
      have gz_b23 : h0.size ≤ b23 := Nat.le_trans K21.1 (Nat.le_of_eq g23.symm)
      have ge_b23 : n0 ≤ b23 := Nat.le_trans Z0 gz_b23
      have K23 := K21.ext E23
      have F23_coder : Fld Z h23 b23 "java/lang/String" "coder" "B" (.int (0 : Int32)) := D23 (Or.inr (hw _ (List.mem_of_getElem? (i := 31) rfl))) (ty := .byte) (by decide)
      have F23_value : Fld Z h23 b23 "java/lang/String" "value" "[B" .null := D23 (Or.inr (hw _ (List.mem_of_getElem? (i := 33) rfl))) (ty := (.array .byte)) (by decide)
      refine own_go (g' := (mkF m 167 #[.val (.int p1), .val (.int y1), .val (.ref b16), .val (.ref md), .unset] [(.ref b23), (.ref b23)])) (fun t kt => XS.dup X23.here hx rfl (hb hby at_166) rfl rfl kt) ?_
      refine own_go (g' := (mkF m 168 #[.val (.int p1), .val (.int y1), .val (.ref b16), .val (.ref md), .unset] [(.ref b16), (.ref b23), (.ref b23)])) (fun t kt => XS.aloadN X23.here hx rfl (hb hby at_167) rfl rfl kt) ?_
      have hp24 : ∀ c ∈ ([(77 : Int32), (121 : Int32), (83 : Int32), (81 : Int32), (76 : Int32)] : List Int32), ¬ c < 0 ∧ ¬ (255 : Int32) < c := (by decide)
      refine own_callCB X23 hx hZ (a := b23) (W := 1) (argsL := [(.ref b16)]) (rest := [(.ref b23)]) (c1 := 1) (s1 := 5) (Qc := fun v h' L => StrChars.Road.QV Z b23 (5 : Int32) (([(77 : Int32), (121 : Int32), (83 : Int32), (81 : Int32), (76 : Int32)] : List Int32).map (fun c => c.toInt8.toInt32)) h23 n0 v h' L) rfl hown (hw _ (List.mem_of_getElem? (i := 8) rfl)) (hw _ (List.mem_of_getElem? (i := 9) rfl)) (hw _ (List.mem_of_getElem? (i := 10) rfl)) (by decide) (StrChars.Road.backV (W := 1) hZ (fun d hd => hw d (own_wi d hd)) (kI := 4) (hw _ (List.mem_of_getElem? (i := 6) rfl)) (cs := ([(77 : Int32), (121 : Int32), (83 : Int32), (81 : Int32), (76 : Int32)] : List Int32)) (bs := (([(77 : Int32), (121 : Int32), (83 : Int32), (81 : Int32), (76 : Int32)] : List Int32).map (fun c => c.toInt8.toInt32))) (n := 5) ge_b23 (Nat.le_trans Z0 K23.1) A23 F23_value F23_coder V21_h23 S_c_h23 hcs rfl rfl (by decide) (by decide) hp24 rfl (by decide) (by decide)) (g := (mkF m 168 #[.val (.int p1), .val (.int y1), .val (.ref b16), .val (.ref md), .unset] [(.ref b16), (.ref b23), (.ref b23)])) rfl (by rw [hml]; rfl) (lenOf own_pd1 rfl) rfl (by show 2 * 0 + _ ≤ _; exact Nat.le_of_eq rfl) (hb hby at_168) e23 (by decide) (by decide) (fun v24 T24 L24 X24 hq24 => ?_)
      obtain ⟨rfl, M24, Kc24, A24, G24, t24, c24, ge_t24, gy_t24, ny_t24, F24, V24⟩ := hq24
      have N24 := Fr.app N21 M24
      have ne_b16_t24 : b16 ≠ t24 := Nat.ne_of_lt (Nat.lt_of_lt_of_le V21_h23.lt gy_t24)
      have ne_b23_t24 : b23 ≠ t24 := Nat.ne_of_lt (Nat.lt_of_lt_of_le A23.lt gy_t24)
      have gz_t24 : h0.size ≤ t24 := Nat.le_trans K23.1 gy_t24
      have V21_h24 := V21_h23.keep Kc24 (ninS ne_b16_b23 nin0)
      have K24 := K23.trans Kc24 (allS (Or.inr gz_b23) all0)
      have S_c_h24 := S_c.ext (own_kext K24)
      have S_m_h24 := S_m.ext (own_kext K24)
      have S_p_h24 := S_p.ext (own_kext K24)
      have hcd24 := StrChars.Road.codOf (cs := ([(77 : Int32), (121 : Int32), (83 : Int32), (81 : Int32), (76 : Int32)] : List Int32)) (n := 5) rfl (fun c hc => (hp24 c hc).2)
      have hbd24 := own_up _ hp24
      show OEnds _ _ _ _ _ _ T24 (mkF m 171 #[.val (.int p1), .val (.int y1), .val (.ref b16), .val (.ref md), .unset] [(.ref b23)])
      refine own_callSW X24 hx hZ rfl (W := 0) (argsL := [(.ref b23)]) (rest := []) hown (hw _ (List.mem_of_getElem? (i := 34) rfl)) (hw _ (List.mem_of_getElem? (i := 35) rfl)) (hw _ (List.mem_of_getElem? (i := 3) rfl)) (hw _ (List.mem_of_getElem? (i := 36) rfl)) (by decide) (own_of50 l Z a0 hw b23 t24 md pg c24 cs T24.heap n0 (Nat.le_trans Z0 K24.1) A24 G24 F24 V24 S_c_h24 S_m_h24 S_p_h24 hcs (by rw [← eh0]; exact (own_kext K24).2) hwS hcw hh42 hh50 hh52) (by decide) (by decide) (g := (mkF m 171 #[.val (.int p1), .val (.int y1), .val (.ref b16), .val (.ref md), .unset] [(.ref b23)])) rfl (by rw [hml]; rfl) (lenOf own_pd2 rfl) rfl (by show 2 * 0 + _ ≤ _; exact Nat.le_of_eq rfl) (hb hby at_171) rfl N24 (by decide) (by decide) (fun v25 T25 L25 X25 hS N25 hq25 => ?_)
      obtain ⟨rfl, Kc25⟩ := hq25
      show OEnds _ _ _ _ _ _ T25 (mkF m 174 #[.val (.int p1), .val (.int y1), .val (.ref b16), .val (.ref md), .unset] [(.ref md)])
      refine own_go (g' := (mkF m 176 #[.val (.int p1), .val (.int y1), .val (.ref b16), .val (.ref md), .val (.ref md)] [])) (fun t kt => XS.astore X25.here hx rfl (hb hby at_174) rfl rfl (l' := #[.val (.int p1), .val (.int y1), .val (.ref b16), .val (.ref md), .val (.ref md)]) rfl kt) ?_
      refine own_go (g' := (mkF m 178 #[.val (.int p1), .val (.int y1), .val (.ref b16), .val (.ref md), .val (.ref md)] [(.ref md)])) (fun t kt => XS.aload X25.here hx rfl (hb hby at_176) rfl rfl kt) ?_
      refine own_go (g' := (mkF m 179 #[.val (.int p1), .val (.int y1), .val (.ref b16), .val (.ref md), .val (.ref md)] [(.ref md), (.ref md)])) (fun t kt => XS.aloadN X25.here hx rfl (hb hby at_178) rfl rfl kt) ?_
      refine own_go (g' := (mkF m 182 #[.val (.int p1), .val (.int y1), .val (.ref b16), .val (.ref md), .val (.ref md)] [])) (fun t kt => Jvm.RoadKit.acmp (g := (mkF m 179 #[.val (.int p1), .val (.int y1), .val (.ref b16), .val (.ref md), .val (.ref md)] [(.ref md), (.ref md)])) X25 hx rfl rfl rfl (pc0 := 179) (pc' := 182) (same := true) rfl (hb hby at_179) rfl (decide_eq_true rfl) (by decide) (by decide) kt) ?_
      refine own_go (g' := (mkF m 183 #[.val (.int p1), .val (.int y1), .val (.ref b16), .val (.ref md), .val (.ref md)] [(.int (1 : Int32))])) (fun t kt => XS.iconst X25.here hx rfl (hb hby at_182) kt) ?_
      refine own_go (g' := (mkF m 187 #[.val (.int p1), .val (.int y1), .val (.ref b16), .val (.ref md), .val (.ref md)] [(.int (1 : Int32))])) (fun t kt => XS.goto X25.here hx rfl (pc0 := 183) (pc' := 187) rfl (hb hby at_183) (by decide) (by decide) kt) ?_
      exact own_retNW X25 hx hlk hS (Nat.le_refl _) (t := .boolean) (z' := (1 : Int32)) hret (by simp) (hb hby at_187) rfl rfl N25 (by decide) (by decide) (rfl)
    · refine own_go (g' := (mkF m 100 #[.val (.int p1), .val (.int y1), .unset, .unset, .unset] [])) (fun t kt => XS.icmpYes X0.here hx rfl (pc0 := 61) (pc' := 100) rfl (hb hby at_61) rfl (feq hc15).2 (by decide) (by decide) kt) ?_
      refine own_go (g' := (mkF m 102 #[.val (.int p1), .val (.int y1), .unset, .unset, .unset] [(.int (10 : Int32))])) (fun t kt => XS.bipush X0.here hx rfl (hb hby at_100) kt) ?_
      refine own_newarr X0 hx hZ (hw _ (List.mem_of_getElem? (i := 1) rfl)) e0 (g := (mkF m 102 #[.val (.int p1), .val (.int y1), .unset, .unset, .unset] [(.int (10 : Int32))])) rfl (hb hby at_102) rfl (by decide) (cap := 10) (by decide) (by decide) (by decide) (by decide) (fun T26 h26 b26 k26 g26 X26 e26 E26 V26 => ?_)
      show OEnds _ _ _ _ _ _ T26 (mkF m 104 #[.val (.int p1), .val (.int y1), .unset, .unset, .unset] [(.ref b26)])
      have S_c_h26 := S_c.ext E26
      have S_m_h26 := S_m.ext E26
      have S_p_h26 := S_p.ext E26
      have gz_b26 : h0.size ≤ b26 := Nat.le_trans K0.1 (Nat.le_of_eq g26.symm)
      have ge_b26 : n0 ≤ b26 := Nat.le_trans Z0 gz_b26
      have K26 := K0.ext E26
      replace V26 : Arv Z h26 b26 k26 .char (10 : Int32) [(.int (0 : Int32)), (.int (0 : Int32)), (.int (0 : Int32)), (.int (0 : Int32)), (.int (0 : Int32)), (.int (0 : Int32)), (.int (0 : Int32)), (.int (0 : Int32)), (.int (0 : Int32)), (.int (0 : Int32))] (.int (0 : Int32)) := V26
      refine own_go (g' := (mkF m 105 #[.val (.int p1), .val (.int y1), .unset, .unset, .unset] [(.ref b26), (.ref b26)])) (fun t kt => XS.dup X26.here hx rfl (hb hby at_104) rfl rfl kt) ?_
      refine own_go (g' := (mkF m 106 #[.val (.int p1), .val (.int y1), .unset, .unset, .unset] [(.int (0 : Int32)), (.ref b26), (.ref b26)])) (fun t kt => XS.iconst X26.here hx rfl (hb hby at_105) kt) ?_
      refine own_go (g' := (mkF m 108 #[.val (.int p1), .val (.int y1), .unset, .unset, .unset] [(.int (80 : Int32)), (.int (0 : Int32)), (.ref b26), (.ref b26)])) (fun t kt => XS.bipush X26.here hx rfl (hb hby at_106) kt) ?_
      refine own_castore X26 hx hZ e26 V26 ⟨by decide, by decide⟩ 0 rfl (Nat.le_of_ble_eq_true rfl) N0 ge_b26 (g := (mkF m 108 #[.val (.int p1), .val (.int y1), .unset, .unset, .unset] [(.int (80 : Int32)), (.int (0 : Int32)), (.ref b26), (.ref b26)])) rfl rfl (hb hby at_108) (fun T27 h27 L27 X27 e27 N27 W27 V27 => ?_)
      show OEnds _ _ _ _ _ _ T27 (mkF m 109 #[.val (.int p1), .val (.int y1), .unset, .unset, .unset] [(.ref b26)])
      have S_c_h27 := S_c_h26.wr W27
      have S_m_h27 := S_m_h26.wr W27
      have S_p_h27 := S_p_h26.wr W27
      have K27 := K26.wr W27 (Or.inr gz_b26)
      replace V27 : Arv Z h27 b26 k26 .char (10 : Int32) [(.int (80 : Int32)), (.int (0 : Int32)), (.int (0 : Int32)), (.int (0 : Int32)), (.int (0 : Int32)), (.int (0 : Int32)), (.int (0 : Int32)), (.int (0 : Int32)), (.int (0 : Int32)), (.int (0 : Int32))] (.int (0 : Int32)) := V27
      refine own_go (g' := (mkF m 110 #[.val (.int p1), .val (.int y1), .unset, .unset, .unset] [(.ref b26), (.ref b26)])) (fun t kt => XS.dup X27.here hx rfl (hb hby at_109) rfl rfl kt) ?_
      refine own_go (g' := (mkF m 111 #[.val (.int p1), .val (.int y1), .unset, .unset, .unset] [(.int (1 : Int32)), (.ref b26), (.ref b26)])) (fun t kt => XS.iconst X27.here hx rfl (hb hby at_110) kt) ?_
      refine own_go (g' := (mkF m 113 #[.val (.int p1), .val (.int y1), .unset, .unset, .unset] [(.int (111 : Int32)), (.int (1 : Int32)), (.ref b26), (.ref b26)])) (fun t kt => XS.bipush X27.here hx rfl (hb hby at_111) kt) ?_
      refine own_castore X27 hx hZ e27 V27 ⟨by decide, by decide⟩ 1 rfl (Nat.le_of_ble_eq_true rfl) N27 ge_b26 (g := (mkF m 113 #[.val (.int p1), .val (.int y1), .unset, .unset, .unset] [(.int (111 : Int32)), (.int (1 : Int32)), (.ref b26), (.ref b26)])) rfl rfl (hb hby at_113) (fun T28 h28 L28 X28 e28 N28 W28 V28 => ?_)
      show OEnds _ _ _ _ _ _ T28 (mkF m 114 #[.val (.int p1), .val (.int y1), .unset, .unset, .unset] [(.ref b26)])
      have S_c_h28 := S_c_h27.wr W28
      have S_m_h28 := S_m_h27.wr W28
      have S_p_h28 := S_p_h27.wr W28
      have K28 := K27.wr W28 (Or.inr gz_b26)
      replace V28 : Arv Z h28 b26 k26 .char (10 : Int32) [(.int (80 : Int32)), (.int (111 : Int32)), (.int (0 : Int32)), (.int (0 : Int32)), (.int (0 : Int32)), (.int (0 : Int32)), (.int (0 : Int32)), (.int (0 : Int32)), (.int (0 : Int32)), (.int (0 : Int32))] (.int (0 : Int32)) := V28
      refine own_go (g' := (mkF m 115 #[.val (.int p1), .val (.int y1), .unset, .unset, .unset] [(.ref b26), (.ref b26)])) (fun t kt => XS.dup X28.here hx rfl (hb hby at_114) rfl rfl kt) ?_
      refine own_go (g' := (mkF m 116 #[.val (.int p1), .val (.int y1), .unset, .unset, .unset] [(.int (2 : Int32)), (.ref b26), (.ref b26)])) (fun t kt => XS.iconst X28.here hx rfl (hb hby at_115) kt) ?_
      refine own_go (g' := (mkF m 118 #[.val (.int p1), .val (.int y1), .unset, .unset, .unset] [(.int (115 : Int32)), (.int (2 : Int32)), (.ref b26), (.ref b26)])) (fun t kt => XS.bipush X28.here hx rfl (hb hby at_116) kt) ?_
      refine own_castore X28 hx hZ e28 V28 ⟨by decide, by decide⟩ 2 rfl (Nat.le_of_ble_eq_true rfl) N28 ge_b26 (g := (mkF m 118 #[.val (.int p1), .val (.int y1), .unset, .unset, .unset] [(.int (115 : Int32)), (.int (2 : Int32)), (.ref b26), (.ref b26)])) rfl rfl (hb hby at_118) (fun T29 h29 L29 X29 e29 N29 W29 V29 => ?_)
      show OEnds _ _ _ _ _ _ T29 (mkF m 119 #[.val (.int p1), .val (.int y1), .unset, .unset, .unset] [(.ref b26)])
      have S_c_h29 := S_c_h28.wr W29
      have S_m_h29 := S_m_h28.wr W29
      have S_p_h29 := S_p_h28.wr W29
      have K29 := K28.wr W29 (Or.inr gz_b26)
      replace V29 : Arv Z h29 b26 k26 .char (10 : Int32) [(.int (80 : Int32)), (.int (111 : Int32)), (.int (115 : Int32)), (.int (0 : Int32)), (.int (0 : Int32)), (.int (0 : Int32)), (.int (0 : Int32)), (.int (0 : Int32)), (.int (0 : Int32)), (.int (0 : Int32))] (.int (0 : Int32)) := V29
      refine own_go (g' := (mkF m 120 #[.val (.int p1), .val (.int y1), .unset, .unset, .unset] [(.ref b26), (.ref b26)])) (fun t kt => XS.dup X29.here hx rfl (hb hby at_119) rfl rfl kt) ?_
      refine own_go (g' := (mkF m 121 #[.val (.int p1), .val (.int y1), .unset, .unset, .unset] [(.int (3 : Int32)), (.ref b26), (.ref b26)])) (fun t kt => XS.iconst X29.here hx rfl (hb hby at_120) kt) ?_
      refine own_go (g' := (mkF m 123 #[.val (.int p1), .val (.int y1), .unset, .unset, .unset] [(.int (116 : Int32)), (.int (3 : Int32)), (.ref b26), (.ref b26)])) (fun t kt => XS.bipush X29.here hx rfl (hb hby at_121) kt) ?_
      refine own_castore X29 hx hZ e29 V29 ⟨by decide, by decide⟩ 3 rfl (Nat.le_of_ble_eq_true rfl) N29 ge_b26 (g := (mkF m 123 #[.val (.int p1), .val (.int y1), .unset, .unset, .unset] [(.int (116 : Int32)), (.int (3 : Int32)), (.ref b26), (.ref b26)])) rfl rfl (hb hby at_123) (fun T30 h30 L30 X30 e30 N30 W30 V30 => ?_)
      show OEnds _ _ _ _ _ _ T30 (mkF m 124 #[.val (.int p1), .val (.int y1), .unset, .unset, .unset] [(.ref b26)])
      have S_c_h30 := S_c_h29.wr W30
      have S_m_h30 := S_m_h29.wr W30
      have S_p_h30 := S_p_h29.wr W30
      have K30 := K29.wr W30 (Or.inr gz_b26)
      replace V30 : Arv Z h30 b26 k26 .char (10 : Int32) [(.int (80 : Int32)), (.int (111 : Int32)), (.int (115 : Int32)), (.int (116 : Int32)), (.int (0 : Int32)), (.int (0 : Int32)), (.int (0 : Int32)), (.int (0 : Int32)), (.int (0 : Int32)), (.int (0 : Int32))] (.int (0 : Int32)) := V30
      refine own_go (g' := (mkF m 125 #[.val (.int p1), .val (.int y1), .unset, .unset, .unset] [(.ref b26), (.ref b26)])) (fun t kt => XS.dup X30.here hx rfl (hb hby at_124) rfl rfl kt) ?_
      refine own_go (g' := (mkF m 126 #[.val (.int p1), .val (.int y1), .unset, .unset, .unset] [(.int (4 : Int32)), (.ref b26), (.ref b26)])) (fun t kt => XS.iconst X30.here hx rfl (hb hby at_125) kt) ?_
      refine own_go (g' := (mkF m 128 #[.val (.int p1), .val (.int y1), .unset, .unset, .unset] [(.int (103 : Int32)), (.int (4 : Int32)), (.ref b26), (.ref b26)])) (fun t kt => XS.bipush X30.here hx rfl (hb hby at_126) kt) ?_
      refine own_castore X30 hx hZ e30 V30 ⟨by decide, by decide⟩ 4 rfl (Nat.le_of_ble_eq_true rfl) N30 ge_b26 (g := (mkF m 128 #[.val (.int p1), .val (.int y1), .unset, .unset, .unset] [(.int (103 : Int32)), (.int (4 : Int32)), (.ref b26), (.ref b26)])) rfl rfl (hb hby at_128) (fun T31 h31 L31 X31 e31 N31 W31 V31 => ?_)
      show OEnds _ _ _ _ _ _ T31 (mkF m 129 #[.val (.int p1), .val (.int y1), .unset, .unset, .unset] [(.ref b26)])
      have S_c_h31 := S_c_h30.wr W31
      have S_m_h31 := S_m_h30.wr W31
      have S_p_h31 := S_p_h30.wr W31
      have K31 := K30.wr W31 (Or.inr gz_b26)
      replace V31 : Arv Z h31 b26 k26 .char (10 : Int32) [(.int (80 : Int32)), (.int (111 : Int32)), (.int (115 : Int32)), (.int (116 : Int32)), (.int (103 : Int32)), (.int (0 : Int32)), (.int (0 : Int32)), (.int (0 : Int32)), (.int (0 : Int32)), (.int (0 : Int32))] (.int (0 : Int32)) := V31
      refine own_go (g' := (mkF m 130 #[.val (.int p1), .val (.int y1), .unset, .unset, .unset] [(.ref b26), (.ref b26)])) (fun t kt => XS.dup X31.here hx rfl (hb hby at_129) rfl rfl kt) ?_
      refine own_go (g' := (mkF m 131 #[.val (.int p1), .val (.int y1), .unset, .unset, .unset] [(.int (5 : Int32)), (.ref b26), (.ref b26)])) (fun t kt => XS.iconst X31.here hx rfl (hb hby at_130) kt) ?_
      refine own_go (g' := (mkF m 133 #[.val (.int p1), .val (.int y1), .unset, .unset, .unset] [(.int (114 : Int32)), (.int (5 : Int32)), (.ref b26), (.ref b26)])) (fun t kt => XS.bipush X31.here hx rfl (hb hby at_131) kt) ?_
      refine own_castore X31 hx hZ e31 V31 ⟨by decide, by decide⟩ 5 rfl (Nat.le_of_ble_eq_true rfl) N31 ge_b26 (g := (mkF m 133 #[.val (.int p1), .val (.int y1), .unset, .unset, .unset] [(.int (114 : Int32)), (.int (5 : Int32)), (.ref b26), (.ref b26)])) rfl rfl (hb hby at_133) (fun T32 h32 L32 X32 e32 N32 W32 V32 => ?_)
      show OEnds _ _ _ _ _ _ T32 (mkF m 134 #[.val (.int p1), .val (.int y1), .unset, .unset, .unset] [(.ref b26)])
      have S_c_h32 := S_c_h31.wr W32
      have S_m_h32 := S_m_h31.wr W32
      have S_p_h32 := S_p_h31.wr W32
      have K32 := K31.wr W32 (Or.inr gz_b26)
      replace V32 : Arv Z h32 b26 k26 .char (10 : Int32) [(.int (80 : Int32)), (.int (111 : Int32)), (.int (115 : Int32)), (.int (116 : Int32)), (.int (103 : Int32)), (.int (114 : Int32)), (.int (0 : Int32)), (.int (0 : Int32)), (.int (0 : Int32)), (.int (0 : Int32))] (.int (0 : Int32)) := V32
      refine own_go (g' := (mkF m 135 #[.val (.int p1), .val (.int y1), .unset, .unset, .unset] [(.ref b26), (.ref b26)])) (fun t kt => XS.dup X32.here hx rfl (hb hby at_134) rfl rfl kt) ?_
      refine own_go (g' := (mkF m 137 #[.val (.int p1), .val (.int y1), .unset, .unset, .unset] [(.int (6 : Int32)), (.ref b26), (.ref b26)])) (fun t kt => XS.bipush X32.here hx rfl (hb hby at_135) kt) ?_
      refine own_go (g' := (mkF m 139 #[.val (.int p1), .val (.int y1), .unset, .unset, .unset] [(.int (101 : Int32)), (.int (6 : Int32)), (.ref b26), (.ref b26)])) (fun t kt => XS.bipush X32.here hx rfl (hb hby at_137) kt) ?_
      refine own_castore X32 hx hZ e32 V32 ⟨by decide, by decide⟩ 6 rfl (Nat.le_of_ble_eq_true rfl) N32 ge_b26 (g := (mkF m 139 #[.val (.int p1), .val (.int y1), .unset, .unset, .unset] [(.int (101 : Int32)), (.int (6 : Int32)), (.ref b26), (.ref b26)])) rfl rfl (hb hby at_139) (fun T33 h33 L33 X33 e33 N33 W33 V33 => ?_)
      show OEnds _ _ _ _ _ _ T33 (mkF m 140 #[.val (.int p1), .val (.int y1), .unset, .unset, .unset] [(.ref b26)])
      have S_c_h33 := S_c_h32.wr W33
      have S_m_h33 := S_m_h32.wr W33
      have S_p_h33 := S_p_h32.wr W33
      have K33 := K32.wr W33 (Or.inr gz_b26)
      replace V33 : Arv Z h33 b26 k26 .char (10 : Int32) [(.int (80 : Int32)), (.int (111 : Int32)), (.int (115 : Int32)), (.int (116 : Int32)), (.int (103 : Int32)), (.int (114 : Int32)), (.int (101 : Int32)), (.int (0 : Int32)), (.int (0 : Int32)), (.int (0 : Int32))] (.int (0 : Int32)) := V33
      refine own_go (g' := (mkF m 141 #[.val (.int p1), .val (.int y1), .unset, .unset, .unset] [(.ref b26), (.ref b26)])) (fun t kt => XS.dup X33.here hx rfl (hb hby at_140) rfl rfl kt) ?_
      refine own_go (g' := (mkF m 143 #[.val (.int p1), .val (.int y1), .unset, .unset, .unset] [(.int (7 : Int32)), (.ref b26), (.ref b26)])) (fun t kt => XS.bipush X33.here hx rfl (hb hby at_141) kt) ?_
      refine own_go (g' := (mkF m 145 #[.val (.int p1), .val (.int y1), .unset, .unset, .unset] [(.int (83 : Int32)), (.int (7 : Int32)), (.ref b26), (.ref b26)])) (fun t kt => XS.bipush X33.here hx rfl (hb hby at_143) kt) ?_
      refine own_castore X33 hx hZ e33 V33 ⟨by decide, by decide⟩ 7 rfl (Nat.le_of_ble_eq_true rfl) N33 ge_b26 (g := (mkF m 145 #[.val (.int p1), .val (.int y1), .unset, .unset, .unset] [(.int (83 : Int32)), (.int (7 : Int32)), (.ref b26), (.ref b26)])) rfl rfl (hb hby at_145) (fun T34 h34 L34 X34 e34 N34 W34 V34 => ?_)
      show OEnds _ _ _ _ _ _ T34 (mkF m 146 #[.val (.int p1), .val (.int y1), .unset, .unset, .unset] [(.ref b26)])
      have S_c_h34 := S_c_h33.wr W34
      have S_m_h34 := S_m_h33.wr W34
      have S_p_h34 := S_p_h33.wr W34
      have K34 := K33.wr W34 (Or.inr gz_b26)
      replace V34 : Arv Z h34 b26 k26 .char (10 : Int32) [(.int (80 : Int32)), (.int (111 : Int32)), (.int (115 : Int32)), (.int (116 : Int32)), (.int (103 : Int32)), (.int (114 : Int32)), (.int (101 : Int32)), (.int (83 : Int32)), (.int (0 : Int32)), (.int (0 : Int32))] (.int (0 : Int32)) := V34
      refine own_go (g' := (mkF m 147 #[.val (.int p1), .val (.int y1), .unset, .unset, .unset] [(.ref b26), (.ref b26)])) (fun t kt => XS.dup X34.here hx rfl (hb hby at_146) rfl rfl kt) ?_
      refine own_go (g' := (mkF m 149 #[.val (.int p1), .val (.int y1), .unset, .unset, .unset] [(.int (8 : Int32)), (.ref b26), (.ref b26)])) (fun t kt => XS.bipush X34.here hx rfl (hb hby at_147) kt) ?_
      refine own_go (g' := (mkF m 151 #[.val (.int p1), .val (.int y1), .unset, .unset, .unset] [(.int (81 : Int32)), (.int (8 : Int32)), (.ref b26), (.ref b26)])) (fun t kt => XS.bipush X34.here hx rfl (hb hby at_149) kt) ?_
      refine own_castore X34 hx hZ e34 V34 ⟨by decide, by decide⟩ 8 rfl (Nat.le_of_ble_eq_true rfl) N34 ge_b26 (g := (mkF m 151 #[.val (.int p1), .val (.int y1), .unset, .unset, .unset] [(.int (81 : Int32)), (.int (8 : Int32)), (.ref b26), (.ref b26)])) rfl rfl (hb hby at_151) (fun T35 h35 L35 X35 e35 N35 W35 V35 => ?_)
      show OEnds _ _ _ _ _ _ T35 (mkF m 152 #[.val (.int p1), .val (.int y1), .unset, .unset, .unset] [(.ref b26)])
      have S_c_h35 := S_c_h34.wr W35
      have S_m_h35 := S_m_h34.wr W35
      have S_p_h35 := S_p_h34.wr W35
      have K35 := K34.wr W35 (Or.inr gz_b26)
      replace V35 : Arv Z h35 b26 k26 .char (10 : Int32) [(.int (80 : Int32)), (.int (111 : Int32)), (.int (115 : Int32)), (.int (116 : Int32)), (.int (103 : Int32)), (.int (114 : Int32)), (.int (101 : Int32)), (.int (83 : Int32)), (.int (81 : Int32)), (.int (0 : Int32))] (.int (0 : Int32)) := V35
      refine own_go (g' := (mkF m 153 #[.val (.int p1), .val (.int y1), .unset, .unset, .unset] [(.ref b26), (.ref b26)])) (fun t kt => XS.dup X35.here hx rfl (hb hby at_152) rfl rfl kt) ?_
      refine own_go (g' := (mkF m 155 #[.val (.int p1), .val (.int y1), .unset, .unset, .unset] [(.int (9 : Int32)), (.ref b26), (.ref b26)])) (fun t kt => XS.bipush X35.here hx rfl (hb hby at_153) kt) ?_
      refine own_go (g' := (mkF m 157 #[.val (.int p1), .val (.int y1), .unset, .unset, .unset] [(.int (76 : Int32)), (.int (9 : Int32)), (.ref b26), (.ref b26)])) (fun t kt => XS.bipush X35.here hx rfl (hb hby at_155) kt) ?_
      refine own_castore X35 hx hZ e35 V35 ⟨by decide, by decide⟩ 9 rfl (Nat.le_of_ble_eq_true rfl) N35 ge_b26 (g := (mkF m 157 #[.val (.int p1), .val (.int y1), .unset, .unset, .unset] [(.int (76 : Int32)), (.int (9 : Int32)), (.ref b26), (.ref b26)])) rfl rfl (hb hby at_157) (fun T36 h36 L36 X36 e36 N36 W36 V36 => ?_)
      show OEnds _ _ _ _ _ _ T36 (mkF m 158 #[.val (.int p1), .val (.int y1), .unset, .unset, .unset] [(.ref b26)])
      have S_c_h36 := S_c_h35.wr W36
      have S_m_h36 := S_m_h35.wr W36
      have S_p_h36 := S_p_h35.wr W36
      have K36 := K35.wr W36 (Or.inr gz_b26)
      replace V36 : Arv Z h36 b26 k26 .char (10 : Int32) [(.int (80 : Int32)), (.int (111 : Int32)), (.int (115 : Int32)), (.int (116 : Int32)), (.int (103 : Int32)), (.int (114 : Int32)), (.int (101 : Int32)), (.int (83 : Int32)), (.int (81 : Int32)), (.int (76 : Int32))] (.int (0 : Int32)) := V36
      refine own_go (g' := (mkF m 159 #[.val (.int p1), .val (.int y1), .val (.ref b26), .unset, .unset] [])) (fun t kt => XS.astoreN X36.here hx rfl (hb hby at_158) rfl rfl (l' := #[.val (.int p1), .val (.int y1), .val (.ref b26), .unset, .unset]) rfl kt) ?_
      obtain ⟨T37, X37, e37, st37⟩ := getS2 X36 hx hZ hown (host := "") (Or.inl (hw _ (List.mem_of_getElem? (i := 51) rfl))) Via.refl e36 S_p_h36 (g := (mkF m 159 #[.val (.int p1), .val (.int y1), .val (.ref b26), .unset, .unset] [])) rfl (hb hby at_159)
      refine own_go (T' := T37) (g' := (mkF m 162 #[.val (.int p1), .val (.int y1), .val (.ref b26), .unset, .unset] [(.ref pg)])) st37 ?_
      refine own_go (g' := (mkF m 163 #[.val (.int p1), .val (.int y1), .val (.ref b26), .val (.ref pg), .unset] [])) (fun t kt => XS.astoreN X37.here hx rfl (hb hby at_162) rfl rfl (l' := #[.val (.int p1), .val (.int y1), .val (.ref b26), .val (.ref pg), .unset]) rfl kt) ?_
      refine own_new X37 hx hZ hown (hw _ (List.mem_of_getElem? (i := 5) rfl)) (hw _ (List.mem_of_getElem? (i := 6) rfl)) (hw _ (List.mem_of_getElem? (i := 7) rfl)) e37 (g := (mkF m 163 #[.val (.int p1), .val (.int y1), .val (.ref b26), .val (.ref pg), .unset] [])) rfl (hb hby at_163) (by decide) (by decide) (fun T38 h38 b38 g38 X38 e38 E38 A38 D38 => ?_)
      show OEnds _ _ _ _ _ _ T38 (mkF m 166 #[.val (.int p1), .val (.int y1), .val (.ref b26), .val (.ref pg), .unset] [(.ref b38)])
      have ne_b26_b38 : b26 ≠ b38 := Nat.ne_of_lt (Nat.lt_of_lt_of_le V36.lt (Nat.le_of_eq g38.symm))
      have S_c_h38 := S_c_h36.ext E38
      have S_m_h38 := S_m_h36.ext E38
      have S_p_h38 := S_p_h36.ext E38
      have V36_h38 := V36.ext E38
      have gz_b38 : h0.size ≤ b38 := Nat.le_trans K36.1 (Nat.le_of_eq g38.symm)
      have ge_b38 : n0 ≤ b38 := Nat.le_trans Z0 gz_b38
      have K38 := K36.ext E38
      have F38_coder : Fld Z h38 b38 "java/lang/String" "coder" "B" (.int (0 : Int32)) := D38 (Or.inr (hw _ (List.mem_of_getElem? (i := 31) rfl))) (ty := .byte) (by decide)
      have F38_value : Fld Z h38 b38 "java/lang/String" "value" "[B" .null := D38 (Or.inr (hw _ (List.mem_of_getElem? (i := 33) rfl))) (ty := (.array .byte)) (by decide)
      refine own_go (g' := (mkF m 167 #[.val (.int p1), .val (.int y1), .val (.ref b26), .val (.ref pg), .unset] [(.ref b38), (.ref b38)])) (fun t kt => XS.dup X38.here hx rfl (hb hby at_166) rfl rfl kt) ?_
      refine own_go (g' := (mkF m 168 #[.val (.int p1), .val (.int y1), .val (.ref b26), .val (.ref pg), .unset] [(.ref b26), (.ref b38), (.ref b38)])) (fun t kt => XS.aloadN X38.here hx rfl (hb hby at_167) rfl rfl kt) ?_
      have hp39 : ∀ c ∈ ([(80 : Int32), (111 : Int32), (115 : Int32), (116 : Int32), (103 : Int32), (114 : Int32), (101 : Int32), (83 : Int32), (81 : Int32), (76 : Int32)] : List Int32), ¬ c < 0 ∧ ¬ (255 : Int32) < c := (by decide)
      refine own_callCB X38 hx hZ (a := b38) (W := 1) (argsL := [(.ref b26)]) (rest := [(.ref b38)]) (c1 := 1) (s1 := 10) (Qc := fun v h' L => StrChars.Road.QV Z b38 (10 : Int32) (([(80 : Int32), (111 : Int32), (115 : Int32), (116 : Int32), (103 : Int32), (114 : Int32), (101 : Int32), (83 : Int32), (81 : Int32), (76 : Int32)] : List Int32).map (fun c => c.toInt8.toInt32)) h38 n0 v h' L) rfl hown (hw _ (List.mem_of_getElem? (i := 8) rfl)) (hw _ (List.mem_of_getElem? (i := 9) rfl)) (hw _ (List.mem_of_getElem? (i := 10) rfl)) (by decide) (StrChars.Road.backV (W := 1) hZ (fun d hd => hw d (own_wi d hd)) (kI := 4) (hw _ (List.mem_of_getElem? (i := 6) rfl)) (cs := ([(80 : Int32), (111 : Int32), (115 : Int32), (116 : Int32), (103 : Int32), (114 : Int32), (101 : Int32), (83 : Int32), (81 : Int32), (76 : Int32)] : List Int32)) (bs := (([(80 : Int32), (111 : Int32), (115 : Int32), (116 : Int32), (103 : Int32), (114 : Int32), (101 : Int32), (83 : Int32), (81 : Int32), (76 : Int32)] : List Int32).map (fun c => c.toInt8.toInt32))) (n := 10) ge_b38 (Nat.le_trans Z0 K38.1) A38 F38_value F38_coder V36_h38 S_c_h38 hcs rfl rfl (by decide) (by decide) hp39 rfl (by decide) (by decide)) (g := (mkF m 168 #[.val (.int p1), .val (.int y1), .val (.ref b26), .val (.ref pg), .unset] [(.ref b26), (.ref b38), (.ref b38)])) rfl (by rw [hml]; rfl) (lenOf own_pd1 rfl) rfl (by show 2 * 0 + _ ≤ _; exact Nat.le_of_eq rfl) (hb hby at_168) e38 (by decide) (by decide) (fun v39 T39 L39 X39 hq39 => ?_)
      obtain ⟨rfl, M39, Kc39, A39, G39, t39, c39, ge_t39, gy_t39, ny_t39, F39, V39⟩ := hq39
      have N39 := Fr.app N36 M39
      have ne_b26_t39 : b26 ≠ t39 := Nat.ne_of_lt (Nat.lt_of_lt_of_le V36_h38.lt gy_t39)
      have ne_b38_t39 : b38 ≠ t39 := Nat.ne_of_lt (Nat.lt_of_lt_of_le A38.lt gy_t39)
      have gz_t39 : h0.size ≤ t39 := Nat.le_trans K38.1 gy_t39
      have V36_h39 := V36_h38.keep Kc39 (ninS ne_b26_b38 nin0)
      have K39 := K38.trans Kc39 (allS (Or.inr gz_b38) all0)
      have S_c_h39 := S_c.ext (own_kext K39)
      have S_m_h39 := S_m.ext (own_kext K39)
      have S_p_h39 := S_p.ext (own_kext K39)
      have hcd39 := StrChars.Road.codOf (cs := ([(80 : Int32), (111 : Int32), (115 : Int32), (116 : Int32), (103 : Int32), (114 : Int32), (101 : Int32), (83 : Int32), (81 : Int32), (76 : Int32)] : List Int32)) (n := 10) rfl (fun c hc => (hp39 c hc).2)
      have hbd39 := own_up _ hp39
      show OEnds _ _ _ _ _ _ T39 (mkF m 171 #[.val (.int p1), .val (.int y1), .val (.ref b26), .val (.ref pg), .unset] [(.ref b38)])
      refine own_callSW X39 hx hZ rfl (W := 0) (argsL := [(.ref b38)]) (rest := []) hown (hw _ (List.mem_of_getElem? (i := 34) rfl)) (hw _ (List.mem_of_getElem? (i := 35) rfl)) (hw _ (List.mem_of_getElem? (i := 3) rfl)) (hw _ (List.mem_of_getElem? (i := 36) rfl)) (by decide) (own_of52 l Z a0 hw b38 t39 md pg c39 cs T39.heap n0 (Nat.le_trans Z0 K39.1) A39 G39 F39 V39 S_c_h39 S_m_h39 S_p_h39 hcs (by rw [← eh0]; exact (own_kext K39).2) hwS hcw hh42 hh50 hh52) (by decide) (by decide) (g := (mkF m 171 #[.val (.int p1), .val (.int y1), .val (.ref b26), .val (.ref pg), .unset] [(.ref b38)])) rfl (by rw [hml]; rfl) (lenOf own_pd2 rfl) rfl (by show 2 * 0 + _ ≤ _; exact Nat.le_of_eq rfl) (hb hby at_171) rfl N39 (by decide) (by decide) (fun v40 T40 L40 X40 hS N40 hq40 => ?_)
      obtain ⟨rfl, Kc40⟩ := hq40
      show OEnds _ _ _ _ _ _ T40 (mkF m 174 #[.val (.int p1), .val (.int y1), .val (.ref b26), .val (.ref pg), .unset] [(.ref pg)])
      refine own_go (g' := (mkF m 176 #[.val (.int p1), .val (.int y1), .val (.ref b26), .val (.ref pg), .val (.ref pg)] [])) (fun t kt => XS.astore X40.here hx rfl (hb hby at_174) rfl rfl (l' := #[.val (.int p1), .val (.int y1), .val (.ref b26), .val (.ref pg), .val (.ref pg)]) rfl kt) ?_
      refine own_go (g' := (mkF m 178 #[.val (.int p1), .val (.int y1), .val (.ref b26), .val (.ref pg), .val (.ref pg)] [(.ref pg)])) (fun t kt => XS.aload X40.here hx rfl (hb hby at_176) rfl rfl kt) ?_
      refine own_go (g' := (mkF m 179 #[.val (.int p1), .val (.int y1), .val (.ref b26), .val (.ref pg), .val (.ref pg)] [(.ref pg), (.ref pg)])) (fun t kt => XS.aloadN X40.here hx rfl (hb hby at_178) rfl rfl kt) ?_
      refine own_go (g' := (mkF m 182 #[.val (.int p1), .val (.int y1), .val (.ref b26), .val (.ref pg), .val (.ref pg)] [])) (fun t kt => Jvm.RoadKit.acmp (g := (mkF m 179 #[.val (.int p1), .val (.int y1), .val (.ref b26), .val (.ref pg), .val (.ref pg)] [(.ref pg), (.ref pg)])) X40 hx rfl rfl rfl (pc0 := 179) (pc' := 182) (same := true) rfl (hb hby at_179) rfl (decide_eq_true rfl) (by decide) (by decide) kt) ?_
      refine own_go (g' := (mkF m 183 #[.val (.int p1), .val (.int y1), .val (.ref b26), .val (.ref pg), .val (.ref pg)] [(.int (1 : Int32))])) (fun t kt => XS.iconst X40.here hx rfl (hb hby at_182) kt) ?_
      refine own_go (g' := (mkF m 187 #[.val (.int p1), .val (.int y1), .val (.ref b26), .val (.ref pg), .val (.ref pg)] [(.int (1 : Int32))])) (fun t kt => XS.goto X40.here hx rfl (pc0 := 183) (pc' := 187) rfl (hb hby at_183) (by decide) (by decide) kt) ?_
      exact own_retNW X40 hx hlk hS (Nat.le_refl _) (t := .boolean) (z' := (1 : Int32)) hret (by simp) (hb hby at_187) rfl rfl N40 (by decide) (by decide) (rfl)
theorem own_cs0 {args : Array Value} {s : State} (e : (Term.static "java/lang/String" "COMPACT_STRINGS" "Z").eval args s none [] s = some (.int 0)) (h : Jvm.Lit.compactW.before args s = true) : False := by
  have q : (Jvm.Cond.eq (Term.static "java/lang/String" "COMPACT_STRINGS" "Z") (Term.int 0)).value args s none s [] = some true := eq_i e (Term.int_eval 0) rfl
  have h2 := Cond.before_iff.mp h
  simp only [Jvm.Lit.compactW, Cond.value] at h2
  simp only [Cond.value] at q
  rw [q] at h2
  simp at h2
set_option maxRecDepth 65536 in
set_option maxHeartbeats 40000000 in
theorem comes_1 {Post : Tables → Env → Array Value → State → Outcome → State → Prop} (hpost : ∀ tb e args s v u, (limb_1_1.after args s (.returned v) u = true ∧ limb_1_2.after args s (.returned v) u = true ∧ True) → ReturnedEndW s (.returned v) u (Jvm.fieldLocs frame_1_writes args s ++ Jvm.arrayLocs frame_1_arrays args s ++ Jvm.staticLocs frame_1_statics s) 24 3200 → Post tb e args s (.returned v) u) :
    ArmFor flags0 classFile x code maxLocals ret World_1 tables_1 room_1 Calls_1 rest_1 Pre_1 Post := by
  intro l hfl _ _ p e ha hc hk s m args below hf hA hF happ hP
  obtain ⟨hcalls, hrest, hpre⟩ := hP
  obtain ⟨-, -, -, hnamed, -, -, -, hat⟩ := (Spec.applies_iff hf).mp happ
  obtain ⟨hg, hn⟩ := and_e (Cond.before_iff.mp (show (Jvm.Cond.and given_1 narrow_1).before args s = true from hpre))
  obtain ⟨g0, k0⟩ := and_e hg
  obtain ⟨w0, rfl⟩ : ∃ w0 : Value, args = #[w0] := by
    have hs : args.size = 1 := by simpa [Cond.value, given_1] using g0
    obtain ⟨L⟩ := args
    match L, hs with
    | [w0], _ => exact ⟨w0, rfl⟩
  have hw := fun d (hd : d ∈ tables_1) => atoms_spec (ws := Jvm.Cond.code x code maxLocals ret :: tables_1) hat d (List.mem_cons_of_mem _ hd)
  have hfit : Fit s := fun {y c} hc i hi => by
    obtain ⟨ha, rfl⟩ := Array.getElem?_eq_some_iff.mp hc
    have q := List.all_eq_true.mp ((Array.all_eq_true_iff_forall_mem.mp hF) _ (Array.getElem_mem ha)) i (List.mem_range.mpr hi)
    simpa [Array.getElem?_eq_getElem hi] using q
  obtain ⟨hsets, hown0⟩ := atoms_of _ (rest_1_c_eq ▸ (show rest_1_c.before _ s = true from hrest))
  have hr0 := Cond.before_iff.mp hown0
  obtain ⟨i0, ei0⟩ := is_v k0
  obtain rfl : w0 = (.int i0) := Option.some.inj ei0
  have hwS : ∀ a ∈ Bundle.stringAtoms, a.before _ s = true := fun d hd => by
    simp only [Bundle.stringAtoms, List.mem_cons, List.not_mem_nil, or_false] at hd
    rcases hd with rfl | rfl | rfl | rfl | rfl | rfl | rfl
    · exact (hw _ (List.mem_of_getElem? (i := 7) rfl))
    · exact (hw _ (List.mem_of_getElem? (i := 6) rfl))
    · exact (hw _ (List.mem_of_getElem? (i := 23) rfl))
    · exact (hw _ (List.mem_of_getElem? (i := 33) rfl))
    · exact (hw _ (List.mem_of_getElem? (i := 31) rfl))
    · exact (hw _ (List.mem_of_getElem? (i := 38) rfl))
    · exact (hw _ (List.mem_of_getElem? (i := 39) rfl))
  obtain ⟨cs, ecs⟩ := is_v (Cond.before_iff.mp (hsets _ (List.mem_of_getElem? (i := 1) rfl)))
  have S_c := Sta.start ecs (Or.inl (hsets _ (List.mem_of_getElem? (i := 0) rfl)))
  have hcw : Jvm.Lit.compactW.before _ s = true := (hsets _ (List.mem_of_getElem? (i := 2) rfl))
  have hcs : ¬ cs = 0 := fun q => by
    subst q
    exact own_cs0 ecs hcw
  obtain ⟨n1, n2⟩ := and_e hn
  obtain ⟨md, _, _, _, e_md, -⟩ := Cond.exactly_spec (Cond.before_iff.mpr n1)
  have S_m := Sta.start e_md (Or.inr ⟨(hw _ (List.mem_of_getElem? (i := 3) rfl)), (hw _ (List.mem_of_getElem? (i := 4) rfl))⟩)
  obtain ⟨pg, _, _, _, e_pg, -⟩ := Cond.exactly_spec (Cond.before_iff.mpr n2)
  have S_p := Sta.start e_pg (Or.inr ⟨(hw _ (List.mem_of_getElem? (i := 3) rfl)), (hw _ (List.mem_of_getElem? (i := 52) rfl))⟩)
  obtain ⟨n, o, h1, h2, h3, _, L, rfl, ⟨N, rfl⟩, hq⟩ := own_law l s _ hw i0 cs md pg s.heap rfl s.heap.size (Nat.le_refl _) S_c S_m S_p hcs hwS hcw (hcalls.1 _ (List.mem_of_getElem? (i := 0) rfl)) (hcalls.1 _ (List.mem_of_getElem? (i := 1) rfl)) (hcalls.1 _ (List.mem_of_getElem? (i := 2) rfl)) tables_1 p e ha hc hk s m _ below hf ((Spec.applies_iff_loose hf).mp happ).1 ⟨rfl, rfl⟩ trivial
  refine ⟨n, _, h1, h2, h3, hpost _ _ _ _ _ _ ⟨Cond.after_iff.mpr rfl, Cond.after_iff.mpr (eq_i res_at (Term.int_eval (1)) rfl), trivial⟩ ⟨hq.1, hq.2.1, hq.2.2.1, (hq.2.2.2.sift fun y hy => Or.inr (N y hy)).mono (by decide) (by decide)⟩⟩
theorem main_1_1 : Claimed_1_1 := comes_1 fun _ _ _ _ _ _ h hF => ⟨h.1, hF⟩
theorem main_1_2 : Claimed_1_2 := comes_1 fun _ _ _ _ _ _ h hF => ⟨h.2.1, hF⟩
end Jvm.Pilot.@@N@@
namespace Jvm.Pilot.@@N@@
open Jvm Jvm.ClassFile Sem Op Lib Jvm.Free Jvm.Stand Jvm.Pilot.@@N@@.Jvm.D
/-! MADE BY PROGRAM (witnessworld.py) out of the Statement's table words and the real class files: 21 classes; the members and pool entries that the words name. The judged class is class 1, her method 1. -/
namespace start1
open Jvm.ClassFile
def u (s : String) : CpInfo := .utf8 (stringToUtf16 s)
/-- a pool by its gaps: so many unusable entries, then the entry; so many at the end -/
def gap : Nat → List CpInfo → List CpInfo
  | 0, r => r
  | n + 1, r => .unusable :: gap n r
def poolList (es : List (Nat × CpInfo)) (last : Nat) : List CpInfo := es.foldr (fun e r => gap e.1 (e.2 :: r)) (gap last [])
def pool (es : List (Nat × CpInfo)) (last : Nat) : Array CpInfo := ⟨poolList es last⟩
def fileOf (pool : Array CpInfo) (this : Nat) (attrs : Array Attribute := #[]) (ms : Array MethodInfo := #[]) (fl : Nat := 33) (sup : Nat := 0) (ifs : Array Nat := #[]) (fds : Array FieldInfo := #[]) : ClassFile where
  minorVersion := 0
  majorVersion := 65
  constantPool := pool
  accessFlags := fl
  thisClass := this
  superClass := sup
  interfaces := ifs
  fields := fds
  methods := ms
  attributes := attrs
def plain (name : String) (sup : Option ClassId) : Class where
  name := name
  kind := .ordinary
  loader := none
  accessFlags := 33
  super := sup
  interfaces := #[]
  cf := none
  fields := #[]
  methods := #[]
  instanceTypes := #[]
  staticTypes := #[]
  resolved := #[]
  callSites := []
  init := .initialized
  statics := none
  mirror := none

def pool0 : Array CpInfo := pool [(5, u "<init>"), (0, u "()V"), (1, .class_ 10), (1, u "java/lang/Object")] 113

def k0c0 : Code := { maxStack := 0, maxLocals := 1, code := object_method_1_code, exceptionTable := #[], attributes := #[] }
def k0m0 : Method := { name := "<init>", desc := "()V", sig := { parameters := [], returnType := none }, accessFlags := 1, code := some k0c0 }
/-- java/lang/Object -/
def k0 : Class := { plain "java/lang/Object" none with
  accessFlags := 33
  interfaces := #[]
  cf := some (fileOf pool0 8 #[] #[{ accessFlags := 1, nameIndex := 5, descriptorIndex := 6, attributes := #[] }] 33 0 #[] #[])
  fields := #[]
  methods := #[k0m0]
  instanceTypes := #[]
  staticTypes := #[]
  resolved := Array.replicate 124 none
  statics := none }

def pool1 : Array CpInfo := pool [(2, .class_ 4), (1, u "java/lang/Object"), (0, u "<init>"), (0, u "()V"), (0, .integer 2147483647), (0, .fieldref 9 10), (0, .class_ 11), (0, .nameAndType 12 13), (0, u "com/example/cerrojo/cerrojo/jdbc/Dialect"), (0, u "MARIADB"), (0, u "Lcom/example/cerrojo/cerrojo/jdbc/Dialect;"), (0, .fieldref 9 15), (0, .nameAndType 16 13), (0, u "POSTGRESQL"), (0, .class_ 18), (0, u "java/lang/String"), (0, .methodref 17 20), (0, .nameAndType 5 21), (0, u "([C)V"), (0, .methodref 9 23), (0, .nameAndType 24 25), (0, u "of"), (0, u "(Ljava/lang/String;)Lcom/example/cerrojo/cerrojo/jdbc/Dialect;"), (0, .class_ 27), (0, u "com/example/cerrojo/cerrojo/jdbc/DialectOfPinLaw"), (2, u "law"), (0, u "(I)Z")] 5

def k1m0 : Method := { name := "<init>", desc := "()V", sig := { parameters := [], returnType := none }, accessFlags := 1, code := none }
def k1c1 : Code := { maxStack := 4, maxLocals := 5, code := code, exceptionTable := #[], attributes := #[] }
def k1m1 : Method := { name := "law", desc := "(I)Z", sig := { parameters := [.int], returnType := some .boolean }, accessFlags := 9, code := some k1c1 }
/-- com/example/cerrojo/cerrojo/jdbc/DialectOfPinLaw -/
def k1 : Class := { plain "com/example/cerrojo/cerrojo/jdbc/DialectOfPinLaw" (some 0) with
  accessFlags := 49
  interfaces := #[]
  cf := some (fileOf pool1 26 #[] #[{ accessFlags := 1, nameIndex := 5, descriptorIndex := 6, attributes := #[] }, { accessFlags := 9, nameIndex := 30, descriptorIndex := 31, attributes := #[] }] 49 2 #[] #[])
  fields := #[]
  methods := #[k1m0, k1m1]
  instanceTypes := #[]
  staticTypes := #[]
  resolved := Array.replicate 37 none
  statics := none }

def pool2 : Array CpInfo := pool [(1, .class_ 2), (0, u "java/lang/constant/Constable"), (0, .class_ 4), (0, u "java/lang/Object")] 6

/-- java/lang/constant/Constable -/
def k2 : Class := { plain "java/lang/constant/Constable" (some 0) with
  accessFlags := 1537
  interfaces := #[]
  cf := some (fileOf pool2 1 #[] #[] 1537 3 #[] #[])
  fields := #[]
  methods := #[]
  instanceTypes := #[]
  staticTypes := #[]
  resolved := Array.replicate 11 none
  statics := none }

def pool3 : Array CpInfo := pool [(1, .class_ 2), (0, u "java/lang/Comparable"), (0, .class_ 4), (0, u "java/lang/Object")] 7

/-- java/lang/Comparable -/
def k3 : Class := { plain "java/lang/Comparable" (some 0) with
  accessFlags := 1537
  interfaces := #[]
  cf := some (fileOf pool3 1 #[] #[] 1537 3 #[] #[])
  fields := #[]
  methods := #[]
  instanceTypes := #[]
  staticTypes := #[]
  resolved := Array.replicate 12 none
  statics := none }

def pool4 : Array CpInfo := pool [(1, .class_ 2), (0, u "java/io/Serializable"), (0, .class_ 4), (0, u "java/lang/Object")] 2

/-- java/io/Serializable -/
def k4 : Class := { plain "java/io/Serializable" (some 0) with
  accessFlags := 1537
  interfaces := #[]
  cf := some (fileOf pool4 1 #[] #[] 1537 3 #[] #[])
  fields := #[]
  methods := #[]
  instanceTypes := #[]
  staticTypes := #[]
  resolved := Array.replicate 7 none
  statics := none }

def pool5 : Array CpInfo := pool [(2, .class_ 4), (1, u "java/lang/Enum"), (0, u "name"), (0, u "Ljava/lang/String;"), (2, u "ordinal"), (0, u "I"), (1, .class_ 14), (1, u "java/lang/Object"), (4, u "hash"), (86, .class_ 108), (1, u "java/lang/Enum$EnumDesc"), (2, .class_ 112), (0, u "java/lang/constant/Constable"), (0, .class_ 114), (0, u "java/lang/Comparable"), (0, .class_ 116), (0, u "java/io/Serializable")] 87

/-- java/lang/Enum -/
def k5 : Class := { plain "java/lang/Enum" (some 0) with
  accessFlags := 1057
  interfaces := #[2, 3, 4]
  cf := some (fileOf pool5 2 #[.nestMembers #[106]] #[] 1057 12 #[111, 113, 115] #[{ accessFlags := 18, nameIndex := 5, descriptorIndex := 6, attributes := #[] }, { accessFlags := 18, nameIndex := 9, descriptorIndex := 10, attributes := #[] }, { accessFlags := 2, nameIndex := 19, descriptorIndex := 10, attributes := #[] }])
  fields := #[{ name := "name", type := (.object "java/lang/String"), accessFlags := 18, slot := 0, constantValue := 0 }, { name := "ordinal", type := .int, accessFlags := 18, slot := 1, constantValue := 0 }, { name := "hash", type := .int, accessFlags := 2, slot := 2, constantValue := 0 }]
  methods := #[]
  instanceTypes := #[(.object "java/lang/String"), .int, .int]
  staticTypes := #[]
  resolved := Array.replicate 204 none
  statics := none }

def pool6 : Array CpInfo := pool [(1, .class_ 2), (0, u "com/example/cerrojo/cerrojo/jdbc/Dialect"), (0, .fieldref 1 4), (0, .nameAndType 5 6), (0, u "MARIADB"), (0, u "Lcom/example/cerrojo/cerrojo/jdbc/Dialect;"), (0, .fieldref 1 8), (0, .nameAndType 9 6), (0, u "POSTGRESQL"), (2, u "$VALUES"), (0, u "[Lcom/example/cerrojo/cerrojo/jdbc/Dialect;"), (6, .class_ 22), (1, u "java/lang/Enum"), (8, u "ddlResource"), (0, u "Ljava/lang/String;"), (2, u "now"), (2, u "leaseEnd"), (2, u "microsLeft"), (0, .string 43), (0, u "MariaDB"), (0, .methodref 45 46), (0, .class_ 47), (0, .nameAndType 48 49), (0, u "java/lang/String"), (0, u "equals"), (0, u "(Ljava/lang/Object;)Z"), (0, .string 51), (0, u "MySQL"), (0, .string 53), (0, u "PostgreSQL"), (80, u "(Ljava/lang/String;)Lcom/example/cerrojo/cerrojo/jdbc/Dialect;"), (3, u "of")] 26

def k6c0 : Code := { maxStack := 3, maxLocals := 2, code := prog_6_method_4_code, exceptionTable := #[], attributes := #[] }
def k6m0 : Method := { name := "of", desc := "(Ljava/lang/String;)Lcom/example/cerrojo/cerrojo/jdbc/Dialect;", sig := { parameters := [(.object "java/lang/String")], returnType := some (.object "com/example/cerrojo/cerrojo/jdbc/Dialect") }, accessFlags := 8, code := some k6c0 }
/-- com/example/cerrojo/cerrojo/jdbc/Dialect -/
def k6 : Class := { plain "com/example/cerrojo/cerrojo/jdbc/Dialect" (some 5) with
  accessFlags := 16432
  interfaces := #[]
  cf := some (fileOf pool6 1 #[] #[{ accessFlags := 8, nameIndex := 138, descriptorIndex := 134, attributes := #[] }] 16432 20 #[] #[{ accessFlags := 16409, nameIndex := 5, descriptorIndex := 6, attributes := #[] }, { accessFlags := 16409, nameIndex := 9, descriptorIndex := 6, attributes := #[] }, { accessFlags := 18, nameIndex := 31, descriptorIndex := 32, attributes := #[] }, { accessFlags := 18, nameIndex := 35, descriptorIndex := 32, attributes := #[] }, { accessFlags := 18, nameIndex := 38, descriptorIndex := 32, attributes := #[] }, { accessFlags := 18, nameIndex := 41, descriptorIndex := 32, attributes := #[] }, { accessFlags := 4122, nameIndex := 12, descriptorIndex := 13, attributes := #[] }])
  fields := #[{ name := "MARIADB", type := (.object "com/example/cerrojo/cerrojo/jdbc/Dialect"), accessFlags := 16409, slot := 0, constantValue := 0 }, { name := "POSTGRESQL", type := (.object "com/example/cerrojo/cerrojo/jdbc/Dialect"), accessFlags := 16409, slot := 1, constantValue := 0 }, { name := "ddlResource", type := (.object "java/lang/String"), accessFlags := 18, slot := 3, constantValue := 0 }, { name := "now", type := (.object "java/lang/String"), accessFlags := 18, slot := 4, constantValue := 0 }, { name := "leaseEnd", type := (.object "java/lang/String"), accessFlags := 18, slot := 5, constantValue := 0 }, { name := "microsLeft", type := (.object "java/lang/String"), accessFlags := 18, slot := 6, constantValue := 0 }, { name := "$VALUES", type := (.array (.object "com/example/cerrojo/cerrojo/jdbc/Dialect")), accessFlags := 4122, slot := 2, constantValue := 0 }]
  methods := #[k6m0]
  instanceTypes := #[(.object "java/lang/String"), .int, .int, (.object "java/lang/String"), (.object "java/lang/String"), (.object "java/lang/String"), (.object "java/lang/String")]
  staticTypes := #[(.object "com/example/cerrojo/cerrojo/jdbc/Dialect"), (.object "com/example/cerrojo/cerrojo/jdbc/Dialect"), (.array (.object "com/example/cerrojo/cerrojo/jdbc/Dialect"))]
  resolved := Array.replicate 165 none
  statics := some 0 }

def pool7 : Array CpInfo := pool [(2, .class_ 4), (1, u "java/lang/CharSequence"), (42, .class_ 48), (0, u "java/lang/CharSequence$1CodePointIterator"), (10, .class_ 60), (0, u "java/lang/CharSequence$1CharIterator"), (5, .class_ 67), (0, u "java/lang/Object")] 63

/-- java/lang/CharSequence -/
def k7 : Class := { plain "java/lang/CharSequence" (some 0) with
  accessFlags := 1537
  interfaces := #[]
  cf := some (fileOf pool7 2 #[.nestMembers #[47, 59]] #[] 1537 66 #[] #[])
  fields := #[]
  methods := #[]
  instanceTypes := #[]
  staticTypes := #[]
  resolved := Array.replicate 131 none
  statics := none }

def pool8 : Array CpInfo := pool [(1, .class_ 2), (0, u "java/lang/constant/ConstantDesc"), (0, .class_ 4), (0, u "java/lang/Object")] 32

/-- java/lang/constant/ConstantDesc -/
def k8 : Class := { plain "java/lang/constant/ConstantDesc" (some 0) with
  accessFlags := 1537
  interfaces := #[]
  cf := some (fileOf pool8 1 #[] #[] 1537 3 #[] #[])
  fields := #[]
  methods := #[]
  instanceTypes := #[]
  staticTypes := #[]
  resolved := Array.replicate 37 none
  statics := none }

def pool9 : Array CpInfo := pool [(1, .methodref 2 3), (0, .class_ 4), (0, .nameAndType 5 6), (0, u "java/lang/Object"), (0, u "<init>"), (0, u "()V"), (2, .fieldref 10 11), (0, .class_ 12), (0, .nameAndType 13 14), (0, u "java/lang/String"), (0, u "value"), (0, u "[B"), (0, .fieldref 10 16), (0, .nameAndType 17 18), (0, u "coder"), (0, u "B"), (2, u "hash"), (0, u "I"), (2, u "hashIsZero"), (0, u "Z"), (0, .methodref 10 28), (0, .nameAndType 5 29), (0, u "([CIILjava/lang/Void;)V"), (8, .fieldref 10 39), (0, .nameAndType 40 26), (0, u "COMPACT_STRINGS"), (1, .class_ 44), (1, u "java/lang/StringUTF16"), (0, u "compress"), (1, .methodref 42 48), (0, .nameAndType 49 50), (0, u "coderFromArrayLen"), (0, u "([BI)B"), (56, .class_ 109), (1, u "java/lang/StringLatin1"), (67, .methodref 42 178), (0, .nameAndType 45 179), (0, u "([CII)[B"), (361, .methodref 107 542), (0, .nameAndType 543 544), (0, u "equals"), (0, u "([B[B)Z"), (28, u "(Ljava/lang/Object;)Z"), (1, .class_ 576), (0, u "java/lang/CharSequence"), (22, u "CASE_INSENSITIVE_ORDER"), (0, u "Ljava/util/Comparator;"), (409, u "([C)V"), (90, u "serialPersistentFields"), (0, u "[Ljava/io/ObjectStreamField;"), (0, .class_ 1104), (0, u "java/lang/String$CaseInsensitiveComparator"), (1, .class_ 1107), (0, u "java/io/Serializable"), (0, .class_ 1109), (0, u "java/lang/Comparable"), (0, .class_ 1111), (0, u "java/lang/constant/Constable"), (0, .class_ 1113), (0, u "java/lang/constant/ConstantDesc"), (2, u "serialVersionUID"), (0, u "J"), (3, u "REPL"), (0, u "C"), (2, u "LATIN1"), (1, u "UTF16")] 323

def k9m0 : Method := { name := "<init>", desc := "()V", sig := { parameters := [], returnType := none }, accessFlags := 1, code := none }
def k9c1 : Code := { maxStack := 5, maxLocals := 2, code := jdk_42_method_3_code, exceptionTable := #[], attributes := #[] }
def k9m1 : Method := { name := "<init>", desc := "([C)V", sig := { parameters := [(.array .char)], returnType := none }, accessFlags := 1, code := some k9c1 }
def k9c2 : Code := { maxStack := 2, maxLocals := 3, code := jdk_42_method_66_code, exceptionTable := #[], attributes := #[] }
def k9m2 : Method := { name := "equals", desc := "(Ljava/lang/Object;)Z", sig := { parameters := [(.object "java/lang/Object")], returnType := some .boolean }, accessFlags := 1, code := some k9c2 }
def k9c3 : Code := { maxStack := 4, maxLocals := 6, code := jdk_42_method_149_code, exceptionTable := #[], attributes := #[] }
def k9m3 : Method := { name := "<init>", desc := "([CIILjava/lang/Void;)V", sig := { parameters := [(.array .char), .int, .int, (.object "java/lang/Void")], returnType := none }, accessFlags := 2, code := some k9c3 }
/-- java/lang/String -/
def k9 : Class := { plain "java/lang/String" (some 0) with
  accessFlags := 49
  interfaces := #[4, 3, 7, 2, 8]
  cf := some (fileOf pool9 10 #[.nestMembers #[1103]] #[{ accessFlags := 1, nameIndex := 5, descriptorIndex := 6, attributes := #[] }, { accessFlags := 1, nameIndex := 5, descriptorIndex := 1010, attributes := #[] }, { accessFlags := 1, nameIndex := 543, descriptorIndex := 573, attributes := #[] }, { accessFlags := 2, nameIndex := 5, descriptorIndex := 29, attributes := #[] }] 49 2 #[1106, 1108, 575, 1110, 1112] #[{ accessFlags := 18, nameIndex := 13, descriptorIndex := 14, attributes := #[] }, { accessFlags := 18, nameIndex := 17, descriptorIndex := 18, attributes := #[] }, { accessFlags := 2, nameIndex := 21, descriptorIndex := 22, attributes := #[] }, { accessFlags := 2, nameIndex := 25, descriptorIndex := 26, attributes := #[] }, { accessFlags := 26, nameIndex := 1116, descriptorIndex := 1117, attributes := #[] }, { accessFlags := 24, nameIndex := 40, descriptorIndex := 26, attributes := #[] }, { accessFlags := 26, nameIndex := 1101, descriptorIndex := 1102, attributes := #[] }, { accessFlags := 26, nameIndex := 1121, descriptorIndex := 1122, attributes := #[] }, { accessFlags := 25, nameIndex := 599, descriptorIndex := 600, attributes := #[] }, { accessFlags := 24, nameIndex := 1125, descriptorIndex := 18, attributes := #[] }, { accessFlags := 24, nameIndex := 1127, descriptorIndex := 18, attributes := #[] }])
  fields := #[{ name := "value", type := (.array .byte), accessFlags := 18, slot := 0, constantValue := 0 }, { name := "coder", type := .byte, accessFlags := 18, slot := 1, constantValue := 0 }, { name := "hash", type := .int, accessFlags := 2, slot := 2, constantValue := 0 }, { name := "hashIsZero", type := .boolean, accessFlags := 2, slot := 3, constantValue := 0 }, { name := "serialVersionUID", type := .long, accessFlags := 26, slot := 0, constantValue := 0 }, { name := "COMPACT_STRINGS", type := .boolean, accessFlags := 24, slot := 1, constantValue := 0 }, { name := "serialPersistentFields", type := (.array (.object "java/io/ObjectStreamField")), accessFlags := 26, slot := 2, constantValue := 0 }, { name := "REPL", type := .char, accessFlags := 26, slot := 3, constantValue := 0 }, { name := "CASE_INSENSITIVE_ORDER", type := (.object "java/util/Comparator"), accessFlags := 25, slot := 4, constantValue := 0 }, { name := "LATIN1", type := .byte, accessFlags := 24, slot := 5, constantValue := 0 }, { name := "UTF16", type := .byte, accessFlags := 24, slot := 6, constantValue := 0 }]
  methods := #[k9m0, k9m1, k9m2, k9m3]
  instanceTypes := #[(.array .byte), .byte, .int, .boolean]
  staticTypes := #[.long, .boolean, (.array (.object "java/io/ObjectStreamField")), .char, (.object "java/util/Comparator"), .byte, .byte]
  resolved := Array.replicate 1451 none
  statics := some 1 }

def pool10 : Array CpInfo := pool [(6, .class_ 8), (1, u "java/lang/Object"), (0, u "<init>"), (0, u "()V"), (1, .class_ 14), (1, u "java/lang/StringUTF16"), (31, u "$assertionsDisabled"), (0, u "Z"), (13, u "HI_BYTE_SHIFT"), (0, u "I"), (2, u "LO_BYTE_SHIFT"), (49, .methodref 12 116), (0, .nameAndType 117 118), (0, u "compress"), (0, u "([CI[BII)I"), (3, u "([CII)[B"), (138, u "coderFromArrayLen"), (0, u "([BI)B"), (106, .class_ 371), (1, u "java/lang/StringUTF16$LinesSpliterator"), (58, u "MAX_LENGTH"), (196, .class_ 628), (0, u "java/lang/StringUTF16$CodePointsSpliterator"), (0, .class_ 630), (0, u "java/lang/StringUTF16$CharsSpliterator")] 4

def k10m0 : Method := { name := "<init>", desc := "()V", sig := { parameters := [], returnType := none }, accessFlags := 0, code := none }
def k10c1 : Code := { maxStack := 2, maxLocals := 2, code := jdk_52_method_15_code, exceptionTable := #[], attributes := #[] }
def k10m1 : Method := { name := "coderFromArrayLen", desc := "([BI)B", sig := { parameters := [(.array .byte), .int], returnType := some .byte }, accessFlags := 8, code := some k10c1 }
def k10c2 : Code := { maxStack := 5, maxLocals := 6, code := jdk_52_method_16_code, exceptionTable := #[], attributes := #[] }
def k10m2 : Method := { name := "compress", desc := "([CII)[B", sig := { parameters := [(.array .char), .int, .int], returnType := some (.array .byte) }, accessFlags := 9, code := some k10c2 }
def k10c3 : Code := { maxStack := 3, maxLocals := 7, code := jdk_52_method_21_code, exceptionTable := #[], attributes := #[] }
def k10m3 : Method := { name := "compress", desc := "([CI[BII)I", sig := { parameters := [(.array .char), .int, (.array .byte), .int, .int], returnType := some .int }, accessFlags := 9, code := some k10c3 }
/-- java/lang/StringUTF16 -/
def k10 : Class := { plain "java/lang/StringUTF16" (some 0) with
  accessFlags := 48
  interfaces := #[]
  cf := some (fileOf pool10 12 #[.nestMembers #[627, 629, 369]] #[{ accessFlags := 0, nameIndex := 9, descriptorIndex := 10, attributes := #[] }, { accessFlags := 8, nameIndex := 261, descriptorIndex := 262, attributes := #[] }, { accessFlags := 9, nameIndex := 117, descriptorIndex := 122, attributes := #[] }, { accessFlags := 9, nameIndex := 117, descriptorIndex := 118, attributes := #[] }] 48 6 #[] #[{ accessFlags := 26, nameIndex := 61, descriptorIndex := 62, attributes := #[] }, { accessFlags := 26, nameIndex := 65, descriptorIndex := 62, attributes := #[] }, { accessFlags := 24, nameIndex := 430, descriptorIndex := 62, attributes := #[] }, { accessFlags := 4120, nameIndex := 46, descriptorIndex := 47, attributes := #[] }])
  fields := #[{ name := "HI_BYTE_SHIFT", type := .int, accessFlags := 26, slot := 0, constantValue := 0 }, { name := "LO_BYTE_SHIFT", type := .int, accessFlags := 26, slot := 1, constantValue := 0 }, { name := "MAX_LENGTH", type := .int, accessFlags := 24, slot := 2, constantValue := 0 }, { name := "$assertionsDisabled", type := .boolean, accessFlags := 4120, slot := 3, constantValue := 0 }]
  methods := #[k10m0, k10m1, k10m2, k10m3]
  instanceTypes := #[]
  staticTypes := #[.int, .int, .int, .boolean]
  resolved := Array.replicate 635 none
  statics := none }

def pool11 : Array CpInfo := pool [(4, .class_ 6), (1, u "java/lang/Object"), (0, u "<init>"), (0, u "()V"), (5, .class_ 16), (1, u "java/lang/StringLatin1"), (104, u "$assertionsDisabled"), (0, u "Z"), (98, .class_ 223), (1, u "java/lang/StringLatin1$LinesSpliterator"), (57, u "equals"), (0, u "([B[B)Z"), (107, .class_ 391), (0, u "java/lang/StringLatin1$CharsSpliterator")] 3

def k11m0 : Method := { name := "<init>", desc := "()V", sig := { parameters := [], returnType := none }, accessFlags := 0, code := none }
def k11c1 : Code := { maxStack := 3, maxLocals := 3, code := jdk_43_method_13_code, exceptionTable := #[], attributes := #[] }
def k11m1 : Method := { name := "equals", desc := "([B[B)Z", sig := { parameters := [(.array .byte), (.array .byte)], returnType := some .boolean }, accessFlags := 9, code := some k11c1 }
/-- java/lang/StringLatin1 -/
def k11 : Class := { plain "java/lang/StringLatin1" (some 0) with
  accessFlags := 48
  interfaces := #[]
  cf := some (fileOf pool11 14 #[.nestMembers #[390, 221]] #[{ accessFlags := 0, nameIndex := 7, descriptorIndex := 8, attributes := #[] }, { accessFlags := 9, nameIndex := 281, descriptorIndex := 282, attributes := #[] }] 48 4 #[] #[{ accessFlags := 4120, nameIndex := 121, descriptorIndex := 122, attributes := #[] }])
  fields := #[{ name := "$assertionsDisabled", type := .boolean, accessFlags := 4120, slot := 0, constantValue := 0 }]
  methods := #[k11m0, k11m1]
  instanceTypes := #[]
  staticTypes := #[.boolean]
  resolved := Array.replicate 395 none
  statics := none }

def pool12 : Array CpInfo := pool [(2, .class_ 4), (1, u "java/lang/Object"), (0, u "<init>"), (0, u "()V"), (17, .class_ 26), (1, u "jdk/internal/util/Preconditions"), (28, .class_ 56), (0, u "jdk/internal/util/Preconditions$4"), (57, .class_ 115), (0, u "jdk/internal/util/Preconditions$1"), (7, u "SIOOBE_FORMATTER"), (0, u "Ljava/util/function/BiFunction;"), (0, .class_ 126), (0, u "jdk/internal/util/Preconditions$2"), (3, u "AIOOBE_FORMATTER"), (0, .class_ 132), (0, u "jdk/internal/util/Preconditions$3"), (3, u "IOOBE_FORMATTER")] 57

def k12m0 : Method := { name := "<init>", desc := "()V", sig := { parameters := [], returnType := none }, accessFlags := 1, code := none }
/-- jdk/internal/util/Preconditions -/
def k12 : Class := { plain "jdk/internal/util/Preconditions" (some 0) with
  accessFlags := 33
  interfaces := #[]
  cf := some (fileOf pool12 24 #[.nestMembers #[55, 131, 125, 114]] #[{ accessFlags := 1, nameIndex := 5, descriptorIndex := 6, attributes := #[] }] 33 2 #[] #[{ accessFlags := 25, nameIndex := 123, descriptorIndex := 124, attributes := #[] }, { accessFlags := 25, nameIndex := 130, descriptorIndex := 124, attributes := #[] }, { accessFlags := 25, nameIndex := 136, descriptorIndex := 124, attributes := #[] }])
  fields := #[{ name := "SIOOBE_FORMATTER", type := (.object "java/util/function/BiFunction"), accessFlags := 25, slot := 0, constantValue := 0 }, { name := "AIOOBE_FORMATTER", type := (.object "java/util/function/BiFunction"), accessFlags := 25, slot := 1, constantValue := 0 }, { name := "IOOBE_FORMATTER", type := (.object "java/util/function/BiFunction"), accessFlags := 25, slot := 2, constantValue := 0 }]
  methods := #[k12m0]
  instanceTypes := #[]
  staticTypes := #[(.object "java/util/function/BiFunction"), (.object "java/util/function/BiFunction"), (.object "java/util/function/BiFunction")]
  resolved := Array.replicate 194 none
  statics := some 2 }

def pool13 : Array CpInfo := pool [(9, u "<init>"), (6, .class_ 18), (1, u "java/lang/Object"), (0, u "()V"), (1, .class_ 23), (1, u "jdk/internal/util/ArraysSupport"), (0, u "LOG2_ARRAY_LONG_INDEX_SCALE"), (0, u "I"), (2, u "U"), (0, u "Ljdk/internal/misc/Unsafe;"), (8, u "BIG_ENDIAN"), (0, u "Z"), (8, u "LOG2_BYTE_BIT_SIZE"), (4, u "LOG2_ARRAY_INT_INDEX_SCALE"), (54, u "JLA"), (0, u "Ljdk/internal/access/JavaLangAccess;"), (11, u "LOG2_ARRAY_BOOLEAN_INDEX_SCALE"), (9, u "LOG2_ARRAY_BYTE_INDEX_SCALE"), (5, u "LOG2_ARRAY_CHAR_INDEX_SCALE"), (5, u "LOG2_ARRAY_SHORT_INDEX_SCALE"), (18, u "LOG2_ARRAY_FLOAT_INDEX_SCALE"), (24, u "LOG2_ARRAY_DOUBLE_INDEX_SCALE"), (89, u "T_BOOLEAN"), (2, u "T_CHAR"), (1, u "T_FLOAT"), (1, u "T_DOUBLE"), (1, u "T_BYTE"), (1, u "T_SHORT"), (1, u "T_INT"), (1, u "T_LONG"), (1, u "SOFT_MAX_ARRAY_LENGTH")] 83

def k13m0 : Method := { name := "<init>", desc := "()V", sig := { parameters := [], returnType := none }, accessFlags := 2, code := none }
/-- jdk/internal/util/ArraysSupport -/
def k13 : Class := { plain "jdk/internal/util/ArraysSupport" (some 0) with
  accessFlags := 33
  interfaces := #[]
  cf := some (fileOf pool13 21 #[] #[{ accessFlags := 2, nameIndex := 9, descriptorIndex := 19, attributes := #[] }] 33 16 #[] #[{ accessFlags := 24, nameIndex := 28, descriptorIndex := 29, attributes := #[] }, { accessFlags := 26, nameIndex := 38, descriptorIndex := 39, attributes := #[] }, { accessFlags := 25, nameIndex := 121, descriptorIndex := 25, attributes := #[] }, { accessFlags := 25, nameIndex := 131, descriptorIndex := 25, attributes := #[] }, { accessFlags := 25, nameIndex := 137, descriptorIndex := 25, attributes := #[] }, { accessFlags := 25, nameIndex := 143, descriptorIndex := 25, attributes := #[] }, { accessFlags := 25, nameIndex := 53, descriptorIndex := 25, attributes := #[] }, { accessFlags := 25, nameIndex := 24, descriptorIndex := 25, attributes := #[] }, { accessFlags := 25, nameIndex := 162, descriptorIndex := 25, attributes := #[] }, { accessFlags := 25, nameIndex := 187, descriptorIndex := 25, attributes := #[] }, { accessFlags := 26, nameIndex := 48, descriptorIndex := 25, attributes := #[] }, { accessFlags := 25, nameIndex := 277, descriptorIndex := 25, attributes := #[] }, { accessFlags := 25, nameIndex := 280, descriptorIndex := 25, attributes := #[] }, { accessFlags := 25, nameIndex := 282, descriptorIndex := 25, attributes := #[] }, { accessFlags := 25, nameIndex := 284, descriptorIndex := 25, attributes := #[] }, { accessFlags := 25, nameIndex := 286, descriptorIndex := 25, attributes := #[] }, { accessFlags := 25, nameIndex := 288, descriptorIndex := 25, attributes := #[] }, { accessFlags := 25, nameIndex := 290, descriptorIndex := 25, attributes := #[] }, { accessFlags := 25, nameIndex := 292, descriptorIndex := 25, attributes := #[] }, { accessFlags := 26, nameIndex := 108, descriptorIndex := 109, attributes := #[] }, { accessFlags := 25, nameIndex := 294, descriptorIndex := 25, attributes := #[] }])
  fields := #[{ name := "U", type := (.object "jdk/internal/misc/Unsafe"), accessFlags := 24, slot := 0, constantValue := 0 }, { name := "BIG_ENDIAN", type := .boolean, accessFlags := 26, slot := 1, constantValue := 0 }, { name := "LOG2_ARRAY_BOOLEAN_INDEX_SCALE", type := .int, accessFlags := 25, slot := 2, constantValue := 0 }, { name := "LOG2_ARRAY_BYTE_INDEX_SCALE", type := .int, accessFlags := 25, slot := 3, constantValue := 0 }, { name := "LOG2_ARRAY_CHAR_INDEX_SCALE", type := .int, accessFlags := 25, slot := 4, constantValue := 0 }, { name := "LOG2_ARRAY_SHORT_INDEX_SCALE", type := .int, accessFlags := 25, slot := 5, constantValue := 0 }, { name := "LOG2_ARRAY_INT_INDEX_SCALE", type := .int, accessFlags := 25, slot := 6, constantValue := 0 }, { name := "LOG2_ARRAY_LONG_INDEX_SCALE", type := .int, accessFlags := 25, slot := 7, constantValue := 0 }, { name := "LOG2_ARRAY_FLOAT_INDEX_SCALE", type := .int, accessFlags := 25, slot := 8, constantValue := 0 }, { name := "LOG2_ARRAY_DOUBLE_INDEX_SCALE", type := .int, accessFlags := 25, slot := 9, constantValue := 0 }, { name := "LOG2_BYTE_BIT_SIZE", type := .int, accessFlags := 26, slot := 10, constantValue := 0 }, { name := "T_BOOLEAN", type := .int, accessFlags := 25, slot := 11, constantValue := 0 }, { name := "T_CHAR", type := .int, accessFlags := 25, slot := 12, constantValue := 0 }, { name := "T_FLOAT", type := .int, accessFlags := 25, slot := 13, constantValue := 0 }, { name := "T_DOUBLE", type := .int, accessFlags := 25, slot := 14, constantValue := 0 }, { name := "T_BYTE", type := .int, accessFlags := 25, slot := 15, constantValue := 0 }, { name := "T_SHORT", type := .int, accessFlags := 25, slot := 16, constantValue := 0 }, { name := "T_INT", type := .int, accessFlags := 25, slot := 17, constantValue := 0 }, { name := "T_LONG", type := .int, accessFlags := 25, slot := 18, constantValue := 0 }, { name := "JLA", type := (.object "jdk/internal/access/JavaLangAccess"), accessFlags := 26, slot := 19, constantValue := 0 }, { name := "SOFT_MAX_ARRAY_LENGTH", type := .int, accessFlags := 25, slot := 20, constantValue := 0 }]
  methods := #[k13m0]
  instanceTypes := #[]
  staticTypes := #[(.object "jdk/internal/misc/Unsafe"), .boolean, .int, .int, .int, .int, .int, .int, .int, .int, .int, .int, .int, .int, .int, .int, .int, .int, .int, (.object "jdk/internal/access/JavaLangAccess"), .int]
  resolved := Array.replicate 378 none
  statics := none }

def pool14 : Array CpInfo := pool [(1, u "java/lang/Cloneable"), (0, .class_ 1), (0, u "java/lang/Object"), (0, .class_ 3)] 3

/-- java/lang/Cloneable -/
def k14 : Class := { plain "java/lang/Cloneable" (some 0) with
  accessFlags := 1537
  interfaces := #[]
  cf := some (fileOf pool14 2 #[] #[] 1537 4 #[] #[])
  fields := #[]
  methods := #[]
  instanceTypes := #[]
  staticTypes := #[]
  resolved := Array.replicate 8 none
  statics := none }

/-- the primitive byte -/
def k15 : Class := { plain "byte" none with kind := .primitive 'B', accessFlags := 0x411 }
/-- [B -/
def k16 : Class := { plain "[B" (some 0) with kind := .array 15 .byte, interfaces := #[14, 4], accessFlags := 1041 }

/-- the primitive char -/
def k17 : Class := { plain "char" none with kind := .primitive 'C', accessFlags := 0x411 }
/-- [C -/
def k18 : Class := { plain "[C" (some 0) with kind := .array 17 .char, interfaces := #[14, 4], accessFlags := 1041 }

/-- the primitive int -/
def k19 : Class := { plain "int" none with kind := .primitive 'I', accessFlags := 0x411 }
/-- [I -/
def k20 : Class := { plain "[I" (some 0) with kind := .array 19 .int, interfaces := #[14, 4], accessFlags := 1041 }

def heap : Heap := #[{ cls := 6, slots := #[.ref 3, .ref 4, .null], vm := .statics 6 },
  { cls := 9, slots := #[.long 0, .int 1, .null, .int 0, .null, .int 0, .int 0], vm := .statics 9 },
  { cls := 12, slots := #[.null, .null, .null], vm := .statics 12 },
  { cls := 6, slots := #[.null, .int 0, .int 0, .null, .null, .null, .null], vm := .none },
  { cls := 6, slots := #[.null, .int 1, .int 0, .null, .null, .null, .null], vm := .none }]
def classes : Array Class := #[k0, k1, k2, k3, k4, k5, k6, k7, k8, k9, k10, k11, k12, k13, k14, k15, k16, k17, k18, k19, k20]
def interned : List (Array UInt16 × Addr) := []
def slotsUsed : Nat := 27
def theMethod : MethodId := ⟨1, 1⟩
def args0 : Array Value := #[.int 5]
def aboutOver (below : List Frame) : State where
  vm := { classes := classes, interned := interned.toArray }
  heap := heap
  slotsUsed := slotsUsed
  threads := #[{ frames := .invoking theMethod args0 :: below }]
def below0 : List Frame := [.native { method := ⟨0, 0⟩, args := #[] }]
def about1 : State := aboutOver below0
def p0 : Program := .bare "" "" ""
def e0 : Env := launch0.env 0 0 0
theorem w_frames : about1.frames = Frame.invoking theMethod args0 :: below0 := rfl
set_option maxRecDepth 65536 in
theorem w_args : argsFit about1.vm theMethod args0 = true := by decide +kernel
set_option maxRecDepth 65536 in
theorem w_heap : heapFits about1 = true := by decide +kernel
set_option maxRecDepth 65536 in
theorem w_runnable : about1.curStatus? = some .runnable := by decide +kernel
set_option maxRecDepth 65536 in
theorem w_alone : about1.alone = true := by decide +kernel
set_option maxRecDepth 65536 in
theorem w_named : about1.methodNamed? x = some theMethod := by decide +kernel
set_option maxRecDepth 65536 in
theorem w_hears : about1.hears theMethod below0 = true := by decide +kernel
set_option maxRecDepth 65536 in
theorem w_ripe : about1.ripe theMethod args0 below0 = true := by decide +kernel
theorem w_running : about1.status = .running := rfl
set_option maxRecDepth 65536 in
theorem w_room : about1.hasRoom e0.platform room_1 = true :=
  launch0.hasRoom_least _ room_1 (by decide +kernel) (by decide +kernel) (by decide +kernel) (by decide +kernel) (by decide +kernel) (by decide +kernel)
theorem allAtoms_all (ts : List Jvm.Cond) (a : Array Jvm.Value) (st : Jvm.State) : (allAtoms ts).before a st = ts.all (fun c => c.before a st) := by
  induction ts with
  | nil => rfl
  | cons c t ih =>
    show (Jvm.Cond.and c (allAtoms t)).before a st = _
    rw [Jvm.Cond.before_and, ih, List.all_cons]
def words1 : List Jvm.Cond := Jvm.Cond.code x code maxLocals ret :: tables_1
/-- a 'code' word, met by the world's own term for the bytes: nothing is compared byte by byte -/
theorem code_word {y : MethodName} {bytes : ByteArray} {mx : Nat} {rt : Option FieldType} {a : Array Value} {s : State} {m : MethodId} {meth : Method} {c : Code} (h1 : s.methodNamed? y = some m) (h2 : s.vm.method? m = some meth) (h3 : meth.code = some c) (h4 : c.code = bytes)
    (h5 : (c.maxLocals == mx && c.exceptionTable.isEmpty && decide (c.maxStack ≤ mostOperands) && decide (meth.sig.returnType = rt) && !meth.locks && decide (parseMethodDescriptor y.desc = some meth.sig)) = true) : (Jvm.Cond.code y bytes mx rt).before a s = true := by
  simp only [Bool.and_eq_true, beq_iff_eq, Bool.not_eq_true', decide_eq_true_eq] at h5
  obtain ⟨⟨⟨⟨⟨g1, g2⟩, g3⟩, g4⟩, g5⟩, g6⟩ := h5
  simp [Cond.before, Cond.holds, Cond.value, h1, h2, h3, h4, g1, g2, g3, g4, g5, g6]
def isCode : Jvm.Cond → Bool
  | .code _ _ _ _ => true
  | _ => false
theorem all_split {L : List Jvm.Cond} {P : Jvm.Cond → Bool} (h1 : L.all (fun c => isCode c || P c) = true) (h2 : ∀ c ∈ L.filter isCode, P c = true) : L.all P = true := by
  refine List.all_eq_true.mpr fun c hc => ?_
  have h := List.all_eq_true.mp h1 c hc
  rcases Bool.eq_false_or_eq_true (isCode c) with hi | hi
  · exact h2 c (List.mem_filter.mpr ⟨hc, hi⟩)
  · simpa [hi] using h
set_option maxRecDepth 65536 in
theorem w_c0 : (Jvm.Cond.code x code maxLocals ret).before args0 about1 = true := code_word (m := ⟨1, 1⟩) (meth := k1m1) (c := k1c1) (by decide +kernel) rfl rfl rfl (by decide +kernel)
set_option maxRecDepth 65536 in
theorem w_c1 : (Jvm.Cond.code ({ cls := "java/lang/String", name := "<init>", desc := "([C)V" } : Jvm.MethodName) jdk_42_method_3_code (2 : Nat) (Option.none : Option Jvm.ClassFile.FieldType)).before args0 about1 = true := code_word (m := ⟨9, 1⟩) (meth := k9m1) (c := k9c1) (by decide +kernel) rfl rfl rfl (by decide +kernel)
set_option maxRecDepth 65536 in
theorem w_c2 : (Jvm.Cond.code ({ cls := "java/lang/String", name := "<init>", desc := "([CIILjava/lang/Void;)V" } : Jvm.MethodName) jdk_42_method_149_code (6 : Nat) (Option.none : Option Jvm.ClassFile.FieldType)).before args0 about1 = true := code_word (m := ⟨9, 3⟩) (meth := k9m3) (c := k9c3) (by decide +kernel) rfl rfl rfl (by decide +kernel)
set_option maxRecDepth 65536 in
theorem w_c3 : (Jvm.Cond.code ({ cls := "java/lang/Object", name := "<init>", desc := "()V" } : Jvm.MethodName) object_method_1_code (1 : Nat) (Option.none : Option Jvm.ClassFile.FieldType)).before args0 about1 = true := code_word (m := ⟨0, 0⟩) (meth := k0m0) (c := k0c0) (by decide +kernel) rfl rfl rfl (by decide +kernel)
set_option maxRecDepth 65536 in
theorem w_c4 : (Jvm.Cond.code ({ cls := "java/lang/StringUTF16", name := "compress", desc := "([CII)[B" } : Jvm.MethodName) jdk_52_method_16_code (6 : Nat) (Option.some (Jvm.ClassFile.FieldType.array Jvm.ClassFile.FieldType.byte))).before args0 about1 = true := code_word (m := ⟨10, 2⟩) (meth := k10m2) (c := k10c2) (by decide +kernel) rfl rfl rfl (by decide +kernel)
set_option maxRecDepth 65536 in
theorem w_c5 : (Jvm.Cond.code ({ cls := "java/lang/StringUTF16", name := "compress", desc := "([CI[BII)I" } : Jvm.MethodName) jdk_52_method_21_code (7 : Nat) (Option.some Jvm.ClassFile.FieldType.int)).before args0 about1 = true := code_word (m := ⟨10, 3⟩) (meth := k10m3) (c := k10c3) (by decide +kernel) rfl rfl rfl (by decide +kernel)
set_option maxRecDepth 65536 in
theorem w_c6 : (Jvm.Cond.code ({ cls := "java/lang/StringUTF16", name := "coderFromArrayLen", desc := "([BI)B" } : Jvm.MethodName) jdk_52_method_15_code (2 : Nat) (Option.some Jvm.ClassFile.FieldType.byte)).before args0 about1 = true := code_word (m := ⟨10, 1⟩) (meth := k10m1) (c := k10c1) (by decide +kernel) rfl rfl rfl (by decide +kernel)
set_option maxRecDepth 65536 in
theorem w_c7 : (Jvm.Cond.code ({ cls := "com/example/cerrojo/cerrojo/jdbc/Dialect", name := "of", desc := "(Ljava/lang/String;)Lcom/example/cerrojo/cerrojo/jdbc/Dialect;" } : Jvm.MethodName) prog_6_method_4_code (2 : Nat) (Option.some (Jvm.ClassFile.FieldType.object "com/example/cerrojo/cerrojo/jdbc/Dialect"))).before args0 about1 = true := code_word (m := ⟨6, 0⟩) (meth := k6m0) (c := k6c0) (by decide +kernel) rfl rfl rfl (by decide +kernel)
set_option maxRecDepth 65536 in
theorem w_c8 : (Jvm.Cond.code ({ cls := "java/lang/String", name := "equals", desc := "(Ljava/lang/Object;)Z" } : Jvm.MethodName) jdk_42_method_66_code (3 : Nat) (Option.some Jvm.ClassFile.FieldType.boolean)).before args0 about1 = true := code_word (m := ⟨9, 2⟩) (meth := k9m2) (c := k9c2) (by decide +kernel) rfl rfl rfl (by decide +kernel)
set_option maxRecDepth 65536 in
theorem w_c9 : (Jvm.Cond.code ({ cls := "java/lang/StringLatin1", name := "equals", desc := "([B[B)Z" } : Jvm.MethodName) jdk_43_method_13_code (3 : Nat) (Option.some Jvm.ClassFile.FieldType.boolean)).before args0 about1 = true := code_word (m := ⟨11, 1⟩) (meth := k11m1) (c := k11c1) (by decide +kernel) rfl rfl rfl (by decide +kernel)
def codes1 : List Jvm.Cond := [Jvm.Cond.code x code maxLocals ret, Jvm.Cond.code ({ cls := "java/lang/String", name := "<init>", desc := "([C)V" } : Jvm.MethodName) jdk_42_method_3_code (2 : Nat) (Option.none : Option Jvm.ClassFile.FieldType), Jvm.Cond.code ({ cls := "java/lang/String", name := "<init>", desc := "([CIILjava/lang/Void;)V" } : Jvm.MethodName) jdk_42_method_149_code (6 : Nat) (Option.none : Option Jvm.ClassFile.FieldType), Jvm.Cond.code ({ cls := "java/lang/Object", name := "<init>", desc := "()V" } : Jvm.MethodName) object_method_1_code (1 : Nat) (Option.none : Option Jvm.ClassFile.FieldType), Jvm.Cond.code ({ cls := "java/lang/StringUTF16", name := "compress", desc := "([CII)[B" } : Jvm.MethodName) jdk_52_method_16_code (6 : Nat) (Option.some (Jvm.ClassFile.FieldType.array Jvm.ClassFile.FieldType.byte)), Jvm.Cond.code ({ cls := "java/lang/StringUTF16", name := "compress", desc := "([CI[BII)I" } : Jvm.MethodName) jdk_52_method_21_code (7 : Nat) (Option.some Jvm.ClassFile.FieldType.int), Jvm.Cond.code ({ cls := "java/lang/StringUTF16", name := "coderFromArrayLen", desc := "([BI)B" } : Jvm.MethodName) jdk_52_method_15_code (2 : Nat) (Option.some Jvm.ClassFile.FieldType.byte), Jvm.Cond.code ({ cls := "com/example/cerrojo/cerrojo/jdbc/Dialect", name := "of", desc := "(Ljava/lang/String;)Lcom/example/cerrojo/cerrojo/jdbc/Dialect;" } : Jvm.MethodName) prog_6_method_4_code (2 : Nat) (Option.some (Jvm.ClassFile.FieldType.object "com/example/cerrojo/cerrojo/jdbc/Dialect")), Jvm.Cond.code ({ cls := "java/lang/String", name := "equals", desc := "(Ljava/lang/Object;)Z" } : Jvm.MethodName) jdk_42_method_66_code (3 : Nat) (Option.some Jvm.ClassFile.FieldType.boolean), Jvm.Cond.code ({ cls := "java/lang/StringLatin1", name := "equals", desc := "([B[B)Z" } : Jvm.MethodName) jdk_43_method_13_code (3 : Nat) (Option.some Jvm.ClassFile.FieldType.boolean)]
set_option maxRecDepth 65536 in
theorem codes_eq : words1.filter isCode = codes1 := rfl
theorem w_codes : ∀ c ∈ words1.filter isCode, c.before args0 about1 = true := by
  rw [codes_eq]
  intro c hc
  simp only [codes1, List.mem_cons, List.not_mem_nil, or_false] at hc
  rcases hc with rfl | rfl | rfl | rfl | rfl | rfl | rfl | rfl | rfl | rfl
  · exact w_c0
  · exact w_c1
  · exact w_c2
  · exact w_c3
  · exact w_c4
  · exact w_c5
  · exact w_c6
  · exact w_c7
  · exact w_c8
  · exact w_c9
set_option maxRecDepth 65536 in
theorem w_t1 : (words1.take 24).all (fun c => isCode c || c.before args0 about1) = true := by decide +kernel
set_option maxRecDepth 65536 in
theorem w_t2 : ((words1.drop 24).take 24).all (fun c => isCode c || c.before args0 about1) = true := by decide +kernel
set_option maxRecDepth 65536 in
theorem w_t3 : ((words1.drop 24).drop 24).all (fun c => isCode c || c.before args0 about1) = true := by decide +kernel
theorem w_tables : (allAtoms (Jvm.Cond.code x code maxLocals ret :: tables_1)).before args0 about1 = true := by
  rw [allAtoms_all]
  show words1.all (fun c => c.before args0 about1) = true
  refine all_split ?_ w_codes
  rw [← List.take_append_drop 24 words1, List.all_append, w_t1, ← List.take_append_drop 24 (words1.drop 24), List.all_append, w_t2, w_t3]
  rfl
set_option maxRecDepth 65536 in
theorem w_rest : rest_1_c.before args0 about1 = true := by decide +kernel
set_option maxRecDepth 65536 in
theorem w_case : (Jvm.Cond.and given_1 narrow_1).before args0 about1 = true := by decide +kernel
set_option maxRecDepth 65536 in
theorem w_consts : constsHeld consts_1 about1 := Jvm.Lit.constsHeldB_iff.mp (by decide +kernel)
theorem w_applies : (headSpec (Jvm.Cond.code x code maxLocals ret :: tables_1) room_1).applies x e0.platform about1 = true :=
  (Spec.applies_iff w_frames).mpr ⟨w_running, w_runnable, w_alone, w_named, w_hears, w_ripe, w_room, w_tables⟩
theorem atStart : AtStart classFile x code maxLocals ret World_1 tables_1 room_1 Calls_1 rest_1 Pre_1 launch0 p0 e0 about1 theMethod args0 below0 :=
  ⟨lists_1, trivial, launch0.admits_env _ _ _, launch0.least_env, fairChoices_fair.cas, fairChoices_fair.clock, w_frames, w_args, w_heap, w_applies, ⟨w_consts, trivial⟩, w_rest, w_case⟩
end start1
theorem witness_1 : WitnessClaimed_1 := ⟨start1.p0, start1.e0, start1.about1, start1.theMethod, start1.args0, start1.below0, start1.atStart⟩
end Jvm.Pilot.@@N@@
