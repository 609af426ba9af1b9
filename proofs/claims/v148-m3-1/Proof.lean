import JvmDerived
import JvmDerived.Pilot.@@N@@Statement
import JvmDerived.Pilot.@@N@@Code
set_option linter.unusedVariables false
set_option linter.unusedSimpArgs false
/- laws to paste: Road.backV, Road.lenW, Road.chN, Road.empW, Road.codOf (cut by pick.py; bodies as the Statement names them) -/
namespace Jvm.Pilot.@@N@@
namespace StrChars
open Jvm Sem ClassFile Op Lib Jvm.Stand Jvm.Free.XT Jvm.Free.ALB Jvm.Free.JM Jvm.Free
open Jvm.Lib.Cold (StaticIs)
/-- a char array whose places are chars -/
def Ch (a : Addr) (A : Cell) (U : State) : Prop := Arr .char a A U ∧ Typed .char A
theorem Ch.mv {a : Addr} {A : Cell} {U U' : State} (h : Ch a A U) (hal : U.vm.Alike U'.vm) (hh : U'.heap = U.heap) : Ch a A U' := ⟨h.1.mv hal hh, h.2⟩
theorem Ch.keep {a : Addr} {A : Cell} {U U' : State} (h : Ch a A U) (hal : U.vm.Alike U'.vm) (hk : U'.heap[a]? = some A) : Ch a A U' := ⟨h.1.keep hal hk, h.2⟩
/-- what place i of a char[]'s cell holds -/
def cv (A : Cell) (i : Nat) : Int32 := match A.slots[i]? with | some (.int x) => x | _ => 0
theorem Ch.get {a : Addr} {A : Cell} {U : State} (h : Ch a A U) {i : Nat} (hi : i < A.slots.size) : A.slots[i]? = some (.int (cv A i)) := by
  have e := Array.getElem?_eq_getElem hi
  have f := h.2 i _ e
  unfold cv; rw [e]
  generalize A.slots[i] = v at f
  cases v <;> simp [fits] at f ⊢
/-- the byte that i2b leaves of a char -/
def lo8 (x : Int32) : Int32 := x.toInt8.toInt32
theorem fits_lo8 (y : Int32) : fits .byte (.int (lo8 y)) = true := by
  have h1 := y.toInt8.le_toInt
  have h2 := y.toInt8.toInt_lt
  simp only [lo8, fits, Bool.and_eq_true, decide_eq_true_eq, Int32.le_iff_toInt_le, Int8.toInt_toInt32, show (-128 : Int32).toInt = -128 from by decide, show (127 : Int32).toInt = 127 from by decide]
  omega
/-- A' is A but that each place j of lo .. hi - 1 holds f j -/
def Laid (A A' : Cell) (lo hi : Nat) (f : Nat → Value) : Prop := A'.cls = A.cls ∧ A'.vm = A.vm ∧ A'.slots.size = A.slots.size ∧ ∀ i, A'.slots[i]? = if lo ≤ i ∧ i < hi then some (f i) else A.slots[i]?
theorem Laid.zero (A : Cell) (lo : Nat) (f : Nat → Value) : Laid A A lo (lo + 0) f := ⟨rfl, rfl, rfl, fun i => by rw [if_neg (by omega)]⟩
theorem Laid.step {A Ak : Cell} {lo k : Nat} {f : Nat → Value} {v : Value} (h : Laid A Ak lo k f) (hlo : lo ≤ k) (hk : k < Ak.slots.size) (hv : v = f k) : Laid A (Ak.setSlot k v) lo (k + 1) f := by
  refine ⟨h.1, h.2.1, by simpa [Cell.setSlot] using h.2.2.1, fun i => ?_⟩
  by_cases e : k = i
  · subst e; rw [Cell.slots_setSlot_self v hk, if_pos (by omega), hv]
  · rw [Cell.slots_setSlot_ne v e, h.2.2.2 i]
    by_cases q : lo ≤ i ∧ i < k
    · rw [if_pos q, if_pos (by omega)]
    · rw [if_neg q, if_neg (by omega)]
def U16 : String := "java/lang/StringUTF16"
namespace Cmp5
def yN : MethodName := ⟨"java/lang/StringUTF16", "compress", "([CI[BII)I"⟩
abbrev yB : ByteArray := jdk_52_method_21_code
theorem d0 : decode yB 0 = .ok (.iconst 0, 1) := by decide +kernel
theorem d1 : decode yB 1 = .ok (.istore 5, 2) := by decide +kernel
theorem d3 : decode yB 3 = .ok (.iload 5, 2) := by decide +kernel
theorem d5 : decode yB 5 = .ok (.iload 4, 2) := by decide +kernel
theorem d7 : decode yB 7 = .ok (.if_icmp (.ge) 37, 3) := by decide +kernel
theorem d10 : decode yB 10 = .ok (.aload_n 0, 1) := by decide +kernel
theorem d11 : decode yB 11 = .ok (.iload_n 1, 1) := by decide +kernel
theorem d12 : decode yB 12 = .ok (.caload, 1) := by decide +kernel
theorem d13 : decode yB 13 = .ok (.istore 6, 2) := by decide +kernel
theorem d15 : decode yB 15 = .ok (.iload 6, 2) := by decide +kernel
theorem d17 : decode yB 17 = .ok (.sipush 255, 3) := by decide +kernel
theorem d20 : decode yB 20 = .ok (.if_icmp (.le) 6, 3) := by decide +kernel
theorem d26 : decode yB 26 = .ok (.aload_n 2, 1) := by decide +kernel
theorem d27 : decode yB 27 = .ok (.iload_n 3, 1) := by decide +kernel
theorem d28 : decode yB 28 = .ok (.iload 6, 2) := by decide +kernel
theorem d30 : decode yB 30 = .ok (.i2b, 1) := by decide +kernel
theorem d31 : decode yB 31 = .ok (.bastore, 1) := by decide +kernel
theorem d32 : decode yB 32 = .ok (.iinc 1 1, 3) := by decide +kernel
theorem d35 : decode yB 35 = .ok (.iinc 3 1, 3) := by decide +kernel
theorem d38 : decode yB 38 = .ok (.iinc 5 1, 3) := by decide +kernel
theorem d41 : decode yB 41 = .ok (.goto (-38), 3) := by decide +kernel
theorem d44 : decode yB 44 = .ok (.iload 4, 2) := by decide +kernel
theorem d46 : decode yB 46 = .ok (.ireturn, 1) := by decide +kernel
def site : List Cond := []
def tab : Cond := tabOf yN yB 7 (some .int) site
def P (b : Addr) (A : Cell) (d : Addr) (B : Cell) (o q len : Nat) (args : Array Value) (s : State) : Prop := args = #[.ref b, .int (Int32.ofNat o), .ref d, .int (Int32.ofNat q), .int (Int32.ofNat len)] ∧ Ch b A s ∧ Arr .byte d B s ∧ b ≠ d ∧ o + len ≤ A.slots.size ∧ q + len ≤ B.slots.size ∧ ∀ i, i < len → ¬ 255 < cv A (o + i)
def E (b : Addr) (A : Cell) (d : Addr) (B : Cell) (o q len : Nat) (r : Option Value) (s u : State) : Prop := r = some (.int (Int32.ofNat len)) ∧ ∃ B', Put d B' s u ∧ Laid B B' q (q + len) (fun j => Value.int (lo8 (cv A (o + (j - q)))))
/-- no char of the range above 255: len; the places written hold each char's low byte -/
theorem law (l : Launch) (b : Addr) (A : Cell) (d : Addr) (B : Cell) (o q len : Nat) : Law l yN 5 5 0 0 yB 7 (some .int) site (P b A d B o q len) (E b A d B o q len) (copyLocs d q len) 0 0 := by
  refine Law.of_walk (plainFor_of_name (by decide +kernel)) (by decide +kernel) (by decide +kernel) (by decide) (fun _ _ h => by rw [h.1]; rfl) (fun _ U U' hal hh h => ⟨h.1, h.2.1.mv hal hh, h.2.2.1.mv hal hh, h.2.2.2⟩) (fun r U U' V V' h1 hal h2 h => ⟨h.1, h.2.elim fun B' q => ⟨B', q.1.mv h1 h2, q.2⟩⟩) ?_
  intro p e s m args below meth c s₁ X0 hexec hbytes hml hret hlk hnm hown hh0 W hP
  obtain ⟨rfl, hA, hB, hne, l1, l2, hp⟩ := hP
  have c1 : Steps p.tables e below (s₁.setTop (entryFrame m #[.ref b, .int (Int32.ofNat o), .ref d, .int (Int32.ofNat q), .int (Int32.ofNat len)] 7)) (s₁.setTop (mkF m 0 #[.val (.ref b), .val (.int (Int32.ofNat o)), .val (.ref d), .val (.int (Int32.ofNat q)), .val (.int (Int32.ofNat len)), .unset, .unset] [])) := entry rfl
  have hA0 := hA.1.mv X0.warmed.alike hh0
  have hB0 := hB.mv X0.warmed.alike hh0
  have a31 := hA.1.2.2.2
  have c2 : Steps p.tables e below (s₁.setTop (entryFrame m #[.ref b, .int (Int32.ofNat o), .ref d, .int (Int32.ofNat q), .int (Int32.ofNat len)] 7)) (s₁.setTop (mkF m 3 #[.val (.ref b), .val (.int (Int32.ofNat o)), .val (.ref d), .val (.int (Int32.ofNat q)), .val (.int (Int32.ofNat len)), .val (.int 0), .unset] [])) := c1.trans (by
    refine iconstV X0.here hexec rfl 0 (hb hbytes d0) (by decide) ?_
    refine XS.istore X0.here hexec rfl (hb hbytes d1) rfl rfl ?_
    exact Steps.refl _)
  have loop : ∀ (r i : Nat), i + r = len → ∀ (z : Slot), (z = .unset ∨ ∃ w, z = .val w ∧ w.category = 1) → ∀ (Tl : State) (Bk : Cell), Stand p l e { frames := 0, locals := 0, cells := 0, slots := 0 } s m #[.ref b, .int (Int32.ofNat o), .ref d, .int (Int32.ofNat q), .int (Int32.ofNat len)] below meth c Tl ([] ++ copyLocs d q i) 0 0 → Put d Bk s₁ Tl → Laid B Bk q (q + i) (fun j => Value.int (lo8 (cv A (o + (j - q))))) →
      Steps p.tables e below (s₁.setTop (entryFrame m #[.ref b, .int (Int32.ofNat o), .ref d, .int (Int32.ofNat q), .int (Int32.ofNat len)] 7)) (Tl.setTop (mkF m 3 #[.val (.ref b), .val (.int (Int32.ofNat (o + i))), .val (.ref d), .val (.int (Int32.ofNat (q + i))), .val (.int (Int32.ofNat len)), .val (.int (Int32.ofNat i)), z] [])) → ∃ (T' : State) (B' : Cell) (z' : Slot), Stand p l e { frames := 0, locals := 0, cells := 0, slots := 0 } s m #[.ref b, .int (Int32.ofNat o), .ref d, .int (Int32.ofNat q), .int (Int32.ofNat len)] below meth c T' ([] ++ copyLocs d q len) 0 0 ∧ Put d B' s₁ T' ∧ Laid B B' q (q + len) (fun j => Value.int (lo8 (cv A (o + (j - q))))) ∧
      Steps p.tables e below (s₁.setTop (entryFrame m #[.ref b, .int (Int32.ofNat o), .ref d, .int (Int32.ofNat q), .int (Int32.ofNat len)] 7)) (T'.setTop (mkF m 3 #[.val (.ref b), .val (.int (Int32.ofNat (o + len))), .val (.ref d), .val (.int (Int32.ofNat (q + len))), .val (.int (Int32.ofNat len)), .val (.int (Int32.ofNat len)), z'] [])) := by
    intro r
    induction r with
    | zero =>
      intro i hi z hz Tl Bk Xl pl fl cl
      have hil : i = len := by omega
      rw [hil] at Xl fl cl
      exact ⟨Tl, Bk, z, Xl, pl, fl, cl⟩
    | succ r ih =>
      intro i hi z hz Tl Bk Xl pl fl cl
      have all := X0.warmed.alike.symm.trans Xl.warmed.alike
      have hAl := hA0.keep all (pl.other hne hA0.1)
      have hBk := hB0.like all pl.1 fl.1 fl.2.1 fl.2.2.1
      have hlt : q + i < Bk.slots.size := by rw [fl.2.2.1]; omega
      have c3 : Steps p.tables e below (s₁.setTop (entryFrame m #[.ref b, .int (Int32.ofNat o), .ref d, .int (Int32.ofNat q), .int (Int32.ofNat len)] 7)) (Tl.setTop (mkF m 12 #[.val (.ref b), .val (.int (Int32.ofNat (o + i))), .val (.ref d), .val (.int (Int32.ofNat (q + i))), .val (.int (Int32.ofNat len)), .val (.int (Int32.ofNat i)), z] [.int (Int32.ofNat (o + i)), .ref b])) := cl.trans (by
        refine XS.iload Xl.here hexec rfl (hb hbytes d3) rfl ?_
        refine XS.iload Xl.here hexec rfl (hb hbytes d5) rfl ?_
        refine XS.icmpNo Xl.here hexec rfl (hb hbytes d7) rfl (ii_ge_f (lt32 (by omega) (by omega))) ?_
        refine XS.aloadN Xl.here hexec rfl (hb hbytes d10) rfl rfl ?_
        refine XS.iloadN Xl.here hexec rfl (hb hbytes d11) rfl ?_
        exact Steps.refl _)
      have c4 : Steps p.tables e below (s₁.setTop (entryFrame m #[.ref b, .int (Int32.ofNat o), .ref d, .int (Int32.ofNat q), .int (Int32.ofNat len)] 7)) (Tl.setTop (mkF m 13 #[.val (.ref b), .val (.int (Int32.ofNat (o + i))), .val (.ref d), .val (.int (Int32.ofNat (q + i))), .val (.int (Int32.ofNat len)), .val (.int (Int32.ofNat i)), z] [.int (cv A (o + i))])) := c3.trans (by
        refine Xl.aget hexec hAl rfl (hA.get (i := o + i) (by omega)) rfl rfl (hb hbytes d12) ?_
        exact Steps.refl _)
      have c5 : Steps p.tables e below (s₁.setTop (entryFrame m #[.ref b, .int (Int32.ofNat o), .ref d, .int (Int32.ofNat q), .int (Int32.ofNat len)] 7)) (Tl.setTop (mkF m 15 #[.val (.ref b), .val (.int (Int32.ofNat (o + i))), .val (.ref d), .val (.int (Int32.ofNat (q + i))), .val (.int (Int32.ofNat len)), .val (.int (Int32.ofNat i)), .val (.int (cv A (o + i)))] [])) := c4.trans (by
        refine XS.istoreS Xl.here hexec rfl (hb hbytes d13) rfl rfl hz ?_
        exact Steps.refl _)
      have c6 : Steps p.tables e below (s₁.setTop (entryFrame m #[.ref b, .int (Int32.ofNat o), .ref d, .int (Int32.ofNat q), .int (Int32.ofNat len)] 7)) (Tl.setTop (mkF m 31 #[.val (.ref b), .val (.int (Int32.ofNat (o + i))), .val (.ref d), .val (.int (Int32.ofNat (q + i))), .val (.int (Int32.ofNat len)), .val (.int (Int32.ofNat i)), .val (.int (cv A (o + i)))] [.int (lo8 (cv A (o + i))), .int (Int32.ofNat (q + i)), .ref d])) := c5.trans (by
        refine XS.iload Xl.here hexec rfl (hb hbytes d15) rfl ?_
        refine sipushV Xl.here hexec rfl 255 (hb hbytes d17) (by decide) ?_
        refine XS.icmpYes Xl.here hexec rfl (pc0 := 20) rfl (hb hbytes d20) rfl (ii_le_t (hp i (by omega))) (by decide) rfl ?_
        refine XS.aloadN Xl.here hexec rfl (hb hbytes d26) rfl rfl ?_
        refine XS.iloadN Xl.here hexec rfl (hb hbytes d27) rfl ?_
        refine XS.iload Xl.here hexec rfl (hb hbytes d28) rfl ?_
        refine i2b Xl.here hexec rfl (hb hbytes d30) rfl ?_
        exact Steps.refl _)
      obtain ⟨T7, X7, p7, st7⟩ := Xl.aput hexec hBk rfl hlt rfl (fits_lo8 (cv A (o + i))) (g := (mkF m 31 #[.val (.ref b), .val (.int (Int32.ofNat (o + i))), .val (.ref d), .val (.int (Int32.ofNat (q + i))), .val (.int (Int32.ofNat len)), .val (.int (Int32.ofNat i)), .val (.int (cv A (o + i)))] [.int (lo8 (cv A (o + i))), .int (Int32.ofNat (q + i)), .ref d])) rfl (rest := []) rfl (hb hbytes d31)
      have c8 : Steps p.tables e below (s₁.setTop (entryFrame m #[.ref b, .int (Int32.ofNat o), .ref d, .int (Int32.ofNat q), .int (Int32.ofNat len)] 7)) (T7.setTop (mkF m 32 #[.val (.ref b), .val (.int (Int32.ofNat (o + i))), .val (.ref d), .val (.int (Int32.ofNat (q + i))), .val (.int (Int32.ofNat len)), .val (.int (Int32.ofNat i)), .val (.int (cv A (o + i)))] [])) := c6.trans (st7 _ (Steps.refl _))
      have c9 : Steps p.tables e below (s₁.setTop (entryFrame m #[.ref b, .int (Int32.ofNat o), .ref d, .int (Int32.ofNat q), .int (Int32.ofNat len)] 7)) (T7.setTop (mkF m 3 #[.val (.ref b), .val (.int (Int32.ofNat (o + i) + 1)), .val (.ref d), .val (.int (Int32.ofNat (q + i) + 1)), .val (.int (Int32.ofNat len)), .val (.int (Int32.ofNat i + 1)), .val (.int (cv A (o + i)))] [])) := c8.trans (by
        refine iincV X7.here hexec rfl 1 (hb hbytes d32) (by decide) rfl rfl ?_
        refine iincV X7.here hexec rfl 1 (hb hbytes d35) (by decide) rfl rfl ?_
        refine iincV X7.here hexec rfl 1 (hb hbytes d38) (by decide) rfl rfl ?_
        refine XS.goto X7.here hexec rfl (pc0 := 41) rfl (hb hbytes d41) (by decide) rfl ?_
        exact Steps.refl _)
      have c10 : Steps p.tables e below (s₁.setTop (entryFrame m #[.ref b, .int (Int32.ofNat o), .ref d, .int (Int32.ofNat q), .int (Int32.ofNat len)] 7)) (T7.setTop (mkF m 3 #[.val (.ref b), .val (.int (Int32.ofNat (o + (i + 1)))), .val (.ref d), .val (.int (Int32.ofNat (q + (i + 1)))), .val (.int (Int32.ofNat len)), .val (.int (Int32.ofNat (i + 1))), .val (.int (cv A (o + i)))] [])) := by
        have := c9
        rw [succ32, succ32, succ32] at this
        exact this
      exact ih (i + 1) (by omega) _ (Or.inr ⟨_, rfl, rfl⟩) T7 _ (by rw [copyLocs_step, ← List.append_assoc]; exact X7) (pl.trans p7) (fl.step (by omega) hlt (by simp)) c10
  obtain ⟨T9, B9, z9, X9, p9, f9, g9⟩ := loop len 0 (by omega) .unset (Or.inl rfl) s₁ B (by simpa [copyLocs] using X0) ⟨hB0.1, fun _ _ => rfl, rfl⟩ (Laid.zero _ _ _) c2
  have c11 : Steps p.tables e below (s₁.setTop (entryFrame m #[.ref b, .int (Int32.ofNat o), .ref d, .int (Int32.ofNat q), .int (Int32.ofNat len)] 7)) (T9.setTop (mkF m 46 #[.val (.ref b), .val (.int (Int32.ofNat (o + len))), .val (.ref d), .val (.int (Int32.ofNat (q + len))), .val (.int (Int32.ofNat len)), .val (.int (Int32.ofNat len)), z9] [.int (Int32.ofNat len)])) := g9.trans (by
    refine XS.iload X9.here hexec rfl (hb hbytes d3) rfl ?_
    refine XS.iload X9.here hexec rfl (hb hbytes d5) rfl ?_
    refine XS.icmpYes X9.here hexec rfl (pc0 := 7) rfl (hb hbytes d7) rfl (ii_ge_t (nlt32 (by omega) (Nat.le_refl _))) (by decide) rfl ?_
    refine XS.iload X9.here hexec rfl (hb hbytes d44) rfl ?_
    exact Steps.refl _)
  exact ⟨T9, some (.int (Int32.ofNat len)), _, _, _, X9, by simp, rfl, rfl, (fun h => by cases h), ⟨rfl, B9, p9.from hh0, f9⟩, fun fs hl => c11.trans (X9.ireturnOut hexec hret rfl (Or.inl rfl) (hb hbytes d46) hl)⟩
end Cmp5
namespace Cmp3
def yN : MethodName := ⟨"java/lang/StringUTF16", "compress", "([CII)[B"⟩
abbrev yB : ByteArray := jdk_52_method_16_code
theorem d0 : decode yB 0 = .ok (.iload_n 2, 1) := by decide +kernel
theorem d1 : decode yB 1 = .ok (.newarray .byte, 2) := by decide +kernel
theorem d3 : decode yB 3 = .ok (.astore_n 3, 1) := by decide +kernel
theorem d4 : decode yB 4 = .ok (.aload_n 0, 1) := by decide +kernel
theorem d5 : decode yB 5 = .ok (.iload_n 1, 1) := by decide +kernel
theorem d6 : decode yB 6 = .ok (.aload_n 3, 1) := by decide +kernel
theorem d7 : decode yB 7 = .ok (.iconst 0, 1) := by decide +kernel
theorem d8 : decode yB 8 = .ok (.iload_n 2, 1) := by decide +kernel
theorem d9 : decode yB 9 = .ok (.invokestatic 115, 3) := by decide +kernel
theorem d12 : decode yB 12 = .ok (.istore 4, 2) := by decide +kernel
theorem d14 : decode yB 14 = .ok (.iload 4, 2) := by decide +kernel
theorem d16 : decode yB 16 = .ok (.iload_n 2, 1) := by decide +kernel
theorem d17 : decode yB 17 = .ok (.if_icmp (.eq) 40, 3) := by decide +kernel
theorem d57 : decode yB 57 = .ok (.aload_n 3, 1) := by decide +kernel
theorem d58 : decode yB 58 = .ok (.areturn, 1) := by decide +kernel
def site : List Cond := [.arrayClass .byte, Cmp5.tab] ++ staticW U16 115 Cmp5.yN
def tab : Cond := tabOf yN yB 6 (some (.array .byte)) site
def P (b : Addr) (A : Cell) (o len : Nat) (args : Array Value) (s : State) : Prop := args = #[.ref b, .int (Int32.ofNat o), .int (Int32.ofNat len)] ∧ Ch b A s ∧ o + len ≤ A.slots.size ∧ len ≤ 536870912 ∧ ∀ i, i < len → ¬ 255 < cv A (o + i)
def E (b : Addr) (A : Cell) (o len : Nat) (r : Option Value) (s u : State) : Prop := NewArr .byte "[B" len (fun j => .int (lo8 (cv A (o + j)))) r s u ∧ u.heap.size = s.heap.size + 1
/-- no char of the range above 255: a new byte[] of their low bytes -/
theorem law (l : Launch) (b : Addr) (A : Cell) (o len : Nat) : Law l yN 3 3 1 18 yB 6 (some (.array .byte)) site (P b A o len) (E b A o len) [] 1 len := by
  refine Law.of_walk (plainFor_of_name (by decide +kernel)) (by decide +kernel) (by decide +kernel) (by decide) (fun _ _ h => by rw [h.1]; rfl) (fun _ U U' hal hh h => ⟨h.1, h.2.1.mv hal hh, h.2.2⟩) (fun r U U' V V' h1 hal h2 h => ⟨NewArr.mv r U U' V V' h1 hal h2 h.1, by rw [h1, h2]; exact h.2⟩) ?_
  intro p e s m args below meth c s₁ X0 hexec hbytes hml hret hlk hnm hown hh0 W hP
  obtain ⟨rfl, hA, l1, l2, hp⟩ := hP
  have a31 := hA.1.2.2.2
  have c1 : Steps p.tables e below (s₁.setTop (entryFrame m #[.ref b, .int (Int32.ofNat o), .int (Int32.ofNat len)] 6)) (s₁.setTop (mkF m 0 #[.val (.ref b), .val (.int (Int32.ofNat o)), .val (.int (Int32.ofNat len)), .unset, .unset, .unset] [])) := entry rfl
  have c2 : Steps p.tables e below (s₁.setTop (entryFrame m #[.ref b, .int (Int32.ofNat o), .int (Int32.ofNat len)] 6)) (s₁.setTop (mkF m 1 #[.val (.ref b), .val (.int (Int32.ofNat o)), .val (.int (Int32.ofNat len)), .unset, .unset, .unset] [.int (Int32.ofNat len)])) := c1.trans (by
    refine XS.iloadN X0.here hexec rfl (hb hbytes d0) rfl ?_
    exact Steps.refl _)
  obtain ⟨T3, B3, X3, ba3, bs3, bv3, bh3, bf3, st3⟩ := X0.anew hexec (atype := .byte) (wk W (.arrayClass .byte)) rfl (by show len * 1 ≤ _; omega) (by omega) (g := (mkF m 1 #[.val (.ref b), .val (.int (Int32.ofNat o)), .val (.int (Int32.ofNat len)), .unset, .unset, .unset] [.int (Int32.ofNat len)])) rfl (hb hbytes d1) (rest := []) rfl (Nat.le_refl _) (by show 0 + len ≤ len; omega)
  rw [hh0] at ba3 st3
  have kp3 : XT.Kept s T3 := (XT.Kept.of_eq hh0).push bh3
  have hA3 := hA.keep X3.warmed.alike (kp3 _ _ hA.1.1)
  have hne : b ≠ s.heap.size := hA.1.ne
  have c4 : Steps p.tables e below (s₁.setTop (entryFrame m #[.ref b, .int (Int32.ofNat o), .int (Int32.ofNat len)] 6)) (T3.setTop (mkF m 3 #[.val (.ref b), .val (.int (Int32.ofNat o)), .val (.int (Int32.ofNat len)), .unset, .unset, .unset] [.ref s.heap.size])) := c2.trans (st3 _ (Steps.refl _))
  have c5 : Steps p.tables e below (s₁.setTop (entryFrame m #[.ref b, .int (Int32.ofNat o), .int (Int32.ofNat len)] 6)) (T3.setTop (mkF m 9 #[.val (.ref b), .val (.int (Int32.ofNat o)), .val (.int (Int32.ofNat len)), .val (.ref s.heap.size), .unset, .unset] [.int (Int32.ofNat len), .int 0, .ref s.heap.size, .int (Int32.ofNat o), .ref b])) := c4.trans (by
    refine XS.astoreN X3.here hexec rfl (hb hbytes d3) rfl rfl rfl ?_
    refine XS.aloadN X3.here hexec rfl (hb hbytes d4) rfl rfl ?_
    refine XS.iloadN X3.here hexec rfl (hb hbytes d5) rfl ?_
    refine XS.aloadN X3.here hexec rfl (hb hbytes d6) rfl rfl ?_
    refine iconstV X3.here hexec rfl 0 (hb hbytes d7) (by decide) ?_
    refine XS.iloadN X3.here hexec rfl (hb hbytes d8) rfl ?_
    exact Steps.refl _)
  obtain ⟨v6, T6, X6, E6, g6⟩ := X3.callS hexec (Cmp5.law l b A s.heap.size B3 o 0 len) hown (wks W (staticW U16 115 Cmp5.yN)) (wk W Cmp5.tab) (W := 0) (Nat.le_of_ble_eq_true rfl) (Nat.le_of_ble_eq_true rfl) (Nat.le_refl _) (by show 0 + len + 0 ≤ len; omega) (g := (mkF m 9 #[.val (.ref b), .val (.int (Int32.ofNat o)), .val (.int (Int32.ofNat len)), .val (.ref s.heap.size), .unset, .unset] [.int (Int32.ofNat len), .int (Int32.ofNat 0), .ref s.heap.size, .int (Int32.ofNat o), .ref b])) rfl (by rw [hml]; rfl) c5 (argsL := [.ref b, .int (Int32.ofNat o), .ref s.heap.size, .int (Int32.ofNat 0), .int (Int32.ofNat len)]) (rest := []) rfl rfl (by show 2 * 0 + 0 ≤ _; decide) (hb hbytes d9) (⟨rfl, hA3, ba3, hne, l1, by rw [bs3]; simp, hp⟩)
  obtain ⟨rfl, B6, p6, f6⟩ := E6
  have c7 : Steps p.tables e below (s₁.setTop (entryFrame m #[.ref b, .int (Int32.ofNat o), .int (Int32.ofNat len)] 6)) (T6.setTop (mkF m 12 #[.val (.ref b), .val (.int (Int32.ofNat o)), .val (.int (Int32.ofNat len)), .val (.ref s.heap.size), .unset, .unset] [.int (Int32.ofNat len)])) := g6
  have c8 : Steps p.tables e below (s₁.setTop (entryFrame m #[.ref b, .int (Int32.ofNat o), .int (Int32.ofNat len)] 6)) (T6.setTop (mkF m 58 #[.val (.ref b), .val (.int (Int32.ofNat o)), .val (.int (Int32.ofNat len)), .val (.ref s.heap.size), .val (.int (Int32.ofNat len)), .unset] [.ref s.heap.size])) := c7.trans (by
    refine XS.istore X6.here hexec rfl (hb hbytes d12) rfl rfl ?_
    refine XS.iload X6.here hexec rfl (hb hbytes d14) rfl ?_
    refine XS.iloadN X6.here hexec rfl (hb hbytes d16) rfl ?_
    refine XS.icmpYes X6.here hexec rfl (pc0 := 17) rfl (hb hbytes d17) rfl (ii_eq_t rfl) (by decide) rfl ?_
    refine XS.aloadN X6.here hexec rfl (hb hbytes d57) rfl rfl ?_
    exact Steps.refl _)
  have X8 := X6.wide (L' := []) (cells' := 1) (slots' := len) (fun x hx hlt => by
    simp only [List.nil_append, copyLocs, List.mem_map, List.mem_range] at hx
    obtain ⟨i, -, rfl⟩ := hx
    exact absurd hlt (Nat.lt_irrefl _)) (Nat.le_refl _) (by omega)
  exact ⟨T6, some (.ref s.heap.size), _, _, _, X8, rfl, rfl, rfl, (fun h => by cases h), ⟨⟨rfl, B6, ba3.like (X3.warmed.alike.symm.trans X6.warmed.alike) p6.1 f6.1 f6.2.1 f6.2.2.1, f6.2.1.trans bv3, by rw [X6.warmed.alike.findClass, f6.1]; exact bf3, by rw [f6.2.2.1, bs3]; simp, fun j hj => by rw [f6.2.2.2 j, if_pos (by omega)]; rfl, kp3.put p6 (Nat.le_refl _)⟩, by rw [p6.2.2, bh3, hh0]; simp⟩, fun fs hl => c8.trans (X8.areturnOut hexec rfl hret rfl (hb hbytes d58) hl)⟩
end Cmp3
namespace CodL
def yN : MethodName := ⟨"java/lang/StringUTF16", "coderFromArrayLen", "([BI)B"⟩
abbrev yB : ByteArray := jdk_52_method_15_code
theorem d0 : decode yB 0 = .ok (.iload_n 1, 1) := by decide +kernel
theorem d1 : decode yB 1 = .ok (.aload_n 0, 1) := by decide +kernel
theorem d2 : decode yB 2 = .ok (.arraylength, 1) := by decide +kernel
theorem d3 : decode yB 3 = .ok (.isub, 1) := by decide +kernel
theorem d4 : decode yB 4 = .ok (.bipush 31, 2) := by decide +kernel
theorem d6 : decode yB 6 = .ok (.iushr, 1) := by decide +kernel
theorem d7 : decode yB 7 = .ok (.i2b, 1) := by decide +kernel
theorem d8 : decode yB 8 = .ok (.ireturn, 1) := by decide +kernel
def site : List Cond := []
def tab : Cond := tabOf yN yB 2 (some .byte) site
def P (d : Addr) (B : Cell) (args : Array Value) (s : State) : Prop := args = #[.ref d, .int (Int32.ofNat B.slots.size)] ∧ Arr .byte d B s
def E (r : Option Value) (s u : State) : Prop := XT.PureE (some (.int 0)) r s u
/-- an array as long as the number of chars: LATIN1 -/
theorem law (l : Launch) (d : Addr) (B : Cell) : Law l yN 2 2 0 0 yB 2 (some .byte) site (P d B) E [] 0 0 := by
  refine Law.of_walk (plainFor_of_name (by decide +kernel)) (by decide +kernel) (by decide +kernel) (by decide) (fun _ _ h => by rw [h.1]; rfl) (fun _ U U' hal hh h => ⟨h.1, h.2.mv hal hh⟩) (fun r U U' V V' h1 hal h2 h => XT.PureE.mv r U U' V V' h1 hal h2 h) ?_
  intro p e s m args below meth c s₁ X0 hexec hbytes hml hret hlk hnm hown hh0 W hP
  obtain ⟨rfl, hB⟩ := hP
  have hB0 := hB.mv X0.warmed.alike hh0
  have c1 : Steps p.tables e below (s₁.setTop (entryFrame m #[.ref d, .int (Int32.ofNat B.slots.size)] 2)) (s₁.setTop (mkF m 0 #[.val (.ref d), .val (.int (Int32.ofNat B.slots.size))] [])) := entry rfl
  have c2 : Steps p.tables e below (s₁.setTop (entryFrame m #[.ref d, .int (Int32.ofNat B.slots.size)] 2)) (s₁.setTop (mkF m 2 #[.val (.ref d), .val (.int (Int32.ofNat B.slots.size))] [.ref d, .int (Int32.ofNat B.slots.size)])) := c1.trans (by
    refine XS.iloadN X0.here hexec rfl (hb hbytes d0) rfl ?_
    refine XS.aloadN X0.here hexec rfl (hb hbytes d1) rfl rfl ?_
    exact Steps.refl _)
  have c3 : Steps p.tables e below (s₁.setTop (entryFrame m #[.ref d, .int (Int32.ofNat B.slots.size)] 2)) (s₁.setTop (mkF m 8 #[.val (.ref d), .val (.int (Int32.ofNat B.slots.size))] [.int (lo8 (ushr (Int32.ofNat B.slots.size - Int32.ofNat B.slots.size) 31))])) := c2.trans (by
    refine X0.alen hexec hB0 rfl rfl (hb hbytes d2) ?_
    refine XS.isub X0.here hexec rfl (hb hbytes d3) rfl ?_
    refine bipushV X0.here hexec rfl 31 (hb hbytes d4) (by decide) ?_
    refine iushr X0.here hexec rfl (hb hbytes d6) rfl ?_
    refine i2b X0.here hexec rfl (hb hbytes d7) rfl ?_
    exact Steps.refl _)
  have e0 : lo8 (ushr (Int32.ofNat B.slots.size - Int32.ofNat B.slots.size) 31) = 0 := by rw [Int32.sub_self]; decide
  rw [e0] at c3
  exact ⟨s₁, some (.int 0), _, _, _, X0, rfl, rfl, rfl, (fun h => by cases h), ⟨rfl, hh0⟩, fun fs hl => c3.trans (X0.ireturnOut hexec hret rfl (Or.inr (Or.inr (Or.inl rfl))) (hb hbytes d8) hl)⟩
end CodL
/-- the String at a is Latin-1 over a new byte[] (the heap's one new cell): the low bytes of the len chars of A from o on; every cell but a is kept -/
def Got (a : Addr) (D : Cell) (fV fC : Field) (A : Cell) (o len : Nat) (r : Option Value) (s u : State) : Prop := r = none ∧ ∃ D' V : Cell, Blank "java/lang/String" a D' u ∧ Same D D' [fV.slot, fC.slot] ∧ D'.slots[fV.slot]? = some (.ref s.heap.size) ∧ D'.slots[fC.slot]? = some (.int 0) ∧ Arr .byte s.heap.size V u ∧ V.vm = .none ∧ u.vm.findClass "[B" = some V.cls ∧ V.slots.size = len ∧ (∀ j, j < len → V.slots[j]? = some (.int (lo8 (cv A (o + j))))) ∧ (∀ (y : Addr) (c : Cell), y ≠ a → s.heap[y]? = some c → u.heap[y]? = some c) ∧ u.heap.size = s.heap.size + 1
theorem Got.mv {a : Addr} {D A : Cell} {fV fC : Field} {o len : Nat} : ∀ r (U U' V V' : State), U'.heap = U.heap → V.vm.Alike V'.vm → V'.heap = V.heap → Got a D fV fC A o len r U V → Got a D fV fC A o len r U' V' :=
  fun r U U' V V' h1 hal h2 ⟨e0, D', X, a1, a2, a3, a4, a5, a6, a7, a8, a9, a10, a11⟩ => ⟨e0, D', X, a1.mv hal h2, a2, by rw [h1]; exact a3, a4, by rw [h1]; exact a5.mv hal h2, a6, by rw [hal.findClass]; exact a7, a8, a9, by rw [h1, h2]; exact a10, by rw [h1, h2]; exact a11⟩
namespace New4
def yN : MethodName := ⟨"java/lang/String", "<init>", "([CIILjava/lang/Void;)V"⟩
abbrev yB : ByteArray := jdk_42_method_149_code
theorem d0 : decode yB 0 = .ok (.aload_n 0, 1) := by decide +kernel
theorem d1 : decode yB 1 = .ok (.invokespecial 1, 3) := by decide +kernel
theorem d4 : decode yB 4 = .ok (.iload_n 3, 1) := by decide +kernel
theorem d5 : decode yB 5 = .ok (.ifCond (.ne) 22, 3) := by decide +kernel
theorem d27 : decode yB 27 = .ok (.getstatic 38, 3) := by decide +kernel
theorem d30 : decode yB 30 = .ok (.ifCond (.eq) 28, 3) := by decide +kernel
theorem d33 : decode yB 33 = .ok (.aload_n 1, 1) := by decide +kernel
theorem d34 : decode yB 34 = .ok (.iload_n 2, 1) := by decide +kernel
theorem d35 : decode yB 35 = .ok (.iload_n 3, 1) := by decide +kernel
theorem d36 : decode yB 36 = .ok (.invokestatic 177, 3) := by decide +kernel
theorem d39 : decode yB 39 = .ok (.astore 5, 2) := by decide +kernel
theorem d41 : decode yB 41 = .ok (.aload_n 0, 1) := by decide +kernel
theorem d42 : decode yB 42 = .ok (.aload 5, 2) := by decide +kernel
theorem d44 : decode yB 44 = .ok (.iload_n 3, 1) := by decide +kernel
theorem d45 : decode yB 45 = .ok (.invokestatic 47, 3) := by decide +kernel
theorem d48 : decode yB 48 = .ok (.putfield 15, 3) := by decide +kernel
theorem d51 : decode yB 51 = .ok (.aload_n 0, 1) := by decide +kernel
theorem d52 : decode yB 52 = .ok (.aload 5, 2) := by decide +kernel
theorem d54 : decode yB 54 = .ok (.putfield 9, 3) := by decide +kernel
theorem d57 : decode yB 57 = .ok (.return_, 1) := by decide +kernel
def site : List Cond := [.fieldLink "java/lang/String" 38 "java/lang/String" "COMPACT_STRINGS" "Z", Cmp3.tab, CodL.tab, .laysFinal "java/lang/String" "java/lang/String" "value" "[B", .fieldLink "java/lang/String" 9 "java/lang/String" "value" "[B", .laysFinal "java/lang/String" "java/lang/String" "coder" "B", .fieldLink "java/lang/String" 15 "java/lang/String" "coder" "B"] ++ objW "java/lang/String" 1 ++ staticW "java/lang/String" 177 Cmp3.yN ++ staticW "java/lang/String" 47 CodL.yN
def tab : Cond := tabOf yN yB 6 none site
def P (a : Addr) (D : Cell) (fV fC : Field) (b : Addr) (A : Cell) (z : Int32) (o len : Nat) (args : Array Value) (s : State) : Prop := args = #[.ref a, .ref b, .int (Int32.ofNat o), .int (Int32.ofNat len), .null] ∧ Blank "java/lang/String" a D s ∧ Found "java/lang/String" "value" "[B" fV s ∧ Found "java/lang/String" "coder" "B" fC s ∧ Ch b A s ∧ StaticIs s "java/lang/String" "COMPACT_STRINGS" "Z" (.int z) ∧ ¬ z = 0 ∧ 0 < len ∧ o + len ≤ A.slots.size ∧ len ≤ 536870912 ∧ ∀ i, i < len → ¬ 255 < cv A (o + i)
def E (a : Addr) (D : Cell) (fV fC : Field) (A : Cell) (o len : Nat) (r : Option Value) (s u : State) : Prop := Got a D fV fC A o len r s u
/-- len > 0, no char of the range above 255: a Latin-1 String of their low bytes -/
theorem law (l : Launch) (a : Addr) (D : Cell) (fV fC : Field) (b : Addr) (A : Cell) (z : Int32) (o len : Nat) : Law l yN 5 4 2 35 yB 6 none site (P a D fV fC b A z o len) (E a D fV fC A o len) [⟨a, fC.slot⟩, ⟨a, fV.slot⟩] 1 len := by
  refine Law.of_walk (plainFor_of_name (by decide +kernel)) (by decide +kernel) (by decide +kernel) (by decide) (fun _ _ h => by rw [h.1]; rfl) (fun _ U U' hal hh h => ⟨h.1, h.2.1.mv hal hh, h.2.2.1.al hal, h.2.2.2.1.al hal, h.2.2.2.2.1.mv hal hh, h.2.2.2.2.2.1.there hal hh, h.2.2.2.2.2.2⟩) (fun r U U' V V' h1 hal h2 h => Got.mv r U U' V V' h1 hal h2 h) ?_
  intro p e s m args below meth c s₁ X0 hexec hbytes hml hret hlk hnm hown hh0 W hP
  obtain ⟨rfl, hB, f1, f2, hA, s1, hz, l0, l1, l2, hp⟩ := hP
  have a31 := hA.1.2.2.2
  have c1 : Steps p.tables e below (s₁.setTop (entryFrame m #[.ref a, .ref b, .int (Int32.ofNat o), .int (Int32.ofNat len), .null] 6)) (s₁.setTop (mkF m 0 #[.val (.ref a), .val (.ref b), .val (.int (Int32.ofNat o)), .val (.int (Int32.ofNat len)), .val .null, .unset] [])) := entry rfl
  have c2 : Steps p.tables e below (s₁.setTop (entryFrame m #[.ref a, .ref b, .int (Int32.ofNat o), .int (Int32.ofNat len), .null] 6)) (s₁.setTop (mkF m 1 #[.val (.ref a), .val (.ref b), .val (.int (Int32.ofNat o)), .val (.int (Int32.ofNat len)), .val .null, .unset] [.ref a])) := c1.trans (by
    refine XS.aloadN X0.here hexec rfl (hb hbytes d0) rfl rfl ?_
    exact Steps.refl _)
  obtain ⟨T3, X3, q3, st3⟩ := X0.oinit hexec hown (wks W (objW "java/lang/String" 1)) (g := (mkF m 1 #[.val (.ref a), .val (.ref b), .val (.int (Int32.ofNat o)), .val (.int (Int32.ofNat len)), .val .null, .unset] [.ref a])) rfl (by rw [hml]; rfl) (rest := []) rfl (hb hbytes d1) (W := 0) (by show 2 * 0 + 0 ≤ _; decide) (Nat.le_of_ble_eq_true rfl) (Nat.le_of_ble_eq_true rfl)
  have hh3 := q3.trans hh0
  have c4 : Steps p.tables e below (s₁.setTop (entryFrame m #[.ref a, .ref b, .int (Int32.ofNat o), .int (Int32.ofNat len), .null] 6)) (T3.setTop (mkF m 27 #[.val (.ref a), .val (.ref b), .val (.int (Int32.ofNat o)), .val (.int (Int32.ofNat len)), .val .null, .unset] [])) := (c2.trans (st3 _ (Steps.refl _))).trans (by
    refine XS.iloadN X3.here hexec rfl (hb hbytes d4) rfl ?_
    refine XS.ifYes X3.here hexec rfl (pc0 := 5) rfl (hb hbytes d5) rfl (i0_ne_t (nz32 (by omega) l0)) (by decide) rfl ?_
    exact Steps.refl _)
  obtain ⟨T5, X5, q5, st5⟩ := X3.sget hexec hown (wk W (.fieldLink "java/lang/String" 38 "java/lang/String" "COMPACT_STRINGS" "Z")) s1 (fun _ _ h => by rw [hh3]; exact h) (g := (mkF m 27 #[.val (.ref a), .val (.ref b), .val (.int (Int32.ofNat o)), .val (.int (Int32.ofNat len)), .val .null, .unset] [])) rfl (hb hbytes d27)
  have hh5 := q5.trans hh3
  have c6 : Steps p.tables e below (s₁.setTop (entryFrame m #[.ref a, .ref b, .int (Int32.ofNat o), .int (Int32.ofNat len), .null] 6)) (T5.setTop (mkF m 30 #[.val (.ref a), .val (.ref b), .val (.int (Int32.ofNat o)), .val (.int (Int32.ofNat len)), .val .null, .unset] [.int z])) := c4.trans (st5 _ (Steps.refl _))
  have c7 : Steps p.tables e below (s₁.setTop (entryFrame m #[.ref a, .ref b, .int (Int32.ofNat o), .int (Int32.ofNat len), .null] 6)) (T5.setTop (mkF m 36 #[.val (.ref a), .val (.ref b), .val (.int (Int32.ofNat o)), .val (.int (Int32.ofNat len)), .val .null, .unset] [.int (Int32.ofNat len), .int (Int32.ofNat o), .ref b])) := c6.trans (by
    refine XS.ifNo X5.here hexec rfl (hb hbytes d30) rfl (i0_eq_f hz) ?_
    refine XS.aloadN X5.here hexec rfl (hb hbytes d33) rfl rfl ?_
    refine XS.iloadN X5.here hexec rfl (hb hbytes d34) rfl ?_
    refine XS.iloadN X5.here hexec rfl (hb hbytes d35) rfl ?_
    exact Steps.refl _)
  obtain ⟨v8, T8, X8, E8, g8⟩ := X5.callS hexec (Cmp3.law l b A o len) hown (wks W (staticW "java/lang/String" 177 Cmp3.yN)) (wk W Cmp3.tab) (W := 0) (Nat.le_of_ble_eq_true rfl) (Nat.le_of_ble_eq_true rfl) (Nat.le_refl _) (by show 0 + len ≤ len; omega) (g := (mkF m 36 #[.val (.ref a), .val (.ref b), .val (.int (Int32.ofNat o)), .val (.int (Int32.ofNat len)), .val .null, .unset] [.int (Int32.ofNat len), .int (Int32.ofNat o), .ref b])) rfl (by rw [hml]; rfl) c7 (argsL := [.ref b, .int (Int32.ofNat o), .int (Int32.ofNat len)]) (rest := []) rfl rfl (by show 2 * 0 + 0 ≤ _; decide) (hb hbytes d36) (⟨rfl, hA.mv X5.warmed.alike hh5, l1, l2, hp⟩)
  obtain ⟨e8, z8⟩ := E8
  obtain ⟨rfl, N, n1, n2, n3, n4, n5, n6⟩ := NewArr.mv _ T5 s _ _ hh5.symm (Vm.Alike.refl _) rfl e8
  rw [hh5] at z8
  have hB1 := hB.keep X8.warmed.alike (n6 _ _ hB.1)
  have hne : s.heap.size ≠ a := (Nat.ne_of_lt (Array.getElem?_eq_some_iff.mp hB.1).1).symm
  have c9 : Steps p.tables e below (s₁.setTop (entryFrame m #[.ref a, .ref b, .int (Int32.ofNat o), .int (Int32.ofNat len), .null] 6)) (T8.setTop (mkF m 39 #[.val (.ref a), .val (.ref b), .val (.int (Int32.ofNat o)), .val (.int (Int32.ofNat len)), .val .null, .unset] [.ref s.heap.size])) := g8
  have c10 : Steps p.tables e below (s₁.setTop (entryFrame m #[.ref a, .ref b, .int (Int32.ofNat o), .int (Int32.ofNat len), .null] 6)) (T8.setTop (mkF m 45 #[.val (.ref a), .val (.ref b), .val (.int (Int32.ofNat o)), .val (.int (Int32.ofNat len)), .val .null, .val (.ref s.heap.size)] [.int (Int32.ofNat N.slots.size), .ref s.heap.size, .ref a])) := by
    have hc : Steps p.tables e below (s₁.setTop (entryFrame m #[.ref a, .ref b, .int (Int32.ofNat o), .int (Int32.ofNat len), .null] 6)) (T8.setTop (mkF m 45 #[.val (.ref a), .val (.ref b), .val (.int (Int32.ofNat o)), .val (.int (Int32.ofNat len)), .val .null, .val (.ref s.heap.size)] [.int (Int32.ofNat len), .ref s.heap.size, .ref a])) := c9.trans (by
      refine XS.astore X8.here hexec rfl (hb hbytes d39) rfl rfl rfl ?_
      refine XS.aloadN X8.here hexec rfl (hb hbytes d41) rfl rfl ?_
      refine XS.aload X8.here hexec rfl (hb hbytes d42) rfl rfl ?_
      refine XS.iloadN X8.here hexec rfl (hb hbytes d44) rfl ?_
      exact Steps.refl _)
    rw [n4]; exact hc
  obtain ⟨v11, T11, X11, E11, g11⟩ := X8.callS hexec (CodL.law l s.heap.size N) hown (wks W (staticW "java/lang/String" 47 CodL.yN)) (wk W CodL.tab) (W := 1) (Nat.le_of_ble_eq_true rfl) (Nat.le_of_ble_eq_true rfl) (Nat.le_refl _) (by show 0 + len + 0 ≤ len; omega) (g := (mkF m 45 #[.val (.ref a), .val (.ref b), .val (.int (Int32.ofNat o)), .val (.int (Int32.ofNat len)), .val .null, .val (.ref s.heap.size)] [.int (Int32.ofNat N.slots.size), .ref s.heap.size, .ref a])) rfl (by rw [hml]; rfl) c10 (argsL := [.ref s.heap.size, .int (Int32.ofNat N.slots.size)]) (rest := [.ref a]) rfl rfl (by show 2 * 0 + (1 + 0) ≤ _; decide) (hb hbytes d45) (⟨rfl, n1⟩)
  obtain ⟨rfl, q11⟩ := E11
  have hB11 := hB1.mv (X8.warmed.alike.symm.trans X11.warmed.alike) q11
  have c12 : Steps p.tables e below (s₁.setTop (entryFrame m #[.ref a, .ref b, .int (Int32.ofNat o), .int (Int32.ofNat len), .null] 6)) (T11.setTop (mkF m 48 #[.val (.ref a), .val (.ref b), .val (.int (Int32.ofNat o)), .val (.int (Int32.ofNat len)), .val .null, .val (.ref s.heap.size)] [.int 0, .ref a])) := g11
  obtain ⟨T13, X13, p13, bl13, sl13, st13⟩ := X11.finit hexec hown (wk W (.fieldLink "java/lang/String" 15 "java/lang/String" "coder" "B")) (Or.inr ⟨_, (wk W (.laysFinal "java/lang/String" "java/lang/String" "coder" "B"))⟩) (Or.inl ⟨rfl, hnm⟩) f2 (Or.inl rfl) hB11 (t := .byte) (by decide +kernel) rfl (g := (mkF m 48 #[.val (.ref a), .val (.ref b), .val (.int (Int32.ofNat o)), .val (.int (Int32.ofNat len)), .val .null, .val (.ref s.heap.size)] [.int 0, .ref a])) rfl (rest := []) rfl (hb hbytes d48)
  have c14 : Steps p.tables e below (s₁.setTop (entryFrame m #[.ref a, .ref b, .int (Int32.ofNat o), .int (Int32.ofNat len), .null] 6)) (T13.setTop (mkF m 54 #[.val (.ref a), .val (.ref b), .val (.int (Int32.ofNat o)), .val (.int (Int32.ofNat len)), .val .null, .val (.ref s.heap.size)] [.ref s.heap.size, .ref a])) := (c12.trans (st13 _ (Steps.refl _))).trans (by
    refine XS.aloadN X13.here hexec rfl (hb hbytes d51) rfl rfl ?_
    refine XS.aload X13.here hexec rfl (hb hbytes d52) rfl rfl ?_
    exact Steps.refl _)
  obtain ⟨T15, X15, p15, bl15, sl15, st15⟩ := X13.finit hexec hown (wk W (.fieldLink "java/lang/String" 9 "java/lang/String" "value" "[B")) (Or.inr ⟨_, (wk W (.laysFinal "java/lang/String" "java/lang/String" "value" "[B"))⟩) (Or.inl ⟨rfl, hnm⟩) f1 (Or.inl rfl) bl13 (t := (.array .byte)) (by decide +kernel) rfl (g := (mkF m 54 #[.val (.ref a), .val (.ref b), .val (.int (Int32.ofNat o)), .val (.int (Int32.ofNat len)), .val .null, .val (.ref s.heap.size)] [.ref s.heap.size, .ref a])) rfl (rest := []) rfl (hb hbytes d54)
  have c16 : Steps p.tables e below (s₁.setTop (entryFrame m #[.ref a, .ref b, .int (Int32.ofNat o), .int (Int32.ofNat len), .null] 6)) (T15.setTop (mkF m 57 #[.val (.ref a), .val (.ref b), .val (.int (Int32.ofNat o)), .val (.int (Int32.ofNat len)), .val .null, .val (.ref s.heap.size)] [])) := c14.trans (st15 _ (Steps.refl _))
  have ap := apart (Or.inr ⟨_, (wk W (.laysFinal "java/lang/String" "java/lang/String" "value" "[B"))⟩) (Or.inr ⟨_, (wk W (.laysFinal "java/lang/String" "java/lang/String" "coder" "B"))⟩) f1 f2 (t₁ := .array .byte) (t₂ := .byte) (by decide +kernel) (by decide +kernel) (by decide)
  have al := X8.warmed.alike.symm.trans X15.warmed.alike
  have n7 : T11.heap[s.heap.size]? = some N := by rw [q11]; exact n1.1
  exact ⟨T15, none, _, _, _, X15, by simp, rfl, by omega, (fun _ => rfl), ⟨rfl, _, N, bl15, ((Same.refl D _).set _ (by simp)).set _ (by simp), sl15, (Cell.slots_setSlot_ne _ ap).trans sl13, n1.keep al (p15.other hne (p13.other hne n7)), n2, by rw [al.findClass]; exact n3, n4, n5, fun y c h1 h2 => p15.other h1 (p13.other h1 (by rw [q11]; exact n6 y c h2)), by rw [p15.2.2, p13.2.2, q11]; exact z8⟩, fun fs hl => c16.trans (X15.returnOut hexec hret (hb hbytes d57) hl)⟩
end New4
namespace New1
def yN : MethodName := ⟨"java/lang/String", "<init>", "([C)V"⟩
abbrev yB : ByteArray := jdk_42_method_3_code
theorem d0 : decode yB 0 = .ok (.aload_n 0, 1) := by decide +kernel
theorem d1 : decode yB 1 = .ok (.aload_n 1, 1) := by decide +kernel
theorem d2 : decode yB 2 = .ok (.iconst 0, 1) := by decide +kernel
theorem d3 : decode yB 3 = .ok (.aload_n 1, 1) := by decide +kernel
theorem d4 : decode yB 4 = .ok (.arraylength, 1) := by decide +kernel
theorem d5 : decode yB 5 = .ok (.aconst_null, 1) := by decide +kernel
theorem d6 : decode yB 6 = .ok (.invokespecial 27, 3) := by decide +kernel
theorem d9 : decode yB 9 = .ok (.return_, 1) := by decide +kernel
def site : List Cond := [New4.tab] ++ initW "java/lang/String" 27 New4.yN
def tab : Cond := tabOf yN yB 2 none site
def P (a : Addr) (D : Cell) (fV fC : Field) (b : Addr) (A : Cell) (z : Int32) (args : Array Value) (s : State) : Prop := args = #[.ref a, .ref b] ∧ Blank "java/lang/String" a D s ∧ Found "java/lang/String" "value" "[B" fV s ∧ Found "java/lang/String" "coder" "B" fC s ∧ Ch b A s ∧ StaticIs s "java/lang/String" "COMPACT_STRINGS" "Z" (.int z) ∧ ¬ z = 0 ∧ 0 < A.slots.size ∧ A.slots.size ≤ 536870912 ∧ ∀ i, i < A.slots.size → ¬ 255 < cv A i
def E (a : Addr) (D : Cell) (fV fC : Field) (A : Cell) (r : Option Value) (s u : State) : Prop := Got a D fV fC A 0 A.slots.size r s u
/-- new String(chars), not empty, no char above 255: a Latin-1 String of their low bytes -/
theorem law (l : Launch) (a : Addr) (D : Cell) (fV fC : Field) (b : Addr) (A : Cell) (z : Int32) : Law l yN 2 1 3 52 yB 2 none site (P a D fV fC b A z) (E a D fV fC A) [⟨a, fC.slot⟩, ⟨a, fV.slot⟩] 1 A.slots.size := by
  refine Law.of_walk (plainFor_of_name (by decide +kernel)) (by decide +kernel) (by decide +kernel) (by decide) (fun _ _ h => by rw [h.1]; rfl) (fun _ U U' hal hh h => ⟨h.1, h.2.1.mv hal hh, h.2.2.1.al hal, h.2.2.2.1.al hal, h.2.2.2.2.1.mv hal hh, h.2.2.2.2.2.1.there hal hh, h.2.2.2.2.2.2⟩) (fun r U U' V V' h1 hal h2 h => Got.mv r U U' V V' h1 hal h2 h) ?_
  intro p e s m args below meth c s₁ X0 hexec hbytes hml hret hlk hnm hown hh0 W hP
  obtain ⟨rfl, hB, f1, f2, hA, s1, hz, l0, l2, hp⟩ := hP
  have c1 : Steps p.tables e below (s₁.setTop (entryFrame m #[.ref a, .ref b] 2)) (s₁.setTop (mkF m 0 #[.val (.ref a), .val (.ref b)] [])) := entry rfl
  have c2 : Steps p.tables e below (s₁.setTop (entryFrame m #[.ref a, .ref b] 2)) (s₁.setTop (mkF m 6 #[.val (.ref a), .val (.ref b)] [.null, .int (Int32.ofNat A.slots.size), .int 0, .ref b, .ref a])) := c1.trans (by
    refine XS.aloadN X0.here hexec rfl (hb hbytes d0) rfl rfl ?_
    refine XS.aloadN X0.here hexec rfl (hb hbytes d1) rfl rfl ?_
    refine iconstV X0.here hexec rfl 0 (hb hbytes d2) (by decide) ?_
    refine XS.aloadN X0.here hexec rfl (hb hbytes d3) rfl rfl ?_
    refine X0.alen hexec (hA.1.mv X0.warmed.alike hh0) rfl rfl (hb hbytes d4) ?_
    refine XS.aconstNull X0.here hexec rfl (hb hbytes d5) ?_
    exact Steps.refl _)
  obtain ⟨v3, T3, X3, E3, g3⟩ := X0.callN hexec (New4.law l a D fV fC b A z 0 A.slots.size) rfl hown (wks W (initW "java/lang/String" 27 New4.yN)) (W New4.tab (by simp only [site, List.mem_cons, List.mem_append, true_or, or_true])) (W := 0) (Nat.le_of_ble_eq_true rfl) (Nat.le_of_ble_eq_true rfl) (Nat.le_refl _) (by show 0 + A.slots.size ≤ A.slots.size; omega) (g := (mkF m 6 #[.val (.ref a), .val (.ref b)] [.null, .int (Int32.ofNat A.slots.size), .int (Int32.ofNat 0), .ref b, .ref a])) rfl (by rw [hml]; rfl) c2 (argsL := [.ref b, .int (Int32.ofNat 0), .int (Int32.ofNat A.slots.size), .null]) (rest := []) rfl rfl (by show 2 * 0 + 0 ≤ _; decide) (hb hbytes d6) (⟨rfl, hB.mv X0.warmed.alike hh0, f1.al X0.warmed.alike, f2.al X0.warmed.alike, hA.mv X0.warmed.alike hh0, s1.there X0.warmed.alike hh0, hz, l0, by omega, l2, fun i hi => by rw [Nat.zero_add]; exact hp i hi⟩)
  have e0 := Got.mv _ s₁ s _ _ hh0.symm (Vm.Alike.refl _) rfl E3
  obtain rfl := e0.1
  have c4 : Steps p.tables e below (s₁.setTop (entryFrame m #[.ref a, .ref b] 2)) (T3.setTop (mkF m 9 #[.val (.ref a), .val (.ref b)] [])) := g3
  exact ⟨T3, none, _, _, _, X3, by simp, rfl, by omega, (fun _ => rfl), e0, fun fs hl => c4.trans (X3.returnOut hexec hret (hb hbytes d9) hl)⟩
theorem pays {l : Launch} {R : Room} {p : Program} {e : Env} {below : List Frame} {s : State} {sargs : Array Value} {len W : Nat} (a : Addr) (D : Cell) (fV fC : Field) (b : Addr) (A : Cell) (z : Int32) (htab : tab.before sargs s = true) (hfr : 4 ≤ R.frames) (hlo : W + 65 ≤ R.locals) :
    Back l R p e below s sargs yN len W (fun A₁ a₁ => A₁.cells + 1 ≤ R.cells ∧ A₁.slots + A.slots.size ≤ R.slots ∧ P a D fV fC b A z a₁ A₁.U) (fun A₁ _ v₁ B₁ => E a D fV fC A v₁ A₁.U B₁.U ∧ B₁.locs = A₁.locs ++ [⟨a, fC.slot⟩, ⟨a, fV.slot⟩] ∧ B₁.cells = A₁.cells + 1 ∧ B₁.slots = A₁.slots + A.slots.size) :=
  (law l a D fV fC b A z).pays htab hfr (by omega)
end New1
/-- the byte, read back as charAt reads it, is the char -/
theorem lo8_mask {x : Int32} (h0 : ¬ x < 0) (h1 : ¬ 255 < x) : lo8 x &&& 255 = x := by
  have t : ∀ k : Fin 256, lo8 (Int32.ofNat k.val) &&& 255 = Int32.ofNat k.val := by decide +kernel
  rw [Int32.lt_iff_toInt_lt] at h0 h1
  have e0 : (0 : Int32).toInt = 0 := rfl
  have e1 : (255 : Int32).toInt = 255 := rfl
  obtain ⟨k, hk⟩ : ∃ k : Nat, x.toInt = k := ⟨x.toInt.toNat, by omega⟩
  have hx : x = Int32.ofNat k := Int32.toInt_inj.mp (by rw [hk, Int32.toInt_ofNat_small (by omega)])
  rw [hx]
  exact t ⟨k, by omega⟩
end StrChars
namespace StrChars.Road
open Jvm Sem ClassFile Op Lib Jvm.Stand Jvm.Free Jvm.Free.XT
open Jvm.Lib.Cold (StaticIs)
abbrev ST : String := "java/lang/String"
/-- every table word that New1's law asks, flat -/
abbrev words : List Jvm.Cond := [.code New1.yN New1.yB 2 none, .initialized ST, .methodLink ST 27 New4.yN, .instanceMethod New4.yN,
  .code New4.yN New4.yB 6 none, .fieldLink ST 38 ST "COMPACT_STRINGS" "Z", .laysFinal ST ST "value" "[B", .fieldLink ST 9 ST "value" "[B", .laysFinal ST ST "coder" "B", .fieldLink ST 15 ST "coder" "B",
  .methodLink ST 1 Lib.objectInit, .instanceMethod Lib.objectInit, .code Lib.objectInit ⟨#[0xb1]⟩ 1 none, .methodLink ST 177 Cmp3.yN, .static Cmp3.yN, .methodLink ST 47 CodL.yN, .static CodL.yN,
  .code Cmp3.yN Cmp3.yB 6 (some (.array .byte)), .initialized U16, .arrayClass .byte, .methodLink U16 115 Cmp5.yN, .static Cmp5.yN, .code Cmp5.yN Cmp5.yB 7 (some .int), .code CodL.yN CodL.yB 2 (some .byte)]
theorem tab_of {a : Array Value} {s : State} (h : ∀ w ∈ words, w.before a s = true) : New1.tab.before a s = true := by
  have h5 : Cmp5.tab.before a s = true := unparts (wk h (.code Cmp5.yN Cmp5.yB 7 (some .int))) (wks h (.initialized Cmp5.yN.cls :: Cmp5.site))
  have hc : CodL.tab.before a s = true := unparts (wk h (.code CodL.yN CodL.yB 2 (some .byte))) (wks h (.initialized CodL.yN.cls :: CodL.site))
  have q5 : ∀ w ∈ Cmp5.tab :: words, w.before a s = true := fun w hw => (List.mem_cons.mp hw).elim (fun e => e ▸ h5) (h w)
  have h3 : Cmp3.tab.before a s = true := unparts (wk q5 (.code Cmp3.yN Cmp3.yB 6 (some (.array .byte)))) (wks q5 (.initialized Cmp3.yN.cls :: Cmp3.site))
  have q3 : ∀ w ∈ Cmp3.tab :: CodL.tab :: words, w.before a s = true := fun w hw => (List.mem_cons.mp hw).elim (fun e => e ▸ h3) fun hw => (List.mem_cons.mp hw).elim (fun e => e ▸ hc) (h w)
  have h4 : New4.tab.before a s = true := unparts (wk q3 (.code New4.yN New4.yB 6 none)) (wks q3 (.initialized New4.yN.cls :: New4.site))
  have q4 : ∀ w ∈ New4.tab :: words, w.before a s = true := fun w hw => (List.mem_cons.mp hw).elim (fun e => e ▸ h4) (h w)
  exact unparts (wk q4 (.code New1.yN New1.yB 2 none)) (wks q4 (.initialized New1.yN.cls :: New1.site))
/-- the words ride from the start Z to the walk's own state -/
theorem moved {Z s : State} {a0 args : Array Value} (hZ : Z.Warmed39 s.vm) (hw : ∀ d ∈ words, d.before a0 Z = true) : ∀ d ∈ words, d.before args s = true := fun d hd => by
  have q := hw d hd
  have t : ∀ d ∈ words, d = .arrayClass .byte ∨ (d.onTables && d.keepsFace) = true := by decide +kernel
  rcases t d hd with rfl | t
  · exact RoadKit.mvA hZ q
  · exact RoadKit.mv hZ q t
/-- WHAT COMES BACK, over the tables of the start Z: h the heap at the call, h' behind it -/
def Q (Z : State) (x : Addr) (A : Cell) (h : Heap) (v : Option Value) (h' : Heap) (L : List Loc) : Prop := v = none ∧ (∀ y ∈ L, y.base = x) ∧ RoadKit.Keep h h' [x] ∧ h'.size = h.size + 1 ∧ RoadKit.Exa Z h' x ST ∧ RoadKit.Fld Z h' x ST "value" "[B" (.ref h.size) ∧ RoadKit.Fld Z h' x ST "coder" "B" (.int 0) ∧
  (∃ V : Cell, RoadKit.Arr Z h' h.size V .byte ∧ V.vm = .none ∧ Z.vm.findClass "[B" = some V.cls ∧ V.slots.size = A.slots.size ∧ ∀ j, j < A.slots.size → V.slots[j]? = some (.int (lo8 (cv A j)))) ∧
  ∀ (O n d : String) (w : Value), RoadKit.Fld Z h x O n d w → RoadKit.slotOf Z O n d ≠ RoadKit.slotOf Z ST "value" "[B" → RoadKit.slotOf Z O n d ≠ RoadKit.slotOf Z ST "coder" "B" → RoadKit.Fld Z h' x O n d w
/-- **new String(chars) AT A CALL, IN THE ROAD'S FORM**: for specialBack behind newO: x the fresh String, b the char[] with the cell A -/
theorem back {p : Program} {l : Launch} {e : Env} {R : Room} {s : State} {args : Array Value} {below : List Frame} {len W : Nat} {Z : State} {a0 : Array Value} {h : Heap} (hZ : Z.Warmed39 s.vm) (hw : ∀ d ∈ words, d.before a0 Z = true) {kI : Nat} (wi : (Jvm.Cond.instantiable ST kI).before a0 Z = true)
    {x b : Addr} {A : Cell} {z : Int32} {v0 c0 : Value} (E : RoadKit.Exa Z h x ST) (V : RoadKit.Fld Z h x ST "value" "[B" v0) (C : RoadKit.Fld Z h x ST "coder" "B" c0) (K : RoadKit.Arr Z h b A .char) (hty : Typed .char A) (S : RoadKit.Sta Z h ST "COMPACT_STRINGS" "Z" (.int z)) (hz : ¬ z = 0)
    (l0 : 0 < A.slots.size) (l2 : A.slots.size ≤ 536870912) (hp : ∀ i, i < A.slots.size → ¬ 255 < cv A i) (hfr : 4 ≤ R.frames) (hlo : W + 65 ≤ R.locals) :
    Back l R p e below s args New1.yN len W (fun P a => a = #[.ref x, .ref b] ∧ P.U.heap = h ∧ P.cells + 1 ≤ R.cells ∧ P.slots + A.slots.size ≤ R.slots)
      (fun P _ v B => ∃ L, Q Z x A h v B.U.heap L ∧ B.locs = P.locs ++ L ∧ B.cells = P.cells + 1 ∧ B.slots = P.slots + A.slots.size) := by
  intro m meth c P g ig mk a X hg hsize hdg hW hn hp'
  obtain ⟨rfl, rfl, r1, r2⟩ := hp'
  have al : Z.vm.Alike P.U.vm := hZ.alike.trans X.warmed.alike
  obtain ⟨D, cfV, kV, iV, fV, hD, gV, stV, knV, obV, asV, slV⟩ := id V
  obtain ⟨D', cfC, kC, iC, fC, hD', gC, stC, -, -, asC, slC⟩ := id C
  cases hD.symm.trans hD'
  obtain ⟨D2, kD, e1, e2, e3, e4, e5⟩ := id E
  cases hD.symm.trans e1
  obtain ⟨c2, k2, i1, i2, i3, -⟩ := Cond.instantiable_spec wi
  cases e2.symm.trans i1
  cases e3.symm.trans i2
  obtain ⟨kU, u1, u2⟩ := al.2.2 _ _ e3
  have hB : Blank ST x D P.U := ⟨hD, ⟨knV, fun q hq => by rw [hq] at obV; cases obV⟩, by rw [al.findClass]; exact e2, kU, u1, by rw [u2]; exact i3, by rw [u2]; exact e5 i3⟩
  have F1 : Found ST "value" "[B" fV P.U := ⟨SBG.found_only al ⟨cfV, kV, iV, gV⟩, stV⟩
  have F2 : Found ST "coder" "B" fC P.U := ⟨SBG.found_only al ⟨cfC, kC, iC, gC⟩, stC⟩
  have hA : Ch b A P.U := ⟨⟨K.1, State.isArrayOf_alike al K.2.1, K.2.2, by omega⟩, hty⟩
  have hS : StaticIs P.U ST "COMPACT_STRINGS" "Z" (.int z) := by
    obtain ⟨cfS, iS, kS, fS, st, cS, t1, t2, t3, t4, t5, t6, t7⟩ := S
    exact StaticIs.there (s := { Z with heap := P.U.heap }) ⟨cfS, iS, kS, fS, st, cS, t1, t2, t3, t4, t5, (fun q => by rw [q] at t6; cases t6), t7⟩ al rfl
  obtain ⟨v, B, X', ⟨⟨hv, E', V', q1, q2, q3, q4, q5, q6, q7, q8, q9, q10, q11⟩, hl, hc, hs⟩, st⟩ := New1.pays x D fV fC b A z (tab_of (moved hZ hw)) hfr hlo m meth c P g ig mk _ X hg hsize hdg hW hn ⟨r1, r2, rfl, hB, F1, F2, hA, hS, hz, l0, l2, hp⟩
  have al' : Z.vm.Alike B.U.vm := hZ.alike.trans X'.warmed.alike
  have hsz : E'.slots.size = D.slots.size := by
    obtain ⟨-, -, -, kB, w1, w2, w3⟩ := q1
    obtain ⟨kB', y1, y2⟩ := al'.2.2 _ _ e3
    rw [q2.2.1] at w1
    cases w1.symm.trans y1
    rw [w3, e5 i3, y2]
  refine ⟨v, B, X', ⟨_, ⟨hv, ?_, ⟨by omega, fun y cy hy hn' => q10 y cy (by simpa using hn') hy, fun y cy hy => ?_⟩, q11, ⟨E', _, q1.1, by rw [q2.2.1]; exact e2, by rw [q2.2.1]; exact e3, by rw [q2.1]; exact obV, fun _ => by rw [hsz]; exact e5 i3⟩,
    ⟨E', cfV, kV, iV, fV, q1.1, gV, stV, by rw [q2.1]; exact knV, by rw [q2.1]; exact obV, by rw [q2.2.1]; exact asV, q3⟩, ⟨E', cfC, kC, iC, fC, q1.1, gC, stC, by rw [q2.1]; exact knV, by rw [q2.1]; exact obV, by rw [q2.2.1]; exact asC, q4⟩,
    ⟨V', ⟨q5.1, State.isArrayOf_alike al'.symm q5.2.1, q5.2.2.1⟩, q6, by rw [← al'.findClass]; exact q7, q8, fun j hj => by have := q9 j hj; rwa [Nat.zero_add] at this⟩, fun O n d w F n1 n2 => ?_⟩, hl, hc, hs⟩, st⟩
  · intro y hy
    simp only [List.mem_cons, List.not_mem_nil, or_false] at hy
    rcases hy with rfl | rfl <;> rfl
  · by_cases q : y = x
    · subst q
      cases hD.symm.trans hy
      exact ⟨E', q1.1, q2.2.1, q2.1, hsz⟩
    · exact ⟨cy, q10 y cy q hy, rfl, rfl, rfl⟩
  · obtain ⟨D3, cf, k, i, f, g1, g2, g3, g4, g5, g6, g7⟩ := F
    cases hD.symm.trans g1
    simp only [RoadKit.slotOf, g2, gV, gC, Option.map_some, Option.getD_some] at n1 n2
    exact ⟨E', cf, k, i, f, q1.1, g2, g3, by rw [q2.1]; exact g4, by rw [q2.1]; exact g5, by rw [q2.2.1]; exact g6, by rw [q2.2.2 f.slot (by simp [n1, n2])]; exact g7⟩
end StrChars.Road
namespace StrChars.Road
open Jvm Sem ClassFile Op Lib Jvm.Stand Jvm.Free Jvm.Free.XT
/-- WHAT COMES BACK, the byte[] as a list of values -/
def QA (Z : State) (x : Addr) (zn : Int32) (cs : List Int32) (h : Heap) (v : Option Value) (h' : Heap) (L : List Loc) : Prop := v = none ∧ (∀ y ∈ L, y.base = x) ∧ RoadKit.Keep h h' [x] ∧ h'.size = h.size + 1 ∧ RoadKit.Exa Z h' x ST ∧ RoadKit.Fld Z h' x ST "value" "[B" (.ref h.size) ∧ RoadKit.Fld Z h' x ST "coder" "B" (.int 0) ∧
  (∃ kb, Z.vm.findClass "[B" = some kb ∧ RoadKit.Arv Z h' h.size kb .byte zn (cs.map fun c => .int (lo8 c)) (.int 0)) ∧
  ∀ (O n d : String) (w : Value), RoadKit.Fld Z h x O n d w → RoadKit.slotOf Z O n d ≠ RoadKit.slotOf Z ST "value" "[B" → RoadKit.slotOf Z O n d ≠ RoadKit.slotOf Z ST "coder" "B" → RoadKit.Fld Z h' x O n d w
/-- **new String(chars) AT A CALL, THE ARRAYS AS LISTS**: the char[] at b holds cs, not empty, no char above 255 -/
theorem backArv {p : Program} {l : Launch} {e : Env} {R : Room} {s : State} {args : Array Value} {below : List Frame} {len W : Nat} {Z : State} {a0 : Array Value} {h : Heap} (hZ : Z.Warmed39 s.vm) (hw : ∀ d ∈ words, d.before a0 Z = true) {kI : Nat} (wi : (Jvm.Cond.instantiable ST kI).before a0 Z = true)
    {x b : Addr} {k : ClassId} {zn z : Int32} {cs : List Int32} {dv v0 c0 : Value} (E : RoadKit.Exa Z h x ST) (V : RoadKit.Fld Z h x ST "value" "[B" v0) (C : RoadKit.Fld Z h x ST "coder" "B" c0) (K : RoadKit.Arv Z h b k .char zn (cs.map Value.int) dv) (S : RoadKit.Sta Z h ST "COMPACT_STRINGS" "Z" (.int z)) (hz : ¬ z = 0)
    (hlen : zn.toNatClampNeg = cs.length) (h0 : 0 < cs.length) (hbig : cs.length ≤ 536870912) (hall : ∀ c ∈ cs, ¬ 255 < c) (hfr : 4 ≤ R.frames) (hlo : W + 65 ≤ R.locals) :
    Back l R p e below s args New1.yN len W (fun P a => a = #[.ref x, .ref b] ∧ P.U.heap = h ∧ P.cells + 1 ≤ R.cells ∧ P.slots + cs.length ≤ R.slots)
      (fun P _ v B => ∃ L, QA Z x zn cs h v B.U.heap L ∧ B.locs = P.locs ++ L ∧ B.cells = P.cells + 1 ∧ B.slots = P.slots + cs.length) := by
  obtain ⟨A, K1, K2, K3, K4, K5, K6⟩ := K
  have e : A.slots.size = cs.length := K3.trans hlen
  have hat : ∀ (i : Nat) (hi : i < cs.length), A.slots[i]? = some (.int cs[i]) := fun i hi => by rw [K5 i (by omega)]; simp [List.getD_eq_getElem?_getD, hi]
  have hcv : ∀ (i : Nat) (hi : i < cs.length), cv A i = cs[i] := fun i hi => by unfold cv; rw [hat i hi]
  have hty : Typed .char A := fun i v hv => by
    have hi : i < A.slots.size := (Array.getElem?_eq_some_iff.mp hv).1
    have q := K5 i hi
    rw [hv] at q
    rw [Option.some.inj q]
    exact K6 i hi
  refine Back.mono (back hZ hw wi E V C K1 hty S hz (by omega) (by omega) (fun i hi => by rw [hcv i (by omega)]; exact hall _ (List.getElem_mem _)) hfr hlo) (fun P a hp => ⟨hp.1, hp.2.1, hp.2.2.1, by rw [e]; exact hp.2.2.2⟩) (fun P a v B hp hq => ?_)
  obtain ⟨L, ⟨q1, q2, q3, q4, q5, q6, q7, ⟨V', v1, v2, v3, v4, v5⟩, q9⟩, hl, hc, hs⟩ := hq
  refine ⟨L, ⟨q1, q2, q3, q4, q5, q6, q7, ⟨V'.cls, v3, V', v1, rfl, by rw [v4, e, hlen], K4, fun i hi => ?_, fun i hi => ?_⟩, q9⟩, hl, hc, by rw [hs, e]⟩
  · have hi' : i < cs.length := by omega
    rw [v5 i (by omega), hcv i hi']; simp [List.getD_eq_getElem?_getD, hi']
  · have hi' : i < cs.length := by omega
    simp only [List.getD_eq_getElem?_getD, List.getElem?_map, List.getElem?_eq_getElem hi', Option.map_some, Option.getD_some]
    exact fits_lo8 _
end StrChars.Road
namespace StrChars.Road
open Jvm Sem ClassFile Op Lib Jvm.Stand Jvm.Free Jvm.Free.XT
/-- WHAT COMES BACK, in the writer's own shape -/
def QV (Z : State) (x : Addr) (N : Int32) (bs : List Int32) (h : Heap) (n0 : Nat) (v : Option Value) (h' : Heap) (L : List Loc) : Prop := v = none ∧ RoadKit.Fr n0 L ∧ RoadKit.Keep h h' [x] ∧ RoadKit.Exa Z h' x ST ∧ RoadKit.Fld Z h' x ST "coder" "B" (.int 0) ∧
  ∃ (t : Addr) (kb : ClassId), n0 ≤ t ∧ h.size ≤ t ∧ ¬ t = x ∧ RoadKit.Fld Z h' x ST "value" "[B" (.ref t) ∧ RoadKit.Arv Z h' t kb .byte N (bs.map Value.int) (.int 0)
/-- **new String(chars) AT A CALL, FOR THE WRITER**: a char[] of n known ints, each 0 to 255 -/
theorem backV {p : Program} {l : Launch} {e : Env} {R : Room} {s : State} {args : Array Value} {below : List Frame} {len W : Nat} {Z : State} {a0 : Array Value} {h : Heap} (hZ : Z.Warmed39 s.vm) (hw : ∀ d ∈ words, d.before a0 Z = true) {kI : Nat} (wi : (Jvm.Cond.instantiable ST kI).before a0 Z = true)
    {x b : Addr} {kC : ClassId} {cs bs : List Int32} {d v0 c0 : Value} {z N : Int32} {n n0 : Nat} (hx0 : n0 ≤ x) (hh0 : n0 ≤ h.size) (E : RoadKit.Exa Z h x ST) (V : RoadKit.Fld Z h x ST "value" "[B" v0) (C : RoadKit.Fld Z h x ST "coder" "B" c0) (K : RoadKit.Arv Z h b kC .char N (cs.map Value.int) d) (S : RoadKit.Sta Z h ST "COMPACT_STRINGS" "Z" (.int z)) (hz : ¬ z = 0)
    (hn : cs.length = n) (hN : N = Int32.ofNat n) (l0 : 0 < n) (l2 : n ≤ 4000) (hp : ∀ c ∈ cs, ¬ c < 0 ∧ ¬ (255 : Int32) < c) (hb : bs = cs.map (fun c => c.toInt8.toInt32)) (hfr : 4 ≤ R.frames) (hlo : W + 65 ≤ R.locals) :
    Back l R p e below s args (⟨"java/lang/String", "<init>", "([C)V"⟩ : MethodName) len W (fun P a => a = #[.ref x, .ref b] ∧ P.U.heap = h ∧ P.cells + 1 ≤ R.cells ∧ P.slots + n ≤ R.slots)
      (fun P _ v B => ∃ L, QV Z x N bs h n0 v B.U.heap L ∧ B.locs = P.locs ++ L ∧ B.cells = P.cells + 1 ∧ B.slots = P.slots + n) := by
  subst hn hN hb
  refine Back.mono (backArv hZ hw wi E V C K S hz (n32 (by omega)) l0 (by omega) (fun c hc => (hp c hc).2) hfr hlo) (fun P a hp => hp) (fun P a v B hp hq => ?_)
  obtain ⟨L, ⟨q1, q2, q3, q4, q5, q6, q7, ⟨kb, v1, v2⟩, q9⟩, hl, hc, hs⟩ := hq
  exact ⟨L, ⟨q1, fun y hy => by rw [q2 y hy]; exact hx0, q3, q5, q7, h.size, kb, hh0, Nat.le_refl _, Nat.ne_of_gt E.lt, q6, by rw [List.map_map]; exact v2⟩, hl, hc, hs⟩
end StrChars.Road
namespace StrChars
open Jvm Sem ClassFile Op Lib Jvm.Stand Jvm.Free.XT Jvm.Free.ALB Jvm.Free.JM Jvm.Free
open Jvm.Lib.Cold (StaticIs)
def hi8 (x : Int32) : Int32 := lo8 (x >>> ((8 : Int32) &&& 31))
/-- what StringUTF16.getChar makes of two bytes -/
def pairCh (u v : Int32) : Int32 := (((u &&& 255) <<< ((0 : Int32) &&& 31)) ||| ((v &&& 255) <<< ((8 : Int32) &&& 31))).toUInt32.toUInt16.toUInt32.toInt32
theorem shr0 (c : Int32) : c >>> ((0 : Int32) &&& 31) = c := by
  have e : ((0 : Int32) &&& 31) = 0 := by decide
  rw [e]
  apply Int32.toBitVec_inj.mp
  rw [Int32.toBitVec_shiftRight]
  have e1 : ((0 : Int32).toBitVec.smod 32) = 0#32 := by decide
  rw [e1, BitVec.sshiftRight_eq']
  exact BitVec.sshiftRight_zero
theorem lo8_and (x : Int32) : (lo8 x &&& 255).toBitVec.toNat = x.toBitVec.toNat % 256 := by
  have h : (lo8 x).toBitVec = (x.toBitVec.signExtend 8).signExtend 32 := by rw [lo8, Int8.toBitVec_toInt32, Int32.toBitVec_toInt8]
  rw [Int32.toBitVec_and, BitVec.toNat_and, h]
  have e : ((x.toBitVec.signExtend 8).signExtend 32).toNat % 256 = x.toBitVec.toNat % 256 := by
    rw [BitVec.toNat_signExtend]
    have hlt := x.toBitVec.isLt
    simp only [BitVec.toNat_setWidth, BitVec.toNat_signExtend]
    split <;> split <;> omega
  rw [← e]
  exact Nat.and_two_pow_sub_one_eq_mod _ 8
theorem pair_says {c : Int32} (h0 : ¬ c < 0) (h1 : ¬ 65535 < c) : pairCh (lo8 c) (hi8 c) = c := by
  rw [Int32.lt_iff_toInt_lt] at h0 h1
  have e0 : (0 : Int32).toInt = 0 := rfl
  have e1 : (65535 : Int32).toInt = 65535 := rfl
  have hc : c.toInt = c.toBitVec.toNat := by
    have := c.toBitVec.isLt
    have e : c.toInt = c.toBitVec.toInt := rfl
    rw [e] at h0 h1
    rw [e]
    rw [BitVec.toInt_eq_toNat_cond] at h0 h1 ⊢
    split at h0 <;> split <;> omega
  have hn : c.toBitVec.toNat < 65536 := by omega
  have a1 := lo8_and c
  have a2 : (hi8 c &&& 255).toBitVec.toNat = c.toBitVec.toNat / 256 := by
    rw [hi8, lo8_and]
    have e : ((8 : Int32) &&& 31) = 8 := by decide
    rw [e, Int32.toBitVec_shiftRight]
    have e2 : ((8 : Int32).toBitVec.smod 32) = 8#32 := by decide
    rw [e2, BitVec.sshiftRight_eq', BitVec.toNat_sshiftRight_of_msb_false (by rw [BitVec.msb_eq_false_iff_two_mul_lt]; omega)]
    show c.toBitVec.toNat >>> 8 % 256 = _
    rw [Nat.shiftRight_eq_div_pow]
    omega
  unfold pairCh
  apply Int32.toBitVec_inj.mp
  apply BitVec.eq_of_toNat_eq
  have f0 : ((0 : Int32) &&& 31) = 0 := by decide
  have f8 : ((8 : Int32) &&& 31) = 8 := by decide
  rw [f0, f8]
  have g : (((lo8 c &&& 255) <<< (0 : Int32)) ||| ((hi8 c &&& 255) <<< (8 : Int32))).toBitVec.toNat = c.toBitVec.toNat := by
    rw [Int32.toBitVec_or, Int32.toBitVec_shiftLeft, Int32.toBitVec_shiftLeft]
    have s0 : ((0 : Int32).toBitVec.smod 32) = 0#32 := by decide
    have s8 : ((8 : Int32).toBitVec.smod 32) = 8#32 := by decide
    rw [s0, s8, BitVec.toNat_or]
    simp only [BitVec.shiftLeft_eq', BitVec.toNat_shiftLeft, a1, a2]
    show (c.toBitVec.toNat % 256) <<< 0 % 2 ^ 32 ||| (c.toBitVec.toNat / 256) <<< 8 % 2 ^ 32 = _
    rw [Nat.shiftLeft_zero, Nat.mod_eq_of_lt (show c.toBitVec.toNat % 256 < 2 ^ 32 by omega), Nat.mod_eq_of_lt (show (c.toBitVec.toNat / 256) <<< 8 < 2 ^ 32 by rw [Nat.shiftLeft_eq]; omega), Nat.or_comm, ← Nat.shiftLeft_add_eq_or_of_lt (by omega), Nat.shiftLeft_eq]
    omega
  show BitVec.toNat (((((lo8 c &&& 255) <<< (0 : Int32)) ||| ((hi8 c &&& 255) <<< (8 : Int32))).toBitVec.setWidth 16).setWidth 32) = _
  rw [BitVec.toNat_setWidth, BitVec.toNat_setWidth, g]
  omega
end StrChars
namespace StrChars
open Jvm Sem ClassFile Op Lib Jvm.Stand Jvm.Free.XT Jvm.Free.ALB Jvm.Free.JM Jvm.Free
open Jvm.Lib.Cold (StaticIs)
theorem shr1 {n : Nat} (h : 2 * n < 2 ^ 31) : Int32.ofNat (2 * n) >>> ((1 : Int32) &&& 31) = Int32.ofNat n := by
  have e : ((1 : Int32) &&& 31) = 1 := by decide
  rw [e]
  apply Int32.toBitVec_inj.mp
  rw [Int32.toBitVec_shiftRight]
  have e1 : ((1 : Int32).toBitVec.smod 32) = 1#32 := by decide
  have hm : (BitVec.ofNat 32 (2 * n)).toNat = 2 * n := by rw [BitVec.toNat_ofNat, Nat.mod_eq_of_lt (by omega)]
  rw [e1, BitVec.sshiftRight_eq']
  apply BitVec.eq_of_toNat_eq
  show ((BitVec.ofNat 32 (2 * n)).sshiftRight 1).toNat = (BitVec.ofNat 32 n).toNat
  rw [BitVec.toNat_sshiftRight_of_msb_false (by rw [BitVec.msb_eq_false_iff_two_mul_lt, hm]; omega), hm, BitVec.toNat_ofNat, Nat.shiftRight_eq_div_pow]
  omega
/-- charAt's cast of a byte read back -/
def chr8 (u : Int32) : Int32 := (u &&& 255).toUInt32.toUInt16.toUInt32.toInt32
theorem chr8_lo8 {c : Int32} (h0 : ¬ c < 0) (h1 : ¬ 255 < c) : chr8 (lo8 c) = c := by
  have t : ∀ k : Fin 256, (Int32.ofNat k.val).toUInt32.toUInt16.toUInt32.toInt32 = Int32.ofNat k.val := by decide +kernel
  unfold chr8
  rw [lo8_mask h0 h1]
  rw [Int32.lt_iff_toInt_lt] at h0 h1
  have e0 : (0 : Int32).toInt = 0 := rfl
  have e1 : (255 : Int32).toInt = 255 := rfl
  obtain ⟨k, hk⟩ : ∃ k : Nat, c.toInt = k := ⟨c.toInt.toNat, by omega⟩
  have hx : c = Int32.ofNat k := Int32.toInt_inj.mp (by rw [hk, Int32.toInt_ofNat_small (by omega)])
  rw [hx]
  exact t ⟨k, by omega⟩
theorem narrow_ch {c : Int32} (h0 : ¬ c < 0) (h1 : ¬ 65535 < c) : narrow .char (.int c) = .int c := by
  have q : narrow .char (.int (pairCh (lo8 c) (hi8 c))) = .int (pairCh (lo8 c) (hi8 c)) := narrow_c _
  rwa [pair_says h0 h1] at q
/-- the array's cell V codes the n chars f 0 .. f (n - 1) by the coder cd, as the JDK does: coder 1 just where some char is above 255 -/
def Cod (cd : Int32) (n : Nat) (f : Nat → Int32) (V : Cell) : Prop := (cd = 0 ∧ V.slots.size = n ∧ ∀ j, j < n → V.slots[j]? = some (.int (lo8 (f j))) ∧ ¬ 255 < f j) ∨ (cd = 1 ∧ V.slots.size = 2 * n ∧ (∀ j, j < n → V.slots[2 * j]? = some (.int (lo8 (f j))) ∧ V.slots[2 * j + 1]? = some (.int (hi8 (f j)))) ∧ ∃ j, j < n ∧ 255 < f j)
theorem Cod.cd {cd : Int32} {n : Nat} {f : Nat → Int32} {V : Cell} (h : Cod cd n f V) : cd = 0 ∨ cd = 1 := h.imp (fun q => q.1) fun q => q.1
theorem Cod.len {cd : Int32} {n : Nat} {f : Nat → Int32} {V : Cell} (h : Cod cd n f V) (hs : V.slots.size < 2 ^ 31) : Int32.ofNat V.slots.size >>> (cd &&& 31) = Int32.ofNat n := by
  rcases h with ⟨rfl, h, -⟩ | ⟨rfl, h, -⟩
  · rw [shr0, h]
  · rw [h, shr1 (by omega)]
/-- **x is a String of the n chars f 0 .. f (n - 1)**, Latin-1 or UTF-16; its array at t has the cell V -/
def Txt (x t : Addr) (V : Cell) (cd : Int32) (n : Nat) (f : Nat → Int32) (U : State) : Prop := Exact "java/lang/String" x U ∧ Has x "java/lang/String" "value" "[B" (.ref t) U ∧ Has x "java/lang/String" "coder" "B" (.int cd) U ∧ XT.Arr .byte t V U ∧ Cod cd n f V ∧ ∀ j, j < n → ¬ f j < 0 ∧ ¬ 65535 < f j
theorem Txt.mv {x t : Addr} {V : Cell} {cd : Int32} {n : Nat} {f : Nat → Int32} {U U' : State} (h : Txt x t V cd n f U) (hal : U.vm.Alike U'.vm) (hh : U'.heap = U.heap) : Txt x t V cd n f U' := ⟨h.1.mv hal hh, h.2.1.mv hal hh, h.2.2.1.mv hal hh, h.2.2.2.1.mv hal hh, h.2.2.2.2⟩
namespace Cdr
def yN : MethodName := ⟨"java/lang/String", "coder", "()B"⟩
abbrev yB : ByteArray := jdk_42_method_152_code
theorem d0 : decode yB 0 = .ok (.getstatic 38, 3) := by decide +kernel
theorem d3 : decode yB 3 = .ok (.ifCond (.eq) 10, 3) := by decide +kernel
theorem d6 : decode yB 6 = .ok (.aload_n 0, 1) := by decide +kernel
theorem d7 : decode yB 7 = .ok (.getfield 15, 3) := by decide +kernel
theorem d10 : decode yB 10 = .ok (.goto 4, 3) := by decide +kernel
theorem d14 : decode yB 14 = .ok (.ireturn, 1) := by decide +kernel
def site : List Cond := [.fieldLink "java/lang/String" 38 "java/lang/String" "COMPACT_STRINGS" "Z", .fieldLink "java/lang/String" 15 "java/lang/String" "coder" "B"]
def tab : Cond := tabOf yN yB 1 (some .byte) site
def P (x : Addr) (cd z : Int32) (args : Array Value) (s : State) : Prop := args = #[.ref x] ∧ Has x "java/lang/String" "coder" "B" (.int cd) s ∧ (cd = 0 ∨ cd = 1) ∧ StaticIs s "java/lang/String" "COMPACT_STRINGS" "Z" (.int z) ∧ ¬ z = 0
def E (cd : Int32) (r : Option Value) (s u : State) : Prop := XT.PureE (some (.int cd)) r s u
theorem law (l : Launch) (x : Addr) (cd z : Int32) : Law l yN 1 0 0 0 yB 1 (some .byte) site (P x cd z) (E cd) [] 0 0 := by
  refine Law.of_walk (plainFor_of_name (by decide +kernel)) (by decide +kernel) (by decide +kernel) (by decide) (fun _ _ h => by rw [h.1]; rfl) (fun _ U U' hal hh h => ⟨h.1, h.2.1.mv hal hh, h.2.2.1, h.2.2.2.1.there hal hh, h.2.2.2.2⟩) (fun r U U' V V' h1 hal h2 h => XT.PureE.mv r U U' V V' h1 hal h2 h) ?_
  intro p e s m args below meth c s₁ X0 hexec hbytes hml hret hlk hnm hown hh0 W hP
  obtain ⟨rfl, hx, hc, s1, hz⟩ := hP
  have c1 : Steps p.tables e below (s₁.setTop (entryFrame m #[.ref x] 1)) (s₁.setTop (mkF m 0 #[.val (.ref x)] [])) := entry rfl
  obtain ⟨T2, X2, q2, st2⟩ := X0.sget hexec hown (wk W (.fieldLink "java/lang/String" 38 "java/lang/String" "COMPACT_STRINGS" "Z")) s1 (fun _ _ h => by rw [hh0]; exact h) (g := (mkF m 0 #[.val (.ref x)] [])) rfl (hb hbytes d0)
  have hh2 := q2.trans hh0
  have c3 : Steps p.tables e below (s₁.setTop (entryFrame m #[.ref x] 1)) (T2.setTop (mkF m 7 #[.val (.ref x)] [.ref x])) := (c1.trans (st2 _ (Steps.refl _))).trans (by
    refine XS.ifNo X2.here hexec rfl (hb hbytes d3) rfl (i0_eq_f hz) ?_
    refine XS.aloadN X2.here hexec rfl (hb hbytes d6) rfl rfl ?_
    exact Steps.refl _)
  obtain ⟨T4, X4, q4, st4⟩ := X2.hget hexec hown (wk W (.fieldLink "java/lang/String" 15 "java/lang/String" "coder" "B")) (hx.mv X2.warmed.alike hh2) (g := (mkF m 7 #[.val (.ref x)] [.ref x])) rfl (rest := []) rfl (hb hbytes d7)
  have c5 : Steps p.tables e below (s₁.setTop (entryFrame m #[.ref x] 1)) (T4.setTop (mkF m 14 #[.val (.ref x)] [.int cd])) := (c3.trans (st4 _ (Steps.refl _))).trans (by
    refine XS.goto X4.here hexec rfl (pc0 := 10) rfl (hb hbytes d10) (by decide) rfl ?_
    exact Steps.refl _)
  exact ⟨T4, some (.int cd), _, _, _, X4, rfl, rfl, rfl, (fun h => by cases h), ⟨rfl, q4.trans hh2⟩, fun fs hl => c5.trans (X4.ireturnOut hexec hret (by rcases hc with rfl | rfl <;> rfl) (Or.inr (Or.inr (Or.inl rfl))) (hb hbytes d14) hl)⟩
end Cdr
namespace Len
def yN : MethodName := ⟨"java/lang/String", "length", "()I"⟩
abbrev yB : ByteArray := jdk_42_method_54_code
theorem d0 : decode yB 0 = .ok (.aload_n 0, 1) := by decide +kernel
theorem d1 : decode yB 1 = .ok (.getfield 9, 3) := by decide +kernel
theorem d4 : decode yB 4 = .ok (.arraylength, 1) := by decide +kernel
theorem d5 : decode yB 5 = .ok (.aload_n 0, 1) := by decide +kernel
theorem d6 : decode yB 6 = .ok (.invokevirtual 335, 3) := by decide +kernel
theorem d9 : decode yB 9 = .ok (.ishr, 1) := by decide +kernel
theorem d10 : decode yB 10 = .ok (.ireturn, 1) := by decide +kernel
def site : List Cond := [.fieldLink "java/lang/String" 9 "java/lang/String" "value" "[B", Cdr.tab] ++ virtW "java/lang/String" 335 "java/lang/String" Cdr.yN Cdr.yN
def tab : Cond := tabOf yN yB 1 (some .int) site
def P (x t : Addr) (V : Cell) (cd : Int32) (n : Nat) (f : Nat → Int32) (z : Int32) (args : Array Value) (s : State) : Prop := args = #[.ref x] ∧ Txt x t V cd n f s ∧ StaticIs s "java/lang/String" "COMPACT_STRINGS" "Z" (.int z) ∧ ¬ z = 0
def E (n : Nat) (r : Option Value) (s u : State) : Prop := XT.PureE (some (.int (Int32.ofNat n))) r s u
/-- length() of a String of n chars, in either coding -/
theorem law (l : Launch) (x t : Addr) (V : Cell) (cd : Int32) (n : Nat) (f : Nat → Int32) (z : Int32) : Law l yN 1 0 1 13 yB 1 (some .int) site (P x t V cd n f z) (E n) [] 0 0 := by
  refine Law.of_walk (plainFor_of_name (by decide +kernel)) (by decide +kernel) (by decide +kernel) (by decide) (fun _ _ h => by rw [h.1]; rfl) (fun _ U U' hal hh h => ⟨h.1, h.2.1.mv hal hh, h.2.2.1.there hal hh, h.2.2.2⟩) (fun r U U' V V' h1 hal h2 h => XT.PureE.mv r U U' V V' h1 hal h2 h) ?_
  intro p e s m args below meth c s₁ X0 hexec hbytes hml hret hlk hnm hown hh0 W hP
  obtain ⟨rfl, hx, s1, hz⟩ := hP
  have v31 := hx.2.2.2.1.2.2.2
  have c1 : Steps p.tables e below (s₁.setTop (entryFrame m #[.ref x] 1)) (s₁.setTop (mkF m 1 #[.val (.ref x)] [.ref x])) := Steps.trans (entry rfl) (by
    show Steps p.tables e below (s₁.setTop (mkF m 0 #[.val (.ref x)] [])) _
    refine XS.aloadN X0.here hexec rfl (hb hbytes d0) rfl rfl ?_
    exact Steps.refl _)
  obtain ⟨T2, X2, q2, st2⟩ := X0.hget hexec hown (wk W (.fieldLink "java/lang/String" 9 "java/lang/String" "value" "[B")) (hx.mv X0.warmed.alike hh0).2.1 (g := (mkF m 1 #[.val (.ref x)] [.ref x])) rfl (rest := []) rfl (hb hbytes d1)
  have hh2 := q2.trans hh0
  have hx2 := hx.mv X2.warmed.alike hh2
  have c3 : Steps p.tables e below (s₁.setTop (entryFrame m #[.ref x] 1)) (T2.setTop (mkF m 6 #[.val (.ref x)] [.ref x, .int (Int32.ofNat V.slots.size)])) := (c1.trans (st2 _ (Steps.refl _))).trans (by
    refine X2.alen hexec hx2.2.2.2.1 rfl rfl (hb hbytes d4) ?_
    refine XS.aloadN X2.here hexec rfl (hb hbytes d5) rfl rfl ?_
    exact Steps.refl _)
  obtain ⟨v4, T4, X4, E4, g4⟩ := X2.callV hexec (Cdr.law l x cd z) hown (wks W (virtW "java/lang/String" 335 "java/lang/String" Cdr.yN Cdr.yN)) rfl (by decide) (wk W Cdr.tab) (W := 1) (Nat.le_of_ble_eq_true rfl) (Nat.le_of_ble_eq_true rfl) (Nat.le_refl _) (Nat.le_refl _) (hx2.1.fc X2.warmed.alike) hx2.1.is (g := (mkF m 6 #[.val (.ref x)] [.ref x, .int (Int32.ofNat V.slots.size)])) rfl (by rw [hml]; rfl) c3 (argsL := []) (rest := [.int (Int32.ofNat V.slots.size)]) rfl rfl (by show 2 * 0 + (1 + 0) ≤ _; decide) (hb hbytes d6) (⟨rfl, hx2.2.2.1, hx.2.2.2.2.1.cd, s1.there X2.warmed.alike hh2, hz⟩)
  obtain ⟨rfl, q4⟩ := E4
  have c5 : Steps p.tables e below (s₁.setTop (entryFrame m #[.ref x] 1)) (T4.setTop (mkF m 10 #[.val (.ref x)] [.int (Int32.ofNat V.slots.size >>> (cd &&& 31))])) := Steps.trans g4 (by
    refine ishr X4.here hexec rfl (hb hbytes d9) rfl ?_
    exact Steps.refl _)
  rw [hx.2.2.2.2.1.len v31] at c5
  exact ⟨T4, some (.int (Int32.ofNat n)), _, _, _, X4, rfl, rfl, rfl, (fun h => by cases h), ⟨rfl, q4.trans hh2⟩, fun fs hl => c5.trans (X4.ireturnOut hexec hret rfl (Or.inl rfl) (hb hbytes d10) hl)⟩
theorem pays {l : Launch} {R : Room} {p : Program} {e : Env} {below : List Frame} {s : State} {sargs : Array Value} {len W : Nat} (x t : Addr) (V : Cell) (cd : Int32) (n : Nat) (f : Nat → Int32) (z : Int32) (htab : tab.before sargs s = true) (hfr : 2 ≤ R.frames) (hlo : W + 25 ≤ R.locals) :
    Back l R p e below s sargs yN len W (fun A₁ a₁ => A₁.cells + 0 ≤ R.cells ∧ A₁.slots + 0 ≤ R.slots ∧ P x t V cd n f z a₁ A₁.U) (fun A₁ _ v₁ B₁ => E n v₁ A₁.U B₁.U ∧ B₁.locs = A₁.locs ++ [] ∧ B₁.cells = A₁.cells + 0 ∧ B₁.slots = A₁.slots + 0) :=
  (law l x t V cd n f z).pays htab hfr (by omega)
end Len
namespace IsL
def yN : MethodName := ⟨"java/lang/String", "isLatin1", "()Z"⟩
abbrev yB : ByteArray := jdk_42_method_154_code
theorem d0 : decode yB 0 = .ok (.getstatic 38, 3) := by decide +kernel
theorem d3 : decode yB 3 = .ok (.ifCond (.eq) 14, 3) := by decide +kernel
theorem d6 : decode yB 6 = .ok (.aload_n 0, 1) := by decide +kernel
theorem d7 : decode yB 7 = .ok (.getfield 15, 3) := by decide +kernel
theorem d10 : decode yB 10 = .ok (.ifCond (.ne) 7, 3) := by decide +kernel
theorem d13 : decode yB 13 = .ok (.iconst 1, 1) := by decide +kernel
theorem d14 : decode yB 14 = .ok (.goto 4, 3) := by decide +kernel
theorem d17 : decode yB 17 = .ok (.iconst 0, 1) := by decide +kernel
theorem d18 : decode yB 18 = .ok (.ireturn, 1) := by decide +kernel
def site : List Cond := [.fieldLink "java/lang/String" 38 "java/lang/String" "COMPACT_STRINGS" "Z", .fieldLink "java/lang/String" 15 "java/lang/String" "coder" "B"]
def tab : Cond := tabOf yN yB 1 (some .boolean) site
def P (x : Addr) (cd z : Int32) (args : Array Value) (s : State) : Prop := args = #[.ref x] ∧ Has x "java/lang/String" "coder" "B" (.int cd) s ∧ (cd = 0 ∨ cd = 1) ∧ StaticIs s "java/lang/String" "COMPACT_STRINGS" "Z" (.int z) ∧ ¬ z = 0
def E (cd : Int32) (r : Option Value) (s u : State) : Prop := XT.PureE (some (.int (1 - cd))) r s u
theorem law (l : Launch) (x : Addr) (cd z : Int32) : Law l yN 1 0 0 0 yB 1 (some .boolean) site (P x cd z) (E cd) [] 0 0 := by
  refine Law.of_walk (plainFor_of_name (by decide +kernel)) (by decide +kernel) (by decide +kernel) (by decide) (fun _ _ h => by rw [h.1]; rfl) (fun _ U U' hal hh h => ⟨h.1, h.2.1.mv hal hh, h.2.2.1, h.2.2.2.1.there hal hh, h.2.2.2.2⟩) (fun r U U' V V' h1 hal h2 h => XT.PureE.mv r U U' V V' h1 hal h2 h) ?_
  intro p e s m args below meth c s₁ X0 hexec hbytes hml hret hlk hnm hown hh0 W hP
  obtain ⟨rfl, hx, hc, s1, hz⟩ := hP
  have c1 : Steps p.tables e below (s₁.setTop (entryFrame m #[.ref x] 1)) (s₁.setTop (mkF m 0 #[.val (.ref x)] [])) := entry rfl
  obtain ⟨T2, X2, q2, st2⟩ := X0.sget hexec hown (wk W (.fieldLink "java/lang/String" 38 "java/lang/String" "COMPACT_STRINGS" "Z")) s1 (fun _ _ h => by rw [hh0]; exact h) (g := (mkF m 0 #[.val (.ref x)] [])) rfl (hb hbytes d0)
  have hh2 := q2.trans hh0
  have c3 : Steps p.tables e below (s₁.setTop (entryFrame m #[.ref x] 1)) (T2.setTop (mkF m 7 #[.val (.ref x)] [.ref x])) := (c1.trans (st2 _ (Steps.refl _))).trans (by
    refine XS.ifNo X2.here hexec rfl (hb hbytes d3) rfl (i0_eq_f hz) ?_
    refine XS.aloadN X2.here hexec rfl (hb hbytes d6) rfl rfl ?_
    exact Steps.refl _)
  obtain ⟨T4, X4, q4, st4⟩ := X2.hget hexec hown (wk W (.fieldLink "java/lang/String" 15 "java/lang/String" "coder" "B")) (hx.mv X2.warmed.alike hh2) (g := (mkF m 7 #[.val (.ref x)] [.ref x])) rfl (rest := []) rfl (hb hbytes d7)
  have c5 : Steps p.tables e below (s₁.setTop (entryFrame m #[.ref x] 1)) (T4.setTop (mkF m 10 #[.val (.ref x)] [.int cd])) := c3.trans (st4 _ (Steps.refl _))
  have c6 : Steps p.tables e below (s₁.setTop (entryFrame m #[.ref x] 1)) (T4.setTop (mkF m 18 #[.val (.ref x)] [.int (1 - cd)])) := by
    rcases hc with rfl | rfl
    · exact c5.trans (by
        refine XS.ifNo X4.here hexec rfl (hb hbytes d10) rfl (i0_ne_f rfl) ?_
        refine iconstV X4.here hexec rfl 1 (hb hbytes d13) (by decide) ?_
        refine XS.goto X4.here hexec rfl (pc0 := 14) rfl (hb hbytes d14) (by decide) rfl ?_
        exact Steps.refl _)
    · exact c5.trans (by
        refine XS.ifYes X4.here hexec rfl (pc0 := 10) rfl (hb hbytes d10) rfl (i0_ne_t (by decide)) (by decide) rfl ?_
        refine iconstV X4.here hexec rfl 0 (hb hbytes d17) (by decide) ?_
        exact Steps.refl _)
  exact ⟨T4, some (.int (1 - cd)), _, _, _, X4, rfl, rfl, rfl, (fun h => by cases h), ⟨rfl, q4.trans hh2⟩, fun fs hl => c6.trans (X4.ireturnOut hexec hret (by rcases hc with rfl | rfl <;> rfl) (Or.inr (Or.inl rfl)) (hb hbytes d18) hl)⟩
end IsL
namespace LChA
def yN : MethodName := ⟨"java/lang/StringLatin1", "charAt", "([BI)C"⟩
abbrev yB : ByteArray := jdk_43_method_2_code
theorem d0 : decode yB 0 = .ok (.iload_n 1, 1) := by decide +kernel
theorem d1 : decode yB 1 = .ok (.aload_n 0, 1) := by decide +kernel
theorem d2 : decode yB 2 = .ok (.arraylength, 1) := by decide +kernel
theorem d3 : decode yB 3 = .ok (.invokestatic 9, 3) := by decide +kernel
theorem d6 : decode yB 6 = .ok (.aload_n 0, 1) := by decide +kernel
theorem d7 : decode yB 7 = .ok (.iload_n 1, 1) := by decide +kernel
theorem d8 : decode yB 8 = .ok (.baload, 1) := by decide +kernel
theorem d9 : decode yB 9 = .ok (.sipush 255, 3) := by decide +kernel
theorem d12 : decode yB 12 = .ok (.iand, 1) := by decide +kernel
theorem d13 : decode yB 13 = .ok (.i2c, 1) := by decide +kernel
theorem d14 : decode yB 14 = .ok (.ireturn, 1) := by decide +kernel
def site : List Cond := [JO.Str_checkIndex.tab] ++ staticW "java/lang/StringLatin1" 9 JO.Str_checkIndex.yN
def tab : Cond := tabOf yN yB 2 (some .char) site
def P (t : Addr) (V : Cell) (i : Nat) (u : Int32) (fm : Value) (args : Array Value) (s : State) : Prop := args = #[.ref t, .int (Int32.ofNat i)] ∧ XT.Arr .byte t V s ∧ V.slots[i]? = some (.int u) ∧ (StaticIs s "jdk/internal/util/Preconditions" "SIOOBE_FORMATTER" "Ljava/util/function/BiFunction;" fm ∧ fm.isRef = true)
def E (u : Int32) (r : Option Value) (s w : State) : Prop := XT.PureE (some (.int (chr8 u))) r s w
theorem law (l : Launch) (t : Addr) (V : Cell) (i : Nat) (u : Int32) (fm : Value) : Law l yN 2 2 2 27 yB 2 (some .char) site (P t V i u fm) (E u) [] 0 0 := by
  refine Law.of_walk (plainFor_of_name (by decide +kernel)) (by decide +kernel) (by decide +kernel) (by decide) (fun _ _ h => by rw [h.1]; rfl) (fun _ U U' hal hh h => ⟨h.1, h.2.1.mv hal hh, h.2.2.1, h.2.2.2.1.there hal hh, h.2.2.2.2⟩) (fun r U U' V V' h1 hal h2 h => XT.PureE.mv r U U' V V' h1 hal h2 h) ?_
  intro p e s m args below meth c s₁ X0 hexec hbytes hml hret hlk hnm hown hh0 W hP
  obtain ⟨rfl, hV, hu, s1, rf⟩ := hP
  have v31 := hV.2.2.2
  have hi : i < V.slots.size := (Array.getElem?_eq_some_iff.mp hu).1
  have c1 : Steps p.tables e below (s₁.setTop (entryFrame m #[.ref t, .int (Int32.ofNat i)] 2)) (s₁.setTop (mkF m 0 #[.val (.ref t), .val (.int (Int32.ofNat i))] [])) := entry rfl
  have c2 : Steps p.tables e below (s₁.setTop (entryFrame m #[.ref t, .int (Int32.ofNat i)] 2)) (s₁.setTop (mkF m 3 #[.val (.ref t), .val (.int (Int32.ofNat i))] [.int (Int32.ofNat V.slots.size), .int (Int32.ofNat i)])) := c1.trans (by
    refine XS.iloadN X0.here hexec rfl (hb hbytes d0) rfl ?_
    refine XS.aloadN X0.here hexec rfl (hb hbytes d1) rfl rfl ?_
    refine X0.alen hexec (hV.mv X0.warmed.alike hh0) rfl rfl (hb hbytes d2) ?_
    exact Steps.refl _)
  obtain ⟨v3, T3, X3, E3, g3⟩ := X0.callS hexec (JO.Str_checkIndex.law l (Int32.ofNat i) (Int32.ofNat V.slots.size) fm) hown (wks W (staticW "java/lang/StringLatin1" 9 JO.Str_checkIndex.yN)) (wk W JO.Str_checkIndex.tab) (W := 0) (Nat.le_of_ble_eq_true rfl) (Nat.le_of_ble_eq_true rfl) (Nat.le_refl _) (Nat.le_refl _) (g := (mkF m 3 #[.val (.ref t), .val (.int (Int32.ofNat i))] [.int (Int32.ofNat V.slots.size), .int (Int32.ofNat i)])) rfl (by rw [hml]; rfl) c2 (argsL := [.int (Int32.ofNat i), .int (Int32.ofNat V.slots.size)]) (rest := []) rfl rfl (by show 2 * 0 + 0 ≤ _; decide) (hb hbytes d3) (⟨rfl, rf, s1.there X0.warmed.alike hh0, Int32.ofNat_not_neg (by omega), lt32 v31 hi⟩)
  obtain ⟨rfl, q3⟩ := E3
  have hh3 := q3.trans hh0
  have c4 : Steps p.tables e below (s₁.setTop (entryFrame m #[.ref t, .int (Int32.ofNat i)] 2)) (T3.setTop (mkF m 14 #[.val (.ref t), .val (.int (Int32.ofNat i))] [.int (chr8 u)])) := Steps.trans g3 (by
    refine XS.aloadN X3.here hexec rfl (hb hbytes d6) rfl rfl ?_
    refine XS.iloadN X3.here hexec rfl (hb hbytes d7) rfl ?_
    refine X3.aget hexec (hV.mv X3.warmed.alike hh3) rfl hu rfl rfl (hb hbytes d8) ?_
    refine sipushV X3.here hexec rfl 255 (hb hbytes d9) (by decide) ?_
    refine XS.iand X3.here hexec rfl (hb hbytes d12) rfl ?_
    refine i2c X3.here hexec rfl (hb hbytes d13) rfl ?_
    exact Steps.refl _)
  exact ⟨T3, some (.int (chr8 u)), _, _, _, X3, rfl, rfl, rfl, (fun h => by cases h), ⟨rfl, hh3⟩, fun fs hl => c4.trans (X3.ireturnOut hexec hret (narrow_c _) (Or.inr (Or.inr (Or.inr (Or.inl rfl)))) (hb hbytes d14) hl)⟩
end LChA
end StrChars
namespace StrChars.Road
open Jvm Sem ClassFile Op Lib Jvm.Stand Jvm.Free Jvm.Free.XT
open Jvm.Lib.Cold (StaticIs)
theorem consq {a : Array Value} {s : State} {c : Jvm.Cond} {L : List Jvm.Cond} (h0 : c.before a s = true) (h : ∀ w ∈ L, w.before a s = true) : ∀ w ∈ c :: L, w.before a s = true := fun w hw => (List.mem_cons.mp hw).elim (fun e => e ▸ h0) (h w)
/-- the words of String.length(), either coding -/
abbrev wordsLen : List Jvm.Cond := [.code Len.yN Len.yB 1 (some .int), .initialized ST, .fieldLink ST 9 ST "value" "[B", .fieldLink ST 38 ST "COMPACT_STRINGS" "Z", .fieldLink ST 15 ST "coder" "B", .code Cdr.yN Cdr.yB 1 (some .byte), .methodLink ST 335 Cdr.yN, .declares Cdr.yN, .selects ST Cdr.yN Cdr.yN, .instanceMethod Cdr.yN]
theorem tabLen_of {a : Array Value} {s : State} (h : ∀ w ∈ wordsLen, w.before a s = true) : Len.tab.before a s = true := by
  have hc : Cdr.tab.before a s = true := unparts (wk h (.code Cdr.yN Cdr.yB 1 (some .byte))) (wks h (.initialized Cdr.yN.cls :: Cdr.site))
  have q := consq hc h
  exact unparts (wk q (.code Len.yN Len.yB 1 (some .int))) (wks q (.initialized Len.yN.cls :: Len.site))
theorem movedLen {Z s : State} {a0 args : Array Value} (hZ : Z.Warmed39 s.vm) (hw : ∀ d ∈ wordsLen, d.before a0 Z = true) : ∀ d ∈ wordsLen, d.before args s = true := fun d hd => by
  have q := hw d hd
  have t : ∀ d ∈ wordsLen, d = .arrayClass .byte ∨ (d.onTables && d.keepsFace) = true := by decide +kernel
  rcases t d hd with rfl | t
  · exact RoadKit.mvA hZ q
  · exact RoadKit.mv hZ q t
/-- the bytes of the chars cs, low before high -/
def wideBytes : List Int32 → List Value
  | [] => []
  | c :: cs => .int (lo8 c) :: .int (hi8 c) :: wideBytes cs
theorem wide_lo (d : Value) : ∀ (cs : List Int32) (j : Nat), j < cs.length → (wideBytes cs).getD (2 * j) d = .int (lo8 (cs.getD j 0))
  | [], j, h => absurd h (Nat.not_lt_zero j)
  | c :: cs, 0, _ => rfl
  | c :: cs, j + 1, h => by
    have q := wide_lo d cs j (by simpa using h)
    rw [show 2 * (j + 1) = 2 * j + 1 + 1 from by omega]
    simpa [wideBytes] using q
theorem wide_hi (d : Value) : ∀ (cs : List Int32) (j : Nat), j < cs.length → (wideBytes cs).getD (2 * j + 1) d = .int (hi8 (cs.getD j 0))
  | [], j, h => absurd h (Nat.not_lt_zero j)
  | c :: cs, 0, _ => rfl
  | c :: cs, j + 1, h => by
    have q := wide_hi d cs j (by simpa using h)
    rw [show 2 * (j + 1) + 1 = 2 * j + 1 + 1 + 1 from by omega]
    simpa [wideBytes] using q
theorem low_at (d : Value) (cs : List Int32) (j : Nat) (h : j < cs.length) : (cs.map fun c => Value.int (lo8 c)).getD j d = .int (lo8 (cs.getD j 0)) := by
  simp [List.getD_eq_getElem?_getD, h]
/-- an array of N2 bytes vs codes the chars cs by the coder cd -/
def CodA (cs : List Int32) (cd N2 : Int32) (vs : List Value) : Prop := (cd = 0 ∧ N2 = Int32.ofNat cs.length ∧ vs = (cs.map fun c => Value.int (lo8 c)) ∧ ∀ c ∈ cs, ¬ 255 < c) ∨ (cd = 1 ∧ N2 = Int32.ofNat (2 * cs.length) ∧ vs = wideBytes cs ∧ ∃ c ∈ cs, 255 < c)
theorem CodA.cod {cs : List Int32} {cd N2 : Int32} {vs : List Value} {V : Cell} (h : CodA cs cd N2 vs) (hn : 2 * cs.length < 2 ^ 31) (hs : V.slots.size = N2.toNatClampNeg) (hv : RoadKit.Has V vs (.int 0)) : Cod cd cs.length (fun j => cs.getD j 0) V := by
  rcases h with ⟨rfl, rfl, rfl, h⟩ | ⟨rfl, rfl, rfl, c, hc, hw⟩
  · rw [n32 (by omega)] at hs
    exact Or.inl ⟨rfl, hs, fun j hj => ⟨by rw [hv j (by omega), low_at _ _ _ hj], by
      have e : cs.getD j 0 = cs[j] := by simp [List.getD_eq_getElem?_getD, hj]
      show ¬ 255 < cs.getD j 0
      rw [e]; exact h _ (List.getElem_mem _)⟩⟩
  · rw [n32 (by omega)] at hs
    obtain ⟨j, hj, rfl⟩ := List.getElem_of_mem hc
    exact Or.inr ⟨rfl, hs, fun j hj => ⟨by rw [hv _ (by omega), wide_lo _ _ _ hj], by rw [hv _ (by omega), wide_hi _ _ _ hj]⟩, j, hj, by
      have e : cs.getD j 0 = cs[j] := by simp [List.getD_eq_getElem?_getD, hj]
      show 255 < cs.getD j 0
      rw [e]; exact hw⟩
/-- an object of exactly java/lang/String, its two fields found: as the laws ask it -/
theorem strObj {Z U : State} {a0 : Array Value} {kI : Nat} (wi : (Jvm.Cond.instantiable ST kI).before a0 Z = true) (al : Z.vm.Alike U.vm) {x : Addr} {v0 c0 : Value} (E : RoadKit.Exa Z U.heap x ST) (V : RoadKit.Fld Z U.heap x ST "value" "[B" v0) (C : RoadKit.Fld Z U.heap x ST "coder" "B" c0) :
    ∃ (D : Cell) (fV fC : Field), Blank ST x D U ∧ Found ST "value" "[B" fV U ∧ Found ST "coder" "B" fC U ∧ D.slots[fV.slot]? = some v0 ∧ D.slots[fC.slot]? = some c0 ∧ RoadKit.slotOf Z ST "value" "[B" = fV.slot ∧ RoadKit.slotOf Z ST "coder" "B" = fC.slot := by
  obtain ⟨D, cfV, kV, iV, fV, hD, gV, stV, knV, obV, asV, slV⟩ := V
  obtain ⟨D', cfC, kC, iC, fC, hD', gC, stC, -, -, asC, slC⟩ := C
  cases hD.symm.trans hD'
  obtain ⟨D2, kD, e1, e2, e3, e4, e5⟩ := E
  cases hD.symm.trans e1
  obtain ⟨c2, k2, i1, i2, i3, -⟩ := Cond.instantiable_spec wi
  cases e2.symm.trans i1
  cases e3.symm.trans i2
  obtain ⟨kU, u1, u2⟩ := al.2.2 _ _ e3
  exact ⟨D, fV, fC, ⟨hD, ⟨knV, fun q hq => by rw [hq] at obV; cases obV⟩, by rw [al.findClass]; exact e2, kU, u1, by rw [u2]; exact i3, by rw [u2]; exact e5 i3⟩, ⟨SBG.found_only al ⟨cfV, kV, iV, gV⟩, stV⟩, ⟨SBG.found_only al ⟨cfC, kC, iC, gC⟩, stC⟩, slV, slC, by simp [RoadKit.slotOf, gV], by simp [RoadKit.slotOf, gC]⟩
theorem sta_is {Z U : State} (al : Z.vm.Alike U.vm) {C n d : String} {v : Value} (S : RoadKit.Sta Z U.heap C n d v) : StaticIs U C n d v := by
  obtain ⟨cfS, iS, kS, fS, st, cS, t1, t2, t3, t4, t5, t6, t7⟩ := S
  exact StaticIs.there (s := { Z with heap := U.heap }) ⟨cfS, iS, kS, fS, st, cS, t1, t2, t3, t4, t5, (fun q => by rw [q] at t6; cases t6), t7⟩ al rfl
/-- **length() OF SUCH A STRING** -/
theorem lenW {p : Program} {l : Launch} {e : Env} {R : Room} {s : State} {args : Array Value} {below : List Frame} {len W : Nat} {Z : State} {a0 : Array Value} {h : Heap} (hZ : Z.Warmed39 s.vm) (hw : ∀ d ∈ wordsLen, d.before a0 Z = true) {kI : Nat} (wi : (Jvm.Cond.instantiable ST kI).before a0 Z = true)
    {x t : Addr} {kb : ClassId} {cs : List Int32} {cd N2 z : Int32} {vs : List Value} (E : RoadKit.Exa Z h x ST) (V : RoadKit.Fld Z h x ST "value" "[B" (.ref t)) (C : RoadKit.Fld Z h x ST "coder" "B" (.int cd)) (K : RoadKit.Arv Z h t kb .byte N2 vs (.int 0)) (hc : CodA cs cd N2 vs) (hb : ∀ c ∈ cs, ¬ c < 0 ∧ ¬ (65535 : Int32) < c)
    (S : RoadKit.Sta Z h ST "COMPACT_STRINGS" "Z" (.int z)) (hz : ¬ z = 0) (l2 : cs.length ≤ 4000) (hfr : 2 ≤ R.frames) (hlo : W + 25 ≤ R.locals) :
    Back l R p e below s args (⟨"java/lang/String", "length", "()I"⟩ : MethodName) len W (fun P a => a = #[.ref x] ∧ P.U.heap = h ∧ P.cells + 0 ≤ R.cells ∧ P.slots + 0 ≤ R.slots)
      (fun P _ v B => ∃ L, (v = some (.int (Int32.ofNat cs.length)) ∧ L = [] ∧ B.U.heap = h) ∧ B.locs = P.locs ++ L ∧ B.cells = P.cells + 0 ∧ B.slots = P.slots + 0) := by
  obtain ⟨A, K1, K2, K3, K4, K5, K6⟩ := K
  have hcod := hc.cod (by omega) K3 K5
  intro m meth c P g ig mk a X hg hsize hdg hW hn hp'
  obtain ⟨rfl, rfl, r1, r2⟩ := hp'
  have al : Z.vm.Alike P.U.vm := hZ.alike.trans X.warmed.alike
  obtain ⟨D, fV, fC, hB, F1, F2, g1, g2, -, -⟩ := strObj wi al E V C
  have hx : Txt x t A cd cs.length (fun j => cs.getD j 0) P.U := ⟨⟨_, hB.2.2.1, D, hB.1, rfl, by cases q : D.vm <;> first | rfl | exact absurd q (hB.2.1.2 _)⟩, Has.of hB F1 g1, Has.of hB F2 g2, ⟨K1.1, State.isArrayOf_alike al K1.2.1, K1.2.2, by rcases hcod with ⟨-, q, -⟩ | ⟨-, q, -⟩ <;> omega⟩, hcod, fun j hj => by
    have e : cs.getD j 0 = cs[j] := by simp [List.getD_eq_getElem?_getD, hj]
    show ¬ cs.getD j 0 < 0 ∧ ¬ 65535 < cs.getD j 0
    rw [e]; exact hb _ (List.getElem_mem _)⟩
  obtain ⟨v, B, X', ⟨⟨hv, hh⟩, hl, hk, hs⟩, st⟩ := Len.pays x t A cd cs.length (fun j => cs.getD j 0) z (tabLen_of (movedLen hZ hw)) hfr hlo m meth c P g ig mk _ X hg hsize hdg hW hn ⟨r1, r2, rfl, hx, sta_is al S, hz⟩
  exact ⟨v, B, X', ⟨[], ⟨hv, rfl, hh⟩, hl, hk, hs⟩, st⟩
end StrChars.Road
namespace StrChars
open Jvm Sem ClassFile Op Lib Jvm.Stand Jvm.Free.XT Jvm.Free.ALB Jvm.Free.JM Jvm.Free
open Jvm.Lib.Cold (StaticIs)
namespace Emp
def yN : MethodName := ⟨"java/lang/String", "isEmpty", "()Z"⟩
abbrev yB : ByteArray := jdk_42_method_55_code
theorem d0 : decode yB 0 = .ok (.aload_n 0, 1) := by decide +kernel
theorem d1 : decode yB 1 = .ok (.getfield 9, 3) := by decide +kernel
theorem d4 : decode yB 4 = .ok (.arraylength, 1) := by decide +kernel
theorem d5 : decode yB 5 = .ok (.ifCond (.ne) 7, 3) := by decide +kernel
theorem d8 : decode yB 8 = .ok (.iconst 1, 1) := by decide +kernel
theorem d9 : decode yB 9 = .ok (.goto 4, 3) := by decide +kernel
theorem d12 : decode yB 12 = .ok (.iconst 0, 1) := by decide +kernel
theorem d13 : decode yB 13 = .ok (.ireturn, 1) := by decide +kernel
def site : List Cond := [.fieldLink "java/lang/String" 9 "java/lang/String" "value" "[B"]
def tab : Cond := tabOf yN yB 1 (some .boolean) site
def P (x t : Addr) (V : Cell) (cd : Int32) (n : Nat) (f : Nat → Int32) (args : Array Value) (s : State) : Prop := args = #[.ref x] ∧ Txt x t V cd n f s
def E (n : Nat) (r : Option Value) (s u : State) : Prop := XT.PureE (some (.int (if n = 0 then 1 else 0))) r s u
/-- isEmpty() of a String of n chars -/
theorem law (l : Launch) (x t : Addr) (V : Cell) (cd : Int32) (n : Nat) (f : Nat → Int32) : Law l yN 1 0 0 0 yB 1 (some .boolean) site (P x t V cd n f) (E n) [] 0 0 := by
  refine Law.of_walk (plainFor_of_name (by decide +kernel)) (by decide +kernel) (by decide +kernel) (by decide) (fun _ _ h => by rw [h.1]; rfl) (fun _ U U' hal hh h => ⟨h.1, h.2.mv hal hh⟩) (fun r U U' V V' h1 hal h2 h => XT.PureE.mv r U U' V V' h1 hal h2 h) ?_
  intro p e s m args below meth c s₁ X0 hexec hbytes hml hret hlk hnm hown hh0 W hP
  obtain ⟨rfl, hx⟩ := hP
  have v31 := hx.2.2.2.1.2.2.2
  have c1 : Steps p.tables e below (s₁.setTop (entryFrame m #[.ref x] 1)) (s₁.setTop (mkF m 1 #[.val (.ref x)] [.ref x])) := Steps.trans (entry rfl) (by
    show Steps p.tables e below (s₁.setTop (mkF m 0 #[.val (.ref x)] [])) _
    refine XS.aloadN X0.here hexec rfl (hb hbytes d0) rfl rfl ?_
    exact Steps.refl _)
  obtain ⟨T2, X2, q2, st2⟩ := X0.hget hexec hown (wk W (.fieldLink "java/lang/String" 9 "java/lang/String" "value" "[B")) (hx.mv X0.warmed.alike hh0).2.1 (g := (mkF m 1 #[.val (.ref x)] [.ref x])) rfl (rest := []) rfl (hb hbytes d1)
  have hh2 := q2.trans hh0
  have hx2 := hx.mv X2.warmed.alike hh2
  have c3 : Steps p.tables e below (s₁.setTop (entryFrame m #[.ref x] 1)) (T2.setTop (mkF m 5 #[.val (.ref x)] [.int (Int32.ofNat V.slots.size)])) := (c1.trans (st2 _ (Steps.refl _))).trans (by
    refine X2.alen hexec hx2.2.2.2.1 rfl rfl (hb hbytes d4) ?_
    exact Steps.refl _)
  have hz : V.slots.size = 0 ↔ n = 0 := by
    rcases hx.2.2.2.2.1 with ⟨-, q, -⟩ | ⟨-, q, -⟩ <;> omega
  by_cases h0 : n = 0
  · have c4 : Steps p.tables e below (s₁.setTop (entryFrame m #[.ref x] 1)) (T2.setTop (mkF m 13 #[.val (.ref x)] [.int 1])) := c3.trans (by
      refine XS.ifNo X2.here hexec rfl (hb hbytes d5) rfl (i0_ne_f (by rw [hz.mpr h0]; rfl)) ?_
      refine iconstV X2.here hexec rfl 1 (hb hbytes d8) (by decide) ?_
      refine XS.goto X2.here hexec rfl (pc0 := 9) rfl (hb hbytes d9) (by decide) rfl ?_
      exact Steps.refl _)
    exact ⟨T2, some (.int 1), _, _, _, X2, rfl, rfl, rfl, (fun h => by cases h), ⟨by rw [if_pos h0], hh2⟩, fun fs hl => c4.trans (X2.ireturnOut hexec hret rfl (Or.inr (Or.inl rfl)) (hb hbytes d13) hl)⟩
  · have c4 : Steps p.tables e below (s₁.setTop (entryFrame m #[.ref x] 1)) (T2.setTop (mkF m 13 #[.val (.ref x)] [.int 0])) := c3.trans (by
      refine XS.ifYes X2.here hexec rfl (pc0 := 5) rfl (hb hbytes d5) rfl (i0_ne_t (nz32 v31 (by omega))) (by decide) rfl ?_
      refine iconstV X2.here hexec rfl 0 (hb hbytes d12) (by decide) ?_
      exact Steps.refl _)
    exact ⟨T2, some (.int 0), _, _, _, X2, rfl, rfl, rfl, (fun h => by cases h), ⟨by rw [if_neg h0], hh2⟩, fun fs hl => c4.trans (X2.ireturnOut hexec hret rfl (Or.inr (Or.inl rfl)) (hb hbytes d13) hl)⟩
theorem pays {l : Launch} {R : Room} {p : Program} {e : Env} {below : List Frame} {s : State} {sargs : Array Value} {len W : Nat} (x t : Addr) (V : Cell) (cd : Int32) (n : Nat) (f : Nat → Int32) (htab : tab.before sargs s = true) (hfr : 1 ≤ R.frames) (hlo : W + 12 ≤ R.locals) :
    Back l R p e below s sargs yN len W (fun A₁ a₁ => A₁.cells + 0 ≤ R.cells ∧ A₁.slots + 0 ≤ R.slots ∧ P x t V cd n f a₁ A₁.U) (fun A₁ _ v₁ B₁ => E n v₁ A₁.U B₁.U ∧ B₁.locs = A₁.locs ++ [] ∧ B₁.cells = A₁.cells + 0 ∧ B₁.slots = A₁.slots + 0) :=
  (law l x t V cd n f).pays htab hfr (by omega)
end Emp
end StrChars
namespace StrChars.Road
open Jvm Sem ClassFile Op Lib Jvm.Stand Jvm.Free Jvm.Free.XT
open Jvm.Lib.Cold (StaticIs)
/-- the words of String.isEmpty() -/
abbrev wordsEmp : List Jvm.Cond := [.code Emp.yN Emp.yB 1 (some .boolean), .initialized ST, .fieldLink ST 9 ST "value" "[B"]
theorem tabEmp_of {a : Array Value} {s : State} (h : ∀ w ∈ wordsEmp, w.before a s = true) : Emp.tab.before a s = true := unparts (wk h (.code Emp.yN Emp.yB 1 (some .boolean))) (wks h (.initialized Emp.yN.cls :: Emp.site))
theorem movedEmp {Z s : State} {a0 args : Array Value} (hZ : Z.Warmed39 s.vm) (hw : ∀ d ∈ wordsEmp, d.before a0 Z = true) : ∀ d ∈ wordsEmp, d.before args s = true := fun d hd => by
  have t : ∀ d ∈ wordsEmp, (d.onTables && d.keepsFace) = true := by decide +kernel
  exact RoadKit.mv hZ (hw d hd) (t d hd)
/-- the road's facts of a String, as the laws ask it -/
theorem txt_of {Z U : State} {a0 : Array Value} {kI : Nat} (wi : (Jvm.Cond.instantiable ST kI).before a0 Z = true) (al : Z.vm.Alike U.vm) {x t : Addr} {kb : ClassId} {cs : List Int32} {cd N2 : Int32} {vs : List Value} (E : RoadKit.Exa Z U.heap x ST) (V : RoadKit.Fld Z U.heap x ST "value" "[B" (.ref t)) (C : RoadKit.Fld Z U.heap x ST "coder" "B" (.int cd)) (K : RoadKit.Arv Z U.heap t kb .byte N2 vs (.int 0)) (hc : CodA cs cd N2 vs) (hb : ∀ c ∈ cs, ¬ c < 0 ∧ ¬ (65535 : Int32) < c) (l2 : cs.length ≤ 4000) :
    ∃ A, Txt x t A cd cs.length (fun j => cs.getD j 0) U := by
  obtain ⟨A, K1, K2, K3, K4, K5, K6⟩ := K
  have hcod := hc.cod (by omega) K3 K5
  obtain ⟨D, fV, fC, hB, F1, F2, g1, g2, -, -⟩ := strObj wi al E V C
  exact ⟨A, ⟨_, hB.2.2.1, D, hB.1, rfl, by cases q : D.vm <;> first | rfl | exact absurd q (hB.2.1.2 _)⟩, Has.of hB F1 g1, Has.of hB F2 g2, ⟨K1.1, State.isArrayOf_alike al K1.2.1, K1.2.2, by rcases hcod with ⟨-, q, -⟩ | ⟨-, q, -⟩ <;> omega⟩, hcod, fun j hj => by
    have e : cs.getD j 0 = cs[j] := by simp [List.getD_eq_getElem?_getD, hj]
    show ¬ cs.getD j 0 < 0 ∧ ¬ 65535 < cs.getD j 0
    rw [e]; exact hb _ (List.getElem_mem _)⟩
/-- **isEmpty() OF SUCH A STRING** -/
theorem empW {p : Program} {l : Launch} {e : Env} {R : Room} {s : State} {args : Array Value} {below : List Frame} {len W : Nat} {Z : State} {a0 : Array Value} {h : Heap} (hZ : Z.Warmed39 s.vm) (hw : ∀ d ∈ wordsEmp, d.before a0 Z = true) {kI : Nat} (wi : (Jvm.Cond.instantiable ST kI).before a0 Z = true)
    {x t : Addr} {kb : ClassId} {cs : List Int32} {cd N2 : Int32} {vs : List Value} (E : RoadKit.Exa Z h x ST) (V : RoadKit.Fld Z h x ST "value" "[B" (.ref t)) (C : RoadKit.Fld Z h x ST "coder" "B" (.int cd)) (K : RoadKit.Arv Z h t kb .byte N2 vs (.int 0)) (hc : CodA cs cd N2 vs) (hb : ∀ c ∈ cs, ¬ c < 0 ∧ ¬ (65535 : Int32) < c) (l2 : cs.length ≤ 4000) (hfr : 1 ≤ R.frames) (hlo : W + 12 ≤ R.locals) :
    Back l R p e below s args (⟨"java/lang/String", "isEmpty", "()Z"⟩ : MethodName) len W (fun P a => a = #[.ref x] ∧ P.U.heap = h ∧ P.cells + 0 ≤ R.cells ∧ P.slots + 0 ≤ R.slots)
      (fun P _ v B => ∃ L, (v = some (.int (if cs.length = 0 then 1 else 0)) ∧ L = [] ∧ B.U.heap = h) ∧ B.locs = P.locs ++ L ∧ B.cells = P.cells + 0 ∧ B.slots = P.slots + 0) := by
  intro m meth c P g ig mk a X hg hsize hdg hW hn hp'
  obtain ⟨rfl, rfl, r1, r2⟩ := hp'
  have al : Z.vm.Alike P.U.vm := hZ.alike.trans X.warmed.alike
  obtain ⟨A, hx⟩ := txt_of wi al E V C K hc hb l2
  obtain ⟨v, B, X', ⟨⟨hv, hh⟩, hl, hk, hs⟩, st⟩ := Emp.pays x t A cd cs.length (fun j => cs.getD j 0) (tabEmp_of (movedEmp hZ hw)) hfr hlo m meth c P g ig mk _ X hg hsize hdg hW hn ⟨r1, r2, rfl, hx⟩
  exact ⟨v, B, X', ⟨[], ⟨hv, rfl, hh⟩, hl, hk, hs⟩, st⟩
end StrChars.Road
namespace StrChars
open Jvm Sem ClassFile Op Lib Jvm.Stand Jvm.Free.XT Jvm.Free.ALB Jvm.Free.JM Jvm.Free
open Jvm.Lib.Cold (StaticIs)
namespace ChN
def yN : MethodName := ⟨"java/lang/String", "charAt", "(I)C"⟩
abbrev yB : ByteArray := jdk_42_method_56_code
theorem d0 : decode yB 0 = .ok (.aload_n 0, 1) := by decide +kernel
theorem d1 : decode yB 1 = .ok (.invokevirtual 492, 3) := by decide +kernel
theorem d4 : decode yB 4 = .ok (.ifCond (.eq) 12, 3) := by decide +kernel
theorem d7 : decode yB 7 = .ok (.aload_n 0, 1) := by decide +kernel
theorem d8 : decode yB 8 = .ok (.getfield 9, 3) := by decide +kernel
theorem d11 : decode yB 11 = .ok (.iload_n 1, 1) := by decide +kernel
theorem d12 : decode yB 12 = .ok (.invokestatic 495, 3) := by decide +kernel
theorem d15 : decode yB 15 = .ok (.ireturn, 1) := by decide +kernel
def site : List Cond := [.fieldLink "java/lang/String" 9 "java/lang/String" "value" "[B", IsL.tab, LChA.tab] ++ virtW "java/lang/String" 492 "java/lang/String" IsL.yN IsL.yN ++ staticW "java/lang/String" 495 LChA.yN
def tab : Cond := tabOf yN yB 2 (some .char) site
def P (x t : Addr) (V : Cell) (n : Nat) (f : Nat → Int32) (z : Int32) (fm : Value) (i : Nat) (args : Array Value) (s : State) : Prop := args = #[.ref x, .int (Int32.ofNat i)] ∧ Txt x t V 0 n f s ∧ i < n ∧ StaticIs s "java/lang/String" "COMPACT_STRINGS" "Z" (.int z) ∧ ¬ z = 0 ∧ StaticIs s "jdk/internal/util/Preconditions" "SIOOBE_FORMATTER" "Ljava/util/function/BiFunction;" fm ∧ fm.isRef = true
def E (f : Nat → Int32) (i : Nat) (r : Option Value) (s u : State) : Prop := XT.PureE (some (.int (f i))) r s u
/-- charAt(i) of a Latin-1 String of n chars, i < n: f i -/
theorem law (l : Launch) (x t : Addr) (V : Cell) (n : Nat) (f : Nat → Int32) (z : Int32) (fm : Value) (i : Nat) : Law l yN 2 1 3 40 yB 2 (some .char) site (P x t V n f z fm i) (E f i) [] 0 0 := by
  refine Law.of_walk (plainFor_of_name (by decide +kernel)) (by decide +kernel) (by decide +kernel) (by decide) (fun _ _ h => by rw [h.1]; rfl) (fun _ U U' hal hh h => ⟨h.1, h.2.1.mv hal hh, h.2.2.1, h.2.2.2.1.there hal hh, h.2.2.2.2.1, h.2.2.2.2.2.1.there hal hh, h.2.2.2.2.2.2⟩) (fun r U U' V V' h1 hal h2 h => XT.PureE.mv r U U' V V' h1 hal h2 h) ?_
  intro p e s m args below meth c s₁ X0 hexec hbytes hml hret hlk hnm hown hh0 W hP
  obtain ⟨rfl, hx, hi, s1, hz, s3, rf⟩ := hP
  have v31 := hx.2.2.2.1.2.2.2
  have hr := hx.2.2.2.2.2 i hi
  have hx0 := hx.mv X0.warmed.alike hh0
  have c1 : Steps p.tables e below (s₁.setTop (entryFrame m #[.ref x, .int (Int32.ofNat i)] 2)) (s₁.setTop (mkF m 1 #[.val (.ref x), .val (.int (Int32.ofNat i))] [.ref x])) := Steps.trans (entry rfl) (by
    show Steps p.tables e below (s₁.setTop (mkF m 0 #[.val (.ref x), .val (.int (Int32.ofNat i))] [])) _
    refine XS.aloadN X0.here hexec rfl (hb hbytes d0) rfl rfl ?_
    exact Steps.refl _)
  obtain ⟨v2, T2, X2, E2, g2⟩ := X0.callV hexec (IsL.law l x 0 z) hown (wks W (virtW "java/lang/String" 492 "java/lang/String" IsL.yN IsL.yN)) rfl (by decide) (wk W IsL.tab) (W := 0) (Nat.le_of_ble_eq_true rfl) (Nat.le_of_ble_eq_true rfl) (Nat.le_refl _) (Nat.le_refl _) (hx0.1.fc X0.warmed.alike) hx0.1.is (g := (mkF m 1 #[.val (.ref x), .val (.int (Int32.ofNat i))] [.ref x])) rfl (by rw [hml]; rfl) c1 (argsL := []) (rest := []) rfl rfl (by show 2 * 0 + 0 ≤ _; decide) (hb hbytes d1) (⟨rfl, hx0.2.2.1, hx.2.2.2.2.1.cd, s1.there X0.warmed.alike hh0, hz⟩)
  obtain ⟨rfl, q2⟩ := E2
  have hh2 := q2.trans hh0
  have hx2 := hx.mv X2.warmed.alike hh2
  obtain ⟨-, k1, k2⟩ | ⟨k0, -⟩ := hx.2.2.2.2.1
  · have c3 : Steps p.tables e below (s₁.setTop (entryFrame m #[.ref x, .int (Int32.ofNat i)] 2)) (T2.setTop (mkF m 8 #[.val (.ref x), .val (.int (Int32.ofNat i))] [.ref x])) := Steps.trans g2 (by
      refine XS.ifNo X2.here hexec rfl (hb hbytes d4) rfl (i0_eq_f (by decide)) ?_
      refine XS.aloadN X2.here hexec rfl (hb hbytes d7) rfl rfl ?_
      exact Steps.refl _)
    obtain ⟨T4, X4, q4, st4⟩ := X2.hget hexec hown (wk W (.fieldLink "java/lang/String" 9 "java/lang/String" "value" "[B")) hx2.2.1 (g := (mkF m 8 #[.val (.ref x), .val (.int (Int32.ofNat i))] [.ref x])) rfl (rest := []) rfl (hb hbytes d8)
    have hh4 := q4.trans hh2
    have c5 : Steps p.tables e below (s₁.setTop (entryFrame m #[.ref x, .int (Int32.ofNat i)] 2)) (T4.setTop (mkF m 12 #[.val (.ref x), .val (.int (Int32.ofNat i))] [.int (Int32.ofNat i), .ref t])) := (c3.trans (st4 _ (Steps.refl _))).trans (by
      refine XS.iloadN X4.here hexec rfl (hb hbytes d11) rfl ?_
      exact Steps.refl _)
    obtain ⟨v6, T6, X6, E6, g6⟩ := X4.callS hexec (LChA.law l t V i (lo8 (f i)) fm) hown (wks W (staticW "java/lang/String" 495 LChA.yN)) (wk W LChA.tab) (W := 0) (Nat.le_of_ble_eq_true rfl) (Nat.le_of_ble_eq_true rfl) (Nat.le_refl _) (Nat.le_refl _) (g := (mkF m 12 #[.val (.ref x), .val (.int (Int32.ofNat i))] [.int (Int32.ofNat i), .ref t])) rfl (by rw [hml]; rfl) c5 (argsL := [.ref t, .int (Int32.ofNat i)]) (rest := []) rfl rfl (by show 2 * 0 + 0 ≤ _; decide) (hb hbytes d12) (⟨rfl, hx.2.2.2.1.mv X4.warmed.alike hh4, (k2 i hi).1, s3.there X4.warmed.alike hh4, rf⟩)
    obtain ⟨rfl, q6⟩ := E6
    rw [chr8_lo8 hr.1 (k2 i hi).2] at g6
    exact ⟨T6, some (.int (f i)), _, _, _, X6, rfl, rfl, rfl, (fun h => by cases h), ⟨rfl, q6.trans hh4⟩, fun fs hl => Steps.trans g6 (X6.ireturnOut hexec hret (narrow_ch hr.1 hr.2) (Or.inr (Or.inr (Or.inr (Or.inl rfl)))) (hb hbytes d15) hl)⟩
  · exact absurd k0 (by decide)
theorem pays {l : Launch} {R : Room} {p : Program} {e : Env} {below : List Frame} {s : State} {sargs : Array Value} {len W : Nat} (x t : Addr) (V : Cell) (n : Nat) (f : Nat → Int32) (z : Int32) (fm : Value) (i : Nat) (htab : tab.before sargs s = true) (hfr : 4 ≤ R.frames) (hlo : W + 53 ≤ R.locals) :
    Back l R p e below s sargs yN len W (fun A₁ a₁ => A₁.cells + 0 ≤ R.cells ∧ A₁.slots + 0 ≤ R.slots ∧ P x t V n f z fm i a₁ A₁.U) (fun A₁ _ v₁ B₁ => E f i v₁ A₁.U B₁.U ∧ B₁.locs = A₁.locs ++ [] ∧ B₁.cells = A₁.cells + 0 ∧ B₁.slots = A₁.slots + 0) :=
  (law l x t V n f z fm i).pays htab hfr (by omega)
end ChN
end StrChars
namespace StrChars.Road
open Jvm Sem ClassFile Op Lib Jvm.Stand Jvm.Free Jvm.Free.XT
open Jvm.Lib.Cold (StaticIs)
/-- the words of String.charAt(int), the Latin-1 road alone -/
abbrev wordsChN : List Jvm.Cond := [.code ChN.yN ChN.yB 2 (some .char), .initialized ST, .fieldLink ST 9 ST "value" "[B", .fieldLink ST 38 ST "COMPACT_STRINGS" "Z", .fieldLink ST 15 ST "coder" "B", .code IsL.yN IsL.yB 1 (some .boolean), .methodLink ST 492 IsL.yN, .declares IsL.yN, .selects ST IsL.yN IsL.yN, .instanceMethod IsL.yN,
  .methodLink ST 495 LChA.yN, .static LChA.yN, .code LChA.yN LChA.yB 2 (some .char), .initialized "java/lang/StringLatin1", .methodLink "java/lang/StringLatin1" 9 JO.Str_checkIndex.yN, .static JO.Str_checkIndex.yN, .code JO.Str_checkIndex.yN JO.Str_checkIndex.yB 2 none,
  .fieldLink ST 1053 "jdk/internal/util/Preconditions" "SIOOBE_FORMATTER" "Ljava/util/function/BiFunction;", .methodLink ST 1059 JC.PreCheck.yN, .static JC.PreCheck.yN, .code JC.PreCheck.yN JC.PreCheck.yB 3 (some .int), .initialized "jdk/internal/util/Preconditions"]
theorem tabChN_of {a : Array Value} {s : State} (h : ∀ w ∈ wordsChN, w.before a s = true) : ChN.tab.before a s = true := by
  have hp : JC.PreCheck.tab.before a s = true := unparts (wk h (.code JC.PreCheck.yN JC.PreCheck.yB 3 (some .int))) (wks h (.initialized JC.PreCheck.yN.cls :: JC.PreCheck.site))
  have qk := consq hp h
  have hk : JO.Str_checkIndex.tab.before a s = true := unparts (wk qk (.code JO.Str_checkIndex.yN JO.Str_checkIndex.yB 2 none)) (wks qk (.initialized JO.Str_checkIndex.yN.cls :: JO.Str_checkIndex.site))
  have ql := consq hk h
  have hl : LChA.tab.before a s = true := unparts (wk ql (.code LChA.yN LChA.yB 2 (some .char))) (wks ql (.initialized LChA.yN.cls :: LChA.site))
  have hi : IsL.tab.before a s = true := unparts (wk h (.code IsL.yN IsL.yB 1 (some .boolean))) (wks h (.initialized IsL.yN.cls :: IsL.site))
  have q := consq hi (consq hl h)
  exact unparts (wk q (.code ChN.yN ChN.yB 2 (some .char))) (wks q (.initialized ChN.yN.cls :: ChN.site))
theorem movedChN {Z s : State} {a0 args : Array Value} (hZ : Z.Warmed39 s.vm) (hw : ∀ d ∈ wordsChN, d.before a0 Z = true) : ∀ d ∈ wordsChN, d.before args s = true := fun d hd => by
  have t : ∀ d ∈ wordsChN, (d.onTables && d.keepsFace) = true := by decide +kernel
  exact RoadKit.mv hZ (hw d hd) (t d hd)
/-- **charAt(i) OF A LATIN-1 STRING**, i < n: the char -/
theorem chN {p : Program} {l : Launch} {e : Env} {R : Room} {s : State} {args : Array Value} {below : List Frame} {len W : Nat} {Z : State} {a0 : Array Value} {h : Heap} (hZ : Z.Warmed39 s.vm) (hw : ∀ d ∈ wordsChN, d.before a0 Z = true) {kI : Nat} (wi : (Jvm.Cond.instantiable ST kI).before a0 Z = true)
    {x t : Addr} {kb : ClassId} {cs : List Int32} {N2 z : Int32} {vs : List Value} {fm : Value} {i : Nat} {j : Int32} (E : RoadKit.Exa Z h x ST) (V : RoadKit.Fld Z h x ST "value" "[B" (.ref t)) (C : RoadKit.Fld Z h x ST "coder" "B" (.int 0)) (K : RoadKit.Arv Z h t kb .byte N2 vs (.int 0)) (hc : CodA cs 0 N2 vs) (hb : ∀ c ∈ cs, ¬ c < 0 ∧ ¬ (65535 : Int32) < c)
    (S : RoadKit.Sta Z h ST "COMPACT_STRINGS" "Z" (.int z)) (hz : ¬ z = 0) (F : RoadKit.Sta Z h "jdk/internal/util/Preconditions" "SIOOBE_FORMATTER" "Ljava/util/function/BiFunction;" fm) (rf : fm.isRef = true) (l2 : cs.length ≤ 4000) (hi : i < cs.length) (hj : j = Int32.ofNat i) (hfr : 4 ≤ R.frames) (hlo : W + 53 ≤ R.locals) :
    Back l R p e below s args (⟨"java/lang/String", "charAt", "(I)C"⟩ : MethodName) len W (fun P a => a = #[.ref x, .int j] ∧ P.U.heap = h ∧ P.cells + 0 ≤ R.cells ∧ P.slots + 0 ≤ R.slots)
      (fun P _ v B => ∃ L, (v = some (.int (cs.getD i 0)) ∧ L = [] ∧ B.U.heap = h) ∧ B.locs = P.locs ++ L ∧ B.cells = P.cells + 0 ∧ B.slots = P.slots + 0) := by
  subst hj
  intro m meth c P g ig mk a X hg hsize hdg hW hn hp'
  obtain ⟨rfl, rfl, r1, r2⟩ := hp'
  have al : Z.vm.Alike P.U.vm := hZ.alike.trans X.warmed.alike
  obtain ⟨A, hx⟩ := txt_of wi al E V C K hc hb l2
  obtain ⟨v, B, X', ⟨⟨hv, hh⟩, hl, hk, hs⟩, st⟩ := ChN.pays x t A cs.length (fun j => cs.getD j 0) z fm i (tabChN_of (movedChN hZ hw)) hfr hlo m meth c P g ig mk _ X hg hsize hdg hW hn ⟨r1, r2, rfl, hx, hi, sta_is al S, hz, sta_is al F, rf⟩
  exact ⟨v, B, X', ⟨[], ⟨hv, rfl, hh⟩, hl, hk, hs⟩, st⟩
/-- what backV says of its String, as the contracts of this text ask it: cs's low bytes, coder 0 -/
theorem codOf {cs : List Int32} {n : Nat} (hn : cs.length = n) (hb : ∀ c ∈ cs, ¬ 255 < c) : CodA cs 0 (Int32.ofNat n) ((cs.map lo8).map Value.int) := Or.inl ⟨rfl, by rw [hn], by simp [List.map_map, Function.comp_def], hb⟩
end StrChars.Road
end Jvm.Pilot.@@N@@
namespace Jvm.Pilot.@@N@@
open Jvm Jvm.ClassFile Sem Op Lib Jvm.Free Jvm.Stand Jvm.LawKit Jvm.RoadKit Bundle Jvm.Pilot.@@N@@.Jvm.D
section Own
variable {p : Program} {l : Launch} {e : Env} {R : Room} {s : State} {m : MethodId} {args : Array Value} {below : List Frame} {meth : Method} {c : Code} {T T' : State} {locs : List Loc} {cells slots : Nat} {g g' : JFrame} {C S n0 : Nat} {F : Outcome → State → List Loc → Prop} {Q : Option Value → Heap → Prop} {Z : State} {a0 : Array Value} {h h' h0 : Heap} {rest argsL : List Value} {own : String} {index : Nat} {a b : Addr} {k : ClassId} {ty : FieldType} {n j : Int32} {vs : List Value} {dv v : Value}
/-- from here the run comes to its return, and what it leaves is Q -/
def OEnds (p : Program) (e : Env) (below : List Frame) (F : Outcome → State → List Loc → Prop) (n0 : Nat) (Q : Option Value → Heap → Prop) (T : State) (g : JFrame) : Prop :=
  ∃ t o, Steps p.tables e below (T.setTop g) t ∧ t.status = .running ∧ Ended t below o ∧ ∃ v L, o = .returned v ∧ (Fr n0 L ∧ Q v t.heap) ∧ F o t L
/-- a body's contract -/
def OCon (l : Launch) (y : MethodName) (bytes : ByteArray) (ml : Nat) (ret : Option FieldType) (rm : Room) (Z : State) (as : Array Value) (h0 : Heap) (n0 : Nat) (Q : Option Value → Heap → Prop) : Prop :=
  ∀ ws, MetFree l y (head1 (Jvm.Cond.code y bytes ml ret :: ws) rm) (fun a U => a = as ∧ Z.Warmed39 U.vm ∧ U.heap = h0) (fun _ _ _ _ _ => True) (fun _ U o U' => ∃ v L, o = .returned v ∧ (Fr n0 L ∧ Q v U'.heap) ∧ FrameEnd U o U' L rm.cells rm.slots)
theorem own_body {y : MethodName} {bytes : ByteArray} {ml : Nat} {ret : Option FieldType} {rm : Room} {as : Array Value} (hp : plainFor y = true)
    (kk : ∀ (p : Program) (e : Env) (s : State) (m : MethodId) (below : List Frame) (meth : Method) (c : Code) (T : State), p.tables.exec = Jvm.exec → Z.Warmed39 s.vm → c.code = bytes → c.maxLocals = ml → s.vm.findClass y.cls = some m.cls → meth.name = y.name → meth.sig.returnType = ret → meth.locks = false → T.heap = h0 →
      Stand p l e rm s m as below meth c T [] 0 0 → OEnds p e below (fun o t L => FrameEnd s o t L rm.cells rm.slots) n0 Q T (entryFrame m as ml)) : OCon l y bytes ml ret rm Z as h0 n0 Q := by
  intro ws
  refine MetFree.of_bodySF hp hisR ?_
  intro p e s m args below meth c s₁ Bd hml0 hP hK
  obtain ⟨rfl, hZ, hh⟩ := hP
  exact kk p e s m below meth c s₁ Bd.exec hZ Bd.bytes hml0 (findClass_of_methodNamed Bd.named) (name_of_methodNamed Bd.named Bd.method).1 Bd.returns Bd.notSynchronized (by rw [← hh, Bd.state]; rfl) (Stand.of_body Bd)
theorem own_go (kk : ∀ t, Steps p.tables e below (T'.setTop g') t → Steps p.tables e below (T.setTop g) t) (hE : OEnds p e below F n0 Q T' g') : OEnds p e below F n0 Q T g := by
  obtain ⟨t, o, h1, h2⟩ := hE
  exact ⟨t, o, kk t h1, h2⟩
theorem own_at (q : g = g') (hE : OEnds p e below F n0 Q T g') : OEnds p e below F n0 Q T g := q ▸ hE
theorem own_let {α : Sort _} {P : α → Prop} (a : α) (hh : ∀ x, x = a → P x) : P a := hh a rfl
theorem own_cast {α : Sort _} {P : α → Prop} {a b : α} (q : a = b) (hh : P b) : P a := q ▸ hh
theorem own_fin (X : Stand p l e R s m args below meth c T locs cells slots) (hlk : meth.locks = false) {v : Option Value} (hv : meth.sig.returnType = none → v = none)
    (st : ∀ fs, (∀ (f : JFrame) (acts : List Action), f.method = m → f.locked = none → f.entered = [] → (doReturn e (T.setTop f) acts v).1 = T.setFrames fs) → Steps p.tables e below (T.setTop g) (T.setFrames fs))
    (N : Fr n0 locs) (hc : cells ≤ C) (hs : slots ≤ S) (q : Q v T.heap) : OEnds p e below (fun o t L => FrameEnd s o t L C S) n0 Q T g := by
  obtain ⟨fs, hr, hrun, hended, hW, hsame⟩ := X.leave (v := v) hv hlk
  exact ⟨_, _, st fs hr, hrun, hended, _, _, rfl, ⟨N, q⟩, ⟨_, rfl⟩, hW, hsame.mono hc hs⟩
theorem own_retI0 (X : Stand p l e R s m args below meth c T locs cells slots) (hx : p.tables.exec = Jvm.exec) {pc : Nat} {Ls : Array Slot} {z : Int32} {rest : List Value} (hret : meth.sig.returnType = some .int) (hd : decode c.code pc = .ok (.ireturn, 1)) {fs : List Frame}
    (hl : ∀ (f : JFrame) (acts : List Action), f.method = m → f.locked = none → f.entered = [] → (doReturn e (T.setTop f) acts (some (.int z))).1 = T.setFrames fs) : Steps p.tables e below (T.setTop (mkF m pc Ls (.int z :: rest))) (T.setFrames fs) := by
  have hm' : T.vm.method? m = some meth := X.method'
  have hn : narrow .int (.int z) = .int z := rfl
  show Steps p.tables e below (T.setTop { method := m, pc := pc, locals := Ls, stack := _ :: rest, locked := none }) _
  jvm_step X.here [X.here.top, hx, hd, hm', hret, hn]
  first | (intro acts; rw [hl _ acts rfl rfl rfl]) | rw [hl _ _ rfl rfl rfl]
  exact Steps.refl _
theorem own_retI (X : Stand p l e R s m args below meth c T locs cells slots) (hx : p.tables.exec = Jvm.exec) (hlk : meth.locks = false) {pc : Nat} {Ls : Array Slot} {z : Int32} (hret : meth.sig.returnType = some .int) (hd : decode c.code pc = .ok (.ireturn, 1)) (eT : T.heap = h) (N : Fr n0 locs) (hc : cells ≤ C) (hs : slots ≤ S) (q : Q (some (.int z)) h) : OEnds p e below (fun o t L => FrameEnd s o t L C S) n0 Q T (mkF m pc Ls (.int z :: rest)) :=
  own_fin X hlk (fun hn => by rw [hret] at hn; cases hn) (fun fs hl => own_retI0 X hx hret hd hl) N hc hs (eT ▸ q)
theorem own_retN (X : Stand p l e R s m args below meth c T locs cells slots) (hx : p.tables.exec = Jvm.exec) (hlk : meth.locks = false) {t : FieldType} {pc : Nat} {Ls : Array Slot} {z z' : Int32} (hret : meth.sig.returnType = some t) (ht : t = .boolean ∨ t = .byte ∨ t = .char ∨ t = .short) (hd : decode c.code pc = .ok (.ireturn, 1)) (hz : nar t z = z') (eT : T.heap = h) (N : Fr n0 locs) (hc : cells ≤ C) (hs : slots ≤ S) (q : Q (some (.int z')) h) : OEnds p e below (fun o t L => FrameEnd s o t L C S) n0 Q T (mkF m pc Ls (.int z :: rest)) :=
  own_fin X hlk (v := some (.int (nar t z))) (fun hn => by rw [hret] at hn; cases hn) (fun fs hl => retN X hx hret ht hd hl) N hc hs (by rw [hz, eT]; exact q)
theorem own_retJ (X : Stand p l e R s m args below meth c T locs cells slots) (hx : p.tables.exec = Jvm.exec) (hlk : meth.locks = false) {pc : Nat} {Ls : Array Slot} {z : Int64} (hret : meth.sig.returnType = some .long) (hd : decode c.code pc = .ok (.lreturn, 1)) (eT : T.heap = h) (N : Fr n0 locs) (hc : cells ≤ C) (hs : slots ≤ S) (q : Q (some (.long z)) h) : OEnds p e below (fun o t L => FrameEnd s o t L C S) n0 Q T (mkF m pc Ls [.long z]) :=
  own_fin X hlk (fun hn => by rw [hret] at hn; cases hn) (fun fs hl => X.lreturnOut hx hret hd hl) N hc hs (eT ▸ q)
theorem own_retA (X : Stand p l e R s m args below meth c T locs cells slots) (hx : p.tables.exec = Jvm.exec) (hlk : meth.locks = false) {t : FieldType} {pc : Nat} {Ls : Array Slot} {w : Value} (hw : w.isRef = true) (hret : meth.sig.returnType = some t) (ht : t.isReference = true) (hd : decode c.code pc = .ok (.areturn, 1)) (eT : T.heap = h) (N : Fr n0 locs) (hc : cells ≤ C) (hs : slots ≤ S) (q : Q (some w) h) : OEnds p e below (fun o t L => FrameEnd s o t L C S) n0 Q T (mkF m pc Ls [w]) :=
  own_fin X hlk (fun hn => by rw [hret] at hn; cases hn) (fun fs hl => X.areturnOut hx hw hret ht hd hl) N hc hs (eT ▸ q)
theorem own_retV (X : Stand p l e R s m args below meth c T locs cells slots) (hx : p.tables.exec = Jvm.exec) (hlk : meth.locks = false) {pc : Nat} {Ls : Array Slot} (hret : meth.sig.returnType = none) (hd : decode c.code pc = .ok (.return_, 1)) (eT : T.heap = h) (N : Fr n0 locs) (hc : cells ≤ C) (hs : slots ≤ S) (q : Q none h) : OEnds p e below (fun o t L => FrameEnd s o t L C S) n0 Q T (mkF m pc Ls []) :=
  own_fin X hlk (fun _ => rfl) (fun fs hl => X.returnOut hx hret hd hl) N hc hs (eT ▸ q)
/-! calls -/
theorem own_callS (X : Stand p l e R s m args below meth c T locs cells slots) (hx : p.tables.exec = Jvm.exec) (hZ : Z.Warmed39 s.vm) {y : MethodName} {bytes : ByteArray} {maxL W : Nat} {ret : Option FieldType} {rm : Room} {Qc : Option Value → Heap → Prop} (hown : s.vm.findClass own = some m.cls)
    (w1 : (Cond.methodLink own index y).before a0 Z = true) (w2 : (Cond.static y).before a0 Z = true) (w3 : (Cond.initialized y.cls).before a0 Z = true) (w4 : (Cond.code y bytes maxL ret).before a0 Z = true) (hy : y.cls ≠ "java/lang/invoke/MethodHandle" ∧ y.cls ≠ "java/lang/invoke/VarHandle")
    (K : OCon l y bytes maxL ret rm Z argsL.toArray h n0 Qc) (hfr : rm.frames + 1 ≤ R.frames) (hlo : W + (maxL + 11) + rm.locals ≤ R.locals) (hg : g.method = m) (hsize : g.locals.size = c.maxLocals) (hlen : ∀ sig, parseMethodDescriptor y.desc = some sig → argsL.length = sig.parameters.length)
    (hstack : g.stack = argsL.reverse ++ rest) (hW : 2 * g.monitorRoom + (rest.map fun v => v.category).sum ≤ W) (hd : decode c.code g.pc = .ok (.invokestatic index, 3)) (eT : T.heap = h) (N : Fr n0 locs) (hc : cells + rm.cells ≤ R.cells) (hs : slots + rm.slots ≤ R.slots)
    (kk : ∀ (v : Option Value) (T' : State) (locs' : List Loc), Stand p l e R s m args below meth c T' locs' (cells + rm.cells) (slots + rm.slots) → Fr n0 locs' → Qc v T'.heap → OEnds p e below F n0 Q T' { g with pc := g.pc + 3, stack := v.toList ++ rest }) : OEnds p e below F n0 Q T g := by
  obtain ⟨v, vm₁, ⟨T', L', k', n'⟩, -, X', ⟨Lc, ⟨N', hQ⟩, l', y', z'⟩, st⟩ := Jvm.LawKit.callS X hx hown (mvT hZ w1) (mvT hZ w2) (mvT hZ w3) (mvT hZ w4) hy (backOf (W := W) (Q := fun v h L => Fr n0 L ∧ Qc v h) (K []) hZ w4 w3 hfr hlo) hg hsize hlen hstack hW hd (fun _ _ => ⟨rfl, eT, hc, hs⟩)
  dsimp only [Pt.U, Pt.locs, Pt.cells, Pt.slots] at X' l' y' z' st hQ
  subst l' y' z'
  exact own_go st (kk v T' _ X' (Fr.app N N') hQ)
theorem own_callC (X : Stand p l e R s m args below meth c T locs cells slots) (hx : p.tables.exec = Jvm.exec) (hZ : Z.Warmed39 s.vm) {y : MethodName} {bytes : ByteArray} {maxL W : Nat} {rm : Room} {Qc : Option Value → Heap → Prop} (hy1 : y.name = "<init>") (hown : s.vm.findClass own = some m.cls)
    (w1 : (Cond.methodLink own index y).before a0 Z = true) (w2 : (Cond.instanceMethod y).before a0 Z = true) (w3 : (Cond.initialized y.cls).before a0 Z = true) (w4 : (Cond.code y bytes maxL none).before a0 Z = true) (hy : y.cls ≠ "java/lang/invoke/MethodHandle" ∧ y.cls ≠ "java/lang/invoke/VarHandle")
    (K : OCon l y bytes maxL none rm Z (.ref a :: argsL).toArray h n0 Qc) (hfr : rm.frames + 1 ≤ R.frames) (hlo : W + (maxL + 11) + rm.locals ≤ R.locals) (hg : g.method = m) (hsize : g.locals.size = c.maxLocals) (hlen : ∀ sig, parseMethodDescriptor y.desc = some sig → argsL.length = sig.parameters.length)
    (hstack : g.stack = argsL.reverse ++ .ref a :: rest) (hW : 2 * g.monitorRoom + (rest.map fun v => v.category).sum ≤ W) (hd : decode c.code g.pc = .ok (.invokespecial index, 3)) (eT : T.heap = h) (N : Fr n0 locs) (hc : cells + rm.cells ≤ R.cells) (hs : slots + rm.slots ≤ R.slots)
    (kk : ∀ (v : Option Value) (T' : State) (locs' : List Loc), Stand p l e R s m args below meth c T' locs' (cells + rm.cells) (slots + rm.slots) → Fr n0 locs' → Qc v T'.heap → OEnds p e below F n0 Q T' { g with pc := g.pc + 3, stack := v.toList ++ rest }) : OEnds p e below F n0 Q T g := by
  obtain ⟨v, vm₁, ⟨T', L', k', n'⟩, -, X', ⟨Lc, ⟨N', hQ⟩, l', y', z'⟩, st⟩ := X.specialBack hx hy1 hown (mvT hZ w1) (mvT hZ w2) (mvT hZ w4) hy (backOf (W := W) (Q := fun v h L => Fr n0 L ∧ Qc v h) (K []) hZ w4 w3 hfr hlo) hg hsize (Steps.refl _) hlen hstack hW hd (fun _ _ => ⟨rfl, eT, hc, hs⟩)
  dsimp only [Pt.U, Pt.locs, Pt.cells, Pt.slots] at X' l' y' z' st hQ
  subst l' y' z'
  exact own_go (fun t kt => st.trans kt) (kk v T' _ X' (Fr.app N N') hQ)
theorem own_callV (X : Stand p l e R s m args below meth c T locs cells slots) (hx : p.tables.exec = Jvm.exec) (hZ : Z.Warmed39 s.vm) {y : MethodName} {bytes : ByteArray} {maxL W : Nat} {ret : Option FieldType} {rm : Room} {Qc : Option Value → Heap → Prop} {C0 : String} (hown : s.vm.findClass own = some m.cls)
    (w1 : (Cond.methodLink own index y).before a0 Z = true) (wd : (Cond.declares y).before a0 Z = true) (ws : (Cond.selects C0 y y).before a0 Z = true) (w2 : (Cond.instanceMethod y).before a0 Z = true) (w3 : (Cond.initialized y.cls).before a0 Z = true) (w4 : (Cond.code y bytes maxL ret).before a0 Z = true) (hy : y.cls ≠ "java/lang/invoke/MethodHandle" ∧ y.cls ≠ "java/lang/invoke/VarHandle")
    (K : OCon l y bytes maxL ret rm Z (.ref a :: argsL).toArray h n0 Qc) (E : Exa Z h a C0) (hfr : rm.frames + 1 ≤ R.frames) (hlo : W + (maxL + 11) + rm.locals ≤ R.locals) (hg : g.method = m) (hsize : g.locals.size = c.maxLocals) (hlen : ∀ sig, parseMethodDescriptor y.desc = some sig → argsL.length = sig.parameters.length)
    (hstack : g.stack = argsL.reverse ++ .ref a :: rest) (hW : 2 * g.monitorRoom + (rest.map fun v => v.category).sum ≤ W) (hd : decode c.code g.pc = .ok (.invokevirtual index, 3)) (eT : T.heap = h) (N : Fr n0 locs) (hc : cells + rm.cells ≤ R.cells) (hs : slots + rm.slots ≤ R.slots)
    (kk : ∀ (v : Option Value) (T' : State) (locs' : List Loc), Stand p l e R s m args below meth c T' locs' (cells + rm.cells) (slots + rm.slots) → Fr n0 locs' → Qc v T'.heap → OEnds p e below F n0 Q T' { g with pc := g.pc + 3, stack := v.toList ++ rest }) : OEnds p e below F n0 Q T g := by
  obtain ⟨cq, kq, qa, qb, qc⟩ := isOf hZ eT E
  obtain ⟨v, vm₁, ⟨T', L', k', n'⟩, -, X', ⟨Lc, ⟨N', hQ⟩, l', y', z'⟩, st⟩ := X.virtualBack hx hown (mvT hZ w1) (mvT hZ wd) (notFace_of_selects (args := #[]) (mvT hZ ws)) (mvT hZ ws) (mvT hZ w2) hy (backOf (W := W) (Q := fun v h L => Fr n0 L ∧ Qc v h) (K []) hZ w4 w3 hfr hlo) qa qc hg hsize (Steps.refl _) hlen hstack hW hd (fun _ _ => ⟨rfl, eT, hc, hs⟩)
  dsimp only [Pt.U, Pt.locs, Pt.cells, Pt.slots] at X' l' y' z' st hQ
  subst l' y' z'
  exact own_go (fun t kt => st.trans kt) (kk v T' _ X' (Fr.app N N') hQ)
/-! fields -/
theorem own_getF (X : Stand p l e R s m args below meth c T locs cells slots) (hx : p.tables.exec = Jvm.exec) (hZ : Z.Warmed39 s.vm) {O nm d : String} (hown : s.vm.findClass own = some m.cls) (w : (Cond.fieldLink own index O nm d).before a0 Z = true) (eT : T.heap = h) (Fv : Fld Z h a O nm d v) (hg : g.method = m) (hs : g.stack = .ref a :: rest) (hd : decode c.code g.pc = .ok (.getfield index, 3))
    (kk : ∀ T', Stand p l e R s m args below meth c T' locs cells slots → T'.heap = h → OEnds p e below F n0 Q T' { g with pc := g.pc + 3, stack := v :: rest }) : OEnds p e below F n0 Q T g := by
  obtain ⟨T', X', e', st⟩ := getF X hx hZ hown (host := "") (Or.inl w) Via.refl eT Fv hg hs hd
  exact own_go st (kk T' X' e')
theorem own_putF (X : Stand p l e R s m args below meth c T locs cells slots) (hx : p.tables.exec = Jvm.exec) (hZ : Z.Warmed39 s.vm) {O nm d C0 : String} {kk0 : Nat} {v' old : Value} (hown : s.vm.findClass own = some m.cls) (w : (Cond.fieldLink own index O nm d).before a0 Z = true) (eT : T.heap = h) (Fv : Fld Z h a O nm d old) (E : Exa Z h a C0)
    (L : (Cond.lays C0 O nm d).before a0 Z = true ∨ ((Cond.laysFinal C0 O nm d).before a0 Z = true ∧ own = O ∧ meth.name = "<init>")) (wi : (Cond.instantiable C0 kk0).before a0 Z = true) (hty : parseFieldDescriptor d = some ty) (hn : narrow ty v = v') (hf : fits ty v' = true) (N : Fr n0 locs) (ga : n0 ≤ a) (hg : g.method = m) (hs : g.stack = v :: .ref a :: rest) (hd : decode c.code g.pc = .ok (.putfield index, 3))
    (kk : ∀ T' h' locs', Stand p l e R s m args below meth c T' locs' cells slots → T'.heap = h' → Fr n0 locs' → Wr h h' a (RoadKit.slotOf Z O nm d) v' → Fld Z h' a O nm d v' → OEnds p e below F n0 Q T' { g with pc := g.pc + 3, stack := rest }) : OEnds p e below F n0 Q T g := by
  obtain ⟨T', h', X', e', W', st⟩ := putFN X hx hZ hown w Via.refl eT Fv E L wi hty hn hf hg hs hd
  exact own_go st (kk T' h' _ X' e' (Fr.snoc X' N ga) W' (Fv.same W'))
theorem own_initO (X : Stand p l e R s m args below meth c T locs cells slots) (hx : p.tables.exec = Jvm.exec) (hZ : Z.Warmed39 s.vm) {W : Nat} (hown : s.vm.findClass own = some m.cls) (w1 : (Cond.methodLink own index Lib.objectInit).before a0 Z = true) (w2 : (Cond.instanceMethod Lib.objectInit).before a0 Z = true)
    (w3 : (Cond.code Lib.objectInit ⟨#[0xb1]⟩ 1 none).before a0 Z = true) (eT : T.heap = h) (hg : g.method = m) (hsize : g.locals.size = c.maxLocals) (hs : g.stack = .ref a :: rest) (hd : decode c.code g.pc = .ok (.invokespecial index, 3)) (hf : 1 ≤ R.frames) (hW : 2 * g.monitorRoom + (rest.map fun v => v.category).sum ≤ W) (hl : W + 12 ≤ R.locals)
    (kk : ∀ T', Stand p l e R s m args below meth c T' locs cells slots → T'.heap = h → OEnds p e below F n0 Q T' { g with pc := g.pc + 3, stack := rest }) : OEnds p e below F n0 Q T g := by
  obtain ⟨T', X', e', st⟩ := initO X hx hZ hown w1 w2 w3 eT hg hsize hs hd hf hW hl
  exact own_go st (kk T' X' e')
theorem own_new (X : Stand p l e R s m args below meth c T locs cells slots) (hx : p.tables.exec = Jvm.exec) (hZ : Z.Warmed39 s.vm) {C0 : String} {sl : Nat} (hown : s.vm.findClass own = some m.cls) (w : (Cond.classLink own index C0).before a0 Z = true) (wi : (Cond.instantiable C0 sl).before a0 Z = true) (wz : (Cond.initialized C0).before a0 Z = true) (eT : T.heap = h) (hg : g.method = m) (hd : decode c.code g.pc = .ok (.new index, 3)) (hc : cells + 1 ≤ R.cells) (hl : slots + sl ≤ R.slots)
    (kk : ∀ T' h' b, b = h.size → Stand p l e R s m args below meth c T' locs (cells + 1) (slots + sl) → T'.heap = h' → Ext h h' → Exa Z h' b C0 → (∀ {O nm d : String} {ty : FieldType}, Laid Z a0 C0 O nm d → parseFieldDescriptor d = some ty → Fld Z h' b O nm d (defaultValue ty)) → OEnds p e below F n0 Q T' { g with pc := g.pc + 3, stack := .ref b :: g.stack }) : OEnds p e below F n0 Q T g := by
  obtain ⟨T', h', X', e', E', A', D', -, st⟩ := newO X hx hZ hown w wi wz eT hg hd hc hl
  exact own_go st (kk T' h' _ rfl X' e' E' A' D')
/-! arrays -/
theorem own_newarr (X : Stand p l e R s m args below meth c T locs cells slots) (hx : p.tables.exec = Jvm.exec) (hZ : Z.Warmed39 s.vm) {aty : ArrayType} (w : (Cond.arrayClass (newarray.typeOf aty)).before a0 Z = true) (eT : T.heap = h) (hg : g.method = m) (hd : decode c.code g.pc = .ok (.newarray aty, 2)) (hs : g.stack = .int n :: rest) (hn : ¬ n < 0) {cap : Nat} (hcap : n.toNatClampNeg ≤ cap) (hb : cap * 8 ≤ 536870912) (hc : cells + 1 ≤ R.cells) (hl : slots + cap ≤ R.slots)
    (kk : ∀ T' h' b k, b = h.size → Stand p l e R s m args below meth c T' locs (cells + 1) (slots + cap) → T'.heap = h' → Ext h h' → Arv Z h' b k (newarray.typeOf aty) n (List.replicate cap (defaultValue (newarray.typeOf aty))) (defaultValue (newarray.typeOf aty)) → OEnds p e below F n0 Q T' { g with pc := g.pc + 2, stack := .ref b :: rest }) : OEnds p e below F n0 Q T g := by
  obtain ⟨T', h', kA, X', e', E', A', st⟩ := newP X hx hZ w eT hg hd hs hn hcap hb hc hl
  exact own_go st (kk T' h' _ kA rfl X' e' E' ((Arv.new A' hn).pad (pad_rep [] _ cap)))
theorem own_alen (X : Stand p l e R s m args below meth c T locs cells slots) (hx : p.tables.exec = Jvm.exec) (hZ : Z.Warmed39 s.vm) (eT : T.heap = h) (V : Arv Z h a k ty n vs dv) (hg : g.method = m) (hs : g.stack = .ref a :: rest) (hd : decode c.code g.pc = .ok (.arraylength, 1))
    (kk : OEnds p e below F n0 Q T { g with pc := g.pc + 1, stack := .int n :: rest }) : OEnds p e below F n0 Q T g := by
  obtain ⟨cl, Ar, -, Sz, M, H, -⟩ := V
  refine own_go (fun t kt => X.arraylength hx (by rw [eT]; exact Ar.1) (State.isArrayOf_alike hZ.alike Ar.2.1) hg hs hd t kt) ?_
  rw [len_of Sz M]; exact kk
theorem own_iaload (X : Stand p l e R s m args below meth c T locs cells slots) (hx : p.tables.exec = Jvm.exec) (hZ : Z.Warmed39 s.vm) (eT : T.heap = h) (V : Arv Z h a k .int n vs dv) (hj : ¬ j < 0 ∧ j < n) (hv : vs.getD j.toNatClampNeg dv = v) (hg : g.method = m) (hs : g.stack = .int j :: .ref a :: rest) (hd : decode c.code g.pc = .ok (.iaload, 1))
    (kk : OEnds p e below F n0 Q T { g with pc := g.pc + 1, stack := v :: rest }) : OEnds p e below F n0 Q T g := by
  obtain ⟨cl, Ar, -, Sz, M, H, -⟩ := V
  exact own_go (fun t kt => X.iaload hx (by rw [eT]; exact Ar.1) (State.isArrayOf_alike hZ.alike Ar.2.1) Ar.2.2 (inb_of Sz hj) (H.at (inb_of Sz hj) hv) hg hs hd t kt) kk
theorem own_laload (X : Stand p l e R s m args below meth c T locs cells slots) (hx : p.tables.exec = Jvm.exec) (hZ : Z.Warmed39 s.vm) (eT : T.heap = h) (V : Arv Z h a k .long n vs dv) (hj : ¬ j < 0 ∧ j < n) (hv : vs.getD j.toNatClampNeg dv = v) (hg : g.method = m) (hs : g.stack = .int j :: .ref a :: rest) (hd : decode c.code g.pc = .ok (.laload, 1))
    (kk : OEnds p e below F n0 Q T { g with pc := g.pc + 1, stack := v :: rest }) : OEnds p e below F n0 Q T g := by
  obtain ⟨cl, Ar, -, Sz, M, H, -⟩ := V
  exact own_go (fun t kt => X.laload hx (by rw [eT]; exact Ar.1) (State.isArrayOf_alike hZ.alike Ar.2.1) Ar.2.2 (inb_of Sz hj) (H.at (inb_of Sz hj) hv) hg hs hd t kt) kk
theorem own_caload (X : Stand p l e R s m args below meth c T locs cells slots) (hx : p.tables.exec = Jvm.exec) (hZ : Z.Warmed39 s.vm) (eT : T.heap = h) (V : Arv Z h a k .char n vs dv) (hj : ¬ j < 0 ∧ j < n) (hv : vs.getD j.toNatClampNeg dv = v) (hg : g.method = m) (hs : g.stack = .int j :: .ref a :: rest) (hd : decode c.code g.pc = .ok (.caload, 1))
    (kk : OEnds p e below F n0 Q T { g with pc := g.pc + 1, stack := v :: rest }) : OEnds p e below F n0 Q T g := by
  obtain ⟨cl, Ar, -, Sz, M, H, -⟩ := V
  exact own_go (fun t kt => X.caload hx (by rw [eT]; exact Ar.1) (State.isArrayOf_alike hZ.alike Ar.2.1) Ar.2.2 (inb_of Sz hj) (H.at (inb_of Sz hj) hv) hg hs hd t kt) kk
theorem own_baload (X : Stand p l e R s m args below meth c T locs cells slots) (hx : p.tables.exec = Jvm.exec) (hZ : Z.Warmed39 s.vm) (eT : T.heap = h) (V : Arv Z h a k .byte n vs dv) (hj : ¬ j < 0 ∧ j < n) (hv : vs.getD j.toNatClampNeg dv = v) (hg : g.method = m) (hs : g.stack = .int j :: .ref a :: rest) (hd : decode c.code g.pc = .ok (.baload, 1))
    (kk : OEnds p e below F n0 Q T { g with pc := g.pc + 1, stack := v :: rest }) : OEnds p e below F n0 Q T g := by
  obtain ⟨cl, Ar, -, Sz, M, H, -⟩ := V
  exact own_go (fun t kt => X.baloadBytes hx (by rw [eT]; exact Ar.1) (State.isArrayOf_alike hZ.alike Ar.2.1) Ar.2.2 (inb_of Sz hj) (H.at (inb_of Sz hj) hv) hg hs hd t kt) kk
theorem own_iastore (X : Stand p l e R s m args below meth c T locs cells slots) (hx : p.tables.exec = Jvm.exec) (hZ : Z.Warmed39 s.vm) {x : Int32} (eT : T.heap = h) (V : Arv Z h a k .int n vs dv) (hj : ¬ j < 0 ∧ j < n) (i : Nat) (hi : j.toNatClampNeg = i) (hl : i < vs.length) (N : Fr n0 locs) (ga : n0 ≤ a) (hg : g.method = m) (hs : g.stack = .int x :: .int j :: .ref a :: rest) (hd : decode c.code g.pc = .ok (.iastore, 1))
    (kk : ∀ T' h' locs', Stand p l e R s m args below meth c T' locs' cells slots → T'.heap = h' → Fr n0 locs' → Wr h h' a j.toNatClampNeg (.int x) → Arv Z h' a k .int n (vs.set i (.int x)) dv → OEnds p e below F n0 Q T' { g with pc := g.pc + 1, stack := rest }) : OEnds p e below F n0 Q T g := by
  obtain ⟨cl, Ar, q, Sz, M, H, G⟩ := V
  obtain ⟨T', h', X', e', W', st⟩ := stI X hx hZ eT Ar (j := j) (inb_of Sz hj) hg hs hd
  exact own_go st (kk T' h' _ X' e' (Fr.snoc X' N ga) W' (Arv.set Ar q Sz M H G rfl W' i hi hl))
theorem own_lastore (X : Stand p l e R s m args below meth c T locs cells slots) (hx : p.tables.exec = Jvm.exec) (hZ : Z.Warmed39 s.vm) {x : Int64} (eT : T.heap = h) (V : Arv Z h a k .long n vs dv) (hj : ¬ j < 0 ∧ j < n) (i : Nat) (hi : j.toNatClampNeg = i) (hl : i < vs.length) (N : Fr n0 locs) (ga : n0 ≤ a) (hg : g.method = m) (hs : g.stack = .long x :: .int j :: .ref a :: rest) (hd : decode c.code g.pc = .ok (.lastore, 1))
    (kk : ∀ T' h' locs', Stand p l e R s m args below meth c T' locs' cells slots → T'.heap = h' → Fr n0 locs' → Wr h h' a j.toNatClampNeg (.long x) → Arv Z h' a k .long n (vs.set i (.long x)) dv → OEnds p e below F n0 Q T' { g with pc := g.pc + 1, stack := rest }) : OEnds p e below F n0 Q T g := by
  obtain ⟨cl, Ar, q, Sz, M, H, G⟩ := V
  obtain ⟨T', h', X', e', W', st⟩ := stJ X hx hZ eT Ar (j := j) (inb_of Sz hj) hg hs hd
  exact own_go st (kk T' h' _ X' e' (Fr.snoc X' N ga) W' (Arv.set Ar q Sz M H G rfl W' i hi hl))
theorem own_bastore (X : Stand p l e R s m args below meth c T locs cells slots) (hx : p.tables.exec = Jvm.exec) (hZ : Z.Warmed39 s.vm) {x : Int32} (eT : T.heap = h) (V : Arv Z h a k .byte n vs dv) (hj : ¬ j < 0 ∧ j < n) (i : Nat) (hi : j.toNatClampNeg = i) (hl : i < vs.length) (N : Fr n0 locs) (ga : n0 ≤ a) (hg : g.method = m) (hs : g.stack = .int x :: .int j :: .ref a :: rest) (hd : decode c.code g.pc = .ok (.bastore, 1))
    (kk : ∀ T' h' locs', Stand p l e R s m args below meth c T' locs' cells slots → T'.heap = h' → Fr n0 locs' → Wr h h' a j.toNatClampNeg (.int (nar .byte x)) → Arv Z h' a k .byte n (vs.set i (.int (nar .byte x))) dv → OEnds p e below F n0 Q T' { g with pc := g.pc + 1, stack := rest }) : OEnds p e below F n0 Q T g := by
  obtain ⟨cl, Ar, q, Sz, M, H, G⟩ := V
  obtain ⟨T', h', X', e', W', st⟩ := stB X hx hZ eT Ar (j := j) (inb_of Sz hj) hg hs hd
  exact own_go st (kk T' h' _ X' e' (Fr.snoc X' N ga) W' (Arv.set Ar q Sz M H G (fits_nar_byte _) W' i hi hl))
theorem own_castore (X : Stand p l e R s m args below meth c T locs cells slots) (hx : p.tables.exec = Jvm.exec) (hZ : Z.Warmed39 s.vm) {x : Int32} (eT : T.heap = h) (V : Arv Z h a k .char n vs dv) (hj : ¬ j < 0 ∧ j < n) (i : Nat) (hi : j.toNatClampNeg = i) (hl : i < vs.length) (N : Fr n0 locs) (ga : n0 ≤ a) (hg : g.method = m) (hs : g.stack = .int x :: .int j :: .ref a :: rest) (hd : decode c.code g.pc = .ok (.castore, 1))
    (kk : ∀ T' h' locs', Stand p l e R s m args below meth c T' locs' cells slots → T'.heap = h' → Fr n0 locs' → Wr h h' a j.toNatClampNeg (.int (nar .char x)) → Arv Z h' a k .char n (vs.set i (.int (nar .char x))) dv → OEnds p e below F n0 Q T' { g with pc := g.pc + 1, stack := rest }) : OEnds p e below F n0 Q T g := by
  obtain ⟨cl, Ar, q, Sz, M, H, G⟩ := V
  obtain ⟨T', h', X', e', W', st⟩ := stC X hx hZ eT Ar (j := j) (inb_of Sz hj) hg hs hd
  exact own_go st (kk T' h' _ X' e' (Fr.snoc X' N ga) W' (Arv.set Ar q Sz M H G (fits_nar_char _) W' i hi hl))
/-! numbers -/
theorem own_lT {x y : Int64} (hh : x < y) : ifCond.holds .lt (lcmpW x y) = true ∧ ifCond.holds .ge (lcmpW x y) = false ∧ ifCond.holds .gt (lcmpW y x) = true ∧ ifCond.holds .le (lcmpW y x) = false := by
  simp only [if0]
  exact ⟨(tlt ((lw_lt x y).mpr hh)).1, (tlt ((lw_lt x y).mpr hh)).2.1, (tlt ((lw_gt y x).mpr hh)).2.2.1, (tlt ((lw_gt y x).mpr hh)).2.2.2⟩
theorem own_lF {x y : Int64} (hh : ¬ x < y) : ifCond.holds .lt (lcmpW x y) = false ∧ ifCond.holds .ge (lcmpW x y) = true ∧ ifCond.holds .gt (lcmpW y x) = false ∧ ifCond.holds .le (lcmpW y x) = true := by
  simp only [if0]
  have h1 : ¬ lcmpW x y < 0 := fun q => hh ((lw_lt x y).mp q)
  have h2 : ¬ 0 < lcmpW y x := fun q => hh ((lw_gt y x).mp q)
  exact ⟨(flt h1).1, (flt h1).2.1, (flt h2).2.2.1, (flt h2).2.2.2⟩
theorem own_eT {x y : Int64} (hh : x = y) : ifCond.holds .eq (lcmpW x y) = true ∧ ifCond.holds .ne (lcmpW x y) = false := by
  simp only [if0]
  exact teq ((lw_eq x y).mpr hh)
theorem own_eF {x y : Int64} (hh : ¬ x = y) : ifCond.holds .eq (lcmpW x y) = false ∧ ifCond.holds .ne (lcmpW x y) = true := by
  simp only [if0]
  exact feq (fun q => hh ((lw_eq x y).mp q))
end Own
section OwnS
variable {p : Program} {l : Launch} {e : Env} {R : Room} {s : State} {m : MethodId} {args : Array Value} {below : List Frame} {meth : Method} {c : Code} {T T' : State} {locs : List Loc} {cells slots : Nat} {g g' : JFrame} {C S n0 : Nat} {F : Outcome → State → List Loc → Prop} {Q : Option Value → Heap → Prop} {Z : State} {a0 : Array Value} {h h' h0 : Heap} {rest argsL : List Value} {own text : String} {index : Nat} {a : Addr}
theorem own_callVB (X : Stand p l e R s m args below meth c T locs cells slots) (hx : p.tables.exec = Jvm.exec) (hZ : Z.Warmed39 s.vm) {y : MethodName} {W c1 s1 : Nat} {Qc : Option Value → Heap → List Loc → Prop} {C0 : String} (hown : s.vm.findClass own = some m.cls)
    (w1 : (Cond.methodLink own index y).before a0 Z = true) (wd : (Cond.declares y).before a0 Z = true) (ws : (Cond.selects C0 y y).before a0 Z = true) (w2 : (Cond.instanceMethod y).before a0 Z = true) (hy : y.cls ≠ "java/lang/invoke/MethodHandle" ∧ y.cls ≠ "java/lang/invoke/VarHandle")
    (hK : Back l R p e below s args y 3 W (fun A b => b = (Value.ref a :: argsL).toArray ∧ A.U.heap = h ∧ A.cells + c1 ≤ R.cells ∧ A.slots + s1 ≤ R.slots) (fun A _ v B => ∃ L, Qc v B.U.heap L ∧ B.locs = A.locs ++ L ∧ B.cells = A.cells + c1 ∧ B.slots = A.slots + s1))
    (E : Exa Z h a C0) (hg : g.method = m) (hsize : g.locals.size = c.maxLocals) (hlen : ∀ sig, parseMethodDescriptor y.desc = some sig → argsL.length = sig.parameters.length)
    (hstack : g.stack = argsL.reverse ++ .ref a :: rest) (hW : 2 * g.monitorRoom + (rest.map fun v => v.category).sum ≤ W) (hd : decode c.code g.pc = .ok (.invokevirtual index, 3)) (eT : T.heap = h) (hc : cells + c1 ≤ R.cells) (hs : slots + s1 ≤ R.slots)
    (kk : ∀ (v : Option Value) (T' : State) (L : List Loc), Stand p l e R s m args below meth c T' (locs ++ L) (cells + c1) (slots + s1) → Qc v T'.heap L → OEnds p e below F n0 Q T' { g with pc := g.pc + 3, stack := v.toList ++ rest }) : OEnds p e below F n0 Q T g := by
  obtain ⟨cq, kq, qa, qb, qc⟩ := isOf hZ eT E
  obtain ⟨v, vm₁, ⟨T', L', k', n'⟩, -, X', ⟨Lc, hQ, l', y', z'⟩, st⟩ := X.virtualBack hx hown (mvT hZ w1) (mvT hZ wd) (notFace_of_selects (args := #[]) (mvT hZ ws)) (mvT hZ ws) (mvT hZ w2) hy hK qa qc hg hsize (Steps.refl _) hlen hstack hW hd (fun _ _ => ⟨rfl, eT, hc, hs⟩)
  dsimp only [Pt.U, Pt.locs, Pt.cells, Pt.slots] at X' l' y' z' st hQ
  subst l' y' z'
  exact own_go (fun t kt => st.trans kt) (kk v T' Lc X' hQ)
theorem own_callCB (X : Stand p l e R s m args below meth c T locs cells slots) (hx : p.tables.exec = Jvm.exec) (hZ : Z.Warmed39 s.vm) {y : MethodName} {bytes : ByteArray} {maxL W c1 s1 : Nat} {Qc : Option Value → Heap → List Loc → Prop} (hy1 : y.name = "<init>") (hown : s.vm.findClass own = some m.cls)
    (w1 : (Cond.methodLink own index y).before a0 Z = true) (w2 : (Cond.instanceMethod y).before a0 Z = true) (w4 : (Cond.code y bytes maxL none).before a0 Z = true) (hy : y.cls ≠ "java/lang/invoke/MethodHandle" ∧ y.cls ≠ "java/lang/invoke/VarHandle")
    (hK : Back l R p e below s args y 3 W (fun A b => b = (Value.ref a :: argsL).toArray ∧ A.U.heap = h ∧ A.cells + c1 ≤ R.cells ∧ A.slots + s1 ≤ R.slots) (fun A _ v B => ∃ L, Qc v B.U.heap L ∧ B.locs = A.locs ++ L ∧ B.cells = A.cells + c1 ∧ B.slots = A.slots + s1))
    (hg : g.method = m) (hsize : g.locals.size = c.maxLocals) (hlen : ∀ sig, parseMethodDescriptor y.desc = some sig → argsL.length = sig.parameters.length)
    (hstack : g.stack = argsL.reverse ++ .ref a :: rest) (hW : 2 * g.monitorRoom + (rest.map fun v => v.category).sum ≤ W) (hd : decode c.code g.pc = .ok (.invokespecial index, 3)) (eT : T.heap = h) (hc : cells + c1 ≤ R.cells) (hs : slots + s1 ≤ R.slots)
    (kk : ∀ (v : Option Value) (T' : State) (L : List Loc), Stand p l e R s m args below meth c T' (locs ++ L) (cells + c1) (slots + s1) → Qc v T'.heap L → OEnds p e below F n0 Q T' { g with pc := g.pc + 3, stack := v.toList ++ rest }) : OEnds p e below F n0 Q T g := by
  obtain ⟨v, vm₁, ⟨T', L', k', n'⟩, -, X', ⟨Lc, hQ, l', y', z'⟩, st⟩ := X.specialBack hx hy1 hown (mvT hZ w1) (mvT hZ w2) (mvT hZ w4) hy hK hg hsize (Steps.refl _) hlen hstack hW hd (fun _ _ => ⟨rfl, eT, hc, hs⟩)
  dsimp only [Pt.U, Pt.locs, Pt.cells, Pt.slots] at X' l' y' z' st hQ
  subst l' y' z'
  exact own_go (fun t kt => st.trans kt) (kk v T' Lc X' hQ)
end OwnS
theorem own_up (cs : List Int32) (hp : ∀ c ∈ cs, ¬ c < 0 ∧ ¬ (255 : Int32) < c) : ∀ c ∈ cs, ¬ c < 0 ∧ ¬ (65535 : Int32) < c := fun c hc => ⟨(hp c hc).1, fun q => (hp c hc).2 (by
  rw [Int32.lt_iff_toInt_lt] at q ⊢
  have e1 : (65535 : Int32).toInt = 65535 := rfl
  have e2 : (255 : Int32).toInt = 255 := rfl
  omega)⟩
theorem own_al0 {P : Int32 → Prop} : ∀ x ∈ ([] : List Int32), P x := fun _ q => nomatch q
theorem own_alS {P : Int32 → Prop} {y : Int32} {L : List Int32} (q : P y) (r : ∀ x ∈ L, P x) : ∀ x ∈ y :: L, P x := fun x z => (List.mem_cons.mp z).elim (fun u => u ▸ q) (r x)
theorem own_kext {h0 h : Heap} (K : Keep h0 h []) : Ext h0 h := ⟨K.1, fun a c q => K.2.1 a c q nin0⟩
theorem own_wi : ∀ d ∈ StrChars.Road.words, d ∈ tables_1 := by decide +kernel
theorem own_wl : ∀ d ∈ StrChars.Road.wordsLen, d ∈ tables_1 := by decide +kernel
theorem own_wc : ∀ d ∈ StrChars.Road.wordsChN, d ∈ tables_1 := by decide +kernel
theorem own_wm : ∀ d ∈ StrChars.Road.wordsEmp, d ∈ tables_1 := by decide +kernel
def own_One (o : Slot) : Prop := o = .unset ∨ ∃ w, o = .val w ∧ w.category = 1
def own_i3 (c : Int32) : Int32 := if c = 46 then 1 else if c = 95 then 1 else if c = 45 then 1 else 0
def own_i2 (c : Int32) : Int32 := if c < 48 then own_i3 c else if 57 < c then own_i3 c else 1
def own_i1 (c : Int32) : Int32 := if c < 97 then own_i2 c else if 122 < c then own_i2 c else 1
def own_isn (c : Int32) : Int32 := if c < 65 then own_i1 c else if 90 < c then own_i1 c else 1
theorem own_ofk {b : Int32} {n : Nat} (h1 : 0 ≤ b.toInt) (h2 : b.toInt ≤ n) : ∃ k : Fin (n + 1), b = Int32.ofNat k.1 := by
  refine ⟨⟨b.toInt.toNat, by omega⟩, ?_⟩
  have := Int32.ofInt_toInt b
  conv => lhs; rw [← this]
  show Int32.ofInt b.toInt = Int32.ofNat b.toInt.toNat
  have e2 : b.toInt = ((b.toInt.toNat : Nat) : Int) := by omega
  conv => lhs; rw [e2]
  rfl
theorem own_out (c : Int32) (h : c.toInt < 0 ∨ 255 < c.toInt) : own_isn c = 0 := by
  have a1 : (65 : Int32).toInt = 65 := rfl
  have a2 : (90 : Int32).toInt = 90 := rfl
  have a3 : (97 : Int32).toInt = 97 := rfl
  have a4 : (122 : Int32).toInt = 122 := rfl
  have a5 : (48 : Int32).toInt = 48 := rfl
  have a6 : (57 : Int32).toInt = 57 := rfl
  have b1 : ¬ c = 46 := fun q => by rw [q] at h; revert h; decide
  have b2 : ¬ c = 95 := fun q => by rw [q] at h; revert h; decide
  have b3 : ¬ c = 45 := fun q => by rw [q] at h; revert h; decide
  have e3 : own_i3 c = 0 := by unfold own_i3; rw [if_neg b1, if_neg b2, if_neg b3]
  unfold own_isn own_i1 own_i2
  simp only [Int32.lt_iff_toInt_lt, a1, a2, a3, a4, a5, a6, e3]
  rcases h with h | h
  · rw [if_pos (by omega), if_pos (by omega), if_pos (by omega)]
  · rw [if_neg (by omega), if_pos (by omega), if_neg (by omega), if_pos (by omega), if_neg (by omega), if_pos (by omega)]
theorem own_tab : ∀ k : Fin 256, (own_isn (Int32.ofNat k.1) = 1 ∨ Int32.ofNat k.1 = 47) → (¬ (Int32.ofNat k.1) < 0 ∧ ¬ (255 : Int32) < (Int32.ofNat k.1)) ∧ nar .char (Int32.ofNat k.1) = Int32.ofNat k.1 := by decide +kernel
theorem own_rngc {c : Int32} (h : own_isn c = 1 ∨ c = 47) : (¬ c < 0 ∧ ¬ (255 : Int32) < c) ∧ nar .char c = c := by
  by_cases q : c.toInt < 0 ∨ 255 < c.toInt
  · rcases h with h | h
    · rw [own_out c q] at h; exact absurd h (by decide)
    · rw [h] at q; exact absurd q (by decide)
  · obtain ⟨k, rfl⟩ := own_ofk (b := c) (n := 255) (by omega) (by omega)
    exact own_tab k h
theorem own_n47 {c : Int32} (h : own_isn c = 1) : ¬ c = 47 := fun q => by rw [q] at h; exact absurd h (by decide)
theorem own_prev {c p : Int32} (h : own_isn c = 1 ∨ (c = 47 ∧ ¬ p = 47)) (hc : c = 47) : ¬ p = 47 := h.elim (fun q => absurd hc (own_n47 q)) (fun q => q.2)
theorem own_one {c p : Int32} (h : own_isn c = 1 ∨ (c = 47 ∧ ¬ p = 47)) (hc : ¬ c = 47) : own_isn c = 1 := h.elim id (fun q => absurd q.1 hc)
theorem own_nz {c : Int32} (h : own_isn c = 1) : ¬ own_isn c = 0 := by rw [h]; decide
theorem own_m65 {p y : Int32} (e : y = (p &&& 255) % 65) : ∃ k : Fin 65, y = Int32.ofNat k.1 := by
  have h1 := c_and p 255 (by decide)
  have h2 := (c_irem (p &&& 255) 65 65 rfl).1 h1.1
  rw [← e] at h2
  exact own_ofk (n := 64) (by omega) (by omega)
theorem own_nc : ∀ k : Fin 65, (Int32.ofNat k.1 < 26 → own_isn (nar .char (((65 : Int32) + Int32.ofNat k.1).toUInt32.toUInt16.toUInt32.toInt32)) = 1) ∧ (¬ Int32.ofNat k.1 < 26 → Int32.ofNat k.1 < 52 → own_isn (nar .char (((97 : Int32) + (Int32.ofNat k.1 - 26)).toUInt32.toUInt16.toUInt32.toInt32)) = 1) ∧ (¬ Int32.ofNat k.1 < 52 → Int32.ofNat k.1 < 62 → own_isn (nar .char (((48 : Int32) + (Int32.ofNat k.1 - 52)).toUInt32.toUInt16.toUInt32.toInt32)) = 1) := by decide +kernel
theorem own_ncA {p y : Int32} (e : y = (p &&& 255) % 65) (h1 : y < 26) : own_isn (nar .char (((65 : Int32) + y).toUInt32.toUInt16.toUInt32.toInt32)) = 1 := by
  obtain ⟨k, rfl⟩ := own_m65 e; exact (own_nc k).1 h1
theorem own_ncB {p y : Int32} (e : y = (p &&& 255) % 65) (h0 : ¬ y < 26) (h1 : y < 52) : own_isn (nar .char (((97 : Int32) + (y - 26)).toUInt32.toUInt16.toUInt32.toInt32)) = 1 := by
  obtain ⟨k, rfl⟩ := own_m65 e; exact (own_nc k).2.1 h0 h1
theorem own_ncC {p y : Int32} (e : y = (p &&& 255) % 65) (h0 : ¬ y < 52) (h1 : y < 62) : own_isn (nar .char (((48 : Int32) + (y - 52)).toUInt32.toUInt16.toUInt32.toInt32)) = 1 := by
  obtain ⟨k, rfl⟩ := own_m65 e; exact (own_nc k).2.2 h0 h1
theorem own_six {p y : Int32} (e : y = ((p.toUInt32 >>> ((24 : Int32) &&& 31).toUInt32).toInt32) % 6 + 1) : y = 1 ∨ y = 2 ∨ y = 3 ∨ y = 4 ∨ y = 5 ∨ y = 6 := by
  have h1 := c_iushr p 24 24 (by decide) (by decide)
  have e1 : ((2 ^ 24 : Nat) : Int) = 16777216 := by decide
  rw [e1] at h1
  have h2 := (c_irem ((p.toUInt32 >>> ((24 : Int32) &&& 31).toUInt32).toInt32) 6 6 rfl).1 (by omega)
  have h3 := c_iadd (((p.toUInt32 >>> ((24 : Int32) &&& 31).toUInt32).toInt32) % 6) 1
  rw [← e] at h3
  have e3 : (1 : Int32).toInt = 1 := rfl
  have h4 := Int32.le_toInt y; have h5 := Int32.toInt_lt y
  have h6 : y.toInt = 1 ∨ y.toInt = 2 ∨ y.toInt = 3 ∨ y.toInt = 4 ∨ y.toInt = 5 ∨ y.toInt = 6 := by omega
  have f : ∀ z : Int32, y.toInt = z.toInt → y = z := fun z q => Int32.toInt_inj.mp q
  rcases h6 with q | q | q | q | q | q
  · exact Or.inl (f 1 q)
  · exact Or.inr (Or.inl (f 2 q))
  · exact Or.inr (Or.inr (Or.inl (f 3 q)))
  · exact Or.inr (Or.inr (Or.inr (Or.inl (f 4 q))))
  · exact Or.inr (Or.inr (Or.inr (Or.inr (Or.inl (f 5 q)))))
  · exact Or.inr (Or.inr (Or.inr (Or.inr (Or.inr (f 6 q)))))
theorem own_d19_0 : decode prog_12_method_3_code 0 = .ok (.iload_n 0, 1) := by decide +kernel
theorem own_d19_1 : decode prog_12_method_3_code 1 = .ok (.bipush 65, 2) := by decide +kernel
theorem own_d19_3 : decode prog_12_method_3_code 3 = .ok (.if_icmp .lt 9, 3) := by decide +kernel
theorem own_d19_6 : decode prog_12_method_3_code 6 = .ok (.iload_n 0, 1) := by decide +kernel
theorem own_d19_7 : decode prog_12_method_3_code 7 = .ok (.bipush 90, 2) := by decide +kernel
theorem own_d19_9 : decode prog_12_method_3_code 9 = .ok (.if_icmp .le 45, 3) := by decide +kernel
theorem own_d19_12 : decode prog_12_method_3_code 12 = .ok (.iload_n 0, 1) := by decide +kernel
theorem own_d19_13 : decode prog_12_method_3_code 13 = .ok (.bipush 97, 2) := by decide +kernel
theorem own_d19_15 : decode prog_12_method_3_code 15 = .ok (.if_icmp .lt 9, 3) := by decide +kernel
theorem own_d19_18 : decode prog_12_method_3_code 18 = .ok (.iload_n 0, 1) := by decide +kernel
theorem own_d19_19 : decode prog_12_method_3_code 19 = .ok (.bipush 122, 2) := by decide +kernel
theorem own_d19_21 : decode prog_12_method_3_code 21 = .ok (.if_icmp .le 33, 3) := by decide +kernel
theorem own_d19_24 : decode prog_12_method_3_code 24 = .ok (.iload_n 0, 1) := by decide +kernel
theorem own_d19_25 : decode prog_12_method_3_code 25 = .ok (.bipush 48, 2) := by decide +kernel
theorem own_d19_27 : decode prog_12_method_3_code 27 = .ok (.if_icmp .lt 9, 3) := by decide +kernel
theorem own_d19_30 : decode prog_12_method_3_code 30 = .ok (.iload_n 0, 1) := by decide +kernel
theorem own_d19_31 : decode prog_12_method_3_code 31 = .ok (.bipush 57, 2) := by decide +kernel
theorem own_d19_33 : decode prog_12_method_3_code 33 = .ok (.if_icmp .le 21, 3) := by decide +kernel
theorem own_d19_36 : decode prog_12_method_3_code 36 = .ok (.iload_n 0, 1) := by decide +kernel
theorem own_d19_37 : decode prog_12_method_3_code 37 = .ok (.bipush 46, 2) := by decide +kernel
theorem own_d19_39 : decode prog_12_method_3_code 39 = .ok (.if_icmp .eq 15, 3) := by decide +kernel
theorem own_d19_42 : decode prog_12_method_3_code 42 = .ok (.iload_n 0, 1) := by decide +kernel
theorem own_d19_43 : decode prog_12_method_3_code 43 = .ok (.bipush 95, 2) := by decide +kernel
theorem own_d19_45 : decode prog_12_method_3_code 45 = .ok (.if_icmp .eq 9, 3) := by decide +kernel
theorem own_d19_48 : decode prog_12_method_3_code 48 = .ok (.iload_n 0, 1) := by decide +kernel
theorem own_d19_49 : decode prog_12_method_3_code 49 = .ok (.bipush 45, 2) := by decide +kernel
theorem own_d19_51 : decode prog_12_method_3_code 51 = .ok (.if_icmp .ne 7, 3) := by decide +kernel
theorem own_d19_54 : decode prog_12_method_3_code 54 = .ok (.iconst 1, 1) := by decide +kernel
theorem own_d19_55 : decode prog_12_method_3_code 55 = .ok (.goto 4, 3) := by decide +kernel
theorem own_d19_58 : decode prog_12_method_3_code 58 = .ok (.iconst 0, 1) := by decide +kernel
theorem own_d19_59 : decode prog_12_method_3_code 59 = .ok (.ireturn, 1) := by decide +kernel
theorem own_pn_19 : plainFor (⟨"com/example/nutex/nutex/LockNames", "isNameCharacter", "(C)Z"⟩ : MethodName) = true := by first | exact plainFor_of_name (by first | (simp [plainName, overriddenIn]; done) | decide +kernel) | decide +kernel
theorem own_ef_own_isname (m : MethodId) (x0 : Int32) : entryFrame m #[(.int x0)] 1 = mkF m 0 #[.val (.int x0)] [] := by first | (simp [entryFrame, mkF, argsToLocals, Value.category]; done) | rfl
set_option maxRecDepth 65536 in
set_option maxHeartbeats 40000000 in
theorem own_isname (l : Launch) (Z : State) (a0 : Array Value) (hw : ∀ d ∈ tables_1, d.before a0 Z = true) (p1 : Int32) (h0 : Heap) (n0 : Nat) (Z0 : n0 ≤ h0.size)  :
    OCon l (⟨"com/example/nutex/nutex/LockNames", "isNameCharacter", "(C)Z"⟩ : MethodName) prog_12_method_3_code 1 (some .boolean) ({ frames := 0, cells := 0, slots := 0, locals := 0 } : Room) Z #[(.int p1)] h0 n0 (fun v h => v = some (.int (own_isn p1)) ∧ h = h0) := by
  refine own_body own_pn_19 ?_
  intro p e s m below meth c T0 hx hZ hby hml hown hnm hret hlk e0 X0
  replace hown : s.vm.findClass "com/example/nutex/nutex/LockNames" = some m.cls := hown
  replace hnm : meth.name = "isNameCharacter" := hnm
  have N0 := Fr.nil n0
  have K0 : Keep h0 h0 [] := Keep.refl _ _
  refine own_at (own_ef_own_isname m p1) ?_
  refine own_go (g' := (mkF m 1 #[.val (.int p1)] [(.int p1)])) (fun t kt => XS.iloadN X0.here hx rfl (hb hby own_d19_0) rfl kt) ?_
  refine own_go (g' := (mkF m 3 #[.val (.int p1)] [(.int (65 : Int32)), (.int p1)])) (fun t kt => XS.bipush X0.here hx rfl (hb hby own_d19_1) kt) ?_
  by_cases hc1 : p1 < (65 : Int32)
  · refine own_go (g' := (mkF m 12 #[.val (.int p1)] [])) (fun t kt => XS.icmpYes X0.here hx rfl (pc0 := 3) (pc' := 12) rfl (hb hby own_d19_3) rfl (tlt hc1).1 (by decide) (by decide) kt) ?_
    refine own_go (g' := (mkF m 13 #[.val (.int p1)] [(.int p1)])) (fun t kt => XS.iloadN X0.here hx rfl (hb hby own_d19_12) rfl kt) ?_
    refine own_go (g' := (mkF m 15 #[.val (.int p1)] [(.int (97 : Int32)), (.int p1)])) (fun t kt => XS.bipush X0.here hx rfl (hb hby own_d19_13) kt) ?_
    by_cases hc2 : p1 < (97 : Int32)
    · refine own_go (g' := (mkF m 24 #[.val (.int p1)] [])) (fun t kt => XS.icmpYes X0.here hx rfl (pc0 := 15) (pc' := 24) rfl (hb hby own_d19_15) rfl (tlt hc2).1 (by decide) (by decide) kt) ?_
      refine own_go (g' := (mkF m 25 #[.val (.int p1)] [(.int p1)])) (fun t kt => XS.iloadN X0.here hx rfl (hb hby own_d19_24) rfl kt) ?_
      refine own_go (g' := (mkF m 27 #[.val (.int p1)] [(.int (48 : Int32)), (.int p1)])) (fun t kt => XS.bipush X0.here hx rfl (hb hby own_d19_25) kt) ?_
      by_cases hc3 : p1 < (48 : Int32)
      · refine own_go (g' := (mkF m 36 #[.val (.int p1)] [])) (fun t kt => XS.icmpYes X0.here hx rfl (pc0 := 27) (pc' := 36) rfl (hb hby own_d19_27) rfl (tlt hc3).1 (by decide) (by decide) kt) ?_
        refine own_go (g' := (mkF m 37 #[.val (.int p1)] [(.int p1)])) (fun t kt => XS.iloadN X0.here hx rfl (hb hby own_d19_36) rfl kt) ?_
        refine own_go (g' := (mkF m 39 #[.val (.int p1)] [(.int (46 : Int32)), (.int p1)])) (fun t kt => XS.bipush X0.here hx rfl (hb hby own_d19_37) kt) ?_
        by_cases hc4 : p1 = (46 : Int32)
        · refine own_go (g' := (mkF m 54 #[.val (.int p1)] [])) (fun t kt => XS.icmpYes X0.here hx rfl (pc0 := 39) (pc' := 54) rfl (hb hby own_d19_39) rfl (teq hc4).1 (by decide) (by decide) kt) ?_
          refine own_go (g' := (mkF m 55 #[.val (.int p1)] [(.int (1 : Int32))])) (fun t kt => XS.iconst X0.here hx rfl (hb hby own_d19_54) kt) ?_
          refine own_go (g' := (mkF m 59 #[.val (.int p1)] [(.int (1 : Int32))])) (fun t kt => XS.goto X0.here hx rfl (pc0 := 55) (pc' := 59) rfl (hb hby own_d19_55) (by decide) (by decide) kt) ?_
          exact own_retN X0 hx hlk (t := .boolean) (z' := (1 : Int32)) hret (by simp) (hb hby own_d19_59) rfl e0 N0 (by decide) (by decide) (⟨by simp only [own_isn, own_i1, own_i2, own_i3, eq_true hc1, eq_true hc2, eq_true hc3, eq_true hc4, if_true, if_false], rfl⟩)
        · refine own_go (g' := (mkF m 42 #[.val (.int p1)] [])) (fun t kt => XS.icmpNo X0.here hx rfl (hb hby own_d19_39) rfl (feq hc4).1 kt) ?_
          refine own_go (g' := (mkF m 43 #[.val (.int p1)] [(.int p1)])) (fun t kt => XS.iloadN X0.here hx rfl (hb hby own_d19_42) rfl kt) ?_
          refine own_go (g' := (mkF m 45 #[.val (.int p1)] [(.int (95 : Int32)), (.int p1)])) (fun t kt => XS.bipush X0.here hx rfl (hb hby own_d19_43) kt) ?_
          by_cases hc5 : p1 = (95 : Int32)
          · refine own_go (g' := (mkF m 54 #[.val (.int p1)] [])) (fun t kt => XS.icmpYes X0.here hx rfl (pc0 := 45) (pc' := 54) rfl (hb hby own_d19_45) rfl (teq hc5).1 (by decide) (by decide) kt) ?_
            refine own_go (g' := (mkF m 55 #[.val (.int p1)] [(.int (1 : Int32))])) (fun t kt => XS.iconst X0.here hx rfl (hb hby own_d19_54) kt) ?_
            refine own_go (g' := (mkF m 59 #[.val (.int p1)] [(.int (1 : Int32))])) (fun t kt => XS.goto X0.here hx rfl (pc0 := 55) (pc' := 59) rfl (hb hby own_d19_55) (by decide) (by decide) kt) ?_
            exact own_retN X0 hx hlk (t := .boolean) (z' := (1 : Int32)) hret (by simp) (hb hby own_d19_59) rfl e0 N0 (by decide) (by decide) (⟨by simp only [own_isn, own_i1, own_i2, own_i3, eq_true hc1, eq_true hc2, eq_true hc3, eq_false hc4, eq_true hc5, if_true, if_false], rfl⟩)
          · refine own_go (g' := (mkF m 48 #[.val (.int p1)] [])) (fun t kt => XS.icmpNo X0.here hx rfl (hb hby own_d19_45) rfl (feq hc5).1 kt) ?_
            refine own_go (g' := (mkF m 49 #[.val (.int p1)] [(.int p1)])) (fun t kt => XS.iloadN X0.here hx rfl (hb hby own_d19_48) rfl kt) ?_
            refine own_go (g' := (mkF m 51 #[.val (.int p1)] [(.int (45 : Int32)), (.int p1)])) (fun t kt => XS.bipush X0.here hx rfl (hb hby own_d19_49) kt) ?_
            by_cases hc6 : p1 = (45 : Int32)
            · refine own_go (g' := (mkF m 54 #[.val (.int p1)] [])) (fun t kt => XS.icmpNo X0.here hx rfl (hb hby own_d19_51) rfl (teq hc6).2 kt) ?_
              refine own_go (g' := (mkF m 55 #[.val (.int p1)] [(.int (1 : Int32))])) (fun t kt => XS.iconst X0.here hx rfl (hb hby own_d19_54) kt) ?_
              refine own_go (g' := (mkF m 59 #[.val (.int p1)] [(.int (1 : Int32))])) (fun t kt => XS.goto X0.here hx rfl (pc0 := 55) (pc' := 59) rfl (hb hby own_d19_55) (by decide) (by decide) kt) ?_
              exact own_retN X0 hx hlk (t := .boolean) (z' := (1 : Int32)) hret (by simp) (hb hby own_d19_59) rfl e0 N0 (by decide) (by decide) (⟨by simp only [own_isn, own_i1, own_i2, own_i3, eq_true hc1, eq_true hc2, eq_true hc3, eq_false hc4, eq_false hc5, eq_true hc6, if_true, if_false], rfl⟩)
            · refine own_go (g' := (mkF m 58 #[.val (.int p1)] [])) (fun t kt => XS.icmpYes X0.here hx rfl (pc0 := 51) (pc' := 58) rfl (hb hby own_d19_51) rfl (feq hc6).2 (by decide) (by decide) kt) ?_
              refine own_go (g' := (mkF m 59 #[.val (.int p1)] [(.int (0 : Int32))])) (fun t kt => XS.iconst X0.here hx rfl (hb hby own_d19_58) kt) ?_
              exact own_retN X0 hx hlk (t := .boolean) (z' := (0 : Int32)) hret (by simp) (hb hby own_d19_59) rfl e0 N0 (by decide) (by decide) (⟨by simp only [own_isn, own_i1, own_i2, own_i3, eq_true hc1, eq_true hc2, eq_true hc3, eq_false hc4, eq_false hc5, eq_false hc6, if_true, if_false], rfl⟩)
      · refine own_go (g' := (mkF m 30 #[.val (.int p1)] [])) (fun t kt => XS.icmpNo X0.here hx rfl (hb hby own_d19_27) rfl (flt hc3).1 kt) ?_
        refine own_go (g' := (mkF m 31 #[.val (.int p1)] [(.int p1)])) (fun t kt => XS.iloadN X0.here hx rfl (hb hby own_d19_30) rfl kt) ?_
        refine own_go (g' := (mkF m 33 #[.val (.int p1)] [(.int (57 : Int32)), (.int p1)])) (fun t kt => XS.bipush X0.here hx rfl (hb hby own_d19_31) kt) ?_
        by_cases hc7 : (57 : Int32) < p1
        · refine own_go (g' := (mkF m 36 #[.val (.int p1)] [])) (fun t kt => XS.icmpNo X0.here hx rfl (hb hby own_d19_33) rfl (tlt hc7).2.2.2 kt) ?_
          refine own_go (g' := (mkF m 37 #[.val (.int p1)] [(.int p1)])) (fun t kt => XS.iloadN X0.here hx rfl (hb hby own_d19_36) rfl kt) ?_
          refine own_go (g' := (mkF m 39 #[.val (.int p1)] [(.int (46 : Int32)), (.int p1)])) (fun t kt => XS.bipush X0.here hx rfl (hb hby own_d19_37) kt) ?_
          by_cases hc8 : p1 = (46 : Int32)
          · refine own_go (g' := (mkF m 54 #[.val (.int p1)] [])) (fun t kt => XS.icmpYes X0.here hx rfl (pc0 := 39) (pc' := 54) rfl (hb hby own_d19_39) rfl (teq hc8).1 (by decide) (by decide) kt) ?_
            refine own_go (g' := (mkF m 55 #[.val (.int p1)] [(.int (1 : Int32))])) (fun t kt => XS.iconst X0.here hx rfl (hb hby own_d19_54) kt) ?_
            refine own_go (g' := (mkF m 59 #[.val (.int p1)] [(.int (1 : Int32))])) (fun t kt => XS.goto X0.here hx rfl (pc0 := 55) (pc' := 59) rfl (hb hby own_d19_55) (by decide) (by decide) kt) ?_
            exact own_retN X0 hx hlk (t := .boolean) (z' := (1 : Int32)) hret (by simp) (hb hby own_d19_59) rfl e0 N0 (by decide) (by decide) (⟨by simp only [own_isn, own_i1, own_i2, own_i3, eq_true hc1, eq_true hc2, eq_false hc3, eq_true hc7, eq_true hc8, if_true, if_false], rfl⟩)
          · refine own_go (g' := (mkF m 42 #[.val (.int p1)] [])) (fun t kt => XS.icmpNo X0.here hx rfl (hb hby own_d19_39) rfl (feq hc8).1 kt) ?_
            refine own_go (g' := (mkF m 43 #[.val (.int p1)] [(.int p1)])) (fun t kt => XS.iloadN X0.here hx rfl (hb hby own_d19_42) rfl kt) ?_
            refine own_go (g' := (mkF m 45 #[.val (.int p1)] [(.int (95 : Int32)), (.int p1)])) (fun t kt => XS.bipush X0.here hx rfl (hb hby own_d19_43) kt) ?_
            by_cases hc9 : p1 = (95 : Int32)
            · refine own_go (g' := (mkF m 54 #[.val (.int p1)] [])) (fun t kt => XS.icmpYes X0.here hx rfl (pc0 := 45) (pc' := 54) rfl (hb hby own_d19_45) rfl (teq hc9).1 (by decide) (by decide) kt) ?_
              refine own_go (g' := (mkF m 55 #[.val (.int p1)] [(.int (1 : Int32))])) (fun t kt => XS.iconst X0.here hx rfl (hb hby own_d19_54) kt) ?_
              refine own_go (g' := (mkF m 59 #[.val (.int p1)] [(.int (1 : Int32))])) (fun t kt => XS.goto X0.here hx rfl (pc0 := 55) (pc' := 59) rfl (hb hby own_d19_55) (by decide) (by decide) kt) ?_
              exact own_retN X0 hx hlk (t := .boolean) (z' := (1 : Int32)) hret (by simp) (hb hby own_d19_59) rfl e0 N0 (by decide) (by decide) (⟨by simp only [own_isn, own_i1, own_i2, own_i3, eq_true hc1, eq_true hc2, eq_false hc3, eq_true hc7, eq_false hc8, eq_true hc9, if_true, if_false], rfl⟩)
            · refine own_go (g' := (mkF m 48 #[.val (.int p1)] [])) (fun t kt => XS.icmpNo X0.here hx rfl (hb hby own_d19_45) rfl (feq hc9).1 kt) ?_
              refine own_go (g' := (mkF m 49 #[.val (.int p1)] [(.int p1)])) (fun t kt => XS.iloadN X0.here hx rfl (hb hby own_d19_48) rfl kt) ?_
              refine own_go (g' := (mkF m 51 #[.val (.int p1)] [(.int (45 : Int32)), (.int p1)])) (fun t kt => XS.bipush X0.here hx rfl (hb hby own_d19_49) kt) ?_
              by_cases hc10 : p1 = (45 : Int32)
              · refine own_go (g' := (mkF m 54 #[.val (.int p1)] [])) (fun t kt => XS.icmpNo X0.here hx rfl (hb hby own_d19_51) rfl (teq hc10).2 kt) ?_
                refine own_go (g' := (mkF m 55 #[.val (.int p1)] [(.int (1 : Int32))])) (fun t kt => XS.iconst X0.here hx rfl (hb hby own_d19_54) kt) ?_
                refine own_go (g' := (mkF m 59 #[.val (.int p1)] [(.int (1 : Int32))])) (fun t kt => XS.goto X0.here hx rfl (pc0 := 55) (pc' := 59) rfl (hb hby own_d19_55) (by decide) (by decide) kt) ?_
                exact own_retN X0 hx hlk (t := .boolean) (z' := (1 : Int32)) hret (by simp) (hb hby own_d19_59) rfl e0 N0 (by decide) (by decide) (⟨by simp only [own_isn, own_i1, own_i2, own_i3, eq_true hc1, eq_true hc2, eq_false hc3, eq_true hc7, eq_false hc8, eq_false hc9, eq_true hc10, if_true, if_false], rfl⟩)
              · refine own_go (g' := (mkF m 58 #[.val (.int p1)] [])) (fun t kt => XS.icmpYes X0.here hx rfl (pc0 := 51) (pc' := 58) rfl (hb hby own_d19_51) rfl (feq hc10).2 (by decide) (by decide) kt) ?_
                refine own_go (g' := (mkF m 59 #[.val (.int p1)] [(.int (0 : Int32))])) (fun t kt => XS.iconst X0.here hx rfl (hb hby own_d19_58) kt) ?_
                exact own_retN X0 hx hlk (t := .boolean) (z' := (0 : Int32)) hret (by simp) (hb hby own_d19_59) rfl e0 N0 (by decide) (by decide) (⟨by simp only [own_isn, own_i1, own_i2, own_i3, eq_true hc1, eq_true hc2, eq_false hc3, eq_true hc7, eq_false hc8, eq_false hc9, eq_false hc10, if_true, if_false], rfl⟩)
        · refine own_go (g' := (mkF m 54 #[.val (.int p1)] [])) (fun t kt => XS.icmpYes X0.here hx rfl (pc0 := 33) (pc' := 54) rfl (hb hby own_d19_33) rfl (flt hc7).2.2.2 (by decide) (by decide) kt) ?_
          refine own_go (g' := (mkF m 55 #[.val (.int p1)] [(.int (1 : Int32))])) (fun t kt => XS.iconst X0.here hx rfl (hb hby own_d19_54) kt) ?_
          refine own_go (g' := (mkF m 59 #[.val (.int p1)] [(.int (1 : Int32))])) (fun t kt => XS.goto X0.here hx rfl (pc0 := 55) (pc' := 59) rfl (hb hby own_d19_55) (by decide) (by decide) kt) ?_
          exact own_retN X0 hx hlk (t := .boolean) (z' := (1 : Int32)) hret (by simp) (hb hby own_d19_59) rfl e0 N0 (by decide) (by decide) (⟨by simp only [own_isn, own_i1, own_i2, own_i3, eq_true hc1, eq_true hc2, eq_false hc3, eq_false hc7, if_true, if_false], rfl⟩)
    · refine own_go (g' := (mkF m 18 #[.val (.int p1)] [])) (fun t kt => XS.icmpNo X0.here hx rfl (hb hby own_d19_15) rfl (flt hc2).1 kt) ?_
      refine own_go (g' := (mkF m 19 #[.val (.int p1)] [(.int p1)])) (fun t kt => XS.iloadN X0.here hx rfl (hb hby own_d19_18) rfl kt) ?_
      refine own_go (g' := (mkF m 21 #[.val (.int p1)] [(.int (122 : Int32)), (.int p1)])) (fun t kt => XS.bipush X0.here hx rfl (hb hby own_d19_19) kt) ?_
      by_cases hc11 : (122 : Int32) < p1
      · refine own_go (g' := (mkF m 24 #[.val (.int p1)] [])) (fun t kt => XS.icmpNo X0.here hx rfl (hb hby own_d19_21) rfl (tlt hc11).2.2.2 kt) ?_
        refine own_go (g' := (mkF m 25 #[.val (.int p1)] [(.int p1)])) (fun t kt => XS.iloadN X0.here hx rfl (hb hby own_d19_24) rfl kt) ?_
        refine own_go (g' := (mkF m 27 #[.val (.int p1)] [(.int (48 : Int32)), (.int p1)])) (fun t kt => XS.bipush X0.here hx rfl (hb hby own_d19_25) kt) ?_
        by_cases hc12 : p1 < (48 : Int32)
        · refine own_go (g' := (mkF m 36 #[.val (.int p1)] [])) (fun t kt => XS.icmpYes X0.here hx rfl (pc0 := 27) (pc' := 36) rfl (hb hby own_d19_27) rfl (tlt hc12).1 (by decide) (by decide) kt) ?_
          refine own_go (g' := (mkF m 37 #[.val (.int p1)] [(.int p1)])) (fun t kt => XS.iloadN X0.here hx rfl (hb hby own_d19_36) rfl kt) ?_
          refine own_go (g' := (mkF m 39 #[.val (.int p1)] [(.int (46 : Int32)), (.int p1)])) (fun t kt => XS.bipush X0.here hx rfl (hb hby own_d19_37) kt) ?_
          by_cases hc13 : p1 = (46 : Int32)
          · refine own_go (g' := (mkF m 54 #[.val (.int p1)] [])) (fun t kt => XS.icmpYes X0.here hx rfl (pc0 := 39) (pc' := 54) rfl (hb hby own_d19_39) rfl (teq hc13).1 (by decide) (by decide) kt) ?_
            refine own_go (g' := (mkF m 55 #[.val (.int p1)] [(.int (1 : Int32))])) (fun t kt => XS.iconst X0.here hx rfl (hb hby own_d19_54) kt) ?_
            refine own_go (g' := (mkF m 59 #[.val (.int p1)] [(.int (1 : Int32))])) (fun t kt => XS.goto X0.here hx rfl (pc0 := 55) (pc' := 59) rfl (hb hby own_d19_55) (by decide) (by decide) kt) ?_
            exact own_retN X0 hx hlk (t := .boolean) (z' := (1 : Int32)) hret (by simp) (hb hby own_d19_59) rfl e0 N0 (by decide) (by decide) (⟨by simp only [own_isn, own_i1, own_i2, own_i3, eq_true hc1, eq_false hc2, eq_true hc11, eq_true hc12, eq_true hc13, if_true, if_false], rfl⟩)
          · refine own_go (g' := (mkF m 42 #[.val (.int p1)] [])) (fun t kt => XS.icmpNo X0.here hx rfl (hb hby own_d19_39) rfl (feq hc13).1 kt) ?_
            refine own_go (g' := (mkF m 43 #[.val (.int p1)] [(.int p1)])) (fun t kt => XS.iloadN X0.here hx rfl (hb hby own_d19_42) rfl kt) ?_
            refine own_go (g' := (mkF m 45 #[.val (.int p1)] [(.int (95 : Int32)), (.int p1)])) (fun t kt => XS.bipush X0.here hx rfl (hb hby own_d19_43) kt) ?_
            by_cases hc14 : p1 = (95 : Int32)
            · refine own_go (g' := (mkF m 54 #[.val (.int p1)] [])) (fun t kt => XS.icmpYes X0.here hx rfl (pc0 := 45) (pc' := 54) rfl (hb hby own_d19_45) rfl (teq hc14).1 (by decide) (by decide) kt) ?_
              refine own_go (g' := (mkF m 55 #[.val (.int p1)] [(.int (1 : Int32))])) (fun t kt => XS.iconst X0.here hx rfl (hb hby own_d19_54) kt) ?_
              refine own_go (g' := (mkF m 59 #[.val (.int p1)] [(.int (1 : Int32))])) (fun t kt => XS.goto X0.here hx rfl (pc0 := 55) (pc' := 59) rfl (hb hby own_d19_55) (by decide) (by decide) kt) ?_
              exact own_retN X0 hx hlk (t := .boolean) (z' := (1 : Int32)) hret (by simp) (hb hby own_d19_59) rfl e0 N0 (by decide) (by decide) (⟨by simp only [own_isn, own_i1, own_i2, own_i3, eq_true hc1, eq_false hc2, eq_true hc11, eq_true hc12, eq_false hc13, eq_true hc14, if_true, if_false], rfl⟩)
            · refine own_go (g' := (mkF m 48 #[.val (.int p1)] [])) (fun t kt => XS.icmpNo X0.here hx rfl (hb hby own_d19_45) rfl (feq hc14).1 kt) ?_
              refine own_go (g' := (mkF m 49 #[.val (.int p1)] [(.int p1)])) (fun t kt => XS.iloadN X0.here hx rfl (hb hby own_d19_48) rfl kt) ?_
              refine own_go (g' := (mkF m 51 #[.val (.int p1)] [(.int (45 : Int32)), (.int p1)])) (fun t kt => XS.bipush X0.here hx rfl (hb hby own_d19_49) kt) ?_
              by_cases hc15 : p1 = (45 : Int32)
              · refine own_go (g' := (mkF m 54 #[.val (.int p1)] [])) (fun t kt => XS.icmpNo X0.here hx rfl (hb hby own_d19_51) rfl (teq hc15).2 kt) ?_
                refine own_go (g' := (mkF m 55 #[.val (.int p1)] [(.int (1 : Int32))])) (fun t kt => XS.iconst X0.here hx rfl (hb hby own_d19_54) kt) ?_
                refine own_go (g' := (mkF m 59 #[.val (.int p1)] [(.int (1 : Int32))])) (fun t kt => XS.goto X0.here hx rfl (pc0 := 55) (pc' := 59) rfl (hb hby own_d19_55) (by decide) (by decide) kt) ?_
                exact own_retN X0 hx hlk (t := .boolean) (z' := (1 : Int32)) hret (by simp) (hb hby own_d19_59) rfl e0 N0 (by decide) (by decide) (⟨by simp only [own_isn, own_i1, own_i2, own_i3, eq_true hc1, eq_false hc2, eq_true hc11, eq_true hc12, eq_false hc13, eq_false hc14, eq_true hc15, if_true, if_false], rfl⟩)
              · refine own_go (g' := (mkF m 58 #[.val (.int p1)] [])) (fun t kt => XS.icmpYes X0.here hx rfl (pc0 := 51) (pc' := 58) rfl (hb hby own_d19_51) rfl (feq hc15).2 (by decide) (by decide) kt) ?_
                refine own_go (g' := (mkF m 59 #[.val (.int p1)] [(.int (0 : Int32))])) (fun t kt => XS.iconst X0.here hx rfl (hb hby own_d19_58) kt) ?_
                exact own_retN X0 hx hlk (t := .boolean) (z' := (0 : Int32)) hret (by simp) (hb hby own_d19_59) rfl e0 N0 (by decide) (by decide) (⟨by simp only [own_isn, own_i1, own_i2, own_i3, eq_true hc1, eq_false hc2, eq_true hc11, eq_true hc12, eq_false hc13, eq_false hc14, eq_false hc15, if_true, if_false], rfl⟩)
        · refine own_go (g' := (mkF m 30 #[.val (.int p1)] [])) (fun t kt => XS.icmpNo X0.here hx rfl (hb hby own_d19_27) rfl (flt hc12).1 kt) ?_
          refine own_go (g' := (mkF m 31 #[.val (.int p1)] [(.int p1)])) (fun t kt => XS.iloadN X0.here hx rfl (hb hby own_d19_30) rfl kt) ?_
          refine own_go (g' := (mkF m 33 #[.val (.int p1)] [(.int (57 : Int32)), (.int p1)])) (fun t kt => XS.bipush X0.here hx rfl (hb hby own_d19_31) kt) ?_
          by_cases hc16 : (57 : Int32) < p1
          · refine own_go (g' := (mkF m 36 #[.val (.int p1)] [])) (fun t kt => XS.icmpNo X0.here hx rfl (hb hby own_d19_33) rfl (tlt hc16).2.2.2 kt) ?_
            refine own_go (g' := (mkF m 37 #[.val (.int p1)] [(.int p1)])) (fun t kt => XS.iloadN X0.here hx rfl (hb hby own_d19_36) rfl kt) ?_
            refine own_go (g' := (mkF m 39 #[.val (.int p1)] [(.int (46 : Int32)), (.int p1)])) (fun t kt => XS.bipush X0.here hx rfl (hb hby own_d19_37) kt) ?_
            by_cases hc17 : p1 = (46 : Int32)
            · refine own_go (g' := (mkF m 54 #[.val (.int p1)] [])) (fun t kt => XS.icmpYes X0.here hx rfl (pc0 := 39) (pc' := 54) rfl (hb hby own_d19_39) rfl (teq hc17).1 (by decide) (by decide) kt) ?_
              refine own_go (g' := (mkF m 55 #[.val (.int p1)] [(.int (1 : Int32))])) (fun t kt => XS.iconst X0.here hx rfl (hb hby own_d19_54) kt) ?_
              refine own_go (g' := (mkF m 59 #[.val (.int p1)] [(.int (1 : Int32))])) (fun t kt => XS.goto X0.here hx rfl (pc0 := 55) (pc' := 59) rfl (hb hby own_d19_55) (by decide) (by decide) kt) ?_
              exact own_retN X0 hx hlk (t := .boolean) (z' := (1 : Int32)) hret (by simp) (hb hby own_d19_59) rfl e0 N0 (by decide) (by decide) (⟨by simp only [own_isn, own_i1, own_i2, own_i3, eq_true hc1, eq_false hc2, eq_true hc11, eq_false hc12, eq_true hc16, eq_true hc17, if_true, if_false], rfl⟩)
            · refine own_go (g' := (mkF m 42 #[.val (.int p1)] [])) (fun t kt => XS.icmpNo X0.here hx rfl (hb hby own_d19_39) rfl (feq hc17).1 kt) ?_
              refine own_go (g' := (mkF m 43 #[.val (.int p1)] [(.int p1)])) (fun t kt => XS.iloadN X0.here hx rfl (hb hby own_d19_42) rfl kt) ?_
              refine own_go (g' := (mkF m 45 #[.val (.int p1)] [(.int (95 : Int32)), (.int p1)])) (fun t kt => XS.bipush X0.here hx rfl (hb hby own_d19_43) kt) ?_
              by_cases hc18 : p1 = (95 : Int32)
              · refine own_go (g' := (mkF m 54 #[.val (.int p1)] [])) (fun t kt => XS.icmpYes X0.here hx rfl (pc0 := 45) (pc' := 54) rfl (hb hby own_d19_45) rfl (teq hc18).1 (by decide) (by decide) kt) ?_
                refine own_go (g' := (mkF m 55 #[.val (.int p1)] [(.int (1 : Int32))])) (fun t kt => XS.iconst X0.here hx rfl (hb hby own_d19_54) kt) ?_
                refine own_go (g' := (mkF m 59 #[.val (.int p1)] [(.int (1 : Int32))])) (fun t kt => XS.goto X0.here hx rfl (pc0 := 55) (pc' := 59) rfl (hb hby own_d19_55) (by decide) (by decide) kt) ?_
                exact own_retN X0 hx hlk (t := .boolean) (z' := (1 : Int32)) hret (by simp) (hb hby own_d19_59) rfl e0 N0 (by decide) (by decide) (⟨by simp only [own_isn, own_i1, own_i2, own_i3, eq_true hc1, eq_false hc2, eq_true hc11, eq_false hc12, eq_true hc16, eq_false hc17, eq_true hc18, if_true, if_false], rfl⟩)
              · refine own_go (g' := (mkF m 48 #[.val (.int p1)] [])) (fun t kt => XS.icmpNo X0.here hx rfl (hb hby own_d19_45) rfl (feq hc18).1 kt) ?_
                refine own_go (g' := (mkF m 49 #[.val (.int p1)] [(.int p1)])) (fun t kt => XS.iloadN X0.here hx rfl (hb hby own_d19_48) rfl kt) ?_
                refine own_go (g' := (mkF m 51 #[.val (.int p1)] [(.int (45 : Int32)), (.int p1)])) (fun t kt => XS.bipush X0.here hx rfl (hb hby own_d19_49) kt) ?_
                by_cases hc19 : p1 = (45 : Int32)
                · refine own_go (g' := (mkF m 54 #[.val (.int p1)] [])) (fun t kt => XS.icmpNo X0.here hx rfl (hb hby own_d19_51) rfl (teq hc19).2 kt) ?_
                  refine own_go (g' := (mkF m 55 #[.val (.int p1)] [(.int (1 : Int32))])) (fun t kt => XS.iconst X0.here hx rfl (hb hby own_d19_54) kt) ?_
                  refine own_go (g' := (mkF m 59 #[.val (.int p1)] [(.int (1 : Int32))])) (fun t kt => XS.goto X0.here hx rfl (pc0 := 55) (pc' := 59) rfl (hb hby own_d19_55) (by decide) (by decide) kt) ?_
                  exact own_retN X0 hx hlk (t := .boolean) (z' := (1 : Int32)) hret (by simp) (hb hby own_d19_59) rfl e0 N0 (by decide) (by decide) (⟨by simp only [own_isn, own_i1, own_i2, own_i3, eq_true hc1, eq_false hc2, eq_true hc11, eq_false hc12, eq_true hc16, eq_false hc17, eq_false hc18, eq_true hc19, if_true, if_false], rfl⟩)
                · refine own_go (g' := (mkF m 58 #[.val (.int p1)] [])) (fun t kt => XS.icmpYes X0.here hx rfl (pc0 := 51) (pc' := 58) rfl (hb hby own_d19_51) rfl (feq hc19).2 (by decide) (by decide) kt) ?_
                  refine own_go (g' := (mkF m 59 #[.val (.int p1)] [(.int (0 : Int32))])) (fun t kt => XS.iconst X0.here hx rfl (hb hby own_d19_58) kt) ?_
                  exact own_retN X0 hx hlk (t := .boolean) (z' := (0 : Int32)) hret (by simp) (hb hby own_d19_59) rfl e0 N0 (by decide) (by decide) (⟨by simp only [own_isn, own_i1, own_i2, own_i3, eq_true hc1, eq_false hc2, eq_true hc11, eq_false hc12, eq_true hc16, eq_false hc17, eq_false hc18, eq_false hc19, if_true, if_false], rfl⟩)
          · refine own_go (g' := (mkF m 54 #[.val (.int p1)] [])) (fun t kt => XS.icmpYes X0.here hx rfl (pc0 := 33) (pc' := 54) rfl (hb hby own_d19_33) rfl (flt hc16).2.2.2 (by decide) (by decide) kt) ?_
            refine own_go (g' := (mkF m 55 #[.val (.int p1)] [(.int (1 : Int32))])) (fun t kt => XS.iconst X0.here hx rfl (hb hby own_d19_54) kt) ?_
            refine own_go (g' := (mkF m 59 #[.val (.int p1)] [(.int (1 : Int32))])) (fun t kt => XS.goto X0.here hx rfl (pc0 := 55) (pc' := 59) rfl (hb hby own_d19_55) (by decide) (by decide) kt) ?_
            exact own_retN X0 hx hlk (t := .boolean) (z' := (1 : Int32)) hret (by simp) (hb hby own_d19_59) rfl e0 N0 (by decide) (by decide) (⟨by simp only [own_isn, own_i1, own_i2, own_i3, eq_true hc1, eq_false hc2, eq_true hc11, eq_false hc12, eq_false hc16, if_true, if_false], rfl⟩)
      · refine own_go (g' := (mkF m 54 #[.val (.int p1)] [])) (fun t kt => XS.icmpYes X0.here hx rfl (pc0 := 21) (pc' := 54) rfl (hb hby own_d19_21) rfl (flt hc11).2.2.2 (by decide) (by decide) kt) ?_
        refine own_go (g' := (mkF m 55 #[.val (.int p1)] [(.int (1 : Int32))])) (fun t kt => XS.iconst X0.here hx rfl (hb hby own_d19_54) kt) ?_
        refine own_go (g' := (mkF m 59 #[.val (.int p1)] [(.int (1 : Int32))])) (fun t kt => XS.goto X0.here hx rfl (pc0 := 55) (pc' := 59) rfl (hb hby own_d19_55) (by decide) (by decide) kt) ?_
        exact own_retN X0 hx hlk (t := .boolean) (z' := (1 : Int32)) hret (by simp) (hb hby own_d19_59) rfl e0 N0 (by decide) (by decide) (⟨by simp only [own_isn, own_i1, own_i2, own_i3, eq_true hc1, eq_false hc2, eq_false hc11, if_true, if_false], rfl⟩)
  · refine own_go (g' := (mkF m 6 #[.val (.int p1)] [])) (fun t kt => XS.icmpNo X0.here hx rfl (hb hby own_d19_3) rfl (flt hc1).1 kt) ?_
    refine own_go (g' := (mkF m 7 #[.val (.int p1)] [(.int p1)])) (fun t kt => XS.iloadN X0.here hx rfl (hb hby own_d19_6) rfl kt) ?_
    refine own_go (g' := (mkF m 9 #[.val (.int p1)] [(.int (90 : Int32)), (.int p1)])) (fun t kt => XS.bipush X0.here hx rfl (hb hby own_d19_7) kt) ?_
    by_cases hc20 : (90 : Int32) < p1
    · refine own_go (g' := (mkF m 12 #[.val (.int p1)] [])) (fun t kt => XS.icmpNo X0.here hx rfl (hb hby own_d19_9) rfl (tlt hc20).2.2.2 kt) ?_
      refine own_go (g' := (mkF m 13 #[.val (.int p1)] [(.int p1)])) (fun t kt => XS.iloadN X0.here hx rfl (hb hby own_d19_12) rfl kt) ?_
      refine own_go (g' := (mkF m 15 #[.val (.int p1)] [(.int (97 : Int32)), (.int p1)])) (fun t kt => XS.bipush X0.here hx rfl (hb hby own_d19_13) kt) ?_
      by_cases hc21 : p1 < (97 : Int32)
      · refine own_go (g' := (mkF m 24 #[.val (.int p1)] [])) (fun t kt => XS.icmpYes X0.here hx rfl (pc0 := 15) (pc' := 24) rfl (hb hby own_d19_15) rfl (tlt hc21).1 (by decide) (by decide) kt) ?_
        refine own_go (g' := (mkF m 25 #[.val (.int p1)] [(.int p1)])) (fun t kt => XS.iloadN X0.here hx rfl (hb hby own_d19_24) rfl kt) ?_
        refine own_go (g' := (mkF m 27 #[.val (.int p1)] [(.int (48 : Int32)), (.int p1)])) (fun t kt => XS.bipush X0.here hx rfl (hb hby own_d19_25) kt) ?_
        by_cases hc22 : p1 < (48 : Int32)
        · refine own_go (g' := (mkF m 36 #[.val (.int p1)] [])) (fun t kt => XS.icmpYes X0.here hx rfl (pc0 := 27) (pc' := 36) rfl (hb hby own_d19_27) rfl (tlt hc22).1 (by decide) (by decide) kt) ?_
          refine own_go (g' := (mkF m 37 #[.val (.int p1)] [(.int p1)])) (fun t kt => XS.iloadN X0.here hx rfl (hb hby own_d19_36) rfl kt) ?_
          refine own_go (g' := (mkF m 39 #[.val (.int p1)] [(.int (46 : Int32)), (.int p1)])) (fun t kt => XS.bipush X0.here hx rfl (hb hby own_d19_37) kt) ?_
          by_cases hc23 : p1 = (46 : Int32)
          · refine own_go (g' := (mkF m 54 #[.val (.int p1)] [])) (fun t kt => XS.icmpYes X0.here hx rfl (pc0 := 39) (pc' := 54) rfl (hb hby own_d19_39) rfl (teq hc23).1 (by decide) (by decide) kt) ?_
            refine own_go (g' := (mkF m 55 #[.val (.int p1)] [(.int (1 : Int32))])) (fun t kt => XS.iconst X0.here hx rfl (hb hby own_d19_54) kt) ?_
            refine own_go (g' := (mkF m 59 #[.val (.int p1)] [(.int (1 : Int32))])) (fun t kt => XS.goto X0.here hx rfl (pc0 := 55) (pc' := 59) rfl (hb hby own_d19_55) (by decide) (by decide) kt) ?_
            exact own_retN X0 hx hlk (t := .boolean) (z' := (1 : Int32)) hret (by simp) (hb hby own_d19_59) rfl e0 N0 (by decide) (by decide) (⟨by simp only [own_isn, own_i1, own_i2, own_i3, eq_false hc1, eq_true hc20, eq_true hc21, eq_true hc22, eq_true hc23, if_true, if_false], rfl⟩)
          · refine own_go (g' := (mkF m 42 #[.val (.int p1)] [])) (fun t kt => XS.icmpNo X0.here hx rfl (hb hby own_d19_39) rfl (feq hc23).1 kt) ?_
            refine own_go (g' := (mkF m 43 #[.val (.int p1)] [(.int p1)])) (fun t kt => XS.iloadN X0.here hx rfl (hb hby own_d19_42) rfl kt) ?_
            refine own_go (g' := (mkF m 45 #[.val (.int p1)] [(.int (95 : Int32)), (.int p1)])) (fun t kt => XS.bipush X0.here hx rfl (hb hby own_d19_43) kt) ?_
            by_cases hc24 : p1 = (95 : Int32)
            · refine own_go (g' := (mkF m 54 #[.val (.int p1)] [])) (fun t kt => XS.icmpYes X0.here hx rfl (pc0 := 45) (pc' := 54) rfl (hb hby own_d19_45) rfl (teq hc24).1 (by decide) (by decide) kt) ?_
              refine own_go (g' := (mkF m 55 #[.val (.int p1)] [(.int (1 : Int32))])) (fun t kt => XS.iconst X0.here hx rfl (hb hby own_d19_54) kt) ?_
              refine own_go (g' := (mkF m 59 #[.val (.int p1)] [(.int (1 : Int32))])) (fun t kt => XS.goto X0.here hx rfl (pc0 := 55) (pc' := 59) rfl (hb hby own_d19_55) (by decide) (by decide) kt) ?_
              exact own_retN X0 hx hlk (t := .boolean) (z' := (1 : Int32)) hret (by simp) (hb hby own_d19_59) rfl e0 N0 (by decide) (by decide) (⟨by simp only [own_isn, own_i1, own_i2, own_i3, eq_false hc1, eq_true hc20, eq_true hc21, eq_true hc22, eq_false hc23, eq_true hc24, if_true, if_false], rfl⟩)
            · refine own_go (g' := (mkF m 48 #[.val (.int p1)] [])) (fun t kt => XS.icmpNo X0.here hx rfl (hb hby own_d19_45) rfl (feq hc24).1 kt) ?_
              refine own_go (g' := (mkF m 49 #[.val (.int p1)] [(.int p1)])) (fun t kt => XS.iloadN X0.here hx rfl (hb hby own_d19_48) rfl kt) ?_
              refine own_go (g' := (mkF m 51 #[.val (.int p1)] [(.int (45 : Int32)), (.int p1)])) (fun t kt => XS.bipush X0.here hx rfl (hb hby own_d19_49) kt) ?_
              by_cases hc25 : p1 = (45 : Int32)
              · refine own_go (g' := (mkF m 54 #[.val (.int p1)] [])) (fun t kt => XS.icmpNo X0.here hx rfl (hb hby own_d19_51) rfl (teq hc25).2 kt) ?_
                refine own_go (g' := (mkF m 55 #[.val (.int p1)] [(.int (1 : Int32))])) (fun t kt => XS.iconst X0.here hx rfl (hb hby own_d19_54) kt) ?_
                refine own_go (g' := (mkF m 59 #[.val (.int p1)] [(.int (1 : Int32))])) (fun t kt => XS.goto X0.here hx rfl (pc0 := 55) (pc' := 59) rfl (hb hby own_d19_55) (by decide) (by decide) kt) ?_
                exact own_retN X0 hx hlk (t := .boolean) (z' := (1 : Int32)) hret (by simp) (hb hby own_d19_59) rfl e0 N0 (by decide) (by decide) (⟨by simp only [own_isn, own_i1, own_i2, own_i3, eq_false hc1, eq_true hc20, eq_true hc21, eq_true hc22, eq_false hc23, eq_false hc24, eq_true hc25, if_true, if_false], rfl⟩)
              · refine own_go (g' := (mkF m 58 #[.val (.int p1)] [])) (fun t kt => XS.icmpYes X0.here hx rfl (pc0 := 51) (pc' := 58) rfl (hb hby own_d19_51) rfl (feq hc25).2 (by decide) (by decide) kt) ?_
                refine own_go (g' := (mkF m 59 #[.val (.int p1)] [(.int (0 : Int32))])) (fun t kt => XS.iconst X0.here hx rfl (hb hby own_d19_58) kt) ?_
                exact own_retN X0 hx hlk (t := .boolean) (z' := (0 : Int32)) hret (by simp) (hb hby own_d19_59) rfl e0 N0 (by decide) (by decide) (⟨by simp only [own_isn, own_i1, own_i2, own_i3, eq_false hc1, eq_true hc20, eq_true hc21, eq_true hc22, eq_false hc23, eq_false hc24, eq_false hc25, if_true, if_false], rfl⟩)
        · refine own_go (g' := (mkF m 30 #[.val (.int p1)] [])) (fun t kt => XS.icmpNo X0.here hx rfl (hb hby own_d19_27) rfl (flt hc22).1 kt) ?_
          refine own_go (g' := (mkF m 31 #[.val (.int p1)] [(.int p1)])) (fun t kt => XS.iloadN X0.here hx rfl (hb hby own_d19_30) rfl kt) ?_
          refine own_go (g' := (mkF m 33 #[.val (.int p1)] [(.int (57 : Int32)), (.int p1)])) (fun t kt => XS.bipush X0.here hx rfl (hb hby own_d19_31) kt) ?_
          by_cases hc26 : (57 : Int32) < p1
          · refine own_go (g' := (mkF m 36 #[.val (.int p1)] [])) (fun t kt => XS.icmpNo X0.here hx rfl (hb hby own_d19_33) rfl (tlt hc26).2.2.2 kt) ?_
            refine own_go (g' := (mkF m 37 #[.val (.int p1)] [(.int p1)])) (fun t kt => XS.iloadN X0.here hx rfl (hb hby own_d19_36) rfl kt) ?_
            refine own_go (g' := (mkF m 39 #[.val (.int p1)] [(.int (46 : Int32)), (.int p1)])) (fun t kt => XS.bipush X0.here hx rfl (hb hby own_d19_37) kt) ?_
            by_cases hc27 : p1 = (46 : Int32)
            · refine own_go (g' := (mkF m 54 #[.val (.int p1)] [])) (fun t kt => XS.icmpYes X0.here hx rfl (pc0 := 39) (pc' := 54) rfl (hb hby own_d19_39) rfl (teq hc27).1 (by decide) (by decide) kt) ?_
              refine own_go (g' := (mkF m 55 #[.val (.int p1)] [(.int (1 : Int32))])) (fun t kt => XS.iconst X0.here hx rfl (hb hby own_d19_54) kt) ?_
              refine own_go (g' := (mkF m 59 #[.val (.int p1)] [(.int (1 : Int32))])) (fun t kt => XS.goto X0.here hx rfl (pc0 := 55) (pc' := 59) rfl (hb hby own_d19_55) (by decide) (by decide) kt) ?_
              exact own_retN X0 hx hlk (t := .boolean) (z' := (1 : Int32)) hret (by simp) (hb hby own_d19_59) rfl e0 N0 (by decide) (by decide) (⟨by simp only [own_isn, own_i1, own_i2, own_i3, eq_false hc1, eq_true hc20, eq_true hc21, eq_false hc22, eq_true hc26, eq_true hc27, if_true, if_false], rfl⟩)
            · refine own_go (g' := (mkF m 42 #[.val (.int p1)] [])) (fun t kt => XS.icmpNo X0.here hx rfl (hb hby own_d19_39) rfl (feq hc27).1 kt) ?_
              refine own_go (g' := (mkF m 43 #[.val (.int p1)] [(.int p1)])) (fun t kt => XS.iloadN X0.here hx rfl (hb hby own_d19_42) rfl kt) ?_
              refine own_go (g' := (mkF m 45 #[.val (.int p1)] [(.int (95 : Int32)), (.int p1)])) (fun t kt => XS.bipush X0.here hx rfl (hb hby own_d19_43) kt) ?_
              by_cases hc28 : p1 = (95 : Int32)
              · refine own_go (g' := (mkF m 54 #[.val (.int p1)] [])) (fun t kt => XS.icmpYes X0.here hx rfl (pc0 := 45) (pc' := 54) rfl (hb hby own_d19_45) rfl (teq hc28).1 (by decide) (by decide) kt) ?_
                refine own_go (g' := (mkF m 55 #[.val (.int p1)] [(.int (1 : Int32))])) (fun t kt => XS.iconst X0.here hx rfl (hb hby own_d19_54) kt) ?_
                refine own_go (g' := (mkF m 59 #[.val (.int p1)] [(.int (1 : Int32))])) (fun t kt => XS.goto X0.here hx rfl (pc0 := 55) (pc' := 59) rfl (hb hby own_d19_55) (by decide) (by decide) kt) ?_
                exact own_retN X0 hx hlk (t := .boolean) (z' := (1 : Int32)) hret (by simp) (hb hby own_d19_59) rfl e0 N0 (by decide) (by decide) (⟨by simp only [own_isn, own_i1, own_i2, own_i3, eq_false hc1, eq_true hc20, eq_true hc21, eq_false hc22, eq_true hc26, eq_false hc27, eq_true hc28, if_true, if_false], rfl⟩)
              · refine own_go (g' := (mkF m 48 #[.val (.int p1)] [])) (fun t kt => XS.icmpNo X0.here hx rfl (hb hby own_d19_45) rfl (feq hc28).1 kt) ?_
                refine own_go (g' := (mkF m 49 #[.val (.int p1)] [(.int p1)])) (fun t kt => XS.iloadN X0.here hx rfl (hb hby own_d19_48) rfl kt) ?_
                refine own_go (g' := (mkF m 51 #[.val (.int p1)] [(.int (45 : Int32)), (.int p1)])) (fun t kt => XS.bipush X0.here hx rfl (hb hby own_d19_49) kt) ?_
                by_cases hc29 : p1 = (45 : Int32)
                · refine own_go (g' := (mkF m 54 #[.val (.int p1)] [])) (fun t kt => XS.icmpNo X0.here hx rfl (hb hby own_d19_51) rfl (teq hc29).2 kt) ?_
                  refine own_go (g' := (mkF m 55 #[.val (.int p1)] [(.int (1 : Int32))])) (fun t kt => XS.iconst X0.here hx rfl (hb hby own_d19_54) kt) ?_
                  refine own_go (g' := (mkF m 59 #[.val (.int p1)] [(.int (1 : Int32))])) (fun t kt => XS.goto X0.here hx rfl (pc0 := 55) (pc' := 59) rfl (hb hby own_d19_55) (by decide) (by decide) kt) ?_
                  exact own_retN X0 hx hlk (t := .boolean) (z' := (1 : Int32)) hret (by simp) (hb hby own_d19_59) rfl e0 N0 (by decide) (by decide) (⟨by simp only [own_isn, own_i1, own_i2, own_i3, eq_false hc1, eq_true hc20, eq_true hc21, eq_false hc22, eq_true hc26, eq_false hc27, eq_false hc28, eq_true hc29, if_true, if_false], rfl⟩)
                · refine own_go (g' := (mkF m 58 #[.val (.int p1)] [])) (fun t kt => XS.icmpYes X0.here hx rfl (pc0 := 51) (pc' := 58) rfl (hb hby own_d19_51) rfl (feq hc29).2 (by decide) (by decide) kt) ?_
                  refine own_go (g' := (mkF m 59 #[.val (.int p1)] [(.int (0 : Int32))])) (fun t kt => XS.iconst X0.here hx rfl (hb hby own_d19_58) kt) ?_
                  exact own_retN X0 hx hlk (t := .boolean) (z' := (0 : Int32)) hret (by simp) (hb hby own_d19_59) rfl e0 N0 (by decide) (by decide) (⟨by simp only [own_isn, own_i1, own_i2, own_i3, eq_false hc1, eq_true hc20, eq_true hc21, eq_false hc22, eq_true hc26, eq_false hc27, eq_false hc28, eq_false hc29, if_true, if_false], rfl⟩)
          · refine own_go (g' := (mkF m 54 #[.val (.int p1)] [])) (fun t kt => XS.icmpYes X0.here hx rfl (pc0 := 33) (pc' := 54) rfl (hb hby own_d19_33) rfl (flt hc26).2.2.2 (by decide) (by decide) kt) ?_
            refine own_go (g' := (mkF m 55 #[.val (.int p1)] [(.int (1 : Int32))])) (fun t kt => XS.iconst X0.here hx rfl (hb hby own_d19_54) kt) ?_
            refine own_go (g' := (mkF m 59 #[.val (.int p1)] [(.int (1 : Int32))])) (fun t kt => XS.goto X0.here hx rfl (pc0 := 55) (pc' := 59) rfl (hb hby own_d19_55) (by decide) (by decide) kt) ?_
            exact own_retN X0 hx hlk (t := .boolean) (z' := (1 : Int32)) hret (by simp) (hb hby own_d19_59) rfl e0 N0 (by decide) (by decide) (⟨by simp only [own_isn, own_i1, own_i2, own_i3, eq_false hc1, eq_true hc20, eq_true hc21, eq_false hc22, eq_false hc26, if_true, if_false], rfl⟩)
      · refine own_go (g' := (mkF m 18 #[.val (.int p1)] [])) (fun t kt => XS.icmpNo X0.here hx rfl (hb hby own_d19_15) rfl (flt hc21).1 kt) ?_
        refine own_go (g' := (mkF m 19 #[.val (.int p1)] [(.int p1)])) (fun t kt => XS.iloadN X0.here hx rfl (hb hby own_d19_18) rfl kt) ?_
        refine own_go (g' := (mkF m 21 #[.val (.int p1)] [(.int (122 : Int32)), (.int p1)])) (fun t kt => XS.bipush X0.here hx rfl (hb hby own_d19_19) kt) ?_
        by_cases hc30 : (122 : Int32) < p1
        · refine own_go (g' := (mkF m 24 #[.val (.int p1)] [])) (fun t kt => XS.icmpNo X0.here hx rfl (hb hby own_d19_21) rfl (tlt hc30).2.2.2 kt) ?_
          refine own_go (g' := (mkF m 25 #[.val (.int p1)] [(.int p1)])) (fun t kt => XS.iloadN X0.here hx rfl (hb hby own_d19_24) rfl kt) ?_
          refine own_go (g' := (mkF m 27 #[.val (.int p1)] [(.int (48 : Int32)), (.int p1)])) (fun t kt => XS.bipush X0.here hx rfl (hb hby own_d19_25) kt) ?_
          by_cases hc31 : p1 < (48 : Int32)
          · refine own_go (g' := (mkF m 36 #[.val (.int p1)] [])) (fun t kt => XS.icmpYes X0.here hx rfl (pc0 := 27) (pc' := 36) rfl (hb hby own_d19_27) rfl (tlt hc31).1 (by decide) (by decide) kt) ?_
            refine own_go (g' := (mkF m 37 #[.val (.int p1)] [(.int p1)])) (fun t kt => XS.iloadN X0.here hx rfl (hb hby own_d19_36) rfl kt) ?_
            refine own_go (g' := (mkF m 39 #[.val (.int p1)] [(.int (46 : Int32)), (.int p1)])) (fun t kt => XS.bipush X0.here hx rfl (hb hby own_d19_37) kt) ?_
            by_cases hc32 : p1 = (46 : Int32)
            · refine own_go (g' := (mkF m 54 #[.val (.int p1)] [])) (fun t kt => XS.icmpYes X0.here hx rfl (pc0 := 39) (pc' := 54) rfl (hb hby own_d19_39) rfl (teq hc32).1 (by decide) (by decide) kt) ?_
              refine own_go (g' := (mkF m 55 #[.val (.int p1)] [(.int (1 : Int32))])) (fun t kt => XS.iconst X0.here hx rfl (hb hby own_d19_54) kt) ?_
              refine own_go (g' := (mkF m 59 #[.val (.int p1)] [(.int (1 : Int32))])) (fun t kt => XS.goto X0.here hx rfl (pc0 := 55) (pc' := 59) rfl (hb hby own_d19_55) (by decide) (by decide) kt) ?_
              exact own_retN X0 hx hlk (t := .boolean) (z' := (1 : Int32)) hret (by simp) (hb hby own_d19_59) rfl e0 N0 (by decide) (by decide) (⟨by simp only [own_isn, own_i1, own_i2, own_i3, eq_false hc1, eq_true hc20, eq_false hc21, eq_true hc30, eq_true hc31, eq_true hc32, if_true, if_false], rfl⟩)
            · refine own_go (g' := (mkF m 42 #[.val (.int p1)] [])) (fun t kt => XS.icmpNo X0.here hx rfl (hb hby own_d19_39) rfl (feq hc32).1 kt) ?_
              refine own_go (g' := (mkF m 43 #[.val (.int p1)] [(.int p1)])) (fun t kt => XS.iloadN X0.here hx rfl (hb hby own_d19_42) rfl kt) ?_
              refine own_go (g' := (mkF m 45 #[.val (.int p1)] [(.int (95 : Int32)), (.int p1)])) (fun t kt => XS.bipush X0.here hx rfl (hb hby own_d19_43) kt) ?_
              by_cases hc33 : p1 = (95 : Int32)
              · refine own_go (g' := (mkF m 54 #[.val (.int p1)] [])) (fun t kt => XS.icmpYes X0.here hx rfl (pc0 := 45) (pc' := 54) rfl (hb hby own_d19_45) rfl (teq hc33).1 (by decide) (by decide) kt) ?_
                refine own_go (g' := (mkF m 55 #[.val (.int p1)] [(.int (1 : Int32))])) (fun t kt => XS.iconst X0.here hx rfl (hb hby own_d19_54) kt) ?_
                refine own_go (g' := (mkF m 59 #[.val (.int p1)] [(.int (1 : Int32))])) (fun t kt => XS.goto X0.here hx rfl (pc0 := 55) (pc' := 59) rfl (hb hby own_d19_55) (by decide) (by decide) kt) ?_
                exact own_retN X0 hx hlk (t := .boolean) (z' := (1 : Int32)) hret (by simp) (hb hby own_d19_59) rfl e0 N0 (by decide) (by decide) (⟨by simp only [own_isn, own_i1, own_i2, own_i3, eq_false hc1, eq_true hc20, eq_false hc21, eq_true hc30, eq_true hc31, eq_false hc32, eq_true hc33, if_true, if_false], rfl⟩)
              · refine own_go (g' := (mkF m 48 #[.val (.int p1)] [])) (fun t kt => XS.icmpNo X0.here hx rfl (hb hby own_d19_45) rfl (feq hc33).1 kt) ?_
                refine own_go (g' := (mkF m 49 #[.val (.int p1)] [(.int p1)])) (fun t kt => XS.iloadN X0.here hx rfl (hb hby own_d19_48) rfl kt) ?_
                refine own_go (g' := (mkF m 51 #[.val (.int p1)] [(.int (45 : Int32)), (.int p1)])) (fun t kt => XS.bipush X0.here hx rfl (hb hby own_d19_49) kt) ?_
                by_cases hc34 : p1 = (45 : Int32)
                · refine own_go (g' := (mkF m 54 #[.val (.int p1)] [])) (fun t kt => XS.icmpNo X0.here hx rfl (hb hby own_d19_51) rfl (teq hc34).2 kt) ?_
                  refine own_go (g' := (mkF m 55 #[.val (.int p1)] [(.int (1 : Int32))])) (fun t kt => XS.iconst X0.here hx rfl (hb hby own_d19_54) kt) ?_
                  refine own_go (g' := (mkF m 59 #[.val (.int p1)] [(.int (1 : Int32))])) (fun t kt => XS.goto X0.here hx rfl (pc0 := 55) (pc' := 59) rfl (hb hby own_d19_55) (by decide) (by decide) kt) ?_
                  exact own_retN X0 hx hlk (t := .boolean) (z' := (1 : Int32)) hret (by simp) (hb hby own_d19_59) rfl e0 N0 (by decide) (by decide) (⟨by simp only [own_isn, own_i1, own_i2, own_i3, eq_false hc1, eq_true hc20, eq_false hc21, eq_true hc30, eq_true hc31, eq_false hc32, eq_false hc33, eq_true hc34, if_true, if_false], rfl⟩)
                · refine own_go (g' := (mkF m 58 #[.val (.int p1)] [])) (fun t kt => XS.icmpYes X0.here hx rfl (pc0 := 51) (pc' := 58) rfl (hb hby own_d19_51) rfl (feq hc34).2 (by decide) (by decide) kt) ?_
                  refine own_go (g' := (mkF m 59 #[.val (.int p1)] [(.int (0 : Int32))])) (fun t kt => XS.iconst X0.here hx rfl (hb hby own_d19_58) kt) ?_
                  exact own_retN X0 hx hlk (t := .boolean) (z' := (0 : Int32)) hret (by simp) (hb hby own_d19_59) rfl e0 N0 (by decide) (by decide) (⟨by simp only [own_isn, own_i1, own_i2, own_i3, eq_false hc1, eq_true hc20, eq_false hc21, eq_true hc30, eq_true hc31, eq_false hc32, eq_false hc33, eq_false hc34, if_true, if_false], rfl⟩)
          · refine own_go (g' := (mkF m 30 #[.val (.int p1)] [])) (fun t kt => XS.icmpNo X0.here hx rfl (hb hby own_d19_27) rfl (flt hc31).1 kt) ?_
            refine own_go (g' := (mkF m 31 #[.val (.int p1)] [(.int p1)])) (fun t kt => XS.iloadN X0.here hx rfl (hb hby own_d19_30) rfl kt) ?_
            refine own_go (g' := (mkF m 33 #[.val (.int p1)] [(.int (57 : Int32)), (.int p1)])) (fun t kt => XS.bipush X0.here hx rfl (hb hby own_d19_31) kt) ?_
            by_cases hc35 : (57 : Int32) < p1
            · refine own_go (g' := (mkF m 36 #[.val (.int p1)] [])) (fun t kt => XS.icmpNo X0.here hx rfl (hb hby own_d19_33) rfl (tlt hc35).2.2.2 kt) ?_
              refine own_go (g' := (mkF m 37 #[.val (.int p1)] [(.int p1)])) (fun t kt => XS.iloadN X0.here hx rfl (hb hby own_d19_36) rfl kt) ?_
              refine own_go (g' := (mkF m 39 #[.val (.int p1)] [(.int (46 : Int32)), (.int p1)])) (fun t kt => XS.bipush X0.here hx rfl (hb hby own_d19_37) kt) ?_
              by_cases hc36 : p1 = (46 : Int32)
              · refine own_go (g' := (mkF m 54 #[.val (.int p1)] [])) (fun t kt => XS.icmpYes X0.here hx rfl (pc0 := 39) (pc' := 54) rfl (hb hby own_d19_39) rfl (teq hc36).1 (by decide) (by decide) kt) ?_
                refine own_go (g' := (mkF m 55 #[.val (.int p1)] [(.int (1 : Int32))])) (fun t kt => XS.iconst X0.here hx rfl (hb hby own_d19_54) kt) ?_
                refine own_go (g' := (mkF m 59 #[.val (.int p1)] [(.int (1 : Int32))])) (fun t kt => XS.goto X0.here hx rfl (pc0 := 55) (pc' := 59) rfl (hb hby own_d19_55) (by decide) (by decide) kt) ?_
                exact own_retN X0 hx hlk (t := .boolean) (z' := (1 : Int32)) hret (by simp) (hb hby own_d19_59) rfl e0 N0 (by decide) (by decide) (⟨by simp only [own_isn, own_i1, own_i2, own_i3, eq_false hc1, eq_true hc20, eq_false hc21, eq_true hc30, eq_false hc31, eq_true hc35, eq_true hc36, if_true, if_false], rfl⟩)
              · refine own_go (g' := (mkF m 42 #[.val (.int p1)] [])) (fun t kt => XS.icmpNo X0.here hx rfl (hb hby own_d19_39) rfl (feq hc36).1 kt) ?_
                refine own_go (g' := (mkF m 43 #[.val (.int p1)] [(.int p1)])) (fun t kt => XS.iloadN X0.here hx rfl (hb hby own_d19_42) rfl kt) ?_
                refine own_go (g' := (mkF m 45 #[.val (.int p1)] [(.int (95 : Int32)), (.int p1)])) (fun t kt => XS.bipush X0.here hx rfl (hb hby own_d19_43) kt) ?_
                by_cases hc37 : p1 = (95 : Int32)
                · refine own_go (g' := (mkF m 54 #[.val (.int p1)] [])) (fun t kt => XS.icmpYes X0.here hx rfl (pc0 := 45) (pc' := 54) rfl (hb hby own_d19_45) rfl (teq hc37).1 (by decide) (by decide) kt) ?_
                  refine own_go (g' := (mkF m 55 #[.val (.int p1)] [(.int (1 : Int32))])) (fun t kt => XS.iconst X0.here hx rfl (hb hby own_d19_54) kt) ?_
                  refine own_go (g' := (mkF m 59 #[.val (.int p1)] [(.int (1 : Int32))])) (fun t kt => XS.goto X0.here hx rfl (pc0 := 55) (pc' := 59) rfl (hb hby own_d19_55) (by decide) (by decide) kt) ?_
                  exact own_retN X0 hx hlk (t := .boolean) (z' := (1 : Int32)) hret (by simp) (hb hby own_d19_59) rfl e0 N0 (by decide) (by decide) (⟨by simp only [own_isn, own_i1, own_i2, own_i3, eq_false hc1, eq_true hc20, eq_false hc21, eq_true hc30, eq_false hc31, eq_true hc35, eq_false hc36, eq_true hc37, if_true, if_false], rfl⟩)
                · refine own_go (g' := (mkF m 48 #[.val (.int p1)] [])) (fun t kt => XS.icmpNo X0.here hx rfl (hb hby own_d19_45) rfl (feq hc37).1 kt) ?_
                  refine own_go (g' := (mkF m 49 #[.val (.int p1)] [(.int p1)])) (fun t kt => XS.iloadN X0.here hx rfl (hb hby own_d19_48) rfl kt) ?_
                  refine own_go (g' := (mkF m 51 #[.val (.int p1)] [(.int (45 : Int32)), (.int p1)])) (fun t kt => XS.bipush X0.here hx rfl (hb hby own_d19_49) kt) ?_
                  by_cases hc38 : p1 = (45 : Int32)
                  · refine own_go (g' := (mkF m 54 #[.val (.int p1)] [])) (fun t kt => XS.icmpNo X0.here hx rfl (hb hby own_d19_51) rfl (teq hc38).2 kt) ?_
                    refine own_go (g' := (mkF m 55 #[.val (.int p1)] [(.int (1 : Int32))])) (fun t kt => XS.iconst X0.here hx rfl (hb hby own_d19_54) kt) ?_
                    refine own_go (g' := (mkF m 59 #[.val (.int p1)] [(.int (1 : Int32))])) (fun t kt => XS.goto X0.here hx rfl (pc0 := 55) (pc' := 59) rfl (hb hby own_d19_55) (by decide) (by decide) kt) ?_
                    exact own_retN X0 hx hlk (t := .boolean) (z' := (1 : Int32)) hret (by simp) (hb hby own_d19_59) rfl e0 N0 (by decide) (by decide) (⟨by simp only [own_isn, own_i1, own_i2, own_i3, eq_false hc1, eq_true hc20, eq_false hc21, eq_true hc30, eq_false hc31, eq_true hc35, eq_false hc36, eq_false hc37, eq_true hc38, if_true, if_false], rfl⟩)
                  · refine own_go (g' := (mkF m 58 #[.val (.int p1)] [])) (fun t kt => XS.icmpYes X0.here hx rfl (pc0 := 51) (pc' := 58) rfl (hb hby own_d19_51) rfl (feq hc38).2 (by decide) (by decide) kt) ?_
                    refine own_go (g' := (mkF m 59 #[.val (.int p1)] [(.int (0 : Int32))])) (fun t kt => XS.iconst X0.here hx rfl (hb hby own_d19_58) kt) ?_
                    exact own_retN X0 hx hlk (t := .boolean) (z' := (0 : Int32)) hret (by simp) (hb hby own_d19_59) rfl e0 N0 (by decide) (by decide) (⟨by simp only [own_isn, own_i1, own_i2, own_i3, eq_false hc1, eq_true hc20, eq_false hc21, eq_true hc30, eq_false hc31, eq_true hc35, eq_false hc36, eq_false hc37, eq_false hc38, if_true, if_false], rfl⟩)
            · refine own_go (g' := (mkF m 54 #[.val (.int p1)] [])) (fun t kt => XS.icmpYes X0.here hx rfl (pc0 := 33) (pc' := 54) rfl (hb hby own_d19_33) rfl (flt hc35).2.2.2 (by decide) (by decide) kt) ?_
              refine own_go (g' := (mkF m 55 #[.val (.int p1)] [(.int (1 : Int32))])) (fun t kt => XS.iconst X0.here hx rfl (hb hby own_d19_54) kt) ?_
              refine own_go (g' := (mkF m 59 #[.val (.int p1)] [(.int (1 : Int32))])) (fun t kt => XS.goto X0.here hx rfl (pc0 := 55) (pc' := 59) rfl (hb hby own_d19_55) (by decide) (by decide) kt) ?_
              exact own_retN X0 hx hlk (t := .boolean) (z' := (1 : Int32)) hret (by simp) (hb hby own_d19_59) rfl e0 N0 (by decide) (by decide) (⟨by simp only [own_isn, own_i1, own_i2, own_i3, eq_false hc1, eq_true hc20, eq_false hc21, eq_true hc30, eq_false hc31, eq_false hc35, if_true, if_false], rfl⟩)
        · refine own_go (g' := (mkF m 54 #[.val (.int p1)] [])) (fun t kt => XS.icmpYes X0.here hx rfl (pc0 := 21) (pc' := 54) rfl (hb hby own_d19_21) rfl (flt hc30).2.2.2 (by decide) (by decide) kt) ?_
          refine own_go (g' := (mkF m 55 #[.val (.int p1)] [(.int (1 : Int32))])) (fun t kt => XS.iconst X0.here hx rfl (hb hby own_d19_54) kt) ?_
          refine own_go (g' := (mkF m 59 #[.val (.int p1)] [(.int (1 : Int32))])) (fun t kt => XS.goto X0.here hx rfl (pc0 := 55) (pc' := 59) rfl (hb hby own_d19_55) (by decide) (by decide) kt) ?_
          exact own_retN X0 hx hlk (t := .boolean) (z' := (1 : Int32)) hret (by simp) (hb hby own_d19_59) rfl e0 N0 (by decide) (by decide) (⟨by simp only [own_isn, own_i1, own_i2, own_i3, eq_false hc1, eq_true hc20, eq_false hc21, eq_false hc30, if_true, if_false], rfl⟩)
    · refine own_go (g' := (mkF m 54 #[.val (.int p1)] [])) (fun t kt => XS.icmpYes X0.here hx rfl (pc0 := 9) (pc' := 54) rfl (hb hby own_d19_9) rfl (flt hc20).2.2.2 (by decide) (by decide) kt) ?_
      refine own_go (g' := (mkF m 55 #[.val (.int p1)] [(.int (1 : Int32))])) (fun t kt => XS.iconst X0.here hx rfl (hb hby own_d19_54) kt) ?_
      refine own_go (g' := (mkF m 59 #[.val (.int p1)] [(.int (1 : Int32))])) (fun t kt => XS.goto X0.here hx rfl (pc0 := 55) (pc' := 59) rfl (hb hby own_d19_55) (by decide) (by decide) kt) ?_
      exact own_retN X0 hx hlk (t := .boolean) (z' := (1 : Int32)) hret (by simp) (hb hby own_d19_59) rfl e0 N0 (by decide) (by decide) (⟨by simp only [own_isn, own_i1, own_i2, own_i3, eq_false hc1, eq_false hc20, if_true, if_false], rfl⟩)
theorem own_d1_0 : decode method_2_code 0 = .ok (.iload_n 0, 1) := by decide +kernel
theorem own_d1_1 : decode method_2_code 1 = .ok (.sipush 255, 3) := by decide +kernel
theorem own_d1_4 : decode method_2_code 4 = .ok (.iand, 1) := by decide +kernel
theorem own_d1_5 : decode method_2_code 5 = .ok (.bipush 65, 2) := by decide +kernel
theorem own_d1_7 : decode method_2_code 7 = .ok (.irem, 1) := by decide +kernel
theorem own_d1_8 : decode method_2_code 8 = .ok (.istore_n 1, 1) := by decide +kernel
theorem own_d1_9 : decode method_2_code 9 = .ok (.iload_n 1, 1) := by decide +kernel
theorem own_d1_10 : decode method_2_code 10 = .ok (.bipush 26, 2) := by decide +kernel
theorem own_d1_12 : decode method_2_code 12 = .ok (.if_icmp .ge 9, 3) := by decide +kernel
theorem own_d1_15 : decode method_2_code 15 = .ok (.bipush 65, 2) := by decide +kernel
theorem own_d1_17 : decode method_2_code 17 = .ok (.iload_n 1, 1) := by decide +kernel
theorem own_d1_18 : decode method_2_code 18 = .ok (.iadd, 1) := by decide +kernel
theorem own_d1_19 : decode method_2_code 19 = .ok (.i2c, 1) := by decide +kernel
theorem own_d1_20 : decode method_2_code 20 = .ok (.ireturn, 1) := by decide +kernel
theorem own_d1_21 : decode method_2_code 21 = .ok (.iload_n 1, 1) := by decide +kernel
theorem own_d1_22 : decode method_2_code 22 = .ok (.bipush 52, 2) := by decide +kernel
theorem own_d1_24 : decode method_2_code 24 = .ok (.if_icmp .ge 12, 3) := by decide +kernel
theorem own_d1_27 : decode method_2_code 27 = .ok (.bipush 97, 2) := by decide +kernel
theorem own_d1_29 : decode method_2_code 29 = .ok (.iload_n 1, 1) := by decide +kernel
theorem own_d1_30 : decode method_2_code 30 = .ok (.bipush 26, 2) := by decide +kernel
theorem own_d1_32 : decode method_2_code 32 = .ok (.isub, 1) := by decide +kernel
theorem own_d1_33 : decode method_2_code 33 = .ok (.iadd, 1) := by decide +kernel
theorem own_d1_34 : decode method_2_code 34 = .ok (.i2c, 1) := by decide +kernel
theorem own_d1_35 : decode method_2_code 35 = .ok (.ireturn, 1) := by decide +kernel
theorem own_d1_36 : decode method_2_code 36 = .ok (.iload_n 1, 1) := by decide +kernel
theorem own_d1_37 : decode method_2_code 37 = .ok (.bipush 62, 2) := by decide +kernel
theorem own_d1_39 : decode method_2_code 39 = .ok (.if_icmp .ge 12, 3) := by decide +kernel
theorem own_d1_42 : decode method_2_code 42 = .ok (.bipush 48, 2) := by decide +kernel
theorem own_d1_44 : decode method_2_code 44 = .ok (.iload_n 1, 1) := by decide +kernel
theorem own_d1_45 : decode method_2_code 45 = .ok (.bipush 52, 2) := by decide +kernel
theorem own_d1_47 : decode method_2_code 47 = .ok (.isub, 1) := by decide +kernel
theorem own_d1_48 : decode method_2_code 48 = .ok (.iadd, 1) := by decide +kernel
theorem own_d1_49 : decode method_2_code 49 = .ok (.i2c, 1) := by decide +kernel
theorem own_d1_50 : decode method_2_code 50 = .ok (.ireturn, 1) := by decide +kernel
theorem own_d1_51 : decode method_2_code 51 = .ok (.iload_n 1, 1) := by decide +kernel
theorem own_d1_52 : decode method_2_code 52 = .ok (.bipush 62, 2) := by decide +kernel
theorem own_d1_54 : decode method_2_code 54 = .ok (.if_icmp .ne 6, 3) := by decide +kernel
theorem own_d1_57 : decode method_2_code 57 = .ok (.bipush 46, 2) := by decide +kernel
theorem own_d1_59 : decode method_2_code 59 = .ok (.ireturn, 1) := by decide +kernel
theorem own_d1_60 : decode method_2_code 60 = .ok (.iload_n 1, 1) := by decide +kernel
theorem own_d1_61 : decode method_2_code 61 = .ok (.bipush 63, 2) := by decide +kernel
theorem own_d1_63 : decode method_2_code 63 = .ok (.if_icmp .ne 6, 3) := by decide +kernel
theorem own_d1_66 : decode method_2_code 66 = .ok (.bipush 95, 2) := by decide +kernel
theorem own_d1_68 : decode method_2_code 68 = .ok (.ireturn, 1) := by decide +kernel
theorem own_d1_69 : decode method_2_code 69 = .ok (.bipush 45, 2) := by decide +kernel
theorem own_d1_71 : decode method_2_code 71 = .ok (.ireturn, 1) := by decide +kernel
theorem own_pn_1 : plainFor (⟨"com/example/nutex/nutex/LockNamesRequireValidPinLaw", "nameChar", "(I)C"⟩ : MethodName) = true := by first | exact plainFor_of_name (by first | (simp [plainName, overriddenIn]; done) | decide +kernel) | decide +kernel
theorem own_ef_own_namechar (m : MethodId) (x0 : Int32) : entryFrame m #[(.int x0)] 2 = mkF m 0 #[.val (.int x0), .unset] [] := by first | (simp [entryFrame, mkF, argsToLocals, Value.category]; done) | rfl
set_option maxRecDepth 65536 in
set_option maxHeartbeats 40000000 in
theorem own_namechar (l : Launch) (Z : State) (a0 : Array Value) (hw : ∀ d ∈ tables_1, d.before a0 Z = true) (p1 : Int32) (h0 : Heap) (n0 : Nat) (Z0 : n0 ≤ h0.size)  :
    OCon l (⟨"com/example/nutex/nutex/LockNamesRequireValidPinLaw", "nameChar", "(I)C"⟩ : MethodName) method_2_code 2 (some .char) ({ frames := 0, cells := 0, slots := 0, locals := 0 } : Room) Z #[(.int p1)] h0 n0 (fun v h => ∃ c, v = some (.int c) ∧ own_isn c = 1 ∧ h = h0) := by
  refine own_body own_pn_1 ?_
  intro p e s m below meth c T0 hx hZ hby hml hown hnm hret hlk e0 X0
  replace hown : s.vm.findClass "com/example/nutex/nutex/LockNamesRequireValidPinLaw" = some m.cls := hown
  replace hnm : meth.name = "nameChar" := hnm
  have N0 := Fr.nil n0
  have K0 : Keep h0 h0 [] := Keep.refl _ _
  refine own_at (own_ef_own_namechar m p1) ?_
  refine own_go (g' := (mkF m 1 #[.val (.int p1), .unset] [(.int p1)])) (fun t kt => XS.iloadN X0.here hx rfl (hb hby own_d1_0) rfl kt) ?_
  refine own_go (g' := (mkF m 4 #[.val (.int p1), .unset] [(.int (255 : Int32)), (.int p1)])) (fun t kt => XS.sipush X0.here hx rfl (hb hby own_d1_1) kt) ?_
  refine own_go (g' := (mkF m 5 #[.val (.int p1), .unset] [(.int (p1 &&& (255 : Int32)))])) (fun t kt => XS.iand X0.here hx rfl (hb hby own_d1_4) rfl kt) ?_
  refine own_go (g' := (mkF m 7 #[.val (.int p1), .unset] [(.int (65 : Int32)), (.int (p1 &&& (255 : Int32)))])) (fun t kt => XS.bipush X0.here hx rfl (hb hby own_d1_5) kt) ?_
  refine own_go (g' := (mkF m 8 #[.val (.int p1), .unset] [(.int ((p1 &&& (255 : Int32)) % (65 : Int32)))])) (fun t kt => iremM X0 hx rfl (hb hby own_d1_7) rfl (by decide) kt) ?_
  refine own_go (g' := (mkF m 9 #[.val (.int p1), .val (.int ((p1 &&& (255 : Int32)) % (65 : Int32)))] [])) (fun t kt => XS.istoreN X0.here hx rfl (hb hby own_d1_8) rfl (l' := #[.val (.int p1), .val (.int ((p1 &&& (255 : Int32)) % (65 : Int32)))]) rfl kt) ?_
  refine own_let (P := fun y1 => OEnds _ _ _ _ _ _ T0 (mkF m 9 #[.val (.int p1), .val (.int y1)] [])) ((p1 &&& (255 : Int32)) % (65 : Int32)) (fun y1 hv_y1 => ?_)
  refine own_go (g' := (mkF m 10 #[.val (.int p1), .val (.int y1)] [(.int y1)])) (fun t kt => XS.iloadN X0.here hx rfl (hb hby own_d1_9) rfl kt) ?_
  refine own_go (g' := (mkF m 12 #[.val (.int p1), .val (.int y1)] [(.int (26 : Int32)), (.int y1)])) (fun t kt => XS.bipush X0.here hx rfl (hb hby own_d1_10) kt) ?_
  by_cases hc2 : y1 < (26 : Int32)
  · refine own_go (g' := (mkF m 15 #[.val (.int p1), .val (.int y1)] [])) (fun t kt => XS.icmpNo X0.here hx rfl (hb hby own_d1_12) rfl (tlt hc2).2.1 kt) ?_
    refine own_go (g' := (mkF m 17 #[.val (.int p1), .val (.int y1)] [(.int (65 : Int32))])) (fun t kt => XS.bipush X0.here hx rfl (hb hby own_d1_15) kt) ?_
    refine own_go (g' := (mkF m 18 #[.val (.int p1), .val (.int y1)] [(.int y1), (.int (65 : Int32))])) (fun t kt => XS.iloadN X0.here hx rfl (hb hby own_d1_17) rfl kt) ?_
    refine own_go (g' := (mkF m 19 #[.val (.int p1), .val (.int y1)] [(.int ((65 : Int32) + y1))])) (fun t kt => XS.iadd X0.here hx rfl (hb hby own_d1_18) rfl kt) ?_
    refine own_go (g' := (mkF m 20 #[.val (.int p1), .val (.int y1)] [(.int (((65 : Int32) + y1).toUInt32.toUInt16.toUInt32.toInt32))])) (fun t kt => XS.i2c X0.here hx rfl (hb hby own_d1_19) rfl kt) ?_
    exact own_retN X0 hx hlk (t := .char) (z' := (nar .char (((65 : Int32) + y1).toUInt32.toUInt16.toUInt32.toInt32))) hret (by simp) (hb hby own_d1_20) rfl e0 N0 (by decide) (by decide) (⟨_, rfl, own_ncA hv_y1 hc2, rfl⟩)
  · refine own_go (g' := (mkF m 21 #[.val (.int p1), .val (.int y1)] [])) (fun t kt => XS.icmpYes X0.here hx rfl (pc0 := 12) (pc' := 21) rfl (hb hby own_d1_12) rfl (flt hc2).2.1 (by decide) (by decide) kt) ?_
    refine own_go (g' := (mkF m 22 #[.val (.int p1), .val (.int y1)] [(.int y1)])) (fun t kt => XS.iloadN X0.here hx rfl (hb hby own_d1_21) rfl kt) ?_
    refine own_go (g' := (mkF m 24 #[.val (.int p1), .val (.int y1)] [(.int (52 : Int32)), (.int y1)])) (fun t kt => XS.bipush X0.here hx rfl (hb hby own_d1_22) kt) ?_
    by_cases hc3 : y1 < (52 : Int32)
    · refine own_go (g' := (mkF m 27 #[.val (.int p1), .val (.int y1)] [])) (fun t kt => XS.icmpNo X0.here hx rfl (hb hby own_d1_24) rfl (tlt hc3).2.1 kt) ?_
      refine own_go (g' := (mkF m 29 #[.val (.int p1), .val (.int y1)] [(.int (97 : Int32))])) (fun t kt => XS.bipush X0.here hx rfl (hb hby own_d1_27) kt) ?_
      refine own_go (g' := (mkF m 30 #[.val (.int p1), .val (.int y1)] [(.int y1), (.int (97 : Int32))])) (fun t kt => XS.iloadN X0.here hx rfl (hb hby own_d1_29) rfl kt) ?_
      refine own_go (g' := (mkF m 32 #[.val (.int p1), .val (.int y1)] [(.int (26 : Int32)), (.int y1), (.int (97 : Int32))])) (fun t kt => XS.bipush X0.here hx rfl (hb hby own_d1_30) kt) ?_
      refine own_go (g' := (mkF m 33 #[.val (.int p1), .val (.int y1)] [(.int (y1 - (26 : Int32))), (.int (97 : Int32))])) (fun t kt => XS.isub X0.here hx rfl (hb hby own_d1_32) rfl kt) ?_
      refine own_go (g' := (mkF m 34 #[.val (.int p1), .val (.int y1)] [(.int ((97 : Int32) + (y1 - (26 : Int32))))])) (fun t kt => XS.iadd X0.here hx rfl (hb hby own_d1_33) rfl kt) ?_
      refine own_go (g' := (mkF m 35 #[.val (.int p1), .val (.int y1)] [(.int (((97 : Int32) + (y1 - (26 : Int32))).toUInt32.toUInt16.toUInt32.toInt32))])) (fun t kt => XS.i2c X0.here hx rfl (hb hby own_d1_34) rfl kt) ?_
      exact own_retN X0 hx hlk (t := .char) (z' := (nar .char (((97 : Int32) + (y1 - (26 : Int32))).toUInt32.toUInt16.toUInt32.toInt32))) hret (by simp) (hb hby own_d1_35) rfl e0 N0 (by decide) (by decide) (⟨_, rfl, own_ncB hv_y1 hc2 hc3, rfl⟩)
    · refine own_go (g' := (mkF m 36 #[.val (.int p1), .val (.int y1)] [])) (fun t kt => XS.icmpYes X0.here hx rfl (pc0 := 24) (pc' := 36) rfl (hb hby own_d1_24) rfl (flt hc3).2.1 (by decide) (by decide) kt) ?_
      refine own_go (g' := (mkF m 37 #[.val (.int p1), .val (.int y1)] [(.int y1)])) (fun t kt => XS.iloadN X0.here hx rfl (hb hby own_d1_36) rfl kt) ?_
      refine own_go (g' := (mkF m 39 #[.val (.int p1), .val (.int y1)] [(.int (62 : Int32)), (.int y1)])) (fun t kt => XS.bipush X0.here hx rfl (hb hby own_d1_37) kt) ?_
      by_cases hc4 : y1 < (62 : Int32)
      · refine own_go (g' := (mkF m 42 #[.val (.int p1), .val (.int y1)] [])) (fun t kt => XS.icmpNo X0.here hx rfl (hb hby own_d1_39) rfl (tlt hc4).2.1 kt) ?_
        refine own_go (g' := (mkF m 44 #[.val (.int p1), .val (.int y1)] [(.int (48 : Int32))])) (fun t kt => XS.bipush X0.here hx rfl (hb hby own_d1_42) kt) ?_
        refine own_go (g' := (mkF m 45 #[.val (.int p1), .val (.int y1)] [(.int y1), (.int (48 : Int32))])) (fun t kt => XS.iloadN X0.here hx rfl (hb hby own_d1_44) rfl kt) ?_
        refine own_go (g' := (mkF m 47 #[.val (.int p1), .val (.int y1)] [(.int (52 : Int32)), (.int y1), (.int (48 : Int32))])) (fun t kt => XS.bipush X0.here hx rfl (hb hby own_d1_45) kt) ?_
        refine own_go (g' := (mkF m 48 #[.val (.int p1), .val (.int y1)] [(.int (y1 - (52 : Int32))), (.int (48 : Int32))])) (fun t kt => XS.isub X0.here hx rfl (hb hby own_d1_47) rfl kt) ?_
        refine own_go (g' := (mkF m 49 #[.val (.int p1), .val (.int y1)] [(.int ((48 : Int32) + (y1 - (52 : Int32))))])) (fun t kt => XS.iadd X0.here hx rfl (hb hby own_d1_48) rfl kt) ?_
        refine own_go (g' := (mkF m 50 #[.val (.int p1), .val (.int y1)] [(.int (((48 : Int32) + (y1 - (52 : Int32))).toUInt32.toUInt16.toUInt32.toInt32))])) (fun t kt => XS.i2c X0.here hx rfl (hb hby own_d1_49) rfl kt) ?_
        exact own_retN X0 hx hlk (t := .char) (z' := (nar .char (((48 : Int32) + (y1 - (52 : Int32))).toUInt32.toUInt16.toUInt32.toInt32))) hret (by simp) (hb hby own_d1_50) rfl e0 N0 (by decide) (by decide) (⟨_, rfl, own_ncC hv_y1 hc3 hc4, rfl⟩)
      · refine own_go (g' := (mkF m 51 #[.val (.int p1), .val (.int y1)] [])) (fun t kt => XS.icmpYes X0.here hx rfl (pc0 := 39) (pc' := 51) rfl (hb hby own_d1_39) rfl (flt hc4).2.1 (by decide) (by decide) kt) ?_
        refine own_go (g' := (mkF m 52 #[.val (.int p1), .val (.int y1)] [(.int y1)])) (fun t kt => XS.iloadN X0.here hx rfl (hb hby own_d1_51) rfl kt) ?_
        refine own_go (g' := (mkF m 54 #[.val (.int p1), .val (.int y1)] [(.int (62 : Int32)), (.int y1)])) (fun t kt => XS.bipush X0.here hx rfl (hb hby own_d1_52) kt) ?_
        by_cases hc5 : y1 = (62 : Int32)
        · refine own_go (g' := (mkF m 57 #[.val (.int p1), .val (.int y1)] [])) (fun t kt => XS.icmpNo X0.here hx rfl (hb hby own_d1_54) rfl (teq hc5).2 kt) ?_
          refine own_go (g' := (mkF m 59 #[.val (.int p1), .val (.int y1)] [(.int (46 : Int32))])) (fun t kt => XS.bipush X0.here hx rfl (hb hby own_d1_57) kt) ?_
          exact own_retN X0 hx hlk (t := .char) (z' := (46 : Int32)) hret (by simp) (hb hby own_d1_59) rfl e0 N0 (by decide) (by decide) (⟨_, rfl, by decide, rfl⟩)
        · refine own_go (g' := (mkF m 60 #[.val (.int p1), .val (.int y1)] [])) (fun t kt => XS.icmpYes X0.here hx rfl (pc0 := 54) (pc' := 60) rfl (hb hby own_d1_54) rfl (feq hc5).2 (by decide) (by decide) kt) ?_
          refine own_go (g' := (mkF m 61 #[.val (.int p1), .val (.int y1)] [(.int y1)])) (fun t kt => XS.iloadN X0.here hx rfl (hb hby own_d1_60) rfl kt) ?_
          refine own_go (g' := (mkF m 63 #[.val (.int p1), .val (.int y1)] [(.int (63 : Int32)), (.int y1)])) (fun t kt => XS.bipush X0.here hx rfl (hb hby own_d1_61) kt) ?_
          by_cases hc6 : y1 = (63 : Int32)
          · refine own_go (g' := (mkF m 66 #[.val (.int p1), .val (.int y1)] [])) (fun t kt => XS.icmpNo X0.here hx rfl (hb hby own_d1_63) rfl (teq hc6).2 kt) ?_
            refine own_go (g' := (mkF m 68 #[.val (.int p1), .val (.int y1)] [(.int (95 : Int32))])) (fun t kt => XS.bipush X0.here hx rfl (hb hby own_d1_66) kt) ?_
            exact own_retN X0 hx hlk (t := .char) (z' := (95 : Int32)) hret (by simp) (hb hby own_d1_68) rfl e0 N0 (by decide) (by decide) (⟨_, rfl, by decide, rfl⟩)
          · refine own_go (g' := (mkF m 69 #[.val (.int p1), .val (.int y1)] [])) (fun t kt => XS.icmpYes X0.here hx rfl (pc0 := 63) (pc' := 69) rfl (hb hby own_d1_63) rfl (feq hc6).2 (by decide) (by decide) kt) ?_
            refine own_go (g' := (mkF m 71 #[.val (.int p1), .val (.int y1)] [(.int (45 : Int32))])) (fun t kt => XS.bipush X0.here hx rfl (hb hby own_d1_69) kt) ?_
            exact own_retN X0 hx hlk (t := .char) (z' := (45 : Int32)) hret (by simp) (hb hby own_d1_71) rfl e0 N0 (by decide) (by decide) (⟨_, rfl, by decide, rfl⟩)
theorem own_d2_0 : decode method_3_code 0 = .ok (.iload_n 0, 1) := by decide +kernel
theorem own_d2_1 : decode method_3_code 1 = .ok (.bipush 8, 2) := by decide +kernel
theorem own_d2_3 : decode method_3_code 3 = .ok (.iushr, 1) := by decide +kernel
theorem own_d2_4 : decode method_3_code 4 = .ok (.iconst 1, 1) := by decide +kernel
theorem own_d2_5 : decode method_3_code 5 = .ok (.iand, 1) := by decide +kernel
theorem own_d2_6 : decode method_3_code 6 = .ok (.ifCond .eq 19, 3) := by decide +kernel
theorem own_d2_9 : decode method_3_code 9 = .ok (.iload_n 1, 1) := by decide +kernel
theorem own_d2_10 : decode method_3_code 10 = .ok (.iload_n 2, 1) := by decide +kernel
theorem own_d2_11 : decode method_3_code 11 = .ok (.iconst 1, 1) := by decide +kernel
theorem own_d2_12 : decode method_3_code 12 = .ok (.isub, 1) := by decide +kernel
theorem own_d2_13 : decode method_3_code 13 = .ok (.if_icmp .ge 12, 3) := by decide +kernel
theorem own_d2_16 : decode method_3_code 16 = .ok (.iload_n 3, 1) := by decide +kernel
theorem own_d2_17 : decode method_3_code 17 = .ok (.bipush 47, 2) := by decide +kernel
theorem own_d2_19 : decode method_3_code 19 = .ok (.if_icmp .eq 6, 3) := by decide +kernel
theorem own_d2_22 : decode method_3_code 22 = .ok (.bipush 47, 2) := by decide +kernel
theorem own_d2_24 : decode method_3_code 24 = .ok (.ireturn, 1) := by decide +kernel
theorem own_d2_25 : decode method_3_code 25 = .ok (.iload_n 0, 1) := by decide +kernel
theorem own_d2_26 : decode method_3_code 26 = .ok (.invokestatic 7, 3) := by decide +kernel
theorem own_d2_29 : decode method_3_code 29 = .ok (.ireturn, 1) := by decide +kernel
theorem own_pd0 : parseMethodDescriptor "(I)C" = some ⟨[.int], some .char⟩ := by decide +kernel
theorem own_pn_2 : plainFor (⟨"com/example/nutex/nutex/LockNamesRequireValidPinLaw", "pick", "(IIIC)C"⟩ : MethodName) = true := by first | exact plainFor_of_name (by first | (simp [plainName, overriddenIn]; done) | decide +kernel) | decide +kernel
theorem own_ef_own_pickm (m : MethodId) (x0 : Int32) (x1 : Int32) (x2 : Int32) (x3 : Int32) : entryFrame m #[(.int x0), (.int x1), (.int x2), (.int x3)] 4 = mkF m 0 #[.val (.int x0), .val (.int x1), .val (.int x2), .val (.int x3)] [] := by first | (simp [entryFrame, mkF, argsToLocals, Value.category]; done) | rfl
set_option maxRecDepth 65536 in
set_option maxHeartbeats 40000000 in
theorem own_pickm (l : Launch) (Z : State) (a0 : Array Value) (hw : ∀ d ∈ tables_1, d.before a0 Z = true) (p1 p2 p3 p4 : Int32) (h0 : Heap) (n0 : Nat) (Z0 : n0 ≤ h0.size)  :
    OCon l (⟨"com/example/nutex/nutex/LockNamesRequireValidPinLaw", "pick", "(IIIC)C"⟩ : MethodName) method_3_code 4 (some .char) ({ frames := 1, cells := 0, slots := 0, locals := 13 } : Room) Z #[(.int p1), (.int p2), (.int p3), (.int p4)] h0 n0 (fun v h => ∃ c, v = some (.int c) ∧ (own_isn c = 1 ∨ (c = 47 ∧ p2 < p3 - 1 ∧ ¬ p4 = 47)) ∧ h = h0) := by
  refine own_body own_pn_2 ?_
  intro p e s m below meth c T0 hx hZ hby hml hown hnm hret hlk e0 X0
  replace hown : s.vm.findClass "com/example/nutex/nutex/LockNamesRequireValidPinLaw" = some m.cls := hown
  replace hnm : meth.name = "pick" := hnm
  have N0 := Fr.nil n0
  have K0 : Keep h0 h0 [] := Keep.refl _ _
  refine own_at (own_ef_own_pickm m p1 p2 p3 p4) ?_
  refine own_go (g' := (mkF m 1 #[.val (.int p1), .val (.int p2), .val (.int p3), .val (.int p4)] [(.int p1)])) (fun t kt => XS.iloadN X0.here hx rfl (hb hby own_d2_0) rfl kt) ?_
  refine own_go (g' := (mkF m 3 #[.val (.int p1), .val (.int p2), .val (.int p3), .val (.int p4)] [(.int (8 : Int32)), (.int p1)])) (fun t kt => XS.bipush X0.here hx rfl (hb hby own_d2_1) kt) ?_
  refine own_go (g' := (mkF m 4 #[.val (.int p1), .val (.int p2), .val (.int p3), .val (.int p4)] [(.int ((p1.toUInt32 >>> ((8 : Int32) &&& 31).toUInt32).toInt32))])) (fun t kt => XS.iushr X0.here hx rfl (hb hby own_d2_3) rfl kt) ?_
  refine own_go (g' := (mkF m 5 #[.val (.int p1), .val (.int p2), .val (.int p3), .val (.int p4)] [(.int (1 : Int32)), (.int ((p1.toUInt32 >>> ((8 : Int32) &&& 31).toUInt32).toInt32))])) (fun t kt => XS.iconst X0.here hx rfl (hb hby own_d2_4) kt) ?_
  refine own_go (g' := (mkF m 6 #[.val (.int p1), .val (.int p2), .val (.int p3), .val (.int p4)] [(.int (((p1.toUInt32 >>> ((8 : Int32) &&& 31).toUInt32).toInt32) &&& (1 : Int32)))])) (fun t kt => XS.iand X0.here hx rfl (hb hby own_d2_5) rfl kt) ?_
  by_cases hc1 : (((p1.toUInt32 >>> ((8 : Int32) &&& 31).toUInt32).toInt32) &&& (1 : Int32)) = (0 : Int32)
  · refine own_go (g' := (mkF m 25 #[.val (.int p1), .val (.int p2), .val (.int p3), .val (.int p4)] [])) (fun t kt => XS.ifYes X0.here hx rfl (pc0 := 6) (pc' := 25) rfl (hb hby own_d2_6) rfl ((if0 _ _).trans (teq hc1).1) (by decide) (by decide) kt) ?_
    refine own_go (g' := (mkF m 26 #[.val (.int p1), .val (.int p2), .val (.int p3), .val (.int p4)] [(.int p1)])) (fun t kt => XS.iloadN X0.here hx rfl (hb hby own_d2_25) rfl kt) ?_
    refine own_callS X0 hx hZ (W := 0) (argsL := [(.int p1)]) (rest := []) hown (hw _ (List.mem_of_getElem? (i := 0) rfl)) (hw _ (List.mem_of_getElem? (i := 1) rfl)) (hw _ (List.mem_of_getElem? (i := 2) rfl)) (hw _ (List.mem_of_getElem? (i := 3) rfl)) (by decide) (own_namechar l Z a0 hw p1 h0 n0 Z0) (by decide) (by decide) (g := (mkF m 26 #[.val (.int p1), .val (.int p2), .val (.int p3), .val (.int p4)] [(.int p1)])) rfl (by rw [hml]; rfl) (lenOf own_pd0 rfl) rfl (by show 2 * 0 + _ ≤ _; exact Nat.le_of_eq rfl) (hb hby own_d2_26) e0 N0 (by decide) (by decide) (fun v2 T2 L2 X2 N2 hq2 => ?_)
    obtain ⟨c2, rfl, hc2, e2⟩ := hq2
    show OEnds _ _ _ _ _ _ T2 (mkF m 29 #[.val (.int p1), .val (.int p2), .val (.int p3), .val (.int p4)] [(.int c2)])
    exact own_retN X2 hx hlk (t := .char) (z' := c2) hret (by simp) (hb hby own_d2_29) (own_rngc (Or.inl hc2)).2 e2 N2 (by decide) (by decide) (⟨_, rfl, Or.inl hc2, rfl⟩)
  · refine own_go (g' := (mkF m 9 #[.val (.int p1), .val (.int p2), .val (.int p3), .val (.int p4)] [])) (fun t kt => XS.ifNo X0.here hx rfl (hb hby own_d2_6) rfl ((if0 _ _).trans (feq hc1).1) kt) ?_
    refine own_go (g' := (mkF m 10 #[.val (.int p1), .val (.int p2), .val (.int p3), .val (.int p4)] [(.int p2)])) (fun t kt => XS.iloadN X0.here hx rfl (hb hby own_d2_9) rfl kt) ?_
    refine own_go (g' := (mkF m 11 #[.val (.int p1), .val (.int p2), .val (.int p3), .val (.int p4)] [(.int p3), (.int p2)])) (fun t kt => XS.iloadN X0.here hx rfl (hb hby own_d2_10) rfl kt) ?_
    refine own_go (g' := (mkF m 12 #[.val (.int p1), .val (.int p2), .val (.int p3), .val (.int p4)] [(.int (1 : Int32)), (.int p3), (.int p2)])) (fun t kt => XS.iconst X0.here hx rfl (hb hby own_d2_11) kt) ?_
    refine own_go (g' := (mkF m 13 #[.val (.int p1), .val (.int p2), .val (.int p3), .val (.int p4)] [(.int (p3 - (1 : Int32))), (.int p2)])) (fun t kt => XS.isub X0.here hx rfl (hb hby own_d2_12) rfl kt) ?_
    by_cases hc3 : p2 < (p3 - (1 : Int32))
    · refine own_go (g' := (mkF m 16 #[.val (.int p1), .val (.int p2), .val (.int p3), .val (.int p4)] [])) (fun t kt => XS.icmpNo X0.here hx rfl (hb hby own_d2_13) rfl (tlt hc3).2.1 kt) ?_
      refine own_go (g' := (mkF m 17 #[.val (.int p1), .val (.int p2), .val (.int p3), .val (.int p4)] [(.int p4)])) (fun t kt => XS.iloadN X0.here hx rfl (hb hby own_d2_16) rfl kt) ?_
      refine own_go (g' := (mkF m 19 #[.val (.int p1), .val (.int p2), .val (.int p3), .val (.int p4)] [(.int (47 : Int32)), (.int p4)])) (fun t kt => XS.bipush X0.here hx rfl (hb hby own_d2_17) kt) ?_
      by_cases hc4 : p4 = (47 : Int32)
      · refine own_go (g' := (mkF m 25 #[.val (.int p1), .val (.int p2), .val (.int p3), .val (.int p4)] [])) (fun t kt => XS.icmpYes X0.here hx rfl (pc0 := 19) (pc' := 25) rfl (hb hby own_d2_19) rfl (teq hc4).1 (by decide) (by decide) kt) ?_
        refine own_go (g' := (mkF m 26 #[.val (.int p1), .val (.int p2), .val (.int p3), .val (.int p4)] [(.int p1)])) (fun t kt => XS.iloadN X0.here hx rfl (hb hby own_d2_25) rfl kt) ?_
        refine own_callS X0 hx hZ (W := 0) (argsL := [(.int p1)]) (rest := []) hown (hw _ (List.mem_of_getElem? (i := 0) rfl)) (hw _ (List.mem_of_getElem? (i := 1) rfl)) (hw _ (List.mem_of_getElem? (i := 2) rfl)) (hw _ (List.mem_of_getElem? (i := 3) rfl)) (by decide) (own_namechar l Z a0 hw p1 h0 n0 Z0) (by decide) (by decide) (g := (mkF m 26 #[.val (.int p1), .val (.int p2), .val (.int p3), .val (.int p4)] [(.int p1)])) rfl (by rw [hml]; rfl) (lenOf own_pd0 rfl) rfl (by show 2 * 0 + _ ≤ _; exact Nat.le_of_eq rfl) (hb hby own_d2_26) e0 N0 (by decide) (by decide) (fun v5 T5 L5 X5 N5 hq5 => ?_)
        obtain ⟨c5, rfl, hc5, e5⟩ := hq5
        show OEnds _ _ _ _ _ _ T5 (mkF m 29 #[.val (.int p1), .val (.int p2), .val (.int p3), .val (.int p4)] [(.int c5)])
        exact own_retN X5 hx hlk (t := .char) (z' := c5) hret (by simp) (hb hby own_d2_29) (own_rngc (Or.inl hc5)).2 e5 N5 (by decide) (by decide) (⟨_, rfl, Or.inl hc5, rfl⟩)
      · refine own_go (g' := (mkF m 22 #[.val (.int p1), .val (.int p2), .val (.int p3), .val (.int p4)] [])) (fun t kt => XS.icmpNo X0.here hx rfl (hb hby own_d2_19) rfl (feq hc4).1 kt) ?_
        refine own_go (g' := (mkF m 24 #[.val (.int p1), .val (.int p2), .val (.int p3), .val (.int p4)] [(.int (47 : Int32))])) (fun t kt => XS.bipush X0.here hx rfl (hb hby own_d2_22) kt) ?_
        exact own_retN X0 hx hlk (t := .char) (z' := (47 : Int32)) hret (by simp) (hb hby own_d2_24) rfl e0 N0 (by decide) (by decide) (⟨_, rfl, Or.inr ⟨rfl, hc3, hc4⟩, rfl⟩)
    · refine own_go (g' := (mkF m 25 #[.val (.int p1), .val (.int p2), .val (.int p3), .val (.int p4)] [])) (fun t kt => XS.icmpYes X0.here hx rfl (pc0 := 13) (pc' := 25) rfl (hb hby own_d2_13) rfl (flt hc3).2.1 (by decide) (by decide) kt) ?_
      refine own_go (g' := (mkF m 26 #[.val (.int p1), .val (.int p2), .val (.int p3), .val (.int p4)] [(.int p1)])) (fun t kt => XS.iloadN X0.here hx rfl (hb hby own_d2_25) rfl kt) ?_
      refine own_callS X0 hx hZ (W := 0) (argsL := [(.int p1)]) (rest := []) hown (hw _ (List.mem_of_getElem? (i := 0) rfl)) (hw _ (List.mem_of_getElem? (i := 1) rfl)) (hw _ (List.mem_of_getElem? (i := 2) rfl)) (hw _ (List.mem_of_getElem? (i := 3) rfl)) (by decide) (own_namechar l Z a0 hw p1 h0 n0 Z0) (by decide) (by decide) (g := (mkF m 26 #[.val (.int p1), .val (.int p2), .val (.int p3), .val (.int p4)] [(.int p1)])) rfl (by rw [hml]; rfl) (lenOf own_pd0 rfl) rfl (by show 2 * 0 + _ ≤ _; exact Nat.le_of_eq rfl) (hb hby own_d2_26) e0 N0 (by decide) (by decide) (fun v6 T6 L6 X6 N6 hq6 => ?_)
      obtain ⟨c6, rfl, hc6, e6⟩ := hq6
      show OEnds _ _ _ _ _ _ T6 (mkF m 29 #[.val (.int p1), .val (.int p2), .val (.int p3), .val (.int p4)] [(.int c6)])
      exact own_retN X6 hx hlk (t := .char) (z' := c6) hret (by simp) (hb hby own_d2_29) (own_rngc (Or.inl hc6)).2 e6 N6 (by decide) (by decide) (⟨_, rfl, Or.inl hc6, rfl⟩)
theorem own_d3_0 : decode method_4_code 0 = .ok (.iload 6, 2) := by decide +kernel
theorem own_d3_2 : decode method_4_code 2 = .ok (.iconst 1, 1) := by decide +kernel
theorem own_d3_3 : decode method_4_code 3 = .ok (.if_icmp .ne 18, 3) := by decide +kernel
theorem own_d3_6 : decode method_4_code 6 = .ok (.new 13, 3) := by decide +kernel
theorem own_d3_9 : decode method_4_code 9 = .ok (.dup, 1) := by decide +kernel
theorem own_d3_10 : decode method_4_code 10 = .ok (.iconst 1, 1) := by decide +kernel
theorem own_d3_11 : decode method_4_code 11 = .ok (.newarray .char, 2) := by decide +kernel
theorem own_d3_13 : decode method_4_code 13 = .ok (.dup, 1) := by decide +kernel
theorem own_d3_14 : decode method_4_code 14 = .ok (.iconst 0, 1) := by decide +kernel
theorem own_d3_15 : decode method_4_code 15 = .ok (.iload_n 0, 1) := by decide +kernel
theorem own_d3_16 : decode method_4_code 16 = .ok (.castore, 1) := by decide +kernel
theorem own_d3_17 : decode method_4_code 17 = .ok (.invokespecial 15, 3) := by decide +kernel
theorem own_d3_20 : decode method_4_code 20 = .ok (.areturn, 1) := by decide +kernel
theorem own_pd1 : parseMethodDescriptor "([C)V" = some ⟨[(.array .char)], none⟩ := by decide +kernel
theorem own_pn_3 : plainFor (⟨"com/example/nutex/nutex/LockNamesRequireValidPinLaw", "build", "(CCCCCCI)Ljava/lang/String;"⟩ : MethodName) = true := by first | exact plainFor_of_name (by first | (simp [plainName, overriddenIn]; done) | decide +kernel) | decide +kernel
theorem own_ef_own_build1 (m : MethodId) (x0 : Int32) (x1 : Int32) (x2 : Int32) (x3 : Int32) (x4 : Int32) (x5 : Int32) : entryFrame m #[(.int x0), (.int x1), (.int x2), (.int x3), (.int x4), (.int x5), (.int (1 : Int32))] 7 = mkF m 0 #[.val (.int x0), .val (.int x1), .val (.int x2), .val (.int x3), .val (.int x4), .val (.int x5), .val (.int (1 : Int32))] [] := by first | (simp [entryFrame, mkF, argsToLocals, Value.category]; done) | rfl
set_option maxRecDepth 65536 in
set_option maxHeartbeats 40000000 in
theorem own_build1 (l : Launch) (Z : State) (a0 : Array Value) (hw : ∀ d ∈ tables_1, d.before a0 Z = true) (u0 u1 u2 u3 u4 u5 cs : Int32) (h0 : Heap) (n0 : Nat) (Z0 : n0 ≤ h0.size) (S_c : Sta Z h0 "java/lang/String" "COMPACT_STRINGS" "Z" (.int cs)) (hcs : ¬ cs = 0) (r0 : (¬ u0 < 0 ∧ ¬ (255 : Int32) < u0) ∧ nar .char u0 = u0) :
    OCon l (⟨"com/example/nutex/nutex/LockNamesRequireValidPinLaw", "build", "(CCCCCCI)Ljava/lang/String;"⟩ : MethodName) method_4_code 7 (some (.object "java/lang/String")) ({ frames := 4, cells := 3, slots := 6, locals := 66 } : Room) Z #[(.int u0), (.int u1), (.int u2), (.int u3), (.int u4), (.int u5), (.int (1 : Int32))] h0 n0 (fun v h => ∃ b t k, v = some (.ref b) ∧ Keep h0 h [] ∧ Exa Z h b "java/lang/String" ∧ Fld Z h b "java/lang/String" "coder" "B" (.int (0 : Int32)) ∧ Fld Z h b "java/lang/String" "value" "[B" (.ref t) ∧ Arv Z h t k .byte (1 : Int32) ((([u0] : List Int32).map (fun c => c.toInt8.toInt32)).map Value.int) (.int (0 : Int32))) := by
  refine own_body own_pn_3 ?_
  intro p e s m below meth c T0 hx hZ hby hml hown hnm hret hlk e0 X0
  replace hown : s.vm.findClass "com/example/nutex/nutex/LockNamesRequireValidPinLaw" = some m.cls := hown
  replace hnm : meth.name = "build" := hnm
  have N0 := Fr.nil n0
  have K0 : Keep h0 h0 [] := Keep.refl _ _
  refine own_at (own_ef_own_build1 m u0 u1 u2 u3 u4 u5) ?_
  refine own_go (g' := (mkF m 2 #[.val (.int u0), .val (.int u1), .val (.int u2), .val (.int u3), .val (.int u4), .val (.int u5), .val (.int (1 : Int32))] [(.int (1 : Int32))])) (fun t kt => XS.iload X0.here hx rfl (hb hby own_d3_0) rfl kt) ?_
  refine own_go (g' := (mkF m 3 #[.val (.int u0), .val (.int u1), .val (.int u2), .val (.int u3), .val (.int u4), .val (.int u5), .val (.int (1 : Int32))] [(.int (1 : Int32)), (.int (1 : Int32))])) (fun t kt => XS.iconst X0.here hx rfl (hb hby own_d3_2) kt) ?_
  refine own_go (g' := (mkF m 6 #[.val (.int u0), .val (.int u1), .val (.int u2), .val (.int u3), .val (.int u4), .val (.int u5), .val (.int (1 : Int32))] [])) (fun t kt => XS.icmpNo X0.here hx rfl (hb hby own_d3_3) rfl (teq ((by decide) : (1 : Int32) = (1 : Int32))).2 kt) ?_
  refine own_new X0 hx hZ hown (hw _ (List.mem_of_getElem? (i := 10) rfl)) (hw _ (List.mem_of_getElem? (i := 11) rfl)) (hw _ (List.mem_of_getElem? (i := 12) rfl)) e0 (g := (mkF m 6 #[.val (.int u0), .val (.int u1), .val (.int u2), .val (.int u3), .val (.int u4), .val (.int u5), .val (.int (1 : Int32))] [])) rfl (hb hby own_d3_6) (by decide) (by decide) (fun T1 h1 b1 g1 X1 e1 E1 A1 D1 => ?_)
  show OEnds _ _ _ _ _ _ T1 (mkF m 9 #[.val (.int u0), .val (.int u1), .val (.int u2), .val (.int u3), .val (.int u4), .val (.int u5), .val (.int (1 : Int32))] [(.ref b1)])
  have S_c_h1 := S_c.ext E1
  have gz_b1 : h0.size ≤ b1 := Nat.le_trans K0.1 (Nat.le_of_eq g1.symm)
  have ge_b1 : n0 ≤ b1 := Nat.le_trans Z0 gz_b1
  have K1 := K0.ext E1
  have F1_coder : Fld Z h1 b1 "java/lang/String" "coder" "B" (.int (0 : Int32)) := D1 (Or.inr (hw _ (List.mem_of_getElem? (i := 37) rfl))) (ty := .byte) (by decide)
  have F1_value : Fld Z h1 b1 "java/lang/String" "value" "[B" .null := D1 (Or.inr (hw _ (List.mem_of_getElem? (i := 39) rfl))) (ty := (.array .byte)) (by decide)
  refine own_go (g' := (mkF m 10 #[.val (.int u0), .val (.int u1), .val (.int u2), .val (.int u3), .val (.int u4), .val (.int u5), .val (.int (1 : Int32))] [(.ref b1), (.ref b1)])) (fun t kt => XS.dup X1.here hx rfl (hb hby own_d3_9) rfl rfl kt) ?_
  refine own_go (g' := (mkF m 11 #[.val (.int u0), .val (.int u1), .val (.int u2), .val (.int u3), .val (.int u4), .val (.int u5), .val (.int (1 : Int32))] [(.int (1 : Int32)), (.ref b1), (.ref b1)])) (fun t kt => XS.iconst X1.here hx rfl (hb hby own_d3_10) kt) ?_
  refine own_newarr X1 hx hZ (hw _ (List.mem_of_getElem? (i := 13) rfl)) e1 (g := (mkF m 11 #[.val (.int u0), .val (.int u1), .val (.int u2), .val (.int u3), .val (.int u4), .val (.int u5), .val (.int (1 : Int32))] [(.int (1 : Int32)), (.ref b1), (.ref b1)])) rfl (hb hby own_d3_11) rfl (by decide) (cap := 1) (by decide) (by decide) (by decide) (by decide) (fun T2 h2 b2 k2 g2 X2 e2 E2 V2 => ?_)
  show OEnds _ _ _ _ _ _ T2 (mkF m 13 #[.val (.int u0), .val (.int u1), .val (.int u2), .val (.int u3), .val (.int u4), .val (.int u5), .val (.int (1 : Int32))] [(.ref b2), (.ref b1), (.ref b1)])
  have ne_b1_b2 : b1 ≠ b2 := Nat.ne_of_lt (Nat.lt_of_lt_of_le A1.lt (Nat.le_of_eq g2.symm))
  have S_c_h2 := S_c_h1.ext E2
  have A1_h2 := A1.ext E2
  have F1_coder_h2 := F1_coder.ext E2
  have F1_value_h2 := F1_value.ext E2
  have gz_b2 : h0.size ≤ b2 := Nat.le_trans K1.1 (Nat.le_of_eq g2.symm)
  have ge_b2 : n0 ≤ b2 := Nat.le_trans Z0 gz_b2
  have K2 := K1.ext E2
  replace V2 : Arv Z h2 b2 k2 .char (1 : Int32) [(.int (0 : Int32))] (.int (0 : Int32)) := V2
  refine own_go (g' := (mkF m 14 #[.val (.int u0), .val (.int u1), .val (.int u2), .val (.int u3), .val (.int u4), .val (.int u5), .val (.int (1 : Int32))] [(.ref b2), (.ref b2), (.ref b1), (.ref b1)])) (fun t kt => XS.dup X2.here hx rfl (hb hby own_d3_13) rfl rfl kt) ?_
  refine own_go (g' := (mkF m 15 #[.val (.int u0), .val (.int u1), .val (.int u2), .val (.int u3), .val (.int u4), .val (.int u5), .val (.int (1 : Int32))] [(.int (0 : Int32)), (.ref b2), (.ref b2), (.ref b1), (.ref b1)])) (fun t kt => XS.iconst X2.here hx rfl (hb hby own_d3_14) kt) ?_
  refine own_go (g' := (mkF m 16 #[.val (.int u0), .val (.int u1), .val (.int u2), .val (.int u3), .val (.int u4), .val (.int u5), .val (.int (1 : Int32))] [(.int u0), (.int (0 : Int32)), (.ref b2), (.ref b2), (.ref b1), (.ref b1)])) (fun t kt => XS.iloadN X2.here hx rfl (hb hby own_d3_15) rfl kt) ?_
  refine own_castore X2 hx hZ e2 V2 ⟨by decide, by decide⟩ 0 rfl (Nat.le_of_ble_eq_true rfl) N0 ge_b2 (g := (mkF m 16 #[.val (.int u0), .val (.int u1), .val (.int u2), .val (.int u3), .val (.int u4), .val (.int u5), .val (.int (1 : Int32))] [(.int u0), (.int (0 : Int32)), (.ref b2), (.ref b2), (.ref b1), (.ref b1)])) rfl rfl (hb hby own_d3_16) (fun T3 h3 L3 X3 e3 N3 W3 V3 => ?_)
  show OEnds _ _ _ _ _ _ T3 (mkF m 17 #[.val (.int u0), .val (.int u1), .val (.int u2), .val (.int u3), .val (.int u4), .val (.int u5), .val (.int (1 : Int32))] [(.ref b2), (.ref b1), (.ref b1)])
  have S_c_h3 := S_c_h2.wr W3
  have A1_h3 := A1_h2.wr W3
  have F1_coder_h3 := F1_coder_h2.other W3 (Or.inl ne_b1_b2)
  have F1_value_h3 := F1_value_h2.other W3 (Or.inl ne_b1_b2)
  have K3 := K2.wr W3 (Or.inr gz_b2)
  replace V3 : Arv Z h3 b2 k2 .char (1 : Int32) [(.int (nar .char u0))] (.int (0 : Int32)) := V3
  have Vr4 : Arv Z h3 b2 k2 .char (1 : Int32) [(.int u0)] (.int (0 : Int32)) := by simpa only [(r0).2] using V3
  have hp5 : ∀ c ∈ ([u0] : List Int32), ¬ c < 0 ∧ ¬ (255 : Int32) < c := (own_alS (r0).1 own_al0)
  refine own_callCB X3 hx hZ (a := b1) (W := 1) (argsL := [(.ref b2)]) (rest := [(.ref b1)]) (c1 := 1) (s1 := 1) (Qc := fun v h' L => StrChars.Road.QV Z b1 (1 : Int32) (([u0] : List Int32).map (fun c => c.toInt8.toInt32)) h3 n0 v h' L) rfl hown (hw _ (List.mem_of_getElem? (i := 14) rfl)) (hw _ (List.mem_of_getElem? (i := 15) rfl)) (hw _ (List.mem_of_getElem? (i := 16) rfl)) (by decide) (StrChars.Road.backV (W := 1) hZ (fun d hd => hw d (own_wi d hd)) (kI := 4) (hw _ (List.mem_of_getElem? (i := 11) rfl)) (cs := ([u0] : List Int32)) (bs := (([u0] : List Int32).map (fun c => c.toInt8.toInt32))) (n := 1) ge_b1 (Nat.le_trans Z0 K3.1) A1_h3 F1_value_h3 F1_coder_h3 Vr4 S_c_h3 hcs rfl rfl (by decide) (by decide) hp5 rfl (by decide) (by decide)) (g := (mkF m 17 #[.val (.int u0), .val (.int u1), .val (.int u2), .val (.int u3), .val (.int u4), .val (.int u5), .val (.int (1 : Int32))] [(.ref b2), (.ref b1), (.ref b1)])) rfl (by rw [hml]; rfl) (lenOf own_pd1 rfl) rfl (by show 2 * 0 + _ ≤ _; exact Nat.le_of_eq rfl) (hb hby own_d3_17) e3 (by decide) (by decide) (fun v5 T5 L5 X5 hq5 => ?_)
  obtain ⟨rfl, M5, Kc5, A5, G5, t5, c5, ge_t5, gy_t5, ny_t5, F5, V5⟩ := hq5
  have N5 := Fr.app N3 M5
  have ne_b1_t5 : b1 ≠ t5 := Nat.ne_of_lt (Nat.lt_of_lt_of_le A1_h3.lt gy_t5)
  have ne_b2_t5 : b2 ≠ t5 := Nat.ne_of_lt (Nat.lt_of_lt_of_le Vr4.lt gy_t5)
  have gz_t5 : h0.size ≤ t5 := Nat.le_trans K3.1 gy_t5
  have Vr4_h5 := Vr4.keep Kc5 (ninS (Ne.symm ne_b1_b2) nin0)
  have K5 := K3.trans Kc5 (allS (Or.inr gz_b1) all0)
  have S_c_h5 := S_c.ext (own_kext K5)
  have hcd5 := StrChars.Road.codOf (cs := ([u0] : List Int32)) (n := 1) rfl (fun c hc => (hp5 c hc).2)
  have hbd5 := own_up _ hp5
  show OEnds _ _ _ _ _ _ T5 (mkF m 20 #[.val (.int u0), .val (.int u1), .val (.int u2), .val (.int u3), .val (.int u4), .val (.int u5), .val (.int (1 : Int32))] [(.ref b1)])
  exact own_retA X5 hx hlk (t := (.object "java/lang/String")) rfl hret rfl (hb hby own_d3_20) rfl N5 (by decide) (by decide) (⟨b1, t5, c5, rfl, K5, A5, G5, F5, V5⟩)
theorem own_d10_0 : decode prog_12_method_2_code 0 = .ok (.aload_n 0, 1) := by decide +kernel
theorem own_d10_1 : decode prog_12_method_2_code 1 = .ok (.ifnonnull 13, 3) := by decide +kernel
theorem own_d10_14 : decode prog_12_method_2_code 14 = .ok (.aload_n 0, 1) := by decide +kernel
theorem own_d10_15 : decode prog_12_method_2_code 15 = .ok (.invokevirtual 14, 3) := by decide +kernel
theorem own_d10_18 : decode prog_12_method_2_code 18 = .ok (.ifCond .ne 13, 3) := by decide +kernel
theorem own_d10_21 : decode prog_12_method_2_code 21 = .ok (.aload_n 0, 1) := by decide +kernel
theorem own_d10_22 : decode prog_12_method_2_code 22 = .ok (.invokevirtual 20, 3) := by decide +kernel
theorem own_d10_25 : decode prog_12_method_2_code 25 = .ok (.sipush 200, 3) := by decide +kernel
theorem own_d10_28 : decode prog_12_method_2_code 28 = .ok (.if_icmp .le 20, 3) := by decide +kernel
theorem own_d10_48 : decode prog_12_method_2_code 48 = .ok (.iconst 0, 1) := by decide +kernel
theorem own_d10_49 : decode prog_12_method_2_code 49 = .ok (.istore_n 1, 1) := by decide +kernel
theorem own_d10_50 : decode prog_12_method_2_code 50 = .ok (.iload_n 1, 1) := by decide +kernel
theorem own_d10_51 : decode prog_12_method_2_code 51 = .ok (.aload_n 0, 1) := by decide +kernel
theorem own_d10_52 : decode prog_12_method_2_code 52 = .ok (.invokevirtual 20, 3) := by decide +kernel
theorem own_d10_55 : decode prog_12_method_2_code 55 = .ok (.if_icmp .ge 129, 3) := by decide +kernel
theorem own_d10_58 : decode prog_12_method_2_code 58 = .ok (.aload_n 0, 1) := by decide +kernel
theorem own_d10_59 : decode prog_12_method_2_code 59 = .ok (.iload_n 1, 1) := by decide +kernel
theorem own_d10_60 : decode prog_12_method_2_code 60 = .ok (.invokevirtual 30, 3) := by decide +kernel
theorem own_d10_63 : decode prog_12_method_2_code 63 = .ok (.istore_n 2, 1) := by decide +kernel
theorem own_d10_64 : decode prog_12_method_2_code 64 = .ok (.iload_n 2, 1) := by decide +kernel
theorem own_d10_65 : decode prog_12_method_2_code 65 = .ok (.bipush 47, 2) := by decide +kernel
theorem own_d10_67 : decode prog_12_method_2_code 67 = .ok (.if_icmp .ne 69, 3) := by decide +kernel
theorem own_d10_136 : decode prog_12_method_2_code 136 = .ok (.iload_n 2, 1) := by decide +kernel
theorem own_d10_137 : decode prog_12_method_2_code 137 = .ok (.invokestatic 37, 3) := by decide +kernel
theorem own_d10_140 : decode prog_12_method_2_code 140 = .ok (.ifCond .ne 38, 3) := by decide +kernel
theorem own_d10_178 : decode prog_12_method_2_code 178 = .ok (.iinc 1 1, 3) := by decide +kernel
theorem own_d10_181 : decode prog_12_method_2_code 181 = .ok (.goto (-131), 3) := by decide +kernel
theorem own_d10_184 : decode prog_12_method_2_code 184 = .ok (.aload_n 0, 1) := by decide +kernel
theorem own_d10_185 : decode prog_12_method_2_code 185 = .ok (.areturn, 1) := by decide +kernel
theorem own_pd2 : parseMethodDescriptor "()Z" = some ⟨[], some .boolean⟩ := by decide +kernel
theorem own_pd3 : parseMethodDescriptor "()I" = some ⟨[], some .int⟩ := by decide +kernel
theorem own_pd4 : parseMethodDescriptor "(C)Z" = some ⟨[.char], some .boolean⟩ := by decide +kernel
theorem own_pn_10 : plainFor (⟨"com/example/nutex/nutex/LockNames", "requireValid", "(Ljava/lang/String;)Ljava/lang/String;"⟩ : MethodName) = true := by first | exact plainFor_of_name (by first | (simp [plainName, overriddenIn]; done) | decide +kernel) | decide +kernel
theorem own_ef_own_req1 (m : MethodId) (x0 : Addr) : entryFrame m #[(.ref x0)] 5 = mkF m 0 #[.val (.ref x0), .unset, .unset, .unset, .unset] [] := by first | (simp [entryFrame, mkF, argsToLocals, Value.category]; done) | rfl
set_option maxRecDepth 65536 in
set_option maxHeartbeats 40000000 in
theorem own_req1 (l : Launch) (Z : State) (a0 : Array Value) (hw : ∀ d ∈ tables_1, d.before a0 Z = true) (a1 ab : Addr) (kb : ClassId) (u0 cs : Int32) (sv : Value) (hsv : sv.isRef = true) (h0 : Heap) (n0 : Nat) (Z0 : n0 ≤ h0.size) (Ea : Exa Z h0 a1 "java/lang/String") (Gc : Fld Z h0 a1 "java/lang/String" "coder" "B" (.int (0 : Int32))) (Gv : Fld Z h0 a1 "java/lang/String" "value" "[B" (.ref ab)) (Vb : Arv Z h0 ab kb .byte (1 : Int32) ((([u0] : List Int32).map (fun c => c.toInt8.toInt32)).map Value.int) (.int (0 : Int32))) (S_c : Sta Z h0 "java/lang/String" "COMPACT_STRINGS" "Z" (.int cs)) (S_f : Sta Z h0 "jdk/internal/util/Preconditions" "SIOOBE_FORMATTER" "Ljava/util/function/BiFunction;" sv) (hcs : ¬ cs = 0) (hcd : StrChars.Road.CodA ([u0] : List Int32) 0 (1 : Int32) ((([u0] : List Int32).map (fun c => c.toInt8.toInt32)).map Value.int)) (hbd : ∀ c ∈ ([u0] : List Int32), ¬ c < 0 ∧ ¬ (65535 : Int32) < c) (k0 : own_isn u0 = 1) :
    OCon l (⟨"com/example/nutex/nutex/LockNames", "requireValid", "(Ljava/lang/String;)Ljava/lang/String;"⟩ : MethodName) prog_12_method_2_code 5 (some (.object "java/lang/String")) ({ frames := 4, cells := 0, slots := 0, locals := 60 } : Room) Z #[(.ref a1)] h0 n0 (fun v h => v = some (.ref a1) ∧ h = h0) := by
  refine own_body own_pn_10 ?_
  intro p e s m below meth c T0 hx hZ hby hml hown hnm hret hlk e0 X0
  replace hown : s.vm.findClass "com/example/nutex/nutex/LockNames" = some m.cls := hown
  replace hnm : meth.name = "requireValid" := hnm
  have N0 := Fr.nil n0
  have K0 : Keep h0 h0 [] := Keep.refl _ _
  refine own_at (own_ef_own_req1 m a1) ?_
  refine own_go (g' := (mkF m 1 #[.val (.ref a1), .unset, .unset, .unset, .unset] [(.ref a1)])) (fun t kt => XS.aloadN X0.here hx rfl (hb hby own_d10_0) rfl rfl kt) ?_
  refine own_go (g' := (mkF m 14 #[.val (.ref a1), .unset, .unset, .unset, .unset] [])) (fun t kt => XS.ifnonnullYes X0.here hx rfl (pc0 := 1) (pc' := 14) rfl (hb hby own_d10_1) rfl (by decide) (by decide) kt) ?_
  refine own_go (g' := (mkF m 15 #[.val (.ref a1), .unset, .unset, .unset, .unset] [(.ref a1)])) (fun t kt => XS.aloadN X0.here hx rfl (hb hby own_d10_14) rfl rfl kt) ?_
  refine own_callVB X0 hx hZ (a := a1) (W := 0) (argsL := []) (rest := []) (c1 := 0) (s1 := 0) (Qc := fun v h' L => (v = some (.int (if (List.length ([u0] : List Int32)) = 0 then 1 else 0))) ∧ L = [] ∧ h' = h0) hown (hw _ (List.mem_of_getElem? (i := 44) rfl)) (hw _ (List.mem_of_getElem? (i := 45) rfl)) (hw _ (List.mem_of_getElem? (i := 47) rfl)) (hw _ (List.mem_of_getElem? (i := 46) rfl)) (by decide) (StrChars.Road.empW (W := 0) hZ (fun d hd => hw d (own_wm d hd)) (kI := 4) (hw _ (List.mem_of_getElem? (i := 11) rfl)) Ea Gv Gc Vb hcd hbd (Nat.le_of_ble_eq_true rfl) (by decide) (by decide)) Ea (g := (mkF m 15 #[.val (.ref a1), .unset, .unset, .unset, .unset] [(.ref a1)])) rfl (by rw [hml]; rfl) (lenOf own_pd2 rfl) rfl (by show 2 * 0 + _ ≤ _; exact Nat.le_of_eq rfl) (hb hby own_d10_15) e0 (by decide) (by decide) (fun v1 T1 L1 X1 hq1 => ?_)
  obtain ⟨rfl, rfl, e1⟩ := hq1
  have N1 := Fr.app N0 (Fr.nil n0)
  show OEnds _ _ _ _ _ _ T1 (mkF m 18 #[.val (.ref a1), .unset, .unset, .unset, .unset] [(.int (0 : Int32))])
  refine own_go (g' := (mkF m 21 #[.val (.ref a1), .unset, .unset, .unset, .unset] [])) (fun t kt => XS.ifNo X1.here hx rfl (hb hby own_d10_18) rfl ((if0 _ _).trans (teq ((by decide) : (0 : Int32) = (0 : Int32))).2) kt) ?_
  refine own_go (g' := (mkF m 22 #[.val (.ref a1), .unset, .unset, .unset, .unset] [(.ref a1)])) (fun t kt => XS.aloadN X1.here hx rfl (hb hby own_d10_21) rfl rfl kt) ?_
  refine own_callVB X1 hx hZ (a := a1) (W := 0) (argsL := []) (rest := []) (c1 := 0) (s1 := 0) (Qc := fun v h' L => (v = some (.int (Int32.ofNat (List.length ([u0] : List Int32))))) ∧ L = [] ∧ h' = h0) hown (hw _ (List.mem_of_getElem? (i := 49) rfl)) (hw _ (List.mem_of_getElem? (i := 50) rfl)) (hw _ (List.mem_of_getElem? (i := 52) rfl)) (hw _ (List.mem_of_getElem? (i := 51) rfl)) (by decide) (StrChars.Road.lenW (W := 0) hZ (fun d hd => hw d (own_wl d hd)) (kI := 4) (hw _ (List.mem_of_getElem? (i := 11) rfl)) Ea Gv Gc Vb hcd hbd S_c hcs (Nat.le_of_ble_eq_true rfl) (by decide) (by decide)) Ea (g := (mkF m 22 #[.val (.ref a1), .unset, .unset, .unset, .unset] [(.ref a1)])) rfl (by rw [hml]; rfl) (lenOf own_pd3 rfl) rfl (by show 2 * 0 + _ ≤ _; exact Nat.le_of_eq rfl) (hb hby own_d10_22) e1 (by decide) (by decide) (fun v2 T2 L2 X2 hq2 => ?_)
  obtain ⟨rfl, rfl, e2⟩ := hq2
  have N2 := Fr.app N1 (Fr.nil n0)
  show OEnds _ _ _ _ _ _ T2 (mkF m 25 #[.val (.ref a1), .unset, .unset, .unset, .unset] [(.int (1 : Int32))])
  refine own_go (g' := (mkF m 28 #[.val (.ref a1), .unset, .unset, .unset, .unset] [(.int (200 : Int32)), (.int (1 : Int32))])) (fun t kt => XS.sipush X2.here hx rfl (hb hby own_d10_25) kt) ?_
  refine own_go (g' := (mkF m 48 #[.val (.ref a1), .unset, .unset, .unset, .unset] [])) (fun t kt => XS.icmpYes X2.here hx rfl (pc0 := 28) (pc' := 48) rfl (hb hby own_d10_28) rfl (flt ((by decide) : ¬ ((200 : Int32) < (1 : Int32)))).2.2.2 (by decide) (by decide) kt) ?_
  refine own_go (g' := (mkF m 49 #[.val (.ref a1), .unset, .unset, .unset, .unset] [(.int (0 : Int32))])) (fun t kt => XS.iconst X2.here hx rfl (hb hby own_d10_48) kt) ?_
  refine own_go (g' := (mkF m 50 #[.val (.ref a1), .val (.int (0 : Int32)), .unset, .unset, .unset] [])) (fun t kt => XS.istoreN X2.here hx rfl (hb hby own_d10_49) rfl (l' := #[.val (.ref a1), .val (.int (0 : Int32)), .unset, .unset, .unset]) rfl kt) ?_
  have hd1 : ∀ (T : State) (locs : List Loc) (sl2 sl3 sl4 : Slot), Stand p l e ({ frames := 4, cells := 0, slots := 0, locals := 60 } : Room) s m #[(.ref a1)] below meth c T locs 0 0 → T.heap = h0 → Fr n0 locs → own_One sl2 → own_One sl3 → own_One sl4 → OEnds p e below (fun o t L => FrameEnd s o t L (({ frames := 4, cells := 0, slots := 0, locals := 60 } : Room)).cells (({ frames := 4, cells := 0, slots := 0, locals := 60 } : Room)).slots) n0 (fun v h => v = some (.ref a1) ∧ h = h0) T (mkF m 50 #[.val (.ref a1), .val (.int (1 : Int32)), sl2, sl3, sl4] []) := by
    intro T3 L3 sl2 sl3 sl4 X3 e3 N3 hsl2 hsl3 hsl4
    refine own_go (g' := (mkF m 51 #[.val (.ref a1), .val (.int (1 : Int32)), sl2, sl3, sl4] [(.int (1 : Int32))])) (fun t kt => XS.iloadN X3.here hx rfl (hb hby own_d10_50) rfl kt) ?_
    refine own_go (g' := (mkF m 52 #[.val (.ref a1), .val (.int (1 : Int32)), sl2, sl3, sl4] [(.ref a1), (.int (1 : Int32))])) (fun t kt => XS.aloadN X3.here hx rfl (hb hby own_d10_51) rfl rfl kt) ?_
    refine own_callVB X3 hx hZ (a := a1) (W := 1) (argsL := []) (rest := [(.int (1 : Int32))]) (c1 := 0) (s1 := 0) (Qc := fun v h' L => (v = some (.int (Int32.ofNat (List.length ([u0] : List Int32))))) ∧ L = [] ∧ h' = h0) hown (hw _ (List.mem_of_getElem? (i := 49) rfl)) (hw _ (List.mem_of_getElem? (i := 50) rfl)) (hw _ (List.mem_of_getElem? (i := 52) rfl)) (hw _ (List.mem_of_getElem? (i := 51) rfl)) (by decide) (StrChars.Road.lenW (W := 1) hZ (fun d hd => hw d (own_wl d hd)) (kI := 4) (hw _ (List.mem_of_getElem? (i := 11) rfl)) Ea Gv Gc Vb hcd hbd S_c hcs (Nat.le_of_ble_eq_true rfl) (by decide) (by decide)) Ea (g := (mkF m 52 #[.val (.ref a1), .val (.int (1 : Int32)), sl2, sl3, sl4] [(.ref a1), (.int (1 : Int32))])) rfl (by rw [hml]; rfl) (lenOf own_pd3 rfl) rfl (by show 2 * 0 + _ ≤ _; exact Nat.le_of_eq rfl) (hb hby own_d10_52) e3 (by decide) (by decide) (fun v4 T4 L4 X4 hq4 => ?_)
    obtain ⟨rfl, rfl, e4⟩ := hq4
    have N4 := Fr.app N3 (Fr.nil n0)
    show OEnds _ _ _ _ _ _ T4 (mkF m 55 #[.val (.ref a1), .val (.int (1 : Int32)), sl2, sl3, sl4] [(.int (1 : Int32)), (.int (1 : Int32))])
    refine own_go (g' := (mkF m 184 #[.val (.ref a1), .val (.int (1 : Int32)), sl2, sl3, sl4] [])) (fun t kt => XS.icmpYes X4.here hx rfl (pc0 := 55) (pc' := 184) rfl (hb hby own_d10_55) rfl (flt ((by decide) : ¬ ((1 : Int32) < (1 : Int32)))).2.1 (by decide) (by decide) kt) ?_
    refine own_go (g' := (mkF m 185 #[.val (.ref a1), .val (.int (1 : Int32)), sl2, sl3, sl4] [(.ref a1)])) (fun t kt => XS.aloadN X4.here hx rfl (hb hby own_d10_184) rfl rfl kt) ?_
    exact own_retA X4 hx hlk (t := (.object "java/lang/String")) rfl hret rfl (hb hby own_d10_185) e4 N4 (by decide) (by decide) (⟨rfl, rfl⟩)
  have hd0 : ∀ (T : State) (locs : List Loc) (sl2 sl3 sl4 : Slot), Stand p l e ({ frames := 4, cells := 0, slots := 0, locals := 60 } : Room) s m #[(.ref a1)] below meth c T locs 0 0 → T.heap = h0 → Fr n0 locs → own_One sl2 → own_One sl3 → own_One sl4 → OEnds p e below (fun o t L => FrameEnd s o t L (({ frames := 4, cells := 0, slots := 0, locals := 60 } : Room)).cells (({ frames := 4, cells := 0, slots := 0, locals := 60 } : Room)).slots) n0 (fun v h => v = some (.ref a1) ∧ h = h0) T (mkF m 50 #[.val (.ref a1), .val (.int (0 : Int32)), sl2, sl3, sl4] []) := by
    intro T5 L5 sl2 sl3 sl4 X5 e5 N5 hsl2 hsl3 hsl4
    refine own_go (g' := (mkF m 51 #[.val (.ref a1), .val (.int (0 : Int32)), sl2, sl3, sl4] [(.int (0 : Int32))])) (fun t kt => XS.iloadN X5.here hx rfl (hb hby own_d10_50) rfl kt) ?_
    refine own_go (g' := (mkF m 52 #[.val (.ref a1), .val (.int (0 : Int32)), sl2, sl3, sl4] [(.ref a1), (.int (0 : Int32))])) (fun t kt => XS.aloadN X5.here hx rfl (hb hby own_d10_51) rfl rfl kt) ?_
    refine own_callVB X5 hx hZ (a := a1) (W := 1) (argsL := []) (rest := [(.int (0 : Int32))]) (c1 := 0) (s1 := 0) (Qc := fun v h' L => (v = some (.int (Int32.ofNat (List.length ([u0] : List Int32))))) ∧ L = [] ∧ h' = h0) hown (hw _ (List.mem_of_getElem? (i := 49) rfl)) (hw _ (List.mem_of_getElem? (i := 50) rfl)) (hw _ (List.mem_of_getElem? (i := 52) rfl)) (hw _ (List.mem_of_getElem? (i := 51) rfl)) (by decide) (StrChars.Road.lenW (W := 1) hZ (fun d hd => hw d (own_wl d hd)) (kI := 4) (hw _ (List.mem_of_getElem? (i := 11) rfl)) Ea Gv Gc Vb hcd hbd S_c hcs (Nat.le_of_ble_eq_true rfl) (by decide) (by decide)) Ea (g := (mkF m 52 #[.val (.ref a1), .val (.int (0 : Int32)), sl2, sl3, sl4] [(.ref a1), (.int (0 : Int32))])) rfl (by rw [hml]; rfl) (lenOf own_pd3 rfl) rfl (by show 2 * 0 + _ ≤ _; exact Nat.le_of_eq rfl) (hb hby own_d10_52) e5 (by decide) (by decide) (fun v6 T6 L6 X6 hq6 => ?_)
    obtain ⟨rfl, rfl, e6⟩ := hq6
    have N6 := Fr.app N5 (Fr.nil n0)
    show OEnds _ _ _ _ _ _ T6 (mkF m 55 #[.val (.ref a1), .val (.int (0 : Int32)), sl2, sl3, sl4] [(.int (1 : Int32)), (.int (0 : Int32))])
    refine own_go (g' := (mkF m 58 #[.val (.ref a1), .val (.int (0 : Int32)), sl2, sl3, sl4] [])) (fun t kt => XS.icmpNo X6.here hx rfl (hb hby own_d10_55) rfl (tlt ((by decide) : (0 : Int32) < (1 : Int32))).2.1 kt) ?_
    refine own_go (g' := (mkF m 59 #[.val (.ref a1), .val (.int (0 : Int32)), sl2, sl3, sl4] [(.ref a1)])) (fun t kt => XS.aloadN X6.here hx rfl (hb hby own_d10_58) rfl rfl kt) ?_
    refine own_go (g' := (mkF m 60 #[.val (.ref a1), .val (.int (0 : Int32)), sl2, sl3, sl4] [(.int (0 : Int32)), (.ref a1)])) (fun t kt => XS.iloadN X6.here hx rfl (hb hby own_d10_59) rfl kt) ?_
    refine own_callVB X6 hx hZ (a := a1) (W := 0) (argsL := [(.int (0 : Int32))]) (rest := []) (c1 := 0) (s1 := 0) (Qc := fun v h' L => (v = some (.int (List.getD ([u0] : List Int32) 0 0))) ∧ L = [] ∧ h' = h0) hown (hw _ (List.mem_of_getElem? (i := 59) rfl)) (hw _ (List.mem_of_getElem? (i := 60) rfl)) (hw _ (List.mem_of_getElem? (i := 62) rfl)) (hw _ (List.mem_of_getElem? (i := 61) rfl)) (by decide) (StrChars.Road.chN (W := 0) hZ (fun d hd => hw d (own_wc d hd)) (kI := 4) (hw _ (List.mem_of_getElem? (i := 11) rfl)) Ea Gv Gc Vb hcd hbd S_c hcs S_f hsv (Nat.le_of_ble_eq_true rfl) (i := 0) (Nat.le_of_ble_eq_true rfl) (j := (0 : Int32)) rfl (by decide) (by decide)) Ea (g := (mkF m 60 #[.val (.ref a1), .val (.int (0 : Int32)), sl2, sl3, sl4] [(.int (0 : Int32)), (.ref a1)])) rfl (by rw [hml]; rfl) (lenOf own_pd0 rfl) rfl (by show 2 * 0 + _ ≤ _; exact Nat.le_of_eq rfl) (hb hby own_d10_60) e6 (by decide) (by decide) (fun v7 T7 L7 X7 hq7 => ?_)
    obtain ⟨rfl, rfl, e7⟩ := hq7
    have N7 := Fr.app N6 (Fr.nil n0)
    show OEnds _ _ _ _ _ _ T7 (mkF m 63 #[.val (.ref a1), .val (.int (0 : Int32)), sl2, sl3, sl4] [(.int u0)])
    refine own_go (g' := (mkF m 64 #[.val (.ref a1), .val (.int (0 : Int32)), .val (.int u0), sl3, sl4] [])) (fun t kt => XS.istoreN X7.here hx rfl (hb hby own_d10_63) rfl (l' := #[.val (.ref a1), .val (.int (0 : Int32)), .val (.int u0), sl3, sl4]) (XS.store1 (o := sl2) rfl hsl2 rfl) kt) ?_
    refine own_go (g' := (mkF m 65 #[.val (.ref a1), .val (.int (0 : Int32)), .val (.int u0), sl3, sl4] [(.int u0)])) (fun t kt => XS.iloadN X7.here hx rfl (hb hby own_d10_64) rfl kt) ?_
    refine own_go (g' := (mkF m 67 #[.val (.ref a1), .val (.int (0 : Int32)), .val (.int u0), sl3, sl4] [(.int (47 : Int32)), (.int u0)])) (fun t kt => XS.bipush X7.here hx rfl (hb hby own_d10_65) kt) ?_
    refine own_go (g' := (mkF m 136 #[.val (.ref a1), .val (.int (0 : Int32)), .val (.int u0), sl3, sl4] [])) (fun t kt => XS.icmpYes X7.here hx rfl (pc0 := 67) (pc' := 136) rfl (hb hby own_d10_67) rfl (feq ((own_n47 k0) : ¬ (u0 = (47 : Int32)))).2 (by decide) (by decide) kt) ?_
    refine own_go (g' := (mkF m 137 #[.val (.ref a1), .val (.int (0 : Int32)), .val (.int u0), sl3, sl4] [(.int u0)])) (fun t kt => XS.iloadN X7.here hx rfl (hb hby own_d10_136) rfl kt) ?_
    refine own_callS X7 hx hZ (W := 0) (argsL := [(.int u0)]) (rest := []) hown (hw _ (List.mem_of_getElem? (i := 81) rfl)) (hw _ (List.mem_of_getElem? (i := 82) rfl)) (hw _ (List.mem_of_getElem? (i := 42) rfl)) (hw _ (List.mem_of_getElem? (i := 83) rfl)) (by decide) (own_isname l Z a0 hw u0 h0 n0 Z0) (by decide) (by decide) (g := (mkF m 137 #[.val (.ref a1), .val (.int (0 : Int32)), .val (.int u0), sl3, sl4] [(.int u0)])) rfl (by rw [hml]; rfl) (lenOf own_pd4 rfl) rfl (by show 2 * 0 + _ ≤ _; exact Nat.le_of_eq rfl) (hb hby own_d10_137) e7 N7 (by decide) (by decide) (fun v8 T8 L8 X8 N8 hq8 => ?_)
    obtain ⟨rfl, e8⟩ := hq8
    show OEnds _ _ _ _ _ _ T8 (mkF m 140 #[.val (.ref a1), .val (.int (0 : Int32)), .val (.int u0), sl3, sl4] [(.int (own_isn u0))])
    refine own_go (g' := (mkF m 178 #[.val (.ref a1), .val (.int (0 : Int32)), .val (.int u0), sl3, sl4] [])) (fun t kt => XS.ifYes X8.here hx rfl (pc0 := 140) (pc' := 178) rfl (hb hby own_d10_140) rfl ((if0 _ _).trans (feq ((own_nz k0) : ¬ ((own_isn u0) = (0 : Int32)))).2) (by decide) (by decide) kt) ?_
    refine own_go (g' := (mkF m 181 #[.val (.ref a1), .val (.int (1 : Int32)), .val (.int u0), sl3, sl4] [])) (fun t kt => XS.iinc X8.here hx rfl (hb hby own_d10_178) rfl (l' := #[.val (.ref a1), .val (.int (1 : Int32)), .val (.int u0), sl3, sl4]) rfl kt) ?_
    refine own_go (g' := (mkF m 50 #[.val (.ref a1), .val (.int (1 : Int32)), .val (.int u0), sl3, sl4] [])) (fun t kt => XS.goto X8.here hx rfl (pc0 := 181) (pc' := 50) rfl (hb hby own_d10_181) (by decide) (by decide) kt) ?_
    exact hd1 _ _ _ _ _ X8 e8 N8 (Or.inr ⟨_, rfl, rfl⟩) hsl3 hsl4
  exact hd0 _ _ _ _ _ X2 e2 N2 (Or.inl rfl) (Or.inl rfl) (Or.inl rfl)
theorem own_d3_21 : decode method_4_code 21 = .ok (.iload 6, 2) := by decide +kernel
theorem own_d3_23 : decode method_4_code 23 = .ok (.iconst 2, 1) := by decide +kernel
theorem own_d3_24 : decode method_4_code 24 = .ok (.if_icmp .ne 22, 3) := by decide +kernel
theorem own_d3_27 : decode method_4_code 27 = .ok (.new 13, 3) := by decide +kernel
theorem own_d3_30 : decode method_4_code 30 = .ok (.dup, 1) := by decide +kernel
theorem own_d3_31 : decode method_4_code 31 = .ok (.iconst 2, 1) := by decide +kernel
theorem own_d3_32 : decode method_4_code 32 = .ok (.newarray .char, 2) := by decide +kernel
theorem own_d3_34 : decode method_4_code 34 = .ok (.dup, 1) := by decide +kernel
theorem own_d3_35 : decode method_4_code 35 = .ok (.iconst 0, 1) := by decide +kernel
theorem own_d3_36 : decode method_4_code 36 = .ok (.iload_n 0, 1) := by decide +kernel
theorem own_d3_37 : decode method_4_code 37 = .ok (.castore, 1) := by decide +kernel
theorem own_d3_38 : decode method_4_code 38 = .ok (.dup, 1) := by decide +kernel
theorem own_d3_39 : decode method_4_code 39 = .ok (.iconst 1, 1) := by decide +kernel
theorem own_d3_40 : decode method_4_code 40 = .ok (.iload_n 1, 1) := by decide +kernel
theorem own_d3_41 : decode method_4_code 41 = .ok (.castore, 1) := by decide +kernel
theorem own_d3_42 : decode method_4_code 42 = .ok (.invokespecial 15, 3) := by decide +kernel
theorem own_d3_45 : decode method_4_code 45 = .ok (.areturn, 1) := by decide +kernel
theorem own_ef_own_build2 (m : MethodId) (x0 : Int32) (x1 : Int32) (x2 : Int32) (x3 : Int32) (x4 : Int32) (x5 : Int32) : entryFrame m #[(.int x0), (.int x1), (.int x2), (.int x3), (.int x4), (.int x5), (.int (2 : Int32))] 7 = mkF m 0 #[.val (.int x0), .val (.int x1), .val (.int x2), .val (.int x3), .val (.int x4), .val (.int x5), .val (.int (2 : Int32))] [] := by first | (simp [entryFrame, mkF, argsToLocals, Value.category]; done) | rfl
set_option maxRecDepth 65536 in
set_option maxHeartbeats 40000000 in
theorem own_build2 (l : Launch) (Z : State) (a0 : Array Value) (hw : ∀ d ∈ tables_1, d.before a0 Z = true) (u0 u1 u2 u3 u4 u5 cs : Int32) (h0 : Heap) (n0 : Nat) (Z0 : n0 ≤ h0.size) (S_c : Sta Z h0 "java/lang/String" "COMPACT_STRINGS" "Z" (.int cs)) (hcs : ¬ cs = 0) (r0 : (¬ u0 < 0 ∧ ¬ (255 : Int32) < u0) ∧ nar .char u0 = u0) (r1 : (¬ u1 < 0 ∧ ¬ (255 : Int32) < u1) ∧ nar .char u1 = u1) :
    OCon l (⟨"com/example/nutex/nutex/LockNamesRequireValidPinLaw", "build", "(CCCCCCI)Ljava/lang/String;"⟩ : MethodName) method_4_code 7 (some (.object "java/lang/String")) ({ frames := 4, cells := 3, slots := 8, locals := 66 } : Room) Z #[(.int u0), (.int u1), (.int u2), (.int u3), (.int u4), (.int u5), (.int (2 : Int32))] h0 n0 (fun v h => ∃ b t k, v = some (.ref b) ∧ Keep h0 h [] ∧ Exa Z h b "java/lang/String" ∧ Fld Z h b "java/lang/String" "coder" "B" (.int (0 : Int32)) ∧ Fld Z h b "java/lang/String" "value" "[B" (.ref t) ∧ Arv Z h t k .byte (2 : Int32) ((([u0, u1] : List Int32).map (fun c => c.toInt8.toInt32)).map Value.int) (.int (0 : Int32))) := by
  refine own_body own_pn_3 ?_
  intro p e s m below meth c T0 hx hZ hby hml hown hnm hret hlk e0 X0
  replace hown : s.vm.findClass "com/example/nutex/nutex/LockNamesRequireValidPinLaw" = some m.cls := hown
  replace hnm : meth.name = "build" := hnm
  have N0 := Fr.nil n0
  have K0 : Keep h0 h0 [] := Keep.refl _ _
  refine own_at (own_ef_own_build2 m u0 u1 u2 u3 u4 u5) ?_
  refine own_go (g' := (mkF m 2 #[.val (.int u0), .val (.int u1), .val (.int u2), .val (.int u3), .val (.int u4), .val (.int u5), .val (.int (2 : Int32))] [(.int (2 : Int32))])) (fun t kt => XS.iload X0.here hx rfl (hb hby own_d3_0) rfl kt) ?_
  refine own_go (g' := (mkF m 3 #[.val (.int u0), .val (.int u1), .val (.int u2), .val (.int u3), .val (.int u4), .val (.int u5), .val (.int (2 : Int32))] [(.int (1 : Int32)), (.int (2 : Int32))])) (fun t kt => XS.iconst X0.here hx rfl (hb hby own_d3_2) kt) ?_
  refine own_go (g' := (mkF m 21 #[.val (.int u0), .val (.int u1), .val (.int u2), .val (.int u3), .val (.int u4), .val (.int u5), .val (.int (2 : Int32))] [])) (fun t kt => XS.icmpYes X0.here hx rfl (pc0 := 3) (pc' := 21) rfl (hb hby own_d3_3) rfl (feq ((by decide) : ¬ ((2 : Int32) = (1 : Int32)))).2 (by decide) (by decide) kt) ?_
  refine own_go (g' := (mkF m 23 #[.val (.int u0), .val (.int u1), .val (.int u2), .val (.int u3), .val (.int u4), .val (.int u5), .val (.int (2 : Int32))] [(.int (2 : Int32))])) (fun t kt => XS.iload X0.here hx rfl (hb hby own_d3_21) rfl kt) ?_
  refine own_go (g' := (mkF m 24 #[.val (.int u0), .val (.int u1), .val (.int u2), .val (.int u3), .val (.int u4), .val (.int u5), .val (.int (2 : Int32))] [(.int (2 : Int32)), (.int (2 : Int32))])) (fun t kt => XS.iconst X0.here hx rfl (hb hby own_d3_23) kt) ?_
  refine own_go (g' := (mkF m 27 #[.val (.int u0), .val (.int u1), .val (.int u2), .val (.int u3), .val (.int u4), .val (.int u5), .val (.int (2 : Int32))] [])) (fun t kt => XS.icmpNo X0.here hx rfl (hb hby own_d3_24) rfl (teq ((by decide) : (2 : Int32) = (2 : Int32))).2 kt) ?_
  refine own_new X0 hx hZ hown (hw _ (List.mem_of_getElem? (i := 10) rfl)) (hw _ (List.mem_of_getElem? (i := 11) rfl)) (hw _ (List.mem_of_getElem? (i := 12) rfl)) e0 (g := (mkF m 27 #[.val (.int u0), .val (.int u1), .val (.int u2), .val (.int u3), .val (.int u4), .val (.int u5), .val (.int (2 : Int32))] [])) rfl (hb hby own_d3_27) (by decide) (by decide) (fun T1 h1 b1 g1 X1 e1 E1 A1 D1 => ?_)
  show OEnds _ _ _ _ _ _ T1 (mkF m 30 #[.val (.int u0), .val (.int u1), .val (.int u2), .val (.int u3), .val (.int u4), .val (.int u5), .val (.int (2 : Int32))] [(.ref b1)])
  have S_c_h1 := S_c.ext E1
  have gz_b1 : h0.size ≤ b1 := Nat.le_trans K0.1 (Nat.le_of_eq g1.symm)
  have ge_b1 : n0 ≤ b1 := Nat.le_trans Z0 gz_b1
  have K1 := K0.ext E1
  have F1_coder : Fld Z h1 b1 "java/lang/String" "coder" "B" (.int (0 : Int32)) := D1 (Or.inr (hw _ (List.mem_of_getElem? (i := 37) rfl))) (ty := .byte) (by decide)
  have F1_value : Fld Z h1 b1 "java/lang/String" "value" "[B" .null := D1 (Or.inr (hw _ (List.mem_of_getElem? (i := 39) rfl))) (ty := (.array .byte)) (by decide)
  refine own_go (g' := (mkF m 31 #[.val (.int u0), .val (.int u1), .val (.int u2), .val (.int u3), .val (.int u4), .val (.int u5), .val (.int (2 : Int32))] [(.ref b1), (.ref b1)])) (fun t kt => XS.dup X1.here hx rfl (hb hby own_d3_30) rfl rfl kt) ?_
  refine own_go (g' := (mkF m 32 #[.val (.int u0), .val (.int u1), .val (.int u2), .val (.int u3), .val (.int u4), .val (.int u5), .val (.int (2 : Int32))] [(.int (2 : Int32)), (.ref b1), (.ref b1)])) (fun t kt => XS.iconst X1.here hx rfl (hb hby own_d3_31) kt) ?_
  refine own_newarr X1 hx hZ (hw _ (List.mem_of_getElem? (i := 13) rfl)) e1 (g := (mkF m 32 #[.val (.int u0), .val (.int u1), .val (.int u2), .val (.int u3), .val (.int u4), .val (.int u5), .val (.int (2 : Int32))] [(.int (2 : Int32)), (.ref b1), (.ref b1)])) rfl (hb hby own_d3_32) rfl (by decide) (cap := 2) (by decide) (by decide) (by decide) (by decide) (fun T2 h2 b2 k2 g2 X2 e2 E2 V2 => ?_)
  show OEnds _ _ _ _ _ _ T2 (mkF m 34 #[.val (.int u0), .val (.int u1), .val (.int u2), .val (.int u3), .val (.int u4), .val (.int u5), .val (.int (2 : Int32))] [(.ref b2), (.ref b1), (.ref b1)])
  have ne_b1_b2 : b1 ≠ b2 := Nat.ne_of_lt (Nat.lt_of_lt_of_le A1.lt (Nat.le_of_eq g2.symm))
  have S_c_h2 := S_c_h1.ext E2
  have A1_h2 := A1.ext E2
  have F1_coder_h2 := F1_coder.ext E2
  have F1_value_h2 := F1_value.ext E2
  have gz_b2 : h0.size ≤ b2 := Nat.le_trans K1.1 (Nat.le_of_eq g2.symm)
  have ge_b2 : n0 ≤ b2 := Nat.le_trans Z0 gz_b2
  have K2 := K1.ext E2
  replace V2 : Arv Z h2 b2 k2 .char (2 : Int32) [(.int (0 : Int32)), (.int (0 : Int32))] (.int (0 : Int32)) := V2
  refine own_go (g' := (mkF m 35 #[.val (.int u0), .val (.int u1), .val (.int u2), .val (.int u3), .val (.int u4), .val (.int u5), .val (.int (2 : Int32))] [(.ref b2), (.ref b2), (.ref b1), (.ref b1)])) (fun t kt => XS.dup X2.here hx rfl (hb hby own_d3_34) rfl rfl kt) ?_
  refine own_go (g' := (mkF m 36 #[.val (.int u0), .val (.int u1), .val (.int u2), .val (.int u3), .val (.int u4), .val (.int u5), .val (.int (2 : Int32))] [(.int (0 : Int32)), (.ref b2), (.ref b2), (.ref b1), (.ref b1)])) (fun t kt => XS.iconst X2.here hx rfl (hb hby own_d3_35) kt) ?_
  refine own_go (g' := (mkF m 37 #[.val (.int u0), .val (.int u1), .val (.int u2), .val (.int u3), .val (.int u4), .val (.int u5), .val (.int (2 : Int32))] [(.int u0), (.int (0 : Int32)), (.ref b2), (.ref b2), (.ref b1), (.ref b1)])) (fun t kt => XS.iloadN X2.here hx rfl (hb hby own_d3_36) rfl kt) ?_
  refine own_castore X2 hx hZ e2 V2 ⟨by decide, by decide⟩ 0 rfl (Nat.le_of_ble_eq_true rfl) N0 ge_b2 (g := (mkF m 37 #[.val (.int u0), .val (.int u1), .val (.int u2), .val (.int u3), .val (.int u4), .val (.int u5), .val (.int (2 : Int32))] [(.int u0), (.int (0 : Int32)), (.ref b2), (.ref b2), (.ref b1), (.ref b1)])) rfl rfl (hb hby own_d3_37) (fun T3 h3 L3 X3 e3 N3 W3 V3 => ?_)
  show OEnds _ _ _ _ _ _ T3 (mkF m 38 #[.val (.int u0), .val (.int u1), .val (.int u2), .val (.int u3), .val (.int u4), .val (.int u5), .val (.int (2 : Int32))] [(.ref b2), (.ref b1), (.ref b1)])
  have S_c_h3 := S_c_h2.wr W3
  have A1_h3 := A1_h2.wr W3
  have F1_coder_h3 := F1_coder_h2.other W3 (Or.inl ne_b1_b2)
  have F1_value_h3 := F1_value_h2.other W3 (Or.inl ne_b1_b2)
  have K3 := K2.wr W3 (Or.inr gz_b2)
  replace V3 : Arv Z h3 b2 k2 .char (2 : Int32) [(.int (nar .char u0)), (.int (0 : Int32))] (.int (0 : Int32)) := V3
  refine own_go (g' := (mkF m 39 #[.val (.int u0), .val (.int u1), .val (.int u2), .val (.int u3), .val (.int u4), .val (.int u5), .val (.int (2 : Int32))] [(.ref b2), (.ref b2), (.ref b1), (.ref b1)])) (fun t kt => XS.dup X3.here hx rfl (hb hby own_d3_38) rfl rfl kt) ?_
  refine own_go (g' := (mkF m 40 #[.val (.int u0), .val (.int u1), .val (.int u2), .val (.int u3), .val (.int u4), .val (.int u5), .val (.int (2 : Int32))] [(.int (1 : Int32)), (.ref b2), (.ref b2), (.ref b1), (.ref b1)])) (fun t kt => XS.iconst X3.here hx rfl (hb hby own_d3_39) kt) ?_
  refine own_go (g' := (mkF m 41 #[.val (.int u0), .val (.int u1), .val (.int u2), .val (.int u3), .val (.int u4), .val (.int u5), .val (.int (2 : Int32))] [(.int u1), (.int (1 : Int32)), (.ref b2), (.ref b2), (.ref b1), (.ref b1)])) (fun t kt => XS.iloadN X3.here hx rfl (hb hby own_d3_40) rfl kt) ?_
  refine own_castore X3 hx hZ e3 V3 ⟨by decide, by decide⟩ 1 rfl (Nat.le_of_ble_eq_true rfl) N3 ge_b2 (g := (mkF m 41 #[.val (.int u0), .val (.int u1), .val (.int u2), .val (.int u3), .val (.int u4), .val (.int u5), .val (.int (2 : Int32))] [(.int u1), (.int (1 : Int32)), (.ref b2), (.ref b2), (.ref b1), (.ref b1)])) rfl rfl (hb hby own_d3_41) (fun T4 h4 L4 X4 e4 N4 W4 V4 => ?_)
  show OEnds _ _ _ _ _ _ T4 (mkF m 42 #[.val (.int u0), .val (.int u1), .val (.int u2), .val (.int u3), .val (.int u4), .val (.int u5), .val (.int (2 : Int32))] [(.ref b2), (.ref b1), (.ref b1)])
  have S_c_h4 := S_c_h3.wr W4
  have A1_h4 := A1_h3.wr W4
  have F1_coder_h4 := F1_coder_h3.other W4 (Or.inl ne_b1_b2)
  have F1_value_h4 := F1_value_h3.other W4 (Or.inl ne_b1_b2)
  have K4 := K3.wr W4 (Or.inr gz_b2)
  replace V4 : Arv Z h4 b2 k2 .char (2 : Int32) [(.int (nar .char u0)), (.int (nar .char u1))] (.int (0 : Int32)) := V4
  have Vr5 : Arv Z h4 b2 k2 .char (2 : Int32) [(.int u0), (.int u1)] (.int (0 : Int32)) := by simpa only [(r0).2, (r1).2] using V4
  have hp6 : ∀ c ∈ ([u0, u1] : List Int32), ¬ c < 0 ∧ ¬ (255 : Int32) < c := (own_alS (r0).1 (own_alS (r1).1 own_al0))
  refine own_callCB X4 hx hZ (a := b1) (W := 1) (argsL := [(.ref b2)]) (rest := [(.ref b1)]) (c1 := 1) (s1 := 2) (Qc := fun v h' L => StrChars.Road.QV Z b1 (2 : Int32) (([u0, u1] : List Int32).map (fun c => c.toInt8.toInt32)) h4 n0 v h' L) rfl hown (hw _ (List.mem_of_getElem? (i := 14) rfl)) (hw _ (List.mem_of_getElem? (i := 15) rfl)) (hw _ (List.mem_of_getElem? (i := 16) rfl)) (by decide) (StrChars.Road.backV (W := 1) hZ (fun d hd => hw d (own_wi d hd)) (kI := 4) (hw _ (List.mem_of_getElem? (i := 11) rfl)) (cs := ([u0, u1] : List Int32)) (bs := (([u0, u1] : List Int32).map (fun c => c.toInt8.toInt32))) (n := 2) ge_b1 (Nat.le_trans Z0 K4.1) A1_h4 F1_value_h4 F1_coder_h4 Vr5 S_c_h4 hcs rfl rfl (by decide) (by decide) hp6 rfl (by decide) (by decide)) (g := (mkF m 42 #[.val (.int u0), .val (.int u1), .val (.int u2), .val (.int u3), .val (.int u4), .val (.int u5), .val (.int (2 : Int32))] [(.ref b2), (.ref b1), (.ref b1)])) rfl (by rw [hml]; rfl) (lenOf own_pd1 rfl) rfl (by show 2 * 0 + _ ≤ _; exact Nat.le_of_eq rfl) (hb hby own_d3_42) e4 (by decide) (by decide) (fun v6 T6 L6 X6 hq6 => ?_)
  obtain ⟨rfl, M6, Kc6, A6, G6, t6, c6, ge_t6, gy_t6, ny_t6, F6, V6⟩ := hq6
  have N6 := Fr.app N4 M6
  have ne_b1_t6 : b1 ≠ t6 := Nat.ne_of_lt (Nat.lt_of_lt_of_le A1_h4.lt gy_t6)
  have ne_b2_t6 : b2 ≠ t6 := Nat.ne_of_lt (Nat.lt_of_lt_of_le Vr5.lt gy_t6)
  have gz_t6 : h0.size ≤ t6 := Nat.le_trans K4.1 gy_t6
  have Vr5_h6 := Vr5.keep Kc6 (ninS (Ne.symm ne_b1_b2) nin0)
  have K6 := K4.trans Kc6 (allS (Or.inr gz_b1) all0)
  have S_c_h6 := S_c.ext (own_kext K6)
  have hcd6 := StrChars.Road.codOf (cs := ([u0, u1] : List Int32)) (n := 2) rfl (fun c hc => (hp6 c hc).2)
  have hbd6 := own_up _ hp6
  show OEnds _ _ _ _ _ _ T6 (mkF m 45 #[.val (.int u0), .val (.int u1), .val (.int u2), .val (.int u3), .val (.int u4), .val (.int u5), .val (.int (2 : Int32))] [(.ref b1)])
  exact own_retA X6 hx hlk (t := (.object "java/lang/String")) rfl hret rfl (hb hby own_d3_45) rfl N6 (by decide) (by decide) (⟨b1, t6, c6, rfl, K6, A6, G6, F6, V6⟩)
theorem own_ef_own_req2 (m : MethodId) (x0 : Addr) : entryFrame m #[(.ref x0)] 5 = mkF m 0 #[.val (.ref x0), .unset, .unset, .unset, .unset] [] := by first | (simp [entryFrame, mkF, argsToLocals, Value.category]; done) | rfl
set_option maxRecDepth 65536 in
set_option maxHeartbeats 40000000 in
theorem own_req2 (l : Launch) (Z : State) (a0 : Array Value) (hw : ∀ d ∈ tables_1, d.before a0 Z = true) (a1 ab : Addr) (kb : ClassId) (u0 u1 cs : Int32) (sv : Value) (hsv : sv.isRef = true) (h0 : Heap) (n0 : Nat) (Z0 : n0 ≤ h0.size) (Ea : Exa Z h0 a1 "java/lang/String") (Gc : Fld Z h0 a1 "java/lang/String" "coder" "B" (.int (0 : Int32))) (Gv : Fld Z h0 a1 "java/lang/String" "value" "[B" (.ref ab)) (Vb : Arv Z h0 ab kb .byte (2 : Int32) ((([u0, u1] : List Int32).map (fun c => c.toInt8.toInt32)).map Value.int) (.int (0 : Int32))) (S_c : Sta Z h0 "java/lang/String" "COMPACT_STRINGS" "Z" (.int cs)) (S_f : Sta Z h0 "jdk/internal/util/Preconditions" "SIOOBE_FORMATTER" "Ljava/util/function/BiFunction;" sv) (hcs : ¬ cs = 0) (hcd : StrChars.Road.CodA ([u0, u1] : List Int32) 0 (2 : Int32) ((([u0, u1] : List Int32).map (fun c => c.toInt8.toInt32)).map Value.int)) (hbd : ∀ c ∈ ([u0, u1] : List Int32), ¬ c < 0 ∧ ¬ (65535 : Int32) < c) (k0 : own_isn u0 = 1) (k1 : own_isn u1 = 1) :
    OCon l (⟨"com/example/nutex/nutex/LockNames", "requireValid", "(Ljava/lang/String;)Ljava/lang/String;"⟩ : MethodName) prog_12_method_2_code 5 (some (.object "java/lang/String")) ({ frames := 4, cells := 0, slots := 0, locals := 60 } : Room) Z #[(.ref a1)] h0 n0 (fun v h => v = some (.ref a1) ∧ h = h0) := by
  refine own_body own_pn_10 ?_
  intro p e s m below meth c T0 hx hZ hby hml hown hnm hret hlk e0 X0
  replace hown : s.vm.findClass "com/example/nutex/nutex/LockNames" = some m.cls := hown
  replace hnm : meth.name = "requireValid" := hnm
  have N0 := Fr.nil n0
  have K0 : Keep h0 h0 [] := Keep.refl _ _
  refine own_at (own_ef_own_req2 m a1) ?_
  refine own_go (g' := (mkF m 1 #[.val (.ref a1), .unset, .unset, .unset, .unset] [(.ref a1)])) (fun t kt => XS.aloadN X0.here hx rfl (hb hby own_d10_0) rfl rfl kt) ?_
  refine own_go (g' := (mkF m 14 #[.val (.ref a1), .unset, .unset, .unset, .unset] [])) (fun t kt => XS.ifnonnullYes X0.here hx rfl (pc0 := 1) (pc' := 14) rfl (hb hby own_d10_1) rfl (by decide) (by decide) kt) ?_
  refine own_go (g' := (mkF m 15 #[.val (.ref a1), .unset, .unset, .unset, .unset] [(.ref a1)])) (fun t kt => XS.aloadN X0.here hx rfl (hb hby own_d10_14) rfl rfl kt) ?_
  refine own_callVB X0 hx hZ (a := a1) (W := 0) (argsL := []) (rest := []) (c1 := 0) (s1 := 0) (Qc := fun v h' L => (v = some (.int (if (List.length ([u0, u1] : List Int32)) = 0 then 1 else 0))) ∧ L = [] ∧ h' = h0) hown (hw _ (List.mem_of_getElem? (i := 44) rfl)) (hw _ (List.mem_of_getElem? (i := 45) rfl)) (hw _ (List.mem_of_getElem? (i := 47) rfl)) (hw _ (List.mem_of_getElem? (i := 46) rfl)) (by decide) (StrChars.Road.empW (W := 0) hZ (fun d hd => hw d (own_wm d hd)) (kI := 4) (hw _ (List.mem_of_getElem? (i := 11) rfl)) Ea Gv Gc Vb hcd hbd (Nat.le_of_ble_eq_true rfl) (by decide) (by decide)) Ea (g := (mkF m 15 #[.val (.ref a1), .unset, .unset, .unset, .unset] [(.ref a1)])) rfl (by rw [hml]; rfl) (lenOf own_pd2 rfl) rfl (by show 2 * 0 + _ ≤ _; exact Nat.le_of_eq rfl) (hb hby own_d10_15) e0 (by decide) (by decide) (fun v1 T1 L1 X1 hq1 => ?_)
  obtain ⟨rfl, rfl, e1⟩ := hq1
  have N1 := Fr.app N0 (Fr.nil n0)
  show OEnds _ _ _ _ _ _ T1 (mkF m 18 #[.val (.ref a1), .unset, .unset, .unset, .unset] [(.int (0 : Int32))])
  refine own_go (g' := (mkF m 21 #[.val (.ref a1), .unset, .unset, .unset, .unset] [])) (fun t kt => XS.ifNo X1.here hx rfl (hb hby own_d10_18) rfl ((if0 _ _).trans (teq ((by decide) : (0 : Int32) = (0 : Int32))).2) kt) ?_
  refine own_go (g' := (mkF m 22 #[.val (.ref a1), .unset, .unset, .unset, .unset] [(.ref a1)])) (fun t kt => XS.aloadN X1.here hx rfl (hb hby own_d10_21) rfl rfl kt) ?_
  refine own_callVB X1 hx hZ (a := a1) (W := 0) (argsL := []) (rest := []) (c1 := 0) (s1 := 0) (Qc := fun v h' L => (v = some (.int (Int32.ofNat (List.length ([u0, u1] : List Int32))))) ∧ L = [] ∧ h' = h0) hown (hw _ (List.mem_of_getElem? (i := 49) rfl)) (hw _ (List.mem_of_getElem? (i := 50) rfl)) (hw _ (List.mem_of_getElem? (i := 52) rfl)) (hw _ (List.mem_of_getElem? (i := 51) rfl)) (by decide) (StrChars.Road.lenW (W := 0) hZ (fun d hd => hw d (own_wl d hd)) (kI := 4) (hw _ (List.mem_of_getElem? (i := 11) rfl)) Ea Gv Gc Vb hcd hbd S_c hcs (Nat.le_of_ble_eq_true rfl) (by decide) (by decide)) Ea (g := (mkF m 22 #[.val (.ref a1), .unset, .unset, .unset, .unset] [(.ref a1)])) rfl (by rw [hml]; rfl) (lenOf own_pd3 rfl) rfl (by show 2 * 0 + _ ≤ _; exact Nat.le_of_eq rfl) (hb hby own_d10_22) e1 (by decide) (by decide) (fun v2 T2 L2 X2 hq2 => ?_)
  obtain ⟨rfl, rfl, e2⟩ := hq2
  have N2 := Fr.app N1 (Fr.nil n0)
  show OEnds _ _ _ _ _ _ T2 (mkF m 25 #[.val (.ref a1), .unset, .unset, .unset, .unset] [(.int (2 : Int32))])
  refine own_go (g' := (mkF m 28 #[.val (.ref a1), .unset, .unset, .unset, .unset] [(.int (200 : Int32)), (.int (2 : Int32))])) (fun t kt => XS.sipush X2.here hx rfl (hb hby own_d10_25) kt) ?_
  refine own_go (g' := (mkF m 48 #[.val (.ref a1), .unset, .unset, .unset, .unset] [])) (fun t kt => XS.icmpYes X2.here hx rfl (pc0 := 28) (pc' := 48) rfl (hb hby own_d10_28) rfl (flt ((by decide) : ¬ ((200 : Int32) < (2 : Int32)))).2.2.2 (by decide) (by decide) kt) ?_
  refine own_go (g' := (mkF m 49 #[.val (.ref a1), .unset, .unset, .unset, .unset] [(.int (0 : Int32))])) (fun t kt => XS.iconst X2.here hx rfl (hb hby own_d10_48) kt) ?_
  refine own_go (g' := (mkF m 50 #[.val (.ref a1), .val (.int (0 : Int32)), .unset, .unset, .unset] [])) (fun t kt => XS.istoreN X2.here hx rfl (hb hby own_d10_49) rfl (l' := #[.val (.ref a1), .val (.int (0 : Int32)), .unset, .unset, .unset]) rfl kt) ?_
  have hd2 : ∀ (T : State) (locs : List Loc) (sl2 sl3 sl4 : Slot), Stand p l e ({ frames := 4, cells := 0, slots := 0, locals := 60 } : Room) s m #[(.ref a1)] below meth c T locs 0 0 → T.heap = h0 → Fr n0 locs → own_One sl2 → own_One sl3 → own_One sl4 → OEnds p e below (fun o t L => FrameEnd s o t L (({ frames := 4, cells := 0, slots := 0, locals := 60 } : Room)).cells (({ frames := 4, cells := 0, slots := 0, locals := 60 } : Room)).slots) n0 (fun v h => v = some (.ref a1) ∧ h = h0) T (mkF m 50 #[.val (.ref a1), .val (.int (2 : Int32)), sl2, sl3, sl4] []) := by
    intro T3 L3 sl2 sl3 sl4 X3 e3 N3 hsl2 hsl3 hsl4
    refine own_go (g' := (mkF m 51 #[.val (.ref a1), .val (.int (2 : Int32)), sl2, sl3, sl4] [(.int (2 : Int32))])) (fun t kt => XS.iloadN X3.here hx rfl (hb hby own_d10_50) rfl kt) ?_
    refine own_go (g' := (mkF m 52 #[.val (.ref a1), .val (.int (2 : Int32)), sl2, sl3, sl4] [(.ref a1), (.int (2 : Int32))])) (fun t kt => XS.aloadN X3.here hx rfl (hb hby own_d10_51) rfl rfl kt) ?_
    refine own_callVB X3 hx hZ (a := a1) (W := 1) (argsL := []) (rest := [(.int (2 : Int32))]) (c1 := 0) (s1 := 0) (Qc := fun v h' L => (v = some (.int (Int32.ofNat (List.length ([u0, u1] : List Int32))))) ∧ L = [] ∧ h' = h0) hown (hw _ (List.mem_of_getElem? (i := 49) rfl)) (hw _ (List.mem_of_getElem? (i := 50) rfl)) (hw _ (List.mem_of_getElem? (i := 52) rfl)) (hw _ (List.mem_of_getElem? (i := 51) rfl)) (by decide) (StrChars.Road.lenW (W := 1) hZ (fun d hd => hw d (own_wl d hd)) (kI := 4) (hw _ (List.mem_of_getElem? (i := 11) rfl)) Ea Gv Gc Vb hcd hbd S_c hcs (Nat.le_of_ble_eq_true rfl) (by decide) (by decide)) Ea (g := (mkF m 52 #[.val (.ref a1), .val (.int (2 : Int32)), sl2, sl3, sl4] [(.ref a1), (.int (2 : Int32))])) rfl (by rw [hml]; rfl) (lenOf own_pd3 rfl) rfl (by show 2 * 0 + _ ≤ _; exact Nat.le_of_eq rfl) (hb hby own_d10_52) e3 (by decide) (by decide) (fun v4 T4 L4 X4 hq4 => ?_)
    obtain ⟨rfl, rfl, e4⟩ := hq4
    have N4 := Fr.app N3 (Fr.nil n0)
    show OEnds _ _ _ _ _ _ T4 (mkF m 55 #[.val (.ref a1), .val (.int (2 : Int32)), sl2, sl3, sl4] [(.int (2 : Int32)), (.int (2 : Int32))])
    refine own_go (g' := (mkF m 184 #[.val (.ref a1), .val (.int (2 : Int32)), sl2, sl3, sl4] [])) (fun t kt => XS.icmpYes X4.here hx rfl (pc0 := 55) (pc' := 184) rfl (hb hby own_d10_55) rfl (flt ((by decide) : ¬ ((2 : Int32) < (2 : Int32)))).2.1 (by decide) (by decide) kt) ?_
    refine own_go (g' := (mkF m 185 #[.val (.ref a1), .val (.int (2 : Int32)), sl2, sl3, sl4] [(.ref a1)])) (fun t kt => XS.aloadN X4.here hx rfl (hb hby own_d10_184) rfl rfl kt) ?_
    exact own_retA X4 hx hlk (t := (.object "java/lang/String")) rfl hret rfl (hb hby own_d10_185) e4 N4 (by decide) (by decide) (⟨rfl, rfl⟩)
  have hd1 : ∀ (T : State) (locs : List Loc) (sl2 sl3 sl4 : Slot), Stand p l e ({ frames := 4, cells := 0, slots := 0, locals := 60 } : Room) s m #[(.ref a1)] below meth c T locs 0 0 → T.heap = h0 → Fr n0 locs → own_One sl2 → own_One sl3 → own_One sl4 → OEnds p e below (fun o t L => FrameEnd s o t L (({ frames := 4, cells := 0, slots := 0, locals := 60 } : Room)).cells (({ frames := 4, cells := 0, slots := 0, locals := 60 } : Room)).slots) n0 (fun v h => v = some (.ref a1) ∧ h = h0) T (mkF m 50 #[.val (.ref a1), .val (.int (1 : Int32)), sl2, sl3, sl4] []) := by
    intro T5 L5 sl2 sl3 sl4 X5 e5 N5 hsl2 hsl3 hsl4
    refine own_go (g' := (mkF m 51 #[.val (.ref a1), .val (.int (1 : Int32)), sl2, sl3, sl4] [(.int (1 : Int32))])) (fun t kt => XS.iloadN X5.here hx rfl (hb hby own_d10_50) rfl kt) ?_
    refine own_go (g' := (mkF m 52 #[.val (.ref a1), .val (.int (1 : Int32)), sl2, sl3, sl4] [(.ref a1), (.int (1 : Int32))])) (fun t kt => XS.aloadN X5.here hx rfl (hb hby own_d10_51) rfl rfl kt) ?_
    refine own_callVB X5 hx hZ (a := a1) (W := 1) (argsL := []) (rest := [(.int (1 : Int32))]) (c1 := 0) (s1 := 0) (Qc := fun v h' L => (v = some (.int (Int32.ofNat (List.length ([u0, u1] : List Int32))))) ∧ L = [] ∧ h' = h0) hown (hw _ (List.mem_of_getElem? (i := 49) rfl)) (hw _ (List.mem_of_getElem? (i := 50) rfl)) (hw _ (List.mem_of_getElem? (i := 52) rfl)) (hw _ (List.mem_of_getElem? (i := 51) rfl)) (by decide) (StrChars.Road.lenW (W := 1) hZ (fun d hd => hw d (own_wl d hd)) (kI := 4) (hw _ (List.mem_of_getElem? (i := 11) rfl)) Ea Gv Gc Vb hcd hbd S_c hcs (Nat.le_of_ble_eq_true rfl) (by decide) (by decide)) Ea (g := (mkF m 52 #[.val (.ref a1), .val (.int (1 : Int32)), sl2, sl3, sl4] [(.ref a1), (.int (1 : Int32))])) rfl (by rw [hml]; rfl) (lenOf own_pd3 rfl) rfl (by show 2 * 0 + _ ≤ _; exact Nat.le_of_eq rfl) (hb hby own_d10_52) e5 (by decide) (by decide) (fun v6 T6 L6 X6 hq6 => ?_)
    obtain ⟨rfl, rfl, e6⟩ := hq6
    have N6 := Fr.app N5 (Fr.nil n0)
    show OEnds _ _ _ _ _ _ T6 (mkF m 55 #[.val (.ref a1), .val (.int (1 : Int32)), sl2, sl3, sl4] [(.int (2 : Int32)), (.int (1 : Int32))])
    refine own_go (g' := (mkF m 58 #[.val (.ref a1), .val (.int (1 : Int32)), sl2, sl3, sl4] [])) (fun t kt => XS.icmpNo X6.here hx rfl (hb hby own_d10_55) rfl (tlt ((by decide) : (1 : Int32) < (2 : Int32))).2.1 kt) ?_
    refine own_go (g' := (mkF m 59 #[.val (.ref a1), .val (.int (1 : Int32)), sl2, sl3, sl4] [(.ref a1)])) (fun t kt => XS.aloadN X6.here hx rfl (hb hby own_d10_58) rfl rfl kt) ?_
    refine own_go (g' := (mkF m 60 #[.val (.ref a1), .val (.int (1 : Int32)), sl2, sl3, sl4] [(.int (1 : Int32)), (.ref a1)])) (fun t kt => XS.iloadN X6.here hx rfl (hb hby own_d10_59) rfl kt) ?_
    refine own_callVB X6 hx hZ (a := a1) (W := 0) (argsL := [(.int (1 : Int32))]) (rest := []) (c1 := 0) (s1 := 0) (Qc := fun v h' L => (v = some (.int (List.getD ([u0, u1] : List Int32) 1 0))) ∧ L = [] ∧ h' = h0) hown (hw _ (List.mem_of_getElem? (i := 59) rfl)) (hw _ (List.mem_of_getElem? (i := 60) rfl)) (hw _ (List.mem_of_getElem? (i := 62) rfl)) (hw _ (List.mem_of_getElem? (i := 61) rfl)) (by decide) (StrChars.Road.chN (W := 0) hZ (fun d hd => hw d (own_wc d hd)) (kI := 4) (hw _ (List.mem_of_getElem? (i := 11) rfl)) Ea Gv Gc Vb hcd hbd S_c hcs S_f hsv (Nat.le_of_ble_eq_true rfl) (i := 1) (Nat.le_of_ble_eq_true rfl) (j := (1 : Int32)) rfl (by decide) (by decide)) Ea (g := (mkF m 60 #[.val (.ref a1), .val (.int (1 : Int32)), sl2, sl3, sl4] [(.int (1 : Int32)), (.ref a1)])) rfl (by rw [hml]; rfl) (lenOf own_pd0 rfl) rfl (by show 2 * 0 + _ ≤ _; exact Nat.le_of_eq rfl) (hb hby own_d10_60) e6 (by decide) (by decide) (fun v7 T7 L7 X7 hq7 => ?_)
    obtain ⟨rfl, rfl, e7⟩ := hq7
    have N7 := Fr.app N6 (Fr.nil n0)
    show OEnds _ _ _ _ _ _ T7 (mkF m 63 #[.val (.ref a1), .val (.int (1 : Int32)), sl2, sl3, sl4] [(.int u1)])
    refine own_go (g' := (mkF m 64 #[.val (.ref a1), .val (.int (1 : Int32)), .val (.int u1), sl3, sl4] [])) (fun t kt => XS.istoreN X7.here hx rfl (hb hby own_d10_63) rfl (l' := #[.val (.ref a1), .val (.int (1 : Int32)), .val (.int u1), sl3, sl4]) (XS.store1 (o := sl2) rfl hsl2 rfl) kt) ?_
    refine own_go (g' := (mkF m 65 #[.val (.ref a1), .val (.int (1 : Int32)), .val (.int u1), sl3, sl4] [(.int u1)])) (fun t kt => XS.iloadN X7.here hx rfl (hb hby own_d10_64) rfl kt) ?_
    refine own_go (g' := (mkF m 67 #[.val (.ref a1), .val (.int (1 : Int32)), .val (.int u1), sl3, sl4] [(.int (47 : Int32)), (.int u1)])) (fun t kt => XS.bipush X7.here hx rfl (hb hby own_d10_65) kt) ?_
    refine own_go (g' := (mkF m 136 #[.val (.ref a1), .val (.int (1 : Int32)), .val (.int u1), sl3, sl4] [])) (fun t kt => XS.icmpYes X7.here hx rfl (pc0 := 67) (pc' := 136) rfl (hb hby own_d10_67) rfl (feq ((own_n47 k1) : ¬ (u1 = (47 : Int32)))).2 (by decide) (by decide) kt) ?_
    refine own_go (g' := (mkF m 137 #[.val (.ref a1), .val (.int (1 : Int32)), .val (.int u1), sl3, sl4] [(.int u1)])) (fun t kt => XS.iloadN X7.here hx rfl (hb hby own_d10_136) rfl kt) ?_
    refine own_callS X7 hx hZ (W := 0) (argsL := [(.int u1)]) (rest := []) hown (hw _ (List.mem_of_getElem? (i := 81) rfl)) (hw _ (List.mem_of_getElem? (i := 82) rfl)) (hw _ (List.mem_of_getElem? (i := 42) rfl)) (hw _ (List.mem_of_getElem? (i := 83) rfl)) (by decide) (own_isname l Z a0 hw u1 h0 n0 Z0) (by decide) (by decide) (g := (mkF m 137 #[.val (.ref a1), .val (.int (1 : Int32)), .val (.int u1), sl3, sl4] [(.int u1)])) rfl (by rw [hml]; rfl) (lenOf own_pd4 rfl) rfl (by show 2 * 0 + _ ≤ _; exact Nat.le_of_eq rfl) (hb hby own_d10_137) e7 N7 (by decide) (by decide) (fun v8 T8 L8 X8 N8 hq8 => ?_)
    obtain ⟨rfl, e8⟩ := hq8
    show OEnds _ _ _ _ _ _ T8 (mkF m 140 #[.val (.ref a1), .val (.int (1 : Int32)), .val (.int u1), sl3, sl4] [(.int (own_isn u1))])
    refine own_go (g' := (mkF m 178 #[.val (.ref a1), .val (.int (1 : Int32)), .val (.int u1), sl3, sl4] [])) (fun t kt => XS.ifYes X8.here hx rfl (pc0 := 140) (pc' := 178) rfl (hb hby own_d10_140) rfl ((if0 _ _).trans (feq ((own_nz k1) : ¬ ((own_isn u1) = (0 : Int32)))).2) (by decide) (by decide) kt) ?_
    refine own_go (g' := (mkF m 181 #[.val (.ref a1), .val (.int (2 : Int32)), .val (.int u1), sl3, sl4] [])) (fun t kt => XS.iinc X8.here hx rfl (hb hby own_d10_178) rfl (l' := #[.val (.ref a1), .val (.int (2 : Int32)), .val (.int u1), sl3, sl4]) rfl kt) ?_
    refine own_go (g' := (mkF m 50 #[.val (.ref a1), .val (.int (2 : Int32)), .val (.int u1), sl3, sl4] [])) (fun t kt => XS.goto X8.here hx rfl (pc0 := 181) (pc' := 50) rfl (hb hby own_d10_181) (by decide) (by decide) kt) ?_
    exact hd2 _ _ _ _ _ X8 e8 N8 (Or.inr ⟨_, rfl, rfl⟩) hsl3 hsl4
  have hd0 : ∀ (T : State) (locs : List Loc) (sl2 sl3 sl4 : Slot), Stand p l e ({ frames := 4, cells := 0, slots := 0, locals := 60 } : Room) s m #[(.ref a1)] below meth c T locs 0 0 → T.heap = h0 → Fr n0 locs → own_One sl2 → own_One sl3 → own_One sl4 → OEnds p e below (fun o t L => FrameEnd s o t L (({ frames := 4, cells := 0, slots := 0, locals := 60 } : Room)).cells (({ frames := 4, cells := 0, slots := 0, locals := 60 } : Room)).slots) n0 (fun v h => v = some (.ref a1) ∧ h = h0) T (mkF m 50 #[.val (.ref a1), .val (.int (0 : Int32)), sl2, sl3, sl4] []) := by
    intro T9 L9 sl2 sl3 sl4 X9 e9 N9 hsl2 hsl3 hsl4
    refine own_go (g' := (mkF m 51 #[.val (.ref a1), .val (.int (0 : Int32)), sl2, sl3, sl4] [(.int (0 : Int32))])) (fun t kt => XS.iloadN X9.here hx rfl (hb hby own_d10_50) rfl kt) ?_
    refine own_go (g' := (mkF m 52 #[.val (.ref a1), .val (.int (0 : Int32)), sl2, sl3, sl4] [(.ref a1), (.int (0 : Int32))])) (fun t kt => XS.aloadN X9.here hx rfl (hb hby own_d10_51) rfl rfl kt) ?_
    refine own_callVB X9 hx hZ (a := a1) (W := 1) (argsL := []) (rest := [(.int (0 : Int32))]) (c1 := 0) (s1 := 0) (Qc := fun v h' L => (v = some (.int (Int32.ofNat (List.length ([u0, u1] : List Int32))))) ∧ L = [] ∧ h' = h0) hown (hw _ (List.mem_of_getElem? (i := 49) rfl)) (hw _ (List.mem_of_getElem? (i := 50) rfl)) (hw _ (List.mem_of_getElem? (i := 52) rfl)) (hw _ (List.mem_of_getElem? (i := 51) rfl)) (by decide) (StrChars.Road.lenW (W := 1) hZ (fun d hd => hw d (own_wl d hd)) (kI := 4) (hw _ (List.mem_of_getElem? (i := 11) rfl)) Ea Gv Gc Vb hcd hbd S_c hcs (Nat.le_of_ble_eq_true rfl) (by decide) (by decide)) Ea (g := (mkF m 52 #[.val (.ref a1), .val (.int (0 : Int32)), sl2, sl3, sl4] [(.ref a1), (.int (0 : Int32))])) rfl (by rw [hml]; rfl) (lenOf own_pd3 rfl) rfl (by show 2 * 0 + _ ≤ _; exact Nat.le_of_eq rfl) (hb hby own_d10_52) e9 (by decide) (by decide) (fun v10 T10 L10 X10 hq10 => ?_)
    obtain ⟨rfl, rfl, e10⟩ := hq10
    have N10 := Fr.app N9 (Fr.nil n0)
    show OEnds _ _ _ _ _ _ T10 (mkF m 55 #[.val (.ref a1), .val (.int (0 : Int32)), sl2, sl3, sl4] [(.int (2 : Int32)), (.int (0 : Int32))])
    refine own_go (g' := (mkF m 58 #[.val (.ref a1), .val (.int (0 : Int32)), sl2, sl3, sl4] [])) (fun t kt => XS.icmpNo X10.here hx rfl (hb hby own_d10_55) rfl (tlt ((by decide) : (0 : Int32) < (2 : Int32))).2.1 kt) ?_
    refine own_go (g' := (mkF m 59 #[.val (.ref a1), .val (.int (0 : Int32)), sl2, sl3, sl4] [(.ref a1)])) (fun t kt => XS.aloadN X10.here hx rfl (hb hby own_d10_58) rfl rfl kt) ?_
    refine own_go (g' := (mkF m 60 #[.val (.ref a1), .val (.int (0 : Int32)), sl2, sl3, sl4] [(.int (0 : Int32)), (.ref a1)])) (fun t kt => XS.iloadN X10.here hx rfl (hb hby own_d10_59) rfl kt) ?_
    refine own_callVB X10 hx hZ (a := a1) (W := 0) (argsL := [(.int (0 : Int32))]) (rest := []) (c1 := 0) (s1 := 0) (Qc := fun v h' L => (v = some (.int (List.getD ([u0, u1] : List Int32) 0 0))) ∧ L = [] ∧ h' = h0) hown (hw _ (List.mem_of_getElem? (i := 59) rfl)) (hw _ (List.mem_of_getElem? (i := 60) rfl)) (hw _ (List.mem_of_getElem? (i := 62) rfl)) (hw _ (List.mem_of_getElem? (i := 61) rfl)) (by decide) (StrChars.Road.chN (W := 0) hZ (fun d hd => hw d (own_wc d hd)) (kI := 4) (hw _ (List.mem_of_getElem? (i := 11) rfl)) Ea Gv Gc Vb hcd hbd S_c hcs S_f hsv (Nat.le_of_ble_eq_true rfl) (i := 0) (Nat.le_of_ble_eq_true rfl) (j := (0 : Int32)) rfl (by decide) (by decide)) Ea (g := (mkF m 60 #[.val (.ref a1), .val (.int (0 : Int32)), sl2, sl3, sl4] [(.int (0 : Int32)), (.ref a1)])) rfl (by rw [hml]; rfl) (lenOf own_pd0 rfl) rfl (by show 2 * 0 + _ ≤ _; exact Nat.le_of_eq rfl) (hb hby own_d10_60) e10 (by decide) (by decide) (fun v11 T11 L11 X11 hq11 => ?_)
    obtain ⟨rfl, rfl, e11⟩ := hq11
    have N11 := Fr.app N10 (Fr.nil n0)
    show OEnds _ _ _ _ _ _ T11 (mkF m 63 #[.val (.ref a1), .val (.int (0 : Int32)), sl2, sl3, sl4] [(.int u0)])
    refine own_go (g' := (mkF m 64 #[.val (.ref a1), .val (.int (0 : Int32)), .val (.int u0), sl3, sl4] [])) (fun t kt => XS.istoreN X11.here hx rfl (hb hby own_d10_63) rfl (l' := #[.val (.ref a1), .val (.int (0 : Int32)), .val (.int u0), sl3, sl4]) (XS.store1 (o := sl2) rfl hsl2 rfl) kt) ?_
    refine own_go (g' := (mkF m 65 #[.val (.ref a1), .val (.int (0 : Int32)), .val (.int u0), sl3, sl4] [(.int u0)])) (fun t kt => XS.iloadN X11.here hx rfl (hb hby own_d10_64) rfl kt) ?_
    refine own_go (g' := (mkF m 67 #[.val (.ref a1), .val (.int (0 : Int32)), .val (.int u0), sl3, sl4] [(.int (47 : Int32)), (.int u0)])) (fun t kt => XS.bipush X11.here hx rfl (hb hby own_d10_65) kt) ?_
    refine own_go (g' := (mkF m 136 #[.val (.ref a1), .val (.int (0 : Int32)), .val (.int u0), sl3, sl4] [])) (fun t kt => XS.icmpYes X11.here hx rfl (pc0 := 67) (pc' := 136) rfl (hb hby own_d10_67) rfl (feq ((own_n47 k0) : ¬ (u0 = (47 : Int32)))).2 (by decide) (by decide) kt) ?_
    refine own_go (g' := (mkF m 137 #[.val (.ref a1), .val (.int (0 : Int32)), .val (.int u0), sl3, sl4] [(.int u0)])) (fun t kt => XS.iloadN X11.here hx rfl (hb hby own_d10_136) rfl kt) ?_
    refine own_callS X11 hx hZ (W := 0) (argsL := [(.int u0)]) (rest := []) hown (hw _ (List.mem_of_getElem? (i := 81) rfl)) (hw _ (List.mem_of_getElem? (i := 82) rfl)) (hw _ (List.mem_of_getElem? (i := 42) rfl)) (hw _ (List.mem_of_getElem? (i := 83) rfl)) (by decide) (own_isname l Z a0 hw u0 h0 n0 Z0) (by decide) (by decide) (g := (mkF m 137 #[.val (.ref a1), .val (.int (0 : Int32)), .val (.int u0), sl3, sl4] [(.int u0)])) rfl (by rw [hml]; rfl) (lenOf own_pd4 rfl) rfl (by show 2 * 0 + _ ≤ _; exact Nat.le_of_eq rfl) (hb hby own_d10_137) e11 N11 (by decide) (by decide) (fun v12 T12 L12 X12 N12 hq12 => ?_)
    obtain ⟨rfl, e12⟩ := hq12
    show OEnds _ _ _ _ _ _ T12 (mkF m 140 #[.val (.ref a1), .val (.int (0 : Int32)), .val (.int u0), sl3, sl4] [(.int (own_isn u0))])
    refine own_go (g' := (mkF m 178 #[.val (.ref a1), .val (.int (0 : Int32)), .val (.int u0), sl3, sl4] [])) (fun t kt => XS.ifYes X12.here hx rfl (pc0 := 140) (pc' := 178) rfl (hb hby own_d10_140) rfl ((if0 _ _).trans (feq ((own_nz k0) : ¬ ((own_isn u0) = (0 : Int32)))).2) (by decide) (by decide) kt) ?_
    refine own_go (g' := (mkF m 181 #[.val (.ref a1), .val (.int (1 : Int32)), .val (.int u0), sl3, sl4] [])) (fun t kt => XS.iinc X12.here hx rfl (hb hby own_d10_178) rfl (l' := #[.val (.ref a1), .val (.int (1 : Int32)), .val (.int u0), sl3, sl4]) rfl kt) ?_
    refine own_go (g' := (mkF m 50 #[.val (.ref a1), .val (.int (1 : Int32)), .val (.int u0), sl3, sl4] [])) (fun t kt => XS.goto X12.here hx rfl (pc0 := 181) (pc' := 50) rfl (hb hby own_d10_181) (by decide) (by decide) kt) ?_
    exact hd1 _ _ _ _ _ X12 e12 N12 (Or.inr ⟨_, rfl, rfl⟩) hsl3 hsl4
  exact hd0 _ _ _ _ _ X2 e2 N2 (Or.inl rfl) (Or.inl rfl) (Or.inl rfl)
theorem own_d3_46 : decode method_4_code 46 = .ok (.iload 6, 2) := by decide +kernel
theorem own_d3_48 : decode method_4_code 48 = .ok (.iconst 3, 1) := by decide +kernel
theorem own_d3_49 : decode method_4_code 49 = .ok (.if_icmp .ne 26, 3) := by decide +kernel
theorem own_d3_52 : decode method_4_code 52 = .ok (.new 13, 3) := by decide +kernel
theorem own_d3_55 : decode method_4_code 55 = .ok (.dup, 1) := by decide +kernel
theorem own_d3_56 : decode method_4_code 56 = .ok (.iconst 3, 1) := by decide +kernel
theorem own_d3_57 : decode method_4_code 57 = .ok (.newarray .char, 2) := by decide +kernel
theorem own_d3_59 : decode method_4_code 59 = .ok (.dup, 1) := by decide +kernel
theorem own_d3_60 : decode method_4_code 60 = .ok (.iconst 0, 1) := by decide +kernel
theorem own_d3_61 : decode method_4_code 61 = .ok (.iload_n 0, 1) := by decide +kernel
theorem own_d3_62 : decode method_4_code 62 = .ok (.castore, 1) := by decide +kernel
theorem own_d3_63 : decode method_4_code 63 = .ok (.dup, 1) := by decide +kernel
theorem own_d3_64 : decode method_4_code 64 = .ok (.iconst 1, 1) := by decide +kernel
theorem own_d3_65 : decode method_4_code 65 = .ok (.iload_n 1, 1) := by decide +kernel
theorem own_d3_66 : decode method_4_code 66 = .ok (.castore, 1) := by decide +kernel
theorem own_d3_67 : decode method_4_code 67 = .ok (.dup, 1) := by decide +kernel
theorem own_d3_68 : decode method_4_code 68 = .ok (.iconst 2, 1) := by decide +kernel
theorem own_d3_69 : decode method_4_code 69 = .ok (.iload_n 2, 1) := by decide +kernel
theorem own_d3_70 : decode method_4_code 70 = .ok (.castore, 1) := by decide +kernel
theorem own_d3_71 : decode method_4_code 71 = .ok (.invokespecial 15, 3) := by decide +kernel
theorem own_d3_74 : decode method_4_code 74 = .ok (.areturn, 1) := by decide +kernel
theorem own_ef_own_build3 (m : MethodId) (x0 : Int32) (x1 : Int32) (x2 : Int32) (x3 : Int32) (x4 : Int32) (x5 : Int32) : entryFrame m #[(.int x0), (.int x1), (.int x2), (.int x3), (.int x4), (.int x5), (.int (3 : Int32))] 7 = mkF m 0 #[.val (.int x0), .val (.int x1), .val (.int x2), .val (.int x3), .val (.int x4), .val (.int x5), .val (.int (3 : Int32))] [] := by first | (simp [entryFrame, mkF, argsToLocals, Value.category]; done) | rfl
set_option maxRecDepth 65536 in
set_option maxHeartbeats 40000000 in
theorem own_build3 (l : Launch) (Z : State) (a0 : Array Value) (hw : ∀ d ∈ tables_1, d.before a0 Z = true) (u0 u1 u2 u3 u4 u5 cs : Int32) (h0 : Heap) (n0 : Nat) (Z0 : n0 ≤ h0.size) (S_c : Sta Z h0 "java/lang/String" "COMPACT_STRINGS" "Z" (.int cs)) (hcs : ¬ cs = 0) (r0 : (¬ u0 < 0 ∧ ¬ (255 : Int32) < u0) ∧ nar .char u0 = u0) (r1 : (¬ u1 < 0 ∧ ¬ (255 : Int32) < u1) ∧ nar .char u1 = u1) (r2 : (¬ u2 < 0 ∧ ¬ (255 : Int32) < u2) ∧ nar .char u2 = u2) :
    OCon l (⟨"com/example/nutex/nutex/LockNamesRequireValidPinLaw", "build", "(CCCCCCI)Ljava/lang/String;"⟩ : MethodName) method_4_code 7 (some (.object "java/lang/String")) ({ frames := 4, cells := 3, slots := 10, locals := 66 } : Room) Z #[(.int u0), (.int u1), (.int u2), (.int u3), (.int u4), (.int u5), (.int (3 : Int32))] h0 n0 (fun v h => ∃ b t k, v = some (.ref b) ∧ Keep h0 h [] ∧ Exa Z h b "java/lang/String" ∧ Fld Z h b "java/lang/String" "coder" "B" (.int (0 : Int32)) ∧ Fld Z h b "java/lang/String" "value" "[B" (.ref t) ∧ Arv Z h t k .byte (3 : Int32) ((([u0, u1, u2] : List Int32).map (fun c => c.toInt8.toInt32)).map Value.int) (.int (0 : Int32))) := by
  refine own_body own_pn_3 ?_
  intro p e s m below meth c T0 hx hZ hby hml hown hnm hret hlk e0 X0
  replace hown : s.vm.findClass "com/example/nutex/nutex/LockNamesRequireValidPinLaw" = some m.cls := hown
  replace hnm : meth.name = "build" := hnm
  have N0 := Fr.nil n0
  have K0 : Keep h0 h0 [] := Keep.refl _ _
  refine own_at (own_ef_own_build3 m u0 u1 u2 u3 u4 u5) ?_
  refine own_go (g' := (mkF m 2 #[.val (.int u0), .val (.int u1), .val (.int u2), .val (.int u3), .val (.int u4), .val (.int u5), .val (.int (3 : Int32))] [(.int (3 : Int32))])) (fun t kt => XS.iload X0.here hx rfl (hb hby own_d3_0) rfl kt) ?_
  refine own_go (g' := (mkF m 3 #[.val (.int u0), .val (.int u1), .val (.int u2), .val (.int u3), .val (.int u4), .val (.int u5), .val (.int (3 : Int32))] [(.int (1 : Int32)), (.int (3 : Int32))])) (fun t kt => XS.iconst X0.here hx rfl (hb hby own_d3_2) kt) ?_
  refine own_go (g' := (mkF m 21 #[.val (.int u0), .val (.int u1), .val (.int u2), .val (.int u3), .val (.int u4), .val (.int u5), .val (.int (3 : Int32))] [])) (fun t kt => XS.icmpYes X0.here hx rfl (pc0 := 3) (pc' := 21) rfl (hb hby own_d3_3) rfl (feq ((by decide) : ¬ ((3 : Int32) = (1 : Int32)))).2 (by decide) (by decide) kt) ?_
  refine own_go (g' := (mkF m 23 #[.val (.int u0), .val (.int u1), .val (.int u2), .val (.int u3), .val (.int u4), .val (.int u5), .val (.int (3 : Int32))] [(.int (3 : Int32))])) (fun t kt => XS.iload X0.here hx rfl (hb hby own_d3_21) rfl kt) ?_
  refine own_go (g' := (mkF m 24 #[.val (.int u0), .val (.int u1), .val (.int u2), .val (.int u3), .val (.int u4), .val (.int u5), .val (.int (3 : Int32))] [(.int (2 : Int32)), (.int (3 : Int32))])) (fun t kt => XS.iconst X0.here hx rfl (hb hby own_d3_23) kt) ?_
  refine own_go (g' := (mkF m 46 #[.val (.int u0), .val (.int u1), .val (.int u2), .val (.int u3), .val (.int u4), .val (.int u5), .val (.int (3 : Int32))] [])) (fun t kt => XS.icmpYes X0.here hx rfl (pc0 := 24) (pc' := 46) rfl (hb hby own_d3_24) rfl (feq ((by decide) : ¬ ((3 : Int32) = (2 : Int32)))).2 (by decide) (by decide) kt) ?_
  refine own_go (g' := (mkF m 48 #[.val (.int u0), .val (.int u1), .val (.int u2), .val (.int u3), .val (.int u4), .val (.int u5), .val (.int (3 : Int32))] [(.int (3 : Int32))])) (fun t kt => XS.iload X0.here hx rfl (hb hby own_d3_46) rfl kt) ?_
  refine own_go (g' := (mkF m 49 #[.val (.int u0), .val (.int u1), .val (.int u2), .val (.int u3), .val (.int u4), .val (.int u5), .val (.int (3 : Int32))] [(.int (3 : Int32)), (.int (3 : Int32))])) (fun t kt => XS.iconst X0.here hx rfl (hb hby own_d3_48) kt) ?_
  refine own_go (g' := (mkF m 52 #[.val (.int u0), .val (.int u1), .val (.int u2), .val (.int u3), .val (.int u4), .val (.int u5), .val (.int (3 : Int32))] [])) (fun t kt => XS.icmpNo X0.here hx rfl (hb hby own_d3_49) rfl (teq ((by decide) : (3 : Int32) = (3 : Int32))).2 kt) ?_
  refine own_new X0 hx hZ hown (hw _ (List.mem_of_getElem? (i := 10) rfl)) (hw _ (List.mem_of_getElem? (i := 11) rfl)) (hw _ (List.mem_of_getElem? (i := 12) rfl)) e0 (g := (mkF m 52 #[.val (.int u0), .val (.int u1), .val (.int u2), .val (.int u3), .val (.int u4), .val (.int u5), .val (.int (3 : Int32))] [])) rfl (hb hby own_d3_52) (by decide) (by decide) (fun T1 h1 b1 g1 X1 e1 E1 A1 D1 => ?_)
  show OEnds _ _ _ _ _ _ T1 (mkF m 55 #[.val (.int u0), .val (.int u1), .val (.int u2), .val (.int u3), .val (.int u4), .val (.int u5), .val (.int (3 : Int32))] [(.ref b1)])
  have S_c_h1 := S_c.ext E1
  have gz_b1 : h0.size ≤ b1 := Nat.le_trans K0.1 (Nat.le_of_eq g1.symm)
  have ge_b1 : n0 ≤ b1 := Nat.le_trans Z0 gz_b1
  have K1 := K0.ext E1
  have F1_coder : Fld Z h1 b1 "java/lang/String" "coder" "B" (.int (0 : Int32)) := D1 (Or.inr (hw _ (List.mem_of_getElem? (i := 37) rfl))) (ty := .byte) (by decide)
  have F1_value : Fld Z h1 b1 "java/lang/String" "value" "[B" .null := D1 (Or.inr (hw _ (List.mem_of_getElem? (i := 39) rfl))) (ty := (.array .byte)) (by decide)
  refine own_go (g' := (mkF m 56 #[.val (.int u0), .val (.int u1), .val (.int u2), .val (.int u3), .val (.int u4), .val (.int u5), .val (.int (3 : Int32))] [(.ref b1), (.ref b1)])) (fun t kt => XS.dup X1.here hx rfl (hb hby own_d3_55) rfl rfl kt) ?_
  refine own_go (g' := (mkF m 57 #[.val (.int u0), .val (.int u1), .val (.int u2), .val (.int u3), .val (.int u4), .val (.int u5), .val (.int (3 : Int32))] [(.int (3 : Int32)), (.ref b1), (.ref b1)])) (fun t kt => XS.iconst X1.here hx rfl (hb hby own_d3_56) kt) ?_
  refine own_newarr X1 hx hZ (hw _ (List.mem_of_getElem? (i := 13) rfl)) e1 (g := (mkF m 57 #[.val (.int u0), .val (.int u1), .val (.int u2), .val (.int u3), .val (.int u4), .val (.int u5), .val (.int (3 : Int32))] [(.int (3 : Int32)), (.ref b1), (.ref b1)])) rfl (hb hby own_d3_57) rfl (by decide) (cap := 3) (by decide) (by decide) (by decide) (by decide) (fun T2 h2 b2 k2 g2 X2 e2 E2 V2 => ?_)
  show OEnds _ _ _ _ _ _ T2 (mkF m 59 #[.val (.int u0), .val (.int u1), .val (.int u2), .val (.int u3), .val (.int u4), .val (.int u5), .val (.int (3 : Int32))] [(.ref b2), (.ref b1), (.ref b1)])
  have ne_b1_b2 : b1 ≠ b2 := Nat.ne_of_lt (Nat.lt_of_lt_of_le A1.lt (Nat.le_of_eq g2.symm))
  have S_c_h2 := S_c_h1.ext E2
  have A1_h2 := A1.ext E2
  have F1_coder_h2 := F1_coder.ext E2
  have F1_value_h2 := F1_value.ext E2
  have gz_b2 : h0.size ≤ b2 := Nat.le_trans K1.1 (Nat.le_of_eq g2.symm)
  have ge_b2 : n0 ≤ b2 := Nat.le_trans Z0 gz_b2
  have K2 := K1.ext E2
  replace V2 : Arv Z h2 b2 k2 .char (3 : Int32) [(.int (0 : Int32)), (.int (0 : Int32)), (.int (0 : Int32))] (.int (0 : Int32)) := V2
  refine own_go (g' := (mkF m 60 #[.val (.int u0), .val (.int u1), .val (.int u2), .val (.int u3), .val (.int u4), .val (.int u5), .val (.int (3 : Int32))] [(.ref b2), (.ref b2), (.ref b1), (.ref b1)])) (fun t kt => XS.dup X2.here hx rfl (hb hby own_d3_59) rfl rfl kt) ?_
  refine own_go (g' := (mkF m 61 #[.val (.int u0), .val (.int u1), .val (.int u2), .val (.int u3), .val (.int u4), .val (.int u5), .val (.int (3 : Int32))] [(.int (0 : Int32)), (.ref b2), (.ref b2), (.ref b1), (.ref b1)])) (fun t kt => XS.iconst X2.here hx rfl (hb hby own_d3_60) kt) ?_
  refine own_go (g' := (mkF m 62 #[.val (.int u0), .val (.int u1), .val (.int u2), .val (.int u3), .val (.int u4), .val (.int u5), .val (.int (3 : Int32))] [(.int u0), (.int (0 : Int32)), (.ref b2), (.ref b2), (.ref b1), (.ref b1)])) (fun t kt => XS.iloadN X2.here hx rfl (hb hby own_d3_61) rfl kt) ?_
  refine own_castore X2 hx hZ e2 V2 ⟨by decide, by decide⟩ 0 rfl (Nat.le_of_ble_eq_true rfl) N0 ge_b2 (g := (mkF m 62 #[.val (.int u0), .val (.int u1), .val (.int u2), .val (.int u3), .val (.int u4), .val (.int u5), .val (.int (3 : Int32))] [(.int u0), (.int (0 : Int32)), (.ref b2), (.ref b2), (.ref b1), (.ref b1)])) rfl rfl (hb hby own_d3_62) (fun T3 h3 L3 X3 e3 N3 W3 V3 => ?_)
  show OEnds _ _ _ _ _ _ T3 (mkF m 63 #[.val (.int u0), .val (.int u1), .val (.int u2), .val (.int u3), .val (.int u4), .val (.int u5), .val (.int (3 : Int32))] [(.ref b2), (.ref b1), (.ref b1)])
  have S_c_h3 := S_c_h2.wr W3
  have A1_h3 := A1_h2.wr W3
  have F1_coder_h3 := F1_coder_h2.other W3 (Or.inl ne_b1_b2)
  have F1_value_h3 := F1_value_h2.other W3 (Or.inl ne_b1_b2)
  have K3 := K2.wr W3 (Or.inr gz_b2)
  replace V3 : Arv Z h3 b2 k2 .char (3 : Int32) [(.int (nar .char u0)), (.int (0 : Int32)), (.int (0 : Int32))] (.int (0 : Int32)) := V3
  refine own_go (g' := (mkF m 64 #[.val (.int u0), .val (.int u1), .val (.int u2), .val (.int u3), .val (.int u4), .val (.int u5), .val (.int (3 : Int32))] [(.ref b2), (.ref b2), (.ref b1), (.ref b1)])) (fun t kt => XS.dup X3.here hx rfl (hb hby own_d3_63) rfl rfl kt) ?_
  refine own_go (g' := (mkF m 65 #[.val (.int u0), .val (.int u1), .val (.int u2), .val (.int u3), .val (.int u4), .val (.int u5), .val (.int (3 : Int32))] [(.int (1 : Int32)), (.ref b2), (.ref b2), (.ref b1), (.ref b1)])) (fun t kt => XS.iconst X3.here hx rfl (hb hby own_d3_64) kt) ?_
  refine own_go (g' := (mkF m 66 #[.val (.int u0), .val (.int u1), .val (.int u2), .val (.int u3), .val (.int u4), .val (.int u5), .val (.int (3 : Int32))] [(.int u1), (.int (1 : Int32)), (.ref b2), (.ref b2), (.ref b1), (.ref b1)])) (fun t kt => XS.iloadN X3.here hx rfl (hb hby own_d3_65) rfl kt) ?_
  refine own_castore X3 hx hZ e3 V3 ⟨by decide, by decide⟩ 1 rfl (Nat.le_of_ble_eq_true rfl) N3 ge_b2 (g := (mkF m 66 #[.val (.int u0), .val (.int u1), .val (.int u2), .val (.int u3), .val (.int u4), .val (.int u5), .val (.int (3 : Int32))] [(.int u1), (.int (1 : Int32)), (.ref b2), (.ref b2), (.ref b1), (.ref b1)])) rfl rfl (hb hby own_d3_66) (fun T4 h4 L4 X4 e4 N4 W4 V4 => ?_)
  show OEnds _ _ _ _ _ _ T4 (mkF m 67 #[.val (.int u0), .val (.int u1), .val (.int u2), .val (.int u3), .val (.int u4), .val (.int u5), .val (.int (3 : Int32))] [(.ref b2), (.ref b1), (.ref b1)])
  have S_c_h4 := S_c_h3.wr W4
  have A1_h4 := A1_h3.wr W4
  have F1_coder_h4 := F1_coder_h3.other W4 (Or.inl ne_b1_b2)
  have F1_value_h4 := F1_value_h3.other W4 (Or.inl ne_b1_b2)
  have K4 := K3.wr W4 (Or.inr gz_b2)
  replace V4 : Arv Z h4 b2 k2 .char (3 : Int32) [(.int (nar .char u0)), (.int (nar .char u1)), (.int (0 : Int32))] (.int (0 : Int32)) := V4
  refine own_go (g' := (mkF m 68 #[.val (.int u0), .val (.int u1), .val (.int u2), .val (.int u3), .val (.int u4), .val (.int u5), .val (.int (3 : Int32))] [(.ref b2), (.ref b2), (.ref b1), (.ref b1)])) (fun t kt => XS.dup X4.here hx rfl (hb hby own_d3_67) rfl rfl kt) ?_
  refine own_go (g' := (mkF m 69 #[.val (.int u0), .val (.int u1), .val (.int u2), .val (.int u3), .val (.int u4), .val (.int u5), .val (.int (3 : Int32))] [(.int (2 : Int32)), (.ref b2), (.ref b2), (.ref b1), (.ref b1)])) (fun t kt => XS.iconst X4.here hx rfl (hb hby own_d3_68) kt) ?_
  refine own_go (g' := (mkF m 70 #[.val (.int u0), .val (.int u1), .val (.int u2), .val (.int u3), .val (.int u4), .val (.int u5), .val (.int (3 : Int32))] [(.int u2), (.int (2 : Int32)), (.ref b2), (.ref b2), (.ref b1), (.ref b1)])) (fun t kt => XS.iloadN X4.here hx rfl (hb hby own_d3_69) rfl kt) ?_
  refine own_castore X4 hx hZ e4 V4 ⟨by decide, by decide⟩ 2 rfl (Nat.le_of_ble_eq_true rfl) N4 ge_b2 (g := (mkF m 70 #[.val (.int u0), .val (.int u1), .val (.int u2), .val (.int u3), .val (.int u4), .val (.int u5), .val (.int (3 : Int32))] [(.int u2), (.int (2 : Int32)), (.ref b2), (.ref b2), (.ref b1), (.ref b1)])) rfl rfl (hb hby own_d3_70) (fun T5 h5 L5 X5 e5 N5 W5 V5 => ?_)
  show OEnds _ _ _ _ _ _ T5 (mkF m 71 #[.val (.int u0), .val (.int u1), .val (.int u2), .val (.int u3), .val (.int u4), .val (.int u5), .val (.int (3 : Int32))] [(.ref b2), (.ref b1), (.ref b1)])
  have S_c_h5 := S_c_h4.wr W5
  have A1_h5 := A1_h4.wr W5
  have F1_coder_h5 := F1_coder_h4.other W5 (Or.inl ne_b1_b2)
  have F1_value_h5 := F1_value_h4.other W5 (Or.inl ne_b1_b2)
  have K5 := K4.wr W5 (Or.inr gz_b2)
  replace V5 : Arv Z h5 b2 k2 .char (3 : Int32) [(.int (nar .char u0)), (.int (nar .char u1)), (.int (nar .char u2))] (.int (0 : Int32)) := V5
  have Vr6 : Arv Z h5 b2 k2 .char (3 : Int32) [(.int u0), (.int u1), (.int u2)] (.int (0 : Int32)) := by simpa only [(r0).2, (r1).2, (r2).2] using V5
  have hp7 : ∀ c ∈ ([u0, u1, u2] : List Int32), ¬ c < 0 ∧ ¬ (255 : Int32) < c := (own_alS (r0).1 (own_alS (r1).1 (own_alS (r2).1 own_al0)))
  refine own_callCB X5 hx hZ (a := b1) (W := 1) (argsL := [(.ref b2)]) (rest := [(.ref b1)]) (c1 := 1) (s1 := 3) (Qc := fun v h' L => StrChars.Road.QV Z b1 (3 : Int32) (([u0, u1, u2] : List Int32).map (fun c => c.toInt8.toInt32)) h5 n0 v h' L) rfl hown (hw _ (List.mem_of_getElem? (i := 14) rfl)) (hw _ (List.mem_of_getElem? (i := 15) rfl)) (hw _ (List.mem_of_getElem? (i := 16) rfl)) (by decide) (StrChars.Road.backV (W := 1) hZ (fun d hd => hw d (own_wi d hd)) (kI := 4) (hw _ (List.mem_of_getElem? (i := 11) rfl)) (cs := ([u0, u1, u2] : List Int32)) (bs := (([u0, u1, u2] : List Int32).map (fun c => c.toInt8.toInt32))) (n := 3) ge_b1 (Nat.le_trans Z0 K5.1) A1_h5 F1_value_h5 F1_coder_h5 Vr6 S_c_h5 hcs rfl rfl (by decide) (by decide) hp7 rfl (by decide) (by decide)) (g := (mkF m 71 #[.val (.int u0), .val (.int u1), .val (.int u2), .val (.int u3), .val (.int u4), .val (.int u5), .val (.int (3 : Int32))] [(.ref b2), (.ref b1), (.ref b1)])) rfl (by rw [hml]; rfl) (lenOf own_pd1 rfl) rfl (by show 2 * 0 + _ ≤ _; exact Nat.le_of_eq rfl) (hb hby own_d3_71) e5 (by decide) (by decide) (fun v7 T7 L7 X7 hq7 => ?_)
  obtain ⟨rfl, M7, Kc7, A7, G7, t7, c7, ge_t7, gy_t7, ny_t7, F7, V7⟩ := hq7
  have N7 := Fr.app N5 M7
  have ne_b1_t7 : b1 ≠ t7 := Nat.ne_of_lt (Nat.lt_of_lt_of_le A1_h5.lt gy_t7)
  have ne_b2_t7 : b2 ≠ t7 := Nat.ne_of_lt (Nat.lt_of_lt_of_le Vr6.lt gy_t7)
  have gz_t7 : h0.size ≤ t7 := Nat.le_trans K5.1 gy_t7
  have Vr6_h7 := Vr6.keep Kc7 (ninS (Ne.symm ne_b1_b2) nin0)
  have K7 := K5.trans Kc7 (allS (Or.inr gz_b1) all0)
  have S_c_h7 := S_c.ext (own_kext K7)
  have hcd7 := StrChars.Road.codOf (cs := ([u0, u1, u2] : List Int32)) (n := 3) rfl (fun c hc => (hp7 c hc).2)
  have hbd7 := own_up _ hp7
  show OEnds _ _ _ _ _ _ T7 (mkF m 74 #[.val (.int u0), .val (.int u1), .val (.int u2), .val (.int u3), .val (.int u4), .val (.int u5), .val (.int (3 : Int32))] [(.ref b1)])
  exact own_retA X7 hx hlk (t := (.object "java/lang/String")) rfl hret rfl (hb hby own_d3_74) rfl N7 (by decide) (by decide) (⟨b1, t7, c7, rfl, K7, A7, G7, F7, V7⟩)
theorem own_d10_70 : decode prog_12_method_2_code 70 = .ok (.iload_n 1, 1) := by decide +kernel
theorem own_d10_71 : decode prog_12_method_2_code 71 = .ok (.ifCond .le 19, 3) := by decide +kernel
theorem own_d10_74 : decode prog_12_method_2_code 74 = .ok (.aload_n 0, 1) := by decide +kernel
theorem own_d10_75 : decode prog_12_method_2_code 75 = .ok (.iload_n 1, 1) := by decide +kernel
theorem own_d10_76 : decode prog_12_method_2_code 76 = .ok (.iconst 1, 1) := by decide +kernel
theorem own_d10_77 : decode prog_12_method_2_code 77 = .ok (.isub, 1) := by decide +kernel
theorem own_d10_78 : decode prog_12_method_2_code 78 = .ok (.invokevirtual 30, 3) := by decide +kernel
theorem own_d10_81 : decode prog_12_method_2_code 81 = .ok (.bipush 47, 2) := by decide +kernel
theorem own_d10_83 : decode prog_12_method_2_code 83 = .ok (.if_icmp .eq 7, 3) := by decide +kernel
theorem own_d10_86 : decode prog_12_method_2_code 86 = .ok (.iconst 1, 1) := by decide +kernel
theorem own_d10_87 : decode prog_12_method_2_code 87 = .ok (.goto 4, 3) := by decide +kernel
theorem own_d10_91 : decode prog_12_method_2_code 91 = .ok (.istore_n 3, 1) := by decide +kernel
theorem own_d10_92 : decode prog_12_method_2_code 92 = .ok (.iload_n 1, 1) := by decide +kernel
theorem own_d10_93 : decode prog_12_method_2_code 93 = .ok (.aload_n 0, 1) := by decide +kernel
theorem own_d10_94 : decode prog_12_method_2_code 94 = .ok (.invokevirtual 20, 3) := by decide +kernel
theorem own_d10_97 : decode prog_12_method_2_code 97 = .ok (.iconst 1, 1) := by decide +kernel
theorem own_d10_98 : decode prog_12_method_2_code 98 = .ok (.isub, 1) := by decide +kernel
theorem own_d10_99 : decode prog_12_method_2_code 99 = .ok (.if_icmp .ge 7, 3) := by decide +kernel
theorem own_d10_102 : decode prog_12_method_2_code 102 = .ok (.iconst 1, 1) := by decide +kernel
theorem own_d10_103 : decode prog_12_method_2_code 103 = .ok (.goto 4, 3) := by decide +kernel
theorem own_d10_107 : decode prog_12_method_2_code 107 = .ok (.istore 4, 2) := by decide +kernel
theorem own_d10_109 : decode prog_12_method_2_code 109 = .ok (.iload_n 3, 1) := by decide +kernel
theorem own_d10_110 : decode prog_12_method_2_code 110 = .ok (.ifCond .eq 8, 3) := by decide +kernel
theorem own_d10_113 : decode prog_12_method_2_code 113 = .ok (.iload 4, 2) := by decide +kernel
theorem own_d10_115 : decode prog_12_method_2_code 115 = .ok (.ifCond .ne 18, 3) := by decide +kernel
theorem own_d10_133 : decode prog_12_method_2_code 133 = .ok (.goto 45, 3) := by decide +kernel
theorem own_ef_own_req3 (m : MethodId) (x0 : Addr) : entryFrame m #[(.ref x0)] 5 = mkF m 0 #[.val (.ref x0), .unset, .unset, .unset, .unset] [] := by first | (simp [entryFrame, mkF, argsToLocals, Value.category]; done) | rfl
set_option maxRecDepth 65536 in
set_option maxHeartbeats 40000000 in
theorem own_req3 (l : Launch) (Z : State) (a0 : Array Value) (hw : ∀ d ∈ tables_1, d.before a0 Z = true) (a1 ab : Addr) (kb : ClassId) (u0 u1 u2 cs : Int32) (sv : Value) (hsv : sv.isRef = true) (h0 : Heap) (n0 : Nat) (Z0 : n0 ≤ h0.size) (Ea : Exa Z h0 a1 "java/lang/String") (Gc : Fld Z h0 a1 "java/lang/String" "coder" "B" (.int (0 : Int32))) (Gv : Fld Z h0 a1 "java/lang/String" "value" "[B" (.ref ab)) (Vb : Arv Z h0 ab kb .byte (3 : Int32) ((([u0, u1, u2] : List Int32).map (fun c => c.toInt8.toInt32)).map Value.int) (.int (0 : Int32))) (S_c : Sta Z h0 "java/lang/String" "COMPACT_STRINGS" "Z" (.int cs)) (S_f : Sta Z h0 "jdk/internal/util/Preconditions" "SIOOBE_FORMATTER" "Ljava/util/function/BiFunction;" sv) (hcs : ¬ cs = 0) (hcd : StrChars.Road.CodA ([u0, u1, u2] : List Int32) 0 (3 : Int32) ((([u0, u1, u2] : List Int32).map (fun c => c.toInt8.toInt32)).map Value.int)) (hbd : ∀ c ∈ ([u0, u1, u2] : List Int32), ¬ c < 0 ∧ ¬ (65535 : Int32) < c) (k0 : own_isn u0 = 1) (k1 : own_isn u1 = 1 ∨ (u1 = 47 ∧ ¬ u0 = 47)) (k2 : own_isn u2 = 1) :
    OCon l (⟨"com/example/nutex/nutex/LockNames", "requireValid", "(Ljava/lang/String;)Ljava/lang/String;"⟩ : MethodName) prog_12_method_2_code 5 (some (.object "java/lang/String")) ({ frames := 4, cells := 0, slots := 0, locals := 60 } : Room) Z #[(.ref a1)] h0 n0 (fun v h => v = some (.ref a1) ∧ h = h0) := by
  refine own_body own_pn_10 ?_
  intro p e s m below meth c T0 hx hZ hby hml hown hnm hret hlk e0 X0
  replace hown : s.vm.findClass "com/example/nutex/nutex/LockNames" = some m.cls := hown
  replace hnm : meth.name = "requireValid" := hnm
  have N0 := Fr.nil n0
  have K0 : Keep h0 h0 [] := Keep.refl _ _
  refine own_at (own_ef_own_req3 m a1) ?_
  refine own_go (g' := (mkF m 1 #[.val (.ref a1), .unset, .unset, .unset, .unset] [(.ref a1)])) (fun t kt => XS.aloadN X0.here hx rfl (hb hby own_d10_0) rfl rfl kt) ?_
  refine own_go (g' := (mkF m 14 #[.val (.ref a1), .unset, .unset, .unset, .unset] [])) (fun t kt => XS.ifnonnullYes X0.here hx rfl (pc0 := 1) (pc' := 14) rfl (hb hby own_d10_1) rfl (by decide) (by decide) kt) ?_
  refine own_go (g' := (mkF m 15 #[.val (.ref a1), .unset, .unset, .unset, .unset] [(.ref a1)])) (fun t kt => XS.aloadN X0.here hx rfl (hb hby own_d10_14) rfl rfl kt) ?_
  refine own_callVB X0 hx hZ (a := a1) (W := 0) (argsL := []) (rest := []) (c1 := 0) (s1 := 0) (Qc := fun v h' L => (v = some (.int (if (List.length ([u0, u1, u2] : List Int32)) = 0 then 1 else 0))) ∧ L = [] ∧ h' = h0) hown (hw _ (List.mem_of_getElem? (i := 44) rfl)) (hw _ (List.mem_of_getElem? (i := 45) rfl)) (hw _ (List.mem_of_getElem? (i := 47) rfl)) (hw _ (List.mem_of_getElem? (i := 46) rfl)) (by decide) (StrChars.Road.empW (W := 0) hZ (fun d hd => hw d (own_wm d hd)) (kI := 4) (hw _ (List.mem_of_getElem? (i := 11) rfl)) Ea Gv Gc Vb hcd hbd (Nat.le_of_ble_eq_true rfl) (by decide) (by decide)) Ea (g := (mkF m 15 #[.val (.ref a1), .unset, .unset, .unset, .unset] [(.ref a1)])) rfl (by rw [hml]; rfl) (lenOf own_pd2 rfl) rfl (by show 2 * 0 + _ ≤ _; exact Nat.le_of_eq rfl) (hb hby own_d10_15) e0 (by decide) (by decide) (fun v1 T1 L1 X1 hq1 => ?_)
  obtain ⟨rfl, rfl, e1⟩ := hq1
  have N1 := Fr.app N0 (Fr.nil n0)
  show OEnds _ _ _ _ _ _ T1 (mkF m 18 #[.val (.ref a1), .unset, .unset, .unset, .unset] [(.int (0 : Int32))])
  refine own_go (g' := (mkF m 21 #[.val (.ref a1), .unset, .unset, .unset, .unset] [])) (fun t kt => XS.ifNo X1.here hx rfl (hb hby own_d10_18) rfl ((if0 _ _).trans (teq ((by decide) : (0 : Int32) = (0 : Int32))).2) kt) ?_
  refine own_go (g' := (mkF m 22 #[.val (.ref a1), .unset, .unset, .unset, .unset] [(.ref a1)])) (fun t kt => XS.aloadN X1.here hx rfl (hb hby own_d10_21) rfl rfl kt) ?_
  refine own_callVB X1 hx hZ (a := a1) (W := 0) (argsL := []) (rest := []) (c1 := 0) (s1 := 0) (Qc := fun v h' L => (v = some (.int (Int32.ofNat (List.length ([u0, u1, u2] : List Int32))))) ∧ L = [] ∧ h' = h0) hown (hw _ (List.mem_of_getElem? (i := 49) rfl)) (hw _ (List.mem_of_getElem? (i := 50) rfl)) (hw _ (List.mem_of_getElem? (i := 52) rfl)) (hw _ (List.mem_of_getElem? (i := 51) rfl)) (by decide) (StrChars.Road.lenW (W := 0) hZ (fun d hd => hw d (own_wl d hd)) (kI := 4) (hw _ (List.mem_of_getElem? (i := 11) rfl)) Ea Gv Gc Vb hcd hbd S_c hcs (Nat.le_of_ble_eq_true rfl) (by decide) (by decide)) Ea (g := (mkF m 22 #[.val (.ref a1), .unset, .unset, .unset, .unset] [(.ref a1)])) rfl (by rw [hml]; rfl) (lenOf own_pd3 rfl) rfl (by show 2 * 0 + _ ≤ _; exact Nat.le_of_eq rfl) (hb hby own_d10_22) e1 (by decide) (by decide) (fun v2 T2 L2 X2 hq2 => ?_)
  obtain ⟨rfl, rfl, e2⟩ := hq2
  have N2 := Fr.app N1 (Fr.nil n0)
  show OEnds _ _ _ _ _ _ T2 (mkF m 25 #[.val (.ref a1), .unset, .unset, .unset, .unset] [(.int (3 : Int32))])
  refine own_go (g' := (mkF m 28 #[.val (.ref a1), .unset, .unset, .unset, .unset] [(.int (200 : Int32)), (.int (3 : Int32))])) (fun t kt => XS.sipush X2.here hx rfl (hb hby own_d10_25) kt) ?_
  refine own_go (g' := (mkF m 48 #[.val (.ref a1), .unset, .unset, .unset, .unset] [])) (fun t kt => XS.icmpYes X2.here hx rfl (pc0 := 28) (pc' := 48) rfl (hb hby own_d10_28) rfl (flt ((by decide) : ¬ ((200 : Int32) < (3 : Int32)))).2.2.2 (by decide) (by decide) kt) ?_
  refine own_go (g' := (mkF m 49 #[.val (.ref a1), .unset, .unset, .unset, .unset] [(.int (0 : Int32))])) (fun t kt => XS.iconst X2.here hx rfl (hb hby own_d10_48) kt) ?_
  refine own_go (g' := (mkF m 50 #[.val (.ref a1), .val (.int (0 : Int32)), .unset, .unset, .unset] [])) (fun t kt => XS.istoreN X2.here hx rfl (hb hby own_d10_49) rfl (l' := #[.val (.ref a1), .val (.int (0 : Int32)), .unset, .unset, .unset]) rfl kt) ?_
  have hd3 : ∀ (T : State) (locs : List Loc) (sl2 sl3 sl4 : Slot), Stand p l e ({ frames := 4, cells := 0, slots := 0, locals := 60 } : Room) s m #[(.ref a1)] below meth c T locs 0 0 → T.heap = h0 → Fr n0 locs → own_One sl2 → own_One sl3 → own_One sl4 → OEnds p e below (fun o t L => FrameEnd s o t L (({ frames := 4, cells := 0, slots := 0, locals := 60 } : Room)).cells (({ frames := 4, cells := 0, slots := 0, locals := 60 } : Room)).slots) n0 (fun v h => v = some (.ref a1) ∧ h = h0) T (mkF m 50 #[.val (.ref a1), .val (.int (3 : Int32)), sl2, sl3, sl4] []) := by
    intro T3 L3 sl2 sl3 sl4 X3 e3 N3 hsl2 hsl3 hsl4
    refine own_go (g' := (mkF m 51 #[.val (.ref a1), .val (.int (3 : Int32)), sl2, sl3, sl4] [(.int (3 : Int32))])) (fun t kt => XS.iloadN X3.here hx rfl (hb hby own_d10_50) rfl kt) ?_
    refine own_go (g' := (mkF m 52 #[.val (.ref a1), .val (.int (3 : Int32)), sl2, sl3, sl4] [(.ref a1), (.int (3 : Int32))])) (fun t kt => XS.aloadN X3.here hx rfl (hb hby own_d10_51) rfl rfl kt) ?_
    refine own_callVB X3 hx hZ (a := a1) (W := 1) (argsL := []) (rest := [(.int (3 : Int32))]) (c1 := 0) (s1 := 0) (Qc := fun v h' L => (v = some (.int (Int32.ofNat (List.length ([u0, u1, u2] : List Int32))))) ∧ L = [] ∧ h' = h0) hown (hw _ (List.mem_of_getElem? (i := 49) rfl)) (hw _ (List.mem_of_getElem? (i := 50) rfl)) (hw _ (List.mem_of_getElem? (i := 52) rfl)) (hw _ (List.mem_of_getElem? (i := 51) rfl)) (by decide) (StrChars.Road.lenW (W := 1) hZ (fun d hd => hw d (own_wl d hd)) (kI := 4) (hw _ (List.mem_of_getElem? (i := 11) rfl)) Ea Gv Gc Vb hcd hbd S_c hcs (Nat.le_of_ble_eq_true rfl) (by decide) (by decide)) Ea (g := (mkF m 52 #[.val (.ref a1), .val (.int (3 : Int32)), sl2, sl3, sl4] [(.ref a1), (.int (3 : Int32))])) rfl (by rw [hml]; rfl) (lenOf own_pd3 rfl) rfl (by show 2 * 0 + _ ≤ _; exact Nat.le_of_eq rfl) (hb hby own_d10_52) e3 (by decide) (by decide) (fun v4 T4 L4 X4 hq4 => ?_)
    obtain ⟨rfl, rfl, e4⟩ := hq4
    have N4 := Fr.app N3 (Fr.nil n0)
    show OEnds _ _ _ _ _ _ T4 (mkF m 55 #[.val (.ref a1), .val (.int (3 : Int32)), sl2, sl3, sl4] [(.int (3 : Int32)), (.int (3 : Int32))])
    refine own_go (g' := (mkF m 184 #[.val (.ref a1), .val (.int (3 : Int32)), sl2, sl3, sl4] [])) (fun t kt => XS.icmpYes X4.here hx rfl (pc0 := 55) (pc' := 184) rfl (hb hby own_d10_55) rfl (flt ((by decide) : ¬ ((3 : Int32) < (3 : Int32)))).2.1 (by decide) (by decide) kt) ?_
    refine own_go (g' := (mkF m 185 #[.val (.ref a1), .val (.int (3 : Int32)), sl2, sl3, sl4] [(.ref a1)])) (fun t kt => XS.aloadN X4.here hx rfl (hb hby own_d10_184) rfl rfl kt) ?_
    exact own_retA X4 hx hlk (t := (.object "java/lang/String")) rfl hret rfl (hb hby own_d10_185) e4 N4 (by decide) (by decide) (⟨rfl, rfl⟩)
  have hd2 : ∀ (T : State) (locs : List Loc) (sl2 sl3 sl4 : Slot), Stand p l e ({ frames := 4, cells := 0, slots := 0, locals := 60 } : Room) s m #[(.ref a1)] below meth c T locs 0 0 → T.heap = h0 → Fr n0 locs → own_One sl2 → own_One sl3 → own_One sl4 → OEnds p e below (fun o t L => FrameEnd s o t L (({ frames := 4, cells := 0, slots := 0, locals := 60 } : Room)).cells (({ frames := 4, cells := 0, slots := 0, locals := 60 } : Room)).slots) n0 (fun v h => v = some (.ref a1) ∧ h = h0) T (mkF m 50 #[.val (.ref a1), .val (.int (2 : Int32)), sl2, sl3, sl4] []) := by
    intro T5 L5 sl2 sl3 sl4 X5 e5 N5 hsl2 hsl3 hsl4
    refine own_go (g' := (mkF m 51 #[.val (.ref a1), .val (.int (2 : Int32)), sl2, sl3, sl4] [(.int (2 : Int32))])) (fun t kt => XS.iloadN X5.here hx rfl (hb hby own_d10_50) rfl kt) ?_
    refine own_go (g' := (mkF m 52 #[.val (.ref a1), .val (.int (2 : Int32)), sl2, sl3, sl4] [(.ref a1), (.int (2 : Int32))])) (fun t kt => XS.aloadN X5.here hx rfl (hb hby own_d10_51) rfl rfl kt) ?_
    refine own_callVB X5 hx hZ (a := a1) (W := 1) (argsL := []) (rest := [(.int (2 : Int32))]) (c1 := 0) (s1 := 0) (Qc := fun v h' L => (v = some (.int (Int32.ofNat (List.length ([u0, u1, u2] : List Int32))))) ∧ L = [] ∧ h' = h0) hown (hw _ (List.mem_of_getElem? (i := 49) rfl)) (hw _ (List.mem_of_getElem? (i := 50) rfl)) (hw _ (List.mem_of_getElem? (i := 52) rfl)) (hw _ (List.mem_of_getElem? (i := 51) rfl)) (by decide) (StrChars.Road.lenW (W := 1) hZ (fun d hd => hw d (own_wl d hd)) (kI := 4) (hw _ (List.mem_of_getElem? (i := 11) rfl)) Ea Gv Gc Vb hcd hbd S_c hcs (Nat.le_of_ble_eq_true rfl) (by decide) (by decide)) Ea (g := (mkF m 52 #[.val (.ref a1), .val (.int (2 : Int32)), sl2, sl3, sl4] [(.ref a1), (.int (2 : Int32))])) rfl (by rw [hml]; rfl) (lenOf own_pd3 rfl) rfl (by show 2 * 0 + _ ≤ _; exact Nat.le_of_eq rfl) (hb hby own_d10_52) e5 (by decide) (by decide) (fun v6 T6 L6 X6 hq6 => ?_)
    obtain ⟨rfl, rfl, e6⟩ := hq6
    have N6 := Fr.app N5 (Fr.nil n0)
    show OEnds _ _ _ _ _ _ T6 (mkF m 55 #[.val (.ref a1), .val (.int (2 : Int32)), sl2, sl3, sl4] [(.int (3 : Int32)), (.int (2 : Int32))])
    refine own_go (g' := (mkF m 58 #[.val (.ref a1), .val (.int (2 : Int32)), sl2, sl3, sl4] [])) (fun t kt => XS.icmpNo X6.here hx rfl (hb hby own_d10_55) rfl (tlt ((by decide) : (2 : Int32) < (3 : Int32))).2.1 kt) ?_
    refine own_go (g' := (mkF m 59 #[.val (.ref a1), .val (.int (2 : Int32)), sl2, sl3, sl4] [(.ref a1)])) (fun t kt => XS.aloadN X6.here hx rfl (hb hby own_d10_58) rfl rfl kt) ?_
    refine own_go (g' := (mkF m 60 #[.val (.ref a1), .val (.int (2 : Int32)), sl2, sl3, sl4] [(.int (2 : Int32)), (.ref a1)])) (fun t kt => XS.iloadN X6.here hx rfl (hb hby own_d10_59) rfl kt) ?_
    refine own_callVB X6 hx hZ (a := a1) (W := 0) (argsL := [(.int (2 : Int32))]) (rest := []) (c1 := 0) (s1 := 0) (Qc := fun v h' L => (v = some (.int (List.getD ([u0, u1, u2] : List Int32) 2 0))) ∧ L = [] ∧ h' = h0) hown (hw _ (List.mem_of_getElem? (i := 59) rfl)) (hw _ (List.mem_of_getElem? (i := 60) rfl)) (hw _ (List.mem_of_getElem? (i := 62) rfl)) (hw _ (List.mem_of_getElem? (i := 61) rfl)) (by decide) (StrChars.Road.chN (W := 0) hZ (fun d hd => hw d (own_wc d hd)) (kI := 4) (hw _ (List.mem_of_getElem? (i := 11) rfl)) Ea Gv Gc Vb hcd hbd S_c hcs S_f hsv (Nat.le_of_ble_eq_true rfl) (i := 2) (Nat.le_of_ble_eq_true rfl) (j := (2 : Int32)) rfl (by decide) (by decide)) Ea (g := (mkF m 60 #[.val (.ref a1), .val (.int (2 : Int32)), sl2, sl3, sl4] [(.int (2 : Int32)), (.ref a1)])) rfl (by rw [hml]; rfl) (lenOf own_pd0 rfl) rfl (by show 2 * 0 + _ ≤ _; exact Nat.le_of_eq rfl) (hb hby own_d10_60) e6 (by decide) (by decide) (fun v7 T7 L7 X7 hq7 => ?_)
    obtain ⟨rfl, rfl, e7⟩ := hq7
    have N7 := Fr.app N6 (Fr.nil n0)
    show OEnds _ _ _ _ _ _ T7 (mkF m 63 #[.val (.ref a1), .val (.int (2 : Int32)), sl2, sl3, sl4] [(.int u2)])
    refine own_go (g' := (mkF m 64 #[.val (.ref a1), .val (.int (2 : Int32)), .val (.int u2), sl3, sl4] [])) (fun t kt => XS.istoreN X7.here hx rfl (hb hby own_d10_63) rfl (l' := #[.val (.ref a1), .val (.int (2 : Int32)), .val (.int u2), sl3, sl4]) (XS.store1 (o := sl2) rfl hsl2 rfl) kt) ?_
    refine own_go (g' := (mkF m 65 #[.val (.ref a1), .val (.int (2 : Int32)), .val (.int u2), sl3, sl4] [(.int u2)])) (fun t kt => XS.iloadN X7.here hx rfl (hb hby own_d10_64) rfl kt) ?_
    refine own_go (g' := (mkF m 67 #[.val (.ref a1), .val (.int (2 : Int32)), .val (.int u2), sl3, sl4] [(.int (47 : Int32)), (.int u2)])) (fun t kt => XS.bipush X7.here hx rfl (hb hby own_d10_65) kt) ?_
    refine own_go (g' := (mkF m 136 #[.val (.ref a1), .val (.int (2 : Int32)), .val (.int u2), sl3, sl4] [])) (fun t kt => XS.icmpYes X7.here hx rfl (pc0 := 67) (pc' := 136) rfl (hb hby own_d10_67) rfl (feq ((own_n47 k2) : ¬ (u2 = (47 : Int32)))).2 (by decide) (by decide) kt) ?_
    refine own_go (g' := (mkF m 137 #[.val (.ref a1), .val (.int (2 : Int32)), .val (.int u2), sl3, sl4] [(.int u2)])) (fun t kt => XS.iloadN X7.here hx rfl (hb hby own_d10_136) rfl kt) ?_
    refine own_callS X7 hx hZ (W := 0) (argsL := [(.int u2)]) (rest := []) hown (hw _ (List.mem_of_getElem? (i := 81) rfl)) (hw _ (List.mem_of_getElem? (i := 82) rfl)) (hw _ (List.mem_of_getElem? (i := 42) rfl)) (hw _ (List.mem_of_getElem? (i := 83) rfl)) (by decide) (own_isname l Z a0 hw u2 h0 n0 Z0) (by decide) (by decide) (g := (mkF m 137 #[.val (.ref a1), .val (.int (2 : Int32)), .val (.int u2), sl3, sl4] [(.int u2)])) rfl (by rw [hml]; rfl) (lenOf own_pd4 rfl) rfl (by show 2 * 0 + _ ≤ _; exact Nat.le_of_eq rfl) (hb hby own_d10_137) e7 N7 (by decide) (by decide) (fun v8 T8 L8 X8 N8 hq8 => ?_)
    obtain ⟨rfl, e8⟩ := hq8
    show OEnds _ _ _ _ _ _ T8 (mkF m 140 #[.val (.ref a1), .val (.int (2 : Int32)), .val (.int u2), sl3, sl4] [(.int (own_isn u2))])
    refine own_go (g' := (mkF m 178 #[.val (.ref a1), .val (.int (2 : Int32)), .val (.int u2), sl3, sl4] [])) (fun t kt => XS.ifYes X8.here hx rfl (pc0 := 140) (pc' := 178) rfl (hb hby own_d10_140) rfl ((if0 _ _).trans (feq ((own_nz k2) : ¬ ((own_isn u2) = (0 : Int32)))).2) (by decide) (by decide) kt) ?_
    refine own_go (g' := (mkF m 181 #[.val (.ref a1), .val (.int (3 : Int32)), .val (.int u2), sl3, sl4] [])) (fun t kt => XS.iinc X8.here hx rfl (hb hby own_d10_178) rfl (l' := #[.val (.ref a1), .val (.int (3 : Int32)), .val (.int u2), sl3, sl4]) rfl kt) ?_
    refine own_go (g' := (mkF m 50 #[.val (.ref a1), .val (.int (3 : Int32)), .val (.int u2), sl3, sl4] [])) (fun t kt => XS.goto X8.here hx rfl (pc0 := 181) (pc' := 50) rfl (hb hby own_d10_181) (by decide) (by decide) kt) ?_
    exact hd3 _ _ _ _ _ X8 e8 N8 (Or.inr ⟨_, rfl, rfl⟩) hsl3 hsl4
  have hd1 : ∀ (T : State) (locs : List Loc) (sl2 sl3 sl4 : Slot), Stand p l e ({ frames := 4, cells := 0, slots := 0, locals := 60 } : Room) s m #[(.ref a1)] below meth c T locs 0 0 → T.heap = h0 → Fr n0 locs → own_One sl2 → own_One sl3 → own_One sl4 → OEnds p e below (fun o t L => FrameEnd s o t L (({ frames := 4, cells := 0, slots := 0, locals := 60 } : Room)).cells (({ frames := 4, cells := 0, slots := 0, locals := 60 } : Room)).slots) n0 (fun v h => v = some (.ref a1) ∧ h = h0) T (mkF m 50 #[.val (.ref a1), .val (.int (1 : Int32)), sl2, sl3, sl4] []) := by
    intro T9 L9 sl2 sl3 sl4 X9 e9 N9 hsl2 hsl3 hsl4
    refine own_go (g' := (mkF m 51 #[.val (.ref a1), .val (.int (1 : Int32)), sl2, sl3, sl4] [(.int (1 : Int32))])) (fun t kt => XS.iloadN X9.here hx rfl (hb hby own_d10_50) rfl kt) ?_
    refine own_go (g' := (mkF m 52 #[.val (.ref a1), .val (.int (1 : Int32)), sl2, sl3, sl4] [(.ref a1), (.int (1 : Int32))])) (fun t kt => XS.aloadN X9.here hx rfl (hb hby own_d10_51) rfl rfl kt) ?_
    refine own_callVB X9 hx hZ (a := a1) (W := 1) (argsL := []) (rest := [(.int (1 : Int32))]) (c1 := 0) (s1 := 0) (Qc := fun v h' L => (v = some (.int (Int32.ofNat (List.length ([u0, u1, u2] : List Int32))))) ∧ L = [] ∧ h' = h0) hown (hw _ (List.mem_of_getElem? (i := 49) rfl)) (hw _ (List.mem_of_getElem? (i := 50) rfl)) (hw _ (List.mem_of_getElem? (i := 52) rfl)) (hw _ (List.mem_of_getElem? (i := 51) rfl)) (by decide) (StrChars.Road.lenW (W := 1) hZ (fun d hd => hw d (own_wl d hd)) (kI := 4) (hw _ (List.mem_of_getElem? (i := 11) rfl)) Ea Gv Gc Vb hcd hbd S_c hcs (Nat.le_of_ble_eq_true rfl) (by decide) (by decide)) Ea (g := (mkF m 52 #[.val (.ref a1), .val (.int (1 : Int32)), sl2, sl3, sl4] [(.ref a1), (.int (1 : Int32))])) rfl (by rw [hml]; rfl) (lenOf own_pd3 rfl) rfl (by show 2 * 0 + _ ≤ _; exact Nat.le_of_eq rfl) (hb hby own_d10_52) e9 (by decide) (by decide) (fun v10 T10 L10 X10 hq10 => ?_)
    obtain ⟨rfl, rfl, e10⟩ := hq10
    have N10 := Fr.app N9 (Fr.nil n0)
    show OEnds _ _ _ _ _ _ T10 (mkF m 55 #[.val (.ref a1), .val (.int (1 : Int32)), sl2, sl3, sl4] [(.int (3 : Int32)), (.int (1 : Int32))])
    refine own_go (g' := (mkF m 58 #[.val (.ref a1), .val (.int (1 : Int32)), sl2, sl3, sl4] [])) (fun t kt => XS.icmpNo X10.here hx rfl (hb hby own_d10_55) rfl (tlt ((by decide) : (1 : Int32) < (3 : Int32))).2.1 kt) ?_
    refine own_go (g' := (mkF m 59 #[.val (.ref a1), .val (.int (1 : Int32)), sl2, sl3, sl4] [(.ref a1)])) (fun t kt => XS.aloadN X10.here hx rfl (hb hby own_d10_58) rfl rfl kt) ?_
    refine own_go (g' := (mkF m 60 #[.val (.ref a1), .val (.int (1 : Int32)), sl2, sl3, sl4] [(.int (1 : Int32)), (.ref a1)])) (fun t kt => XS.iloadN X10.here hx rfl (hb hby own_d10_59) rfl kt) ?_
    refine own_callVB X10 hx hZ (a := a1) (W := 0) (argsL := [(.int (1 : Int32))]) (rest := []) (c1 := 0) (s1 := 0) (Qc := fun v h' L => (v = some (.int (List.getD ([u0, u1, u2] : List Int32) 1 0))) ∧ L = [] ∧ h' = h0) hown (hw _ (List.mem_of_getElem? (i := 59) rfl)) (hw _ (List.mem_of_getElem? (i := 60) rfl)) (hw _ (List.mem_of_getElem? (i := 62) rfl)) (hw _ (List.mem_of_getElem? (i := 61) rfl)) (by decide) (StrChars.Road.chN (W := 0) hZ (fun d hd => hw d (own_wc d hd)) (kI := 4) (hw _ (List.mem_of_getElem? (i := 11) rfl)) Ea Gv Gc Vb hcd hbd S_c hcs S_f hsv (Nat.le_of_ble_eq_true rfl) (i := 1) (Nat.le_of_ble_eq_true rfl) (j := (1 : Int32)) rfl (by decide) (by decide)) Ea (g := (mkF m 60 #[.val (.ref a1), .val (.int (1 : Int32)), sl2, sl3, sl4] [(.int (1 : Int32)), (.ref a1)])) rfl (by rw [hml]; rfl) (lenOf own_pd0 rfl) rfl (by show 2 * 0 + _ ≤ _; exact Nat.le_of_eq rfl) (hb hby own_d10_60) e10 (by decide) (by decide) (fun v11 T11 L11 X11 hq11 => ?_)
    obtain ⟨rfl, rfl, e11⟩ := hq11
    have N11 := Fr.app N10 (Fr.nil n0)
    show OEnds _ _ _ _ _ _ T11 (mkF m 63 #[.val (.ref a1), .val (.int (1 : Int32)), sl2, sl3, sl4] [(.int u1)])
    refine own_go (g' := (mkF m 64 #[.val (.ref a1), .val (.int (1 : Int32)), .val (.int u1), sl3, sl4] [])) (fun t kt => XS.istoreN X11.here hx rfl (hb hby own_d10_63) rfl (l' := #[.val (.ref a1), .val (.int (1 : Int32)), .val (.int u1), sl3, sl4]) (XS.store1 (o := sl2) rfl hsl2 rfl) kt) ?_
    refine own_go (g' := (mkF m 65 #[.val (.ref a1), .val (.int (1 : Int32)), .val (.int u1), sl3, sl4] [(.int u1)])) (fun t kt => XS.iloadN X11.here hx rfl (hb hby own_d10_64) rfl kt) ?_
    refine own_go (g' := (mkF m 67 #[.val (.ref a1), .val (.int (1 : Int32)), .val (.int u1), sl3, sl4] [(.int (47 : Int32)), (.int u1)])) (fun t kt => XS.bipush X11.here hx rfl (hb hby own_d10_65) kt) ?_
    by_cases hc12 : u1 = (47 : Int32)
    · refine own_go (g' := (mkF m 70 #[.val (.ref a1), .val (.int (1 : Int32)), .val (.int u1), sl3, sl4] [])) (fun t kt => XS.icmpNo X11.here hx rfl (hb hby own_d10_67) rfl (teq hc12).2 kt) ?_
      refine own_go (g' := (mkF m 71 #[.val (.ref a1), .val (.int (1 : Int32)), .val (.int u1), sl3, sl4] [(.int (1 : Int32))])) (fun t kt => XS.iloadN X11.here hx rfl (hb hby own_d10_70) rfl kt) ?_
      refine own_go (g' := (mkF m 74 #[.val (.ref a1), .val (.int (1 : Int32)), .val (.int u1), sl3, sl4] [])) (fun t kt => XS.ifNo X11.here hx rfl (hb hby own_d10_71) rfl ((if0 _ _).trans (tlt ((by decide) : (0 : Int32) < (1 : Int32))).2.2.2) kt) ?_
      refine own_go (g' := (mkF m 75 #[.val (.ref a1), .val (.int (1 : Int32)), .val (.int u1), sl3, sl4] [(.ref a1)])) (fun t kt => XS.aloadN X11.here hx rfl (hb hby own_d10_74) rfl rfl kt) ?_
      refine own_go (g' := (mkF m 76 #[.val (.ref a1), .val (.int (1 : Int32)), .val (.int u1), sl3, sl4] [(.int (1 : Int32)), (.ref a1)])) (fun t kt => XS.iloadN X11.here hx rfl (hb hby own_d10_75) rfl kt) ?_
      refine own_go (g' := (mkF m 77 #[.val (.ref a1), .val (.int (1 : Int32)), .val (.int u1), sl3, sl4] [(.int (1 : Int32)), (.int (1 : Int32)), (.ref a1)])) (fun t kt => XS.iconst X11.here hx rfl (hb hby own_d10_76) kt) ?_
      refine own_go (g' := (mkF m 78 #[.val (.ref a1), .val (.int (1 : Int32)), .val (.int u1), sl3, sl4] [(.int (0 : Int32)), (.ref a1)])) (fun t kt => XS.isub X11.here hx rfl (hb hby own_d10_77) rfl kt) ?_
      refine own_callVB X11 hx hZ (a := a1) (W := 0) (argsL := [(.int (0 : Int32))]) (rest := []) (c1 := 0) (s1 := 0) (Qc := fun v h' L => (v = some (.int (List.getD ([u0, u1, u2] : List Int32) 0 0))) ∧ L = [] ∧ h' = h0) hown (hw _ (List.mem_of_getElem? (i := 59) rfl)) (hw _ (List.mem_of_getElem? (i := 60) rfl)) (hw _ (List.mem_of_getElem? (i := 62) rfl)) (hw _ (List.mem_of_getElem? (i := 61) rfl)) (by decide) (StrChars.Road.chN (W := 0) hZ (fun d hd => hw d (own_wc d hd)) (kI := 4) (hw _ (List.mem_of_getElem? (i := 11) rfl)) Ea Gv Gc Vb hcd hbd S_c hcs S_f hsv (Nat.le_of_ble_eq_true rfl) (i := 0) (Nat.le_of_ble_eq_true rfl) (j := (0 : Int32)) rfl (by decide) (by decide)) Ea (g := (mkF m 78 #[.val (.ref a1), .val (.int (1 : Int32)), .val (.int u1), sl3, sl4] [(.int (0 : Int32)), (.ref a1)])) rfl (by rw [hml]; rfl) (lenOf own_pd0 rfl) rfl (by show 2 * 0 + _ ≤ _; exact Nat.le_of_eq rfl) (hb hby own_d10_78) e11 (by decide) (by decide) (fun v13 T13 L13 X13 hq13 => ?_)
      obtain ⟨rfl, rfl, e13⟩ := hq13
      have N13 := Fr.app N11 (Fr.nil n0)
      show OEnds _ _ _ _ _ _ T13 (mkF m 81 #[.val (.ref a1), .val (.int (1 : Int32)), .val (.int u1), sl3, sl4] [(.int u0)])
      refine own_go (g' := (mkF m 83 #[.val (.ref a1), .val (.int (1 : Int32)), .val (.int u1), sl3, sl4] [(.int (47 : Int32)), (.int u0)])) (fun t kt => XS.bipush X13.here hx rfl (hb hby own_d10_81) kt) ?_
      refine own_go (g' := (mkF m 86 #[.val (.ref a1), .val (.int (1 : Int32)), .val (.int u1), sl3, sl4] [])) (fun t kt => XS.icmpNo X13.here hx rfl (hb hby own_d10_83) rfl (feq ((own_prev k1 hc12) : ¬ (u0 = (47 : Int32)))).1 kt) ?_
      refine own_go (g' := (mkF m 87 #[.val (.ref a1), .val (.int (1 : Int32)), .val (.int u1), sl3, sl4] [(.int (1 : Int32))])) (fun t kt => XS.iconst X13.here hx rfl (hb hby own_d10_86) kt) ?_
      refine own_go (g' := (mkF m 91 #[.val (.ref a1), .val (.int (1 : Int32)), .val (.int u1), sl3, sl4] [(.int (1 : Int32))])) (fun t kt => XS.goto X13.here hx rfl (pc0 := 87) (pc' := 91) rfl (hb hby own_d10_87) (by decide) (by decide) kt) ?_
      refine own_go (g' := (mkF m 92 #[.val (.ref a1), .val (.int (1 : Int32)), .val (.int u1), .val (.int (1 : Int32)), sl4] [])) (fun t kt => XS.istoreN X13.here hx rfl (hb hby own_d10_91) rfl (l' := #[.val (.ref a1), .val (.int (1 : Int32)), .val (.int u1), .val (.int (1 : Int32)), sl4]) (XS.store1 (o := sl3) rfl hsl3 rfl) kt) ?_
      refine own_go (g' := (mkF m 93 #[.val (.ref a1), .val (.int (1 : Int32)), .val (.int u1), .val (.int (1 : Int32)), sl4] [(.int (1 : Int32))])) (fun t kt => XS.iloadN X13.here hx rfl (hb hby own_d10_92) rfl kt) ?_
      refine own_go (g' := (mkF m 94 #[.val (.ref a1), .val (.int (1 : Int32)), .val (.int u1), .val (.int (1 : Int32)), sl4] [(.ref a1), (.int (1 : Int32))])) (fun t kt => XS.aloadN X13.here hx rfl (hb hby own_d10_93) rfl rfl kt) ?_
      refine own_callVB X13 hx hZ (a := a1) (W := 1) (argsL := []) (rest := [(.int (1 : Int32))]) (c1 := 0) (s1 := 0) (Qc := fun v h' L => (v = some (.int (Int32.ofNat (List.length ([u0, u1, u2] : List Int32))))) ∧ L = [] ∧ h' = h0) hown (hw _ (List.mem_of_getElem? (i := 49) rfl)) (hw _ (List.mem_of_getElem? (i := 50) rfl)) (hw _ (List.mem_of_getElem? (i := 52) rfl)) (hw _ (List.mem_of_getElem? (i := 51) rfl)) (by decide) (StrChars.Road.lenW (W := 1) hZ (fun d hd => hw d (own_wl d hd)) (kI := 4) (hw _ (List.mem_of_getElem? (i := 11) rfl)) Ea Gv Gc Vb hcd hbd S_c hcs (Nat.le_of_ble_eq_true rfl) (by decide) (by decide)) Ea (g := (mkF m 94 #[.val (.ref a1), .val (.int (1 : Int32)), .val (.int u1), .val (.int (1 : Int32)), sl4] [(.ref a1), (.int (1 : Int32))])) rfl (by rw [hml]; rfl) (lenOf own_pd3 rfl) rfl (by show 2 * 0 + _ ≤ _; exact Nat.le_of_eq rfl) (hb hby own_d10_94) e13 (by decide) (by decide) (fun v14 T14 L14 X14 hq14 => ?_)
      obtain ⟨rfl, rfl, e14⟩ := hq14
      have N14 := Fr.app N13 (Fr.nil n0)
      show OEnds _ _ _ _ _ _ T14 (mkF m 97 #[.val (.ref a1), .val (.int (1 : Int32)), .val (.int u1), .val (.int (1 : Int32)), sl4] [(.int (3 : Int32)), (.int (1 : Int32))])
      refine own_go (g' := (mkF m 98 #[.val (.ref a1), .val (.int (1 : Int32)), .val (.int u1), .val (.int (1 : Int32)), sl4] [(.int (1 : Int32)), (.int (3 : Int32)), (.int (1 : Int32))])) (fun t kt => XS.iconst X14.here hx rfl (hb hby own_d10_97) kt) ?_
      refine own_go (g' := (mkF m 99 #[.val (.ref a1), .val (.int (1 : Int32)), .val (.int u1), .val (.int (1 : Int32)), sl4] [(.int (2 : Int32)), (.int (1 : Int32))])) (fun t kt => XS.isub X14.here hx rfl (hb hby own_d10_98) rfl kt) ?_
      refine own_go (g' := (mkF m 102 #[.val (.ref a1), .val (.int (1 : Int32)), .val (.int u1), .val (.int (1 : Int32)), sl4] [])) (fun t kt => XS.icmpNo X14.here hx rfl (hb hby own_d10_99) rfl (tlt ((by decide) : (1 : Int32) < (2 : Int32))).2.1 kt) ?_
      refine own_go (g' := (mkF m 103 #[.val (.ref a1), .val (.int (1 : Int32)), .val (.int u1), .val (.int (1 : Int32)), sl4] [(.int (1 : Int32))])) (fun t kt => XS.iconst X14.here hx rfl (hb hby own_d10_102) kt) ?_
      refine own_go (g' := (mkF m 107 #[.val (.ref a1), .val (.int (1 : Int32)), .val (.int u1), .val (.int (1 : Int32)), sl4] [(.int (1 : Int32))])) (fun t kt => XS.goto X14.here hx rfl (pc0 := 103) (pc' := 107) rfl (hb hby own_d10_103) (by decide) (by decide) kt) ?_
      refine own_go (g' := (mkF m 109 #[.val (.ref a1), .val (.int (1 : Int32)), .val (.int u1), .val (.int (1 : Int32)), .val (.int (1 : Int32))] [])) (fun t kt => XS.istore X14.here hx rfl (hb hby own_d10_107) rfl (l' := #[.val (.ref a1), .val (.int (1 : Int32)), .val (.int u1), .val (.int (1 : Int32)), .val (.int (1 : Int32))]) (XS.store1 (o := sl4) rfl hsl4 rfl) kt) ?_
      refine own_go (g' := (mkF m 110 #[.val (.ref a1), .val (.int (1 : Int32)), .val (.int u1), .val (.int (1 : Int32)), .val (.int (1 : Int32))] [(.int (1 : Int32))])) (fun t kt => XS.iloadN X14.here hx rfl (hb hby own_d10_109) rfl kt) ?_
      refine own_go (g' := (mkF m 113 #[.val (.ref a1), .val (.int (1 : Int32)), .val (.int u1), .val (.int (1 : Int32)), .val (.int (1 : Int32))] [])) (fun t kt => XS.ifNo X14.here hx rfl (hb hby own_d10_110) rfl ((if0 _ _).trans (feq ((by decide) : ¬ ((1 : Int32) = (0 : Int32)))).1) kt) ?_
      refine own_go (g' := (mkF m 115 #[.val (.ref a1), .val (.int (1 : Int32)), .val (.int u1), .val (.int (1 : Int32)), .val (.int (1 : Int32))] [(.int (1 : Int32))])) (fun t kt => XS.iload X14.here hx rfl (hb hby own_d10_113) rfl kt) ?_
      refine own_go (g' := (mkF m 133 #[.val (.ref a1), .val (.int (1 : Int32)), .val (.int u1), .val (.int (1 : Int32)), .val (.int (1 : Int32))] [])) (fun t kt => XS.ifYes X14.here hx rfl (pc0 := 115) (pc' := 133) rfl (hb hby own_d10_115) rfl ((if0 _ _).trans (feq ((by decide) : ¬ ((1 : Int32) = (0 : Int32)))).2) (by decide) (by decide) kt) ?_
      refine own_go (g' := (mkF m 178 #[.val (.ref a1), .val (.int (1 : Int32)), .val (.int u1), .val (.int (1 : Int32)), .val (.int (1 : Int32))] [])) (fun t kt => XS.goto X14.here hx rfl (pc0 := 133) (pc' := 178) rfl (hb hby own_d10_133) (by decide) (by decide) kt) ?_
      refine own_go (g' := (mkF m 181 #[.val (.ref a1), .val (.int (2 : Int32)), .val (.int u1), .val (.int (1 : Int32)), .val (.int (1 : Int32))] [])) (fun t kt => XS.iinc X14.here hx rfl (hb hby own_d10_178) rfl (l' := #[.val (.ref a1), .val (.int (2 : Int32)), .val (.int u1), .val (.int (1 : Int32)), .val (.int (1 : Int32))]) rfl kt) ?_
      refine own_go (g' := (mkF m 50 #[.val (.ref a1), .val (.int (2 : Int32)), .val (.int u1), .val (.int (1 : Int32)), .val (.int (1 : Int32))] [])) (fun t kt => XS.goto X14.here hx rfl (pc0 := 181) (pc' := 50) rfl (hb hby own_d10_181) (by decide) (by decide) kt) ?_
      exact hd2 _ _ _ _ _ X14 e14 N14 (Or.inr ⟨_, rfl, rfl⟩) (Or.inr ⟨_, rfl, rfl⟩) (Or.inr ⟨_, rfl, rfl⟩)
    · refine own_go (g' := (mkF m 136 #[.val (.ref a1), .val (.int (1 : Int32)), .val (.int u1), sl3, sl4] [])) (fun t kt => XS.icmpYes X11.here hx rfl (pc0 := 67) (pc' := 136) rfl (hb hby own_d10_67) rfl (feq hc12).2 (by decide) (by decide) kt) ?_
      refine own_go (g' := (mkF m 137 #[.val (.ref a1), .val (.int (1 : Int32)), .val (.int u1), sl3, sl4] [(.int u1)])) (fun t kt => XS.iloadN X11.here hx rfl (hb hby own_d10_136) rfl kt) ?_
      refine own_callS X11 hx hZ (W := 0) (argsL := [(.int u1)]) (rest := []) hown (hw _ (List.mem_of_getElem? (i := 81) rfl)) (hw _ (List.mem_of_getElem? (i := 82) rfl)) (hw _ (List.mem_of_getElem? (i := 42) rfl)) (hw _ (List.mem_of_getElem? (i := 83) rfl)) (by decide) (own_isname l Z a0 hw u1 h0 n0 Z0) (by decide) (by decide) (g := (mkF m 137 #[.val (.ref a1), .val (.int (1 : Int32)), .val (.int u1), sl3, sl4] [(.int u1)])) rfl (by rw [hml]; rfl) (lenOf own_pd4 rfl) rfl (by show 2 * 0 + _ ≤ _; exact Nat.le_of_eq rfl) (hb hby own_d10_137) e11 N11 (by decide) (by decide) (fun v15 T15 L15 X15 N15 hq15 => ?_)
      obtain ⟨rfl, e15⟩ := hq15
      show OEnds _ _ _ _ _ _ T15 (mkF m 140 #[.val (.ref a1), .val (.int (1 : Int32)), .val (.int u1), sl3, sl4] [(.int (own_isn u1))])
      refine own_go (g' := (mkF m 178 #[.val (.ref a1), .val (.int (1 : Int32)), .val (.int u1), sl3, sl4] [])) (fun t kt => XS.ifYes X15.here hx rfl (pc0 := 140) (pc' := 178) rfl (hb hby own_d10_140) rfl ((if0 _ _).trans (feq ((own_nz (own_one k1 hc12)) : ¬ ((own_isn u1) = (0 : Int32)))).2) (by decide) (by decide) kt) ?_
      refine own_go (g' := (mkF m 181 #[.val (.ref a1), .val (.int (2 : Int32)), .val (.int u1), sl3, sl4] [])) (fun t kt => XS.iinc X15.here hx rfl (hb hby own_d10_178) rfl (l' := #[.val (.ref a1), .val (.int (2 : Int32)), .val (.int u1), sl3, sl4]) rfl kt) ?_
      refine own_go (g' := (mkF m 50 #[.val (.ref a1), .val (.int (2 : Int32)), .val (.int u1), sl3, sl4] [])) (fun t kt => XS.goto X15.here hx rfl (pc0 := 181) (pc' := 50) rfl (hb hby own_d10_181) (by decide) (by decide) kt) ?_
      exact hd2 _ _ _ _ _ X15 e15 N15 (Or.inr ⟨_, rfl, rfl⟩) hsl3 hsl4
  have hd0 : ∀ (T : State) (locs : List Loc) (sl2 sl3 sl4 : Slot), Stand p l e ({ frames := 4, cells := 0, slots := 0, locals := 60 } : Room) s m #[(.ref a1)] below meth c T locs 0 0 → T.heap = h0 → Fr n0 locs → own_One sl2 → own_One sl3 → own_One sl4 → OEnds p e below (fun o t L => FrameEnd s o t L (({ frames := 4, cells := 0, slots := 0, locals := 60 } : Room)).cells (({ frames := 4, cells := 0, slots := 0, locals := 60 } : Room)).slots) n0 (fun v h => v = some (.ref a1) ∧ h = h0) T (mkF m 50 #[.val (.ref a1), .val (.int (0 : Int32)), sl2, sl3, sl4] []) := by
    intro T16 L16 sl2 sl3 sl4 X16 e16 N16 hsl2 hsl3 hsl4
    refine own_go (g' := (mkF m 51 #[.val (.ref a1), .val (.int (0 : Int32)), sl2, sl3, sl4] [(.int (0 : Int32))])) (fun t kt => XS.iloadN X16.here hx rfl (hb hby own_d10_50) rfl kt) ?_
    refine own_go (g' := (mkF m 52 #[.val (.ref a1), .val (.int (0 : Int32)), sl2, sl3, sl4] [(.ref a1), (.int (0 : Int32))])) (fun t kt => XS.aloadN X16.here hx rfl (hb hby own_d10_51) rfl rfl kt) ?_
    refine own_callVB X16 hx hZ (a := a1) (W := 1) (argsL := []) (rest := [(.int (0 : Int32))]) (c1 := 0) (s1 := 0) (Qc := fun v h' L => (v = some (.int (Int32.ofNat (List.length ([u0, u1, u2] : List Int32))))) ∧ L = [] ∧ h' = h0) hown (hw _ (List.mem_of_getElem? (i := 49) rfl)) (hw _ (List.mem_of_getElem? (i := 50) rfl)) (hw _ (List.mem_of_getElem? (i := 52) rfl)) (hw _ (List.mem_of_getElem? (i := 51) rfl)) (by decide) (StrChars.Road.lenW (W := 1) hZ (fun d hd => hw d (own_wl d hd)) (kI := 4) (hw _ (List.mem_of_getElem? (i := 11) rfl)) Ea Gv Gc Vb hcd hbd S_c hcs (Nat.le_of_ble_eq_true rfl) (by decide) (by decide)) Ea (g := (mkF m 52 #[.val (.ref a1), .val (.int (0 : Int32)), sl2, sl3, sl4] [(.ref a1), (.int (0 : Int32))])) rfl (by rw [hml]; rfl) (lenOf own_pd3 rfl) rfl (by show 2 * 0 + _ ≤ _; exact Nat.le_of_eq rfl) (hb hby own_d10_52) e16 (by decide) (by decide) (fun v17 T17 L17 X17 hq17 => ?_)
    obtain ⟨rfl, rfl, e17⟩ := hq17
    have N17 := Fr.app N16 (Fr.nil n0)
    show OEnds _ _ _ _ _ _ T17 (mkF m 55 #[.val (.ref a1), .val (.int (0 : Int32)), sl2, sl3, sl4] [(.int (3 : Int32)), (.int (0 : Int32))])
    refine own_go (g' := (mkF m 58 #[.val (.ref a1), .val (.int (0 : Int32)), sl2, sl3, sl4] [])) (fun t kt => XS.icmpNo X17.here hx rfl (hb hby own_d10_55) rfl (tlt ((by decide) : (0 : Int32) < (3 : Int32))).2.1 kt) ?_
    refine own_go (g' := (mkF m 59 #[.val (.ref a1), .val (.int (0 : Int32)), sl2, sl3, sl4] [(.ref a1)])) (fun t kt => XS.aloadN X17.here hx rfl (hb hby own_d10_58) rfl rfl kt) ?_
    refine own_go (g' := (mkF m 60 #[.val (.ref a1), .val (.int (0 : Int32)), sl2, sl3, sl4] [(.int (0 : Int32)), (.ref a1)])) (fun t kt => XS.iloadN X17.here hx rfl (hb hby own_d10_59) rfl kt) ?_
    refine own_callVB X17 hx hZ (a := a1) (W := 0) (argsL := [(.int (0 : Int32))]) (rest := []) (c1 := 0) (s1 := 0) (Qc := fun v h' L => (v = some (.int (List.getD ([u0, u1, u2] : List Int32) 0 0))) ∧ L = [] ∧ h' = h0) hown (hw _ (List.mem_of_getElem? (i := 59) rfl)) (hw _ (List.mem_of_getElem? (i := 60) rfl)) (hw _ (List.mem_of_getElem? (i := 62) rfl)) (hw _ (List.mem_of_getElem? (i := 61) rfl)) (by decide) (StrChars.Road.chN (W := 0) hZ (fun d hd => hw d (own_wc d hd)) (kI := 4) (hw _ (List.mem_of_getElem? (i := 11) rfl)) Ea Gv Gc Vb hcd hbd S_c hcs S_f hsv (Nat.le_of_ble_eq_true rfl) (i := 0) (Nat.le_of_ble_eq_true rfl) (j := (0 : Int32)) rfl (by decide) (by decide)) Ea (g := (mkF m 60 #[.val (.ref a1), .val (.int (0 : Int32)), sl2, sl3, sl4] [(.int (0 : Int32)), (.ref a1)])) rfl (by rw [hml]; rfl) (lenOf own_pd0 rfl) rfl (by show 2 * 0 + _ ≤ _; exact Nat.le_of_eq rfl) (hb hby own_d10_60) e17 (by decide) (by decide) (fun v18 T18 L18 X18 hq18 => ?_)
    obtain ⟨rfl, rfl, e18⟩ := hq18
    have N18 := Fr.app N17 (Fr.nil n0)
    show OEnds _ _ _ _ _ _ T18 (mkF m 63 #[.val (.ref a1), .val (.int (0 : Int32)), sl2, sl3, sl4] [(.int u0)])
    refine own_go (g' := (mkF m 64 #[.val (.ref a1), .val (.int (0 : Int32)), .val (.int u0), sl3, sl4] [])) (fun t kt => XS.istoreN X18.here hx rfl (hb hby own_d10_63) rfl (l' := #[.val (.ref a1), .val (.int (0 : Int32)), .val (.int u0), sl3, sl4]) (XS.store1 (o := sl2) rfl hsl2 rfl) kt) ?_
    refine own_go (g' := (mkF m 65 #[.val (.ref a1), .val (.int (0 : Int32)), .val (.int u0), sl3, sl4] [(.int u0)])) (fun t kt => XS.iloadN X18.here hx rfl (hb hby own_d10_64) rfl kt) ?_
    refine own_go (g' := (mkF m 67 #[.val (.ref a1), .val (.int (0 : Int32)), .val (.int u0), sl3, sl4] [(.int (47 : Int32)), (.int u0)])) (fun t kt => XS.bipush X18.here hx rfl (hb hby own_d10_65) kt) ?_
    refine own_go (g' := (mkF m 136 #[.val (.ref a1), .val (.int (0 : Int32)), .val (.int u0), sl3, sl4] [])) (fun t kt => XS.icmpYes X18.here hx rfl (pc0 := 67) (pc' := 136) rfl (hb hby own_d10_67) rfl (feq ((own_n47 k0) : ¬ (u0 = (47 : Int32)))).2 (by decide) (by decide) kt) ?_
    refine own_go (g' := (mkF m 137 #[.val (.ref a1), .val (.int (0 : Int32)), .val (.int u0), sl3, sl4] [(.int u0)])) (fun t kt => XS.iloadN X18.here hx rfl (hb hby own_d10_136) rfl kt) ?_
    refine own_callS X18 hx hZ (W := 0) (argsL := [(.int u0)]) (rest := []) hown (hw _ (List.mem_of_getElem? (i := 81) rfl)) (hw _ (List.mem_of_getElem? (i := 82) rfl)) (hw _ (List.mem_of_getElem? (i := 42) rfl)) (hw _ (List.mem_of_getElem? (i := 83) rfl)) (by decide) (own_isname l Z a0 hw u0 h0 n0 Z0) (by decide) (by decide) (g := (mkF m 137 #[.val (.ref a1), .val (.int (0 : Int32)), .val (.int u0), sl3, sl4] [(.int u0)])) rfl (by rw [hml]; rfl) (lenOf own_pd4 rfl) rfl (by show 2 * 0 + _ ≤ _; exact Nat.le_of_eq rfl) (hb hby own_d10_137) e18 N18 (by decide) (by decide) (fun v19 T19 L19 X19 N19 hq19 => ?_)
    obtain ⟨rfl, e19⟩ := hq19
    show OEnds _ _ _ _ _ _ T19 (mkF m 140 #[.val (.ref a1), .val (.int (0 : Int32)), .val (.int u0), sl3, sl4] [(.int (own_isn u0))])
    refine own_go (g' := (mkF m 178 #[.val (.ref a1), .val (.int (0 : Int32)), .val (.int u0), sl3, sl4] [])) (fun t kt => XS.ifYes X19.here hx rfl (pc0 := 140) (pc' := 178) rfl (hb hby own_d10_140) rfl ((if0 _ _).trans (feq ((own_nz k0) : ¬ ((own_isn u0) = (0 : Int32)))).2) (by decide) (by decide) kt) ?_
    refine own_go (g' := (mkF m 181 #[.val (.ref a1), .val (.int (1 : Int32)), .val (.int u0), sl3, sl4] [])) (fun t kt => XS.iinc X19.here hx rfl (hb hby own_d10_178) rfl (l' := #[.val (.ref a1), .val (.int (1 : Int32)), .val (.int u0), sl3, sl4]) rfl kt) ?_
    refine own_go (g' := (mkF m 50 #[.val (.ref a1), .val (.int (1 : Int32)), .val (.int u0), sl3, sl4] [])) (fun t kt => XS.goto X19.here hx rfl (pc0 := 181) (pc' := 50) rfl (hb hby own_d10_181) (by decide) (by decide) kt) ?_
    exact hd1 _ _ _ _ _ X19 e19 N19 (Or.inr ⟨_, rfl, rfl⟩) hsl3 hsl4
  exact hd0 _ _ _ _ _ X2 e2 N2 (Or.inl rfl) (Or.inl rfl) (Or.inl rfl)
theorem own_d3_75 : decode method_4_code 75 = .ok (.iload 6, 2) := by decide +kernel
theorem own_d3_77 : decode method_4_code 77 = .ok (.iconst 4, 1) := by decide +kernel
theorem own_d3_78 : decode method_4_code 78 = .ok (.if_icmp .ne 30, 3) := by decide +kernel
theorem own_d3_81 : decode method_4_code 81 = .ok (.new 13, 3) := by decide +kernel
theorem own_d3_84 : decode method_4_code 84 = .ok (.dup, 1) := by decide +kernel
theorem own_d3_85 : decode method_4_code 85 = .ok (.iconst 4, 1) := by decide +kernel
theorem own_d3_86 : decode method_4_code 86 = .ok (.newarray .char, 2) := by decide +kernel
theorem own_d3_88 : decode method_4_code 88 = .ok (.dup, 1) := by decide +kernel
theorem own_d3_89 : decode method_4_code 89 = .ok (.iconst 0, 1) := by decide +kernel
theorem own_d3_90 : decode method_4_code 90 = .ok (.iload_n 0, 1) := by decide +kernel
theorem own_d3_91 : decode method_4_code 91 = .ok (.castore, 1) := by decide +kernel
theorem own_d3_92 : decode method_4_code 92 = .ok (.dup, 1) := by decide +kernel
theorem own_d3_93 : decode method_4_code 93 = .ok (.iconst 1, 1) := by decide +kernel
theorem own_d3_94 : decode method_4_code 94 = .ok (.iload_n 1, 1) := by decide +kernel
theorem own_d3_95 : decode method_4_code 95 = .ok (.castore, 1) := by decide +kernel
theorem own_d3_96 : decode method_4_code 96 = .ok (.dup, 1) := by decide +kernel
theorem own_d3_97 : decode method_4_code 97 = .ok (.iconst 2, 1) := by decide +kernel
theorem own_d3_98 : decode method_4_code 98 = .ok (.iload_n 2, 1) := by decide +kernel
theorem own_d3_99 : decode method_4_code 99 = .ok (.castore, 1) := by decide +kernel
theorem own_d3_100 : decode method_4_code 100 = .ok (.dup, 1) := by decide +kernel
theorem own_d3_101 : decode method_4_code 101 = .ok (.iconst 3, 1) := by decide +kernel
theorem own_d3_102 : decode method_4_code 102 = .ok (.iload_n 3, 1) := by decide +kernel
theorem own_d3_103 : decode method_4_code 103 = .ok (.castore, 1) := by decide +kernel
theorem own_d3_104 : decode method_4_code 104 = .ok (.invokespecial 15, 3) := by decide +kernel
theorem own_d3_107 : decode method_4_code 107 = .ok (.areturn, 1) := by decide +kernel
theorem own_ef_own_build4 (m : MethodId) (x0 : Int32) (x1 : Int32) (x2 : Int32) (x3 : Int32) (x4 : Int32) (x5 : Int32) : entryFrame m #[(.int x0), (.int x1), (.int x2), (.int x3), (.int x4), (.int x5), (.int (4 : Int32))] 7 = mkF m 0 #[.val (.int x0), .val (.int x1), .val (.int x2), .val (.int x3), .val (.int x4), .val (.int x5), .val (.int (4 : Int32))] [] := by first | (simp [entryFrame, mkF, argsToLocals, Value.category]; done) | rfl
set_option maxRecDepth 65536 in
set_option maxHeartbeats 40000000 in
theorem own_build4 (l : Launch) (Z : State) (a0 : Array Value) (hw : ∀ d ∈ tables_1, d.before a0 Z = true) (u0 u1 u2 u3 u4 u5 cs : Int32) (h0 : Heap) (n0 : Nat) (Z0 : n0 ≤ h0.size) (S_c : Sta Z h0 "java/lang/String" "COMPACT_STRINGS" "Z" (.int cs)) (hcs : ¬ cs = 0) (r0 : (¬ u0 < 0 ∧ ¬ (255 : Int32) < u0) ∧ nar .char u0 = u0) (r1 : (¬ u1 < 0 ∧ ¬ (255 : Int32) < u1) ∧ nar .char u1 = u1) (r2 : (¬ u2 < 0 ∧ ¬ (255 : Int32) < u2) ∧ nar .char u2 = u2) (r3 : (¬ u3 < 0 ∧ ¬ (255 : Int32) < u3) ∧ nar .char u3 = u3) :
    OCon l (⟨"com/example/nutex/nutex/LockNamesRequireValidPinLaw", "build", "(CCCCCCI)Ljava/lang/String;"⟩ : MethodName) method_4_code 7 (some (.object "java/lang/String")) ({ frames := 4, cells := 3, slots := 12, locals := 66 } : Room) Z #[(.int u0), (.int u1), (.int u2), (.int u3), (.int u4), (.int u5), (.int (4 : Int32))] h0 n0 (fun v h => ∃ b t k, v = some (.ref b) ∧ Keep h0 h [] ∧ Exa Z h b "java/lang/String" ∧ Fld Z h b "java/lang/String" "coder" "B" (.int (0 : Int32)) ∧ Fld Z h b "java/lang/String" "value" "[B" (.ref t) ∧ Arv Z h t k .byte (4 : Int32) ((([u0, u1, u2, u3] : List Int32).map (fun c => c.toInt8.toInt32)).map Value.int) (.int (0 : Int32))) := by
  refine own_body own_pn_3 ?_
  intro p e s m below meth c T0 hx hZ hby hml hown hnm hret hlk e0 X0
  replace hown : s.vm.findClass "com/example/nutex/nutex/LockNamesRequireValidPinLaw" = some m.cls := hown
  replace hnm : meth.name = "build" := hnm
  have N0 := Fr.nil n0
  have K0 : Keep h0 h0 [] := Keep.refl _ _
  refine own_at (own_ef_own_build4 m u0 u1 u2 u3 u4 u5) ?_
  refine own_go (g' := (mkF m 2 #[.val (.int u0), .val (.int u1), .val (.int u2), .val (.int u3), .val (.int u4), .val (.int u5), .val (.int (4 : Int32))] [(.int (4 : Int32))])) (fun t kt => XS.iload X0.here hx rfl (hb hby own_d3_0) rfl kt) ?_
  refine own_go (g' := (mkF m 3 #[.val (.int u0), .val (.int u1), .val (.int u2), .val (.int u3), .val (.int u4), .val (.int u5), .val (.int (4 : Int32))] [(.int (1 : Int32)), (.int (4 : Int32))])) (fun t kt => XS.iconst X0.here hx rfl (hb hby own_d3_2) kt) ?_
  refine own_go (g' := (mkF m 21 #[.val (.int u0), .val (.int u1), .val (.int u2), .val (.int u3), .val (.int u4), .val (.int u5), .val (.int (4 : Int32))] [])) (fun t kt => XS.icmpYes X0.here hx rfl (pc0 := 3) (pc' := 21) rfl (hb hby own_d3_3) rfl (feq ((by decide) : ¬ ((4 : Int32) = (1 : Int32)))).2 (by decide) (by decide) kt) ?_
  refine own_go (g' := (mkF m 23 #[.val (.int u0), .val (.int u1), .val (.int u2), .val (.int u3), .val (.int u4), .val (.int u5), .val (.int (4 : Int32))] [(.int (4 : Int32))])) (fun t kt => XS.iload X0.here hx rfl (hb hby own_d3_21) rfl kt) ?_
  refine own_go (g' := (mkF m 24 #[.val (.int u0), .val (.int u1), .val (.int u2), .val (.int u3), .val (.int u4), .val (.int u5), .val (.int (4 : Int32))] [(.int (2 : Int32)), (.int (4 : Int32))])) (fun t kt => XS.iconst X0.here hx rfl (hb hby own_d3_23) kt) ?_
  refine own_go (g' := (mkF m 46 #[.val (.int u0), .val (.int u1), .val (.int u2), .val (.int u3), .val (.int u4), .val (.int u5), .val (.int (4 : Int32))] [])) (fun t kt => XS.icmpYes X0.here hx rfl (pc0 := 24) (pc' := 46) rfl (hb hby own_d3_24) rfl (feq ((by decide) : ¬ ((4 : Int32) = (2 : Int32)))).2 (by decide) (by decide) kt) ?_
  refine own_go (g' := (mkF m 48 #[.val (.int u0), .val (.int u1), .val (.int u2), .val (.int u3), .val (.int u4), .val (.int u5), .val (.int (4 : Int32))] [(.int (4 : Int32))])) (fun t kt => XS.iload X0.here hx rfl (hb hby own_d3_46) rfl kt) ?_
  refine own_go (g' := (mkF m 49 #[.val (.int u0), .val (.int u1), .val (.int u2), .val (.int u3), .val (.int u4), .val (.int u5), .val (.int (4 : Int32))] [(.int (3 : Int32)), (.int (4 : Int32))])) (fun t kt => XS.iconst X0.here hx rfl (hb hby own_d3_48) kt) ?_
  refine own_go (g' := (mkF m 75 #[.val (.int u0), .val (.int u1), .val (.int u2), .val (.int u3), .val (.int u4), .val (.int u5), .val (.int (4 : Int32))] [])) (fun t kt => XS.icmpYes X0.here hx rfl (pc0 := 49) (pc' := 75) rfl (hb hby own_d3_49) rfl (feq ((by decide) : ¬ ((4 : Int32) = (3 : Int32)))).2 (by decide) (by decide) kt) ?_
  refine own_go (g' := (mkF m 77 #[.val (.int u0), .val (.int u1), .val (.int u2), .val (.int u3), .val (.int u4), .val (.int u5), .val (.int (4 : Int32))] [(.int (4 : Int32))])) (fun t kt => XS.iload X0.here hx rfl (hb hby own_d3_75) rfl kt) ?_
  refine own_go (g' := (mkF m 78 #[.val (.int u0), .val (.int u1), .val (.int u2), .val (.int u3), .val (.int u4), .val (.int u5), .val (.int (4 : Int32))] [(.int (4 : Int32)), (.int (4 : Int32))])) (fun t kt => XS.iconst X0.here hx rfl (hb hby own_d3_77) kt) ?_
  refine own_go (g' := (mkF m 81 #[.val (.int u0), .val (.int u1), .val (.int u2), .val (.int u3), .val (.int u4), .val (.int u5), .val (.int (4 : Int32))] [])) (fun t kt => XS.icmpNo X0.here hx rfl (hb hby own_d3_78) rfl (teq ((by decide) : (4 : Int32) = (4 : Int32))).2 kt) ?_
  refine own_new X0 hx hZ hown (hw _ (List.mem_of_getElem? (i := 10) rfl)) (hw _ (List.mem_of_getElem? (i := 11) rfl)) (hw _ (List.mem_of_getElem? (i := 12) rfl)) e0 (g := (mkF m 81 #[.val (.int u0), .val (.int u1), .val (.int u2), .val (.int u3), .val (.int u4), .val (.int u5), .val (.int (4 : Int32))] [])) rfl (hb hby own_d3_81) (by decide) (by decide) (fun T1 h1 b1 g1 X1 e1 E1 A1 D1 => ?_)
  show OEnds _ _ _ _ _ _ T1 (mkF m 84 #[.val (.int u0), .val (.int u1), .val (.int u2), .val (.int u3), .val (.int u4), .val (.int u5), .val (.int (4 : Int32))] [(.ref b1)])
  have S_c_h1 := S_c.ext E1
  have gz_b1 : h0.size ≤ b1 := Nat.le_trans K0.1 (Nat.le_of_eq g1.symm)
  have ge_b1 : n0 ≤ b1 := Nat.le_trans Z0 gz_b1
  have K1 := K0.ext E1
  have F1_coder : Fld Z h1 b1 "java/lang/String" "coder" "B" (.int (0 : Int32)) := D1 (Or.inr (hw _ (List.mem_of_getElem? (i := 37) rfl))) (ty := .byte) (by decide)
  have F1_value : Fld Z h1 b1 "java/lang/String" "value" "[B" .null := D1 (Or.inr (hw _ (List.mem_of_getElem? (i := 39) rfl))) (ty := (.array .byte)) (by decide)
  refine own_go (g' := (mkF m 85 #[.val (.int u0), .val (.int u1), .val (.int u2), .val (.int u3), .val (.int u4), .val (.int u5), .val (.int (4 : Int32))] [(.ref b1), (.ref b1)])) (fun t kt => XS.dup X1.here hx rfl (hb hby own_d3_84) rfl rfl kt) ?_
  refine own_go (g' := (mkF m 86 #[.val (.int u0), .val (.int u1), .val (.int u2), .val (.int u3), .val (.int u4), .val (.int u5), .val (.int (4 : Int32))] [(.int (4 : Int32)), (.ref b1), (.ref b1)])) (fun t kt => XS.iconst X1.here hx rfl (hb hby own_d3_85) kt) ?_
  refine own_newarr X1 hx hZ (hw _ (List.mem_of_getElem? (i := 13) rfl)) e1 (g := (mkF m 86 #[.val (.int u0), .val (.int u1), .val (.int u2), .val (.int u3), .val (.int u4), .val (.int u5), .val (.int (4 : Int32))] [(.int (4 : Int32)), (.ref b1), (.ref b1)])) rfl (hb hby own_d3_86) rfl (by decide) (cap := 4) (by decide) (by decide) (by decide) (by decide) (fun T2 h2 b2 k2 g2 X2 e2 E2 V2 => ?_)
  show OEnds _ _ _ _ _ _ T2 (mkF m 88 #[.val (.int u0), .val (.int u1), .val (.int u2), .val (.int u3), .val (.int u4), .val (.int u5), .val (.int (4 : Int32))] [(.ref b2), (.ref b1), (.ref b1)])
  have ne_b1_b2 : b1 ≠ b2 := Nat.ne_of_lt (Nat.lt_of_lt_of_le A1.lt (Nat.le_of_eq g2.symm))
  have S_c_h2 := S_c_h1.ext E2
  have A1_h2 := A1.ext E2
  have F1_coder_h2 := F1_coder.ext E2
  have F1_value_h2 := F1_value.ext E2
  have gz_b2 : h0.size ≤ b2 := Nat.le_trans K1.1 (Nat.le_of_eq g2.symm)
  have ge_b2 : n0 ≤ b2 := Nat.le_trans Z0 gz_b2
  have K2 := K1.ext E2
  replace V2 : Arv Z h2 b2 k2 .char (4 : Int32) [(.int (0 : Int32)), (.int (0 : Int32)), (.int (0 : Int32)), (.int (0 : Int32))] (.int (0 : Int32)) := V2
  refine own_go (g' := (mkF m 89 #[.val (.int u0), .val (.int u1), .val (.int u2), .val (.int u3), .val (.int u4), .val (.int u5), .val (.int (4 : Int32))] [(.ref b2), (.ref b2), (.ref b1), (.ref b1)])) (fun t kt => XS.dup X2.here hx rfl (hb hby own_d3_88) rfl rfl kt) ?_
  refine own_go (g' := (mkF m 90 #[.val (.int u0), .val (.int u1), .val (.int u2), .val (.int u3), .val (.int u4), .val (.int u5), .val (.int (4 : Int32))] [(.int (0 : Int32)), (.ref b2), (.ref b2), (.ref b1), (.ref b1)])) (fun t kt => XS.iconst X2.here hx rfl (hb hby own_d3_89) kt) ?_
  refine own_go (g' := (mkF m 91 #[.val (.int u0), .val (.int u1), .val (.int u2), .val (.int u3), .val (.int u4), .val (.int u5), .val (.int (4 : Int32))] [(.int u0), (.int (0 : Int32)), (.ref b2), (.ref b2), (.ref b1), (.ref b1)])) (fun t kt => XS.iloadN X2.here hx rfl (hb hby own_d3_90) rfl kt) ?_
  refine own_castore X2 hx hZ e2 V2 ⟨by decide, by decide⟩ 0 rfl (Nat.le_of_ble_eq_true rfl) N0 ge_b2 (g := (mkF m 91 #[.val (.int u0), .val (.int u1), .val (.int u2), .val (.int u3), .val (.int u4), .val (.int u5), .val (.int (4 : Int32))] [(.int u0), (.int (0 : Int32)), (.ref b2), (.ref b2), (.ref b1), (.ref b1)])) rfl rfl (hb hby own_d3_91) (fun T3 h3 L3 X3 e3 N3 W3 V3 => ?_)
  show OEnds _ _ _ _ _ _ T3 (mkF m 92 #[.val (.int u0), .val (.int u1), .val (.int u2), .val (.int u3), .val (.int u4), .val (.int u5), .val (.int (4 : Int32))] [(.ref b2), (.ref b1), (.ref b1)])
  have S_c_h3 := S_c_h2.wr W3
  have A1_h3 := A1_h2.wr W3
  have F1_coder_h3 := F1_coder_h2.other W3 (Or.inl ne_b1_b2)
  have F1_value_h3 := F1_value_h2.other W3 (Or.inl ne_b1_b2)
  have K3 := K2.wr W3 (Or.inr gz_b2)
  replace V3 : Arv Z h3 b2 k2 .char (4 : Int32) [(.int (nar .char u0)), (.int (0 : Int32)), (.int (0 : Int32)), (.int (0 : Int32))] (.int (0 : Int32)) := V3
  refine own_go (g' := (mkF m 93 #[.val (.int u0), .val (.int u1), .val (.int u2), .val (.int u3), .val (.int u4), .val (.int u5), .val (.int (4 : Int32))] [(.ref b2), (.ref b2), (.ref b1), (.ref b1)])) (fun t kt => XS.dup X3.here hx rfl (hb hby own_d3_92) rfl rfl kt) ?_
  refine own_go (g' := (mkF m 94 #[.val (.int u0), .val (.int u1), .val (.int u2), .val (.int u3), .val (.int u4), .val (.int u5), .val (.int (4 : Int32))] [(.int (1 : Int32)), (.ref b2), (.ref b2), (.ref b1), (.ref b1)])) (fun t kt => XS.iconst X3.here hx rfl (hb hby own_d3_93) kt) ?_
  refine own_go (g' := (mkF m 95 #[.val (.int u0), .val (.int u1), .val (.int u2), .val (.int u3), .val (.int u4), .val (.int u5), .val (.int (4 : Int32))] [(.int u1), (.int (1 : Int32)), (.ref b2), (.ref b2), (.ref b1), (.ref b1)])) (fun t kt => XS.iloadN X3.here hx rfl (hb hby own_d3_94) rfl kt) ?_
  refine own_castore X3 hx hZ e3 V3 ⟨by decide, by decide⟩ 1 rfl (Nat.le_of_ble_eq_true rfl) N3 ge_b2 (g := (mkF m 95 #[.val (.int u0), .val (.int u1), .val (.int u2), .val (.int u3), .val (.int u4), .val (.int u5), .val (.int (4 : Int32))] [(.int u1), (.int (1 : Int32)), (.ref b2), (.ref b2), (.ref b1), (.ref b1)])) rfl rfl (hb hby own_d3_95) (fun T4 h4 L4 X4 e4 N4 W4 V4 => ?_)
  show OEnds _ _ _ _ _ _ T4 (mkF m 96 #[.val (.int u0), .val (.int u1), .val (.int u2), .val (.int u3), .val (.int u4), .val (.int u5), .val (.int (4 : Int32))] [(.ref b2), (.ref b1), (.ref b1)])
  have S_c_h4 := S_c_h3.wr W4
  have A1_h4 := A1_h3.wr W4
  have F1_coder_h4 := F1_coder_h3.other W4 (Or.inl ne_b1_b2)
  have F1_value_h4 := F1_value_h3.other W4 (Or.inl ne_b1_b2)
  have K4 := K3.wr W4 (Or.inr gz_b2)
  replace V4 : Arv Z h4 b2 k2 .char (4 : Int32) [(.int (nar .char u0)), (.int (nar .char u1)), (.int (0 : Int32)), (.int (0 : Int32))] (.int (0 : Int32)) := V4
  refine own_go (g' := (mkF m 97 #[.val (.int u0), .val (.int u1), .val (.int u2), .val (.int u3), .val (.int u4), .val (.int u5), .val (.int (4 : Int32))] [(.ref b2), (.ref b2), (.ref b1), (.ref b1)])) (fun t kt => XS.dup X4.here hx rfl (hb hby own_d3_96) rfl rfl kt) ?_
  refine own_go (g' := (mkF m 98 #[.val (.int u0), .val (.int u1), .val (.int u2), .val (.int u3), .val (.int u4), .val (.int u5), .val (.int (4 : Int32))] [(.int (2 : Int32)), (.ref b2), (.ref b2), (.ref b1), (.ref b1)])) (fun t kt => XS.iconst X4.here hx rfl (hb hby own_d3_97) kt) ?_
  refine own_go (g' := (mkF m 99 #[.val (.int u0), .val (.int u1), .val (.int u2), .val (.int u3), .val (.int u4), .val (.int u5), .val (.int (4 : Int32))] [(.int u2), (.int (2 : Int32)), (.ref b2), (.ref b2), (.ref b1), (.ref b1)])) (fun t kt => XS.iloadN X4.here hx rfl (hb hby own_d3_98) rfl kt) ?_
  refine own_castore X4 hx hZ e4 V4 ⟨by decide, by decide⟩ 2 rfl (Nat.le_of_ble_eq_true rfl) N4 ge_b2 (g := (mkF m 99 #[.val (.int u0), .val (.int u1), .val (.int u2), .val (.int u3), .val (.int u4), .val (.int u5), .val (.int (4 : Int32))] [(.int u2), (.int (2 : Int32)), (.ref b2), (.ref b2), (.ref b1), (.ref b1)])) rfl rfl (hb hby own_d3_99) (fun T5 h5 L5 X5 e5 N5 W5 V5 => ?_)
  show OEnds _ _ _ _ _ _ T5 (mkF m 100 #[.val (.int u0), .val (.int u1), .val (.int u2), .val (.int u3), .val (.int u4), .val (.int u5), .val (.int (4 : Int32))] [(.ref b2), (.ref b1), (.ref b1)])
  have S_c_h5 := S_c_h4.wr W5
  have A1_h5 := A1_h4.wr W5
  have F1_coder_h5 := F1_coder_h4.other W5 (Or.inl ne_b1_b2)
  have F1_value_h5 := F1_value_h4.other W5 (Or.inl ne_b1_b2)
  have K5 := K4.wr W5 (Or.inr gz_b2)
  replace V5 : Arv Z h5 b2 k2 .char (4 : Int32) [(.int (nar .char u0)), (.int (nar .char u1)), (.int (nar .char u2)), (.int (0 : Int32))] (.int (0 : Int32)) := V5
  refine own_go (g' := (mkF m 101 #[.val (.int u0), .val (.int u1), .val (.int u2), .val (.int u3), .val (.int u4), .val (.int u5), .val (.int (4 : Int32))] [(.ref b2), (.ref b2), (.ref b1), (.ref b1)])) (fun t kt => XS.dup X5.here hx rfl (hb hby own_d3_100) rfl rfl kt) ?_
  refine own_go (g' := (mkF m 102 #[.val (.int u0), .val (.int u1), .val (.int u2), .val (.int u3), .val (.int u4), .val (.int u5), .val (.int (4 : Int32))] [(.int (3 : Int32)), (.ref b2), (.ref b2), (.ref b1), (.ref b1)])) (fun t kt => XS.iconst X5.here hx rfl (hb hby own_d3_101) kt) ?_
  refine own_go (g' := (mkF m 103 #[.val (.int u0), .val (.int u1), .val (.int u2), .val (.int u3), .val (.int u4), .val (.int u5), .val (.int (4 : Int32))] [(.int u3), (.int (3 : Int32)), (.ref b2), (.ref b2), (.ref b1), (.ref b1)])) (fun t kt => XS.iloadN X5.here hx rfl (hb hby own_d3_102) rfl kt) ?_
  refine own_castore X5 hx hZ e5 V5 ⟨by decide, by decide⟩ 3 rfl (Nat.le_of_ble_eq_true rfl) N5 ge_b2 (g := (mkF m 103 #[.val (.int u0), .val (.int u1), .val (.int u2), .val (.int u3), .val (.int u4), .val (.int u5), .val (.int (4 : Int32))] [(.int u3), (.int (3 : Int32)), (.ref b2), (.ref b2), (.ref b1), (.ref b1)])) rfl rfl (hb hby own_d3_103) (fun T6 h6 L6 X6 e6 N6 W6 V6 => ?_)
  show OEnds _ _ _ _ _ _ T6 (mkF m 104 #[.val (.int u0), .val (.int u1), .val (.int u2), .val (.int u3), .val (.int u4), .val (.int u5), .val (.int (4 : Int32))] [(.ref b2), (.ref b1), (.ref b1)])
  have S_c_h6 := S_c_h5.wr W6
  have A1_h6 := A1_h5.wr W6
  have F1_coder_h6 := F1_coder_h5.other W6 (Or.inl ne_b1_b2)
  have F1_value_h6 := F1_value_h5.other W6 (Or.inl ne_b1_b2)
  have K6 := K5.wr W6 (Or.inr gz_b2)
  replace V6 : Arv Z h6 b2 k2 .char (4 : Int32) [(.int (nar .char u0)), (.int (nar .char u1)), (.int (nar .char u2)), (.int (nar .char u3))] (.int (0 : Int32)) := V6
  have Vr7 : Arv Z h6 b2 k2 .char (4 : Int32) [(.int u0), (.int u1), (.int u2), (.int u3)] (.int (0 : Int32)) := by simpa only [(r0).2, (r1).2, (r2).2, (r3).2] using V6
  have hp8 : ∀ c ∈ ([u0, u1, u2, u3] : List Int32), ¬ c < 0 ∧ ¬ (255 : Int32) < c := (own_alS (r0).1 (own_alS (r1).1 (own_alS (r2).1 (own_alS (r3).1 own_al0))))
  refine own_callCB X6 hx hZ (a := b1) (W := 1) (argsL := [(.ref b2)]) (rest := [(.ref b1)]) (c1 := 1) (s1 := 4) (Qc := fun v h' L => StrChars.Road.QV Z b1 (4 : Int32) (([u0, u1, u2, u3] : List Int32).map (fun c => c.toInt8.toInt32)) h6 n0 v h' L) rfl hown (hw _ (List.mem_of_getElem? (i := 14) rfl)) (hw _ (List.mem_of_getElem? (i := 15) rfl)) (hw _ (List.mem_of_getElem? (i := 16) rfl)) (by decide) (StrChars.Road.backV (W := 1) hZ (fun d hd => hw d (own_wi d hd)) (kI := 4) (hw _ (List.mem_of_getElem? (i := 11) rfl)) (cs := ([u0, u1, u2, u3] : List Int32)) (bs := (([u0, u1, u2, u3] : List Int32).map (fun c => c.toInt8.toInt32))) (n := 4) ge_b1 (Nat.le_trans Z0 K6.1) A1_h6 F1_value_h6 F1_coder_h6 Vr7 S_c_h6 hcs rfl rfl (by decide) (by decide) hp8 rfl (by decide) (by decide)) (g := (mkF m 104 #[.val (.int u0), .val (.int u1), .val (.int u2), .val (.int u3), .val (.int u4), .val (.int u5), .val (.int (4 : Int32))] [(.ref b2), (.ref b1), (.ref b1)])) rfl (by rw [hml]; rfl) (lenOf own_pd1 rfl) rfl (by show 2 * 0 + _ ≤ _; exact Nat.le_of_eq rfl) (hb hby own_d3_104) e6 (by decide) (by decide) (fun v8 T8 L8 X8 hq8 => ?_)
  obtain ⟨rfl, M8, Kc8, A8, G8, t8, c8, ge_t8, gy_t8, ny_t8, F8, V8⟩ := hq8
  have N8 := Fr.app N6 M8
  have ne_b1_t8 : b1 ≠ t8 := Nat.ne_of_lt (Nat.lt_of_lt_of_le A1_h6.lt gy_t8)
  have ne_b2_t8 : b2 ≠ t8 := Nat.ne_of_lt (Nat.lt_of_lt_of_le Vr7.lt gy_t8)
  have gz_t8 : h0.size ≤ t8 := Nat.le_trans K6.1 gy_t8
  have Vr7_h8 := Vr7.keep Kc8 (ninS (Ne.symm ne_b1_b2) nin0)
  have K8 := K6.trans Kc8 (allS (Or.inr gz_b1) all0)
  have S_c_h8 := S_c.ext (own_kext K8)
  have hcd8 := StrChars.Road.codOf (cs := ([u0, u1, u2, u3] : List Int32)) (n := 4) rfl (fun c hc => (hp8 c hc).2)
  have hbd8 := own_up _ hp8
  show OEnds _ _ _ _ _ _ T8 (mkF m 107 #[.val (.int u0), .val (.int u1), .val (.int u2), .val (.int u3), .val (.int u4), .val (.int u5), .val (.int (4 : Int32))] [(.ref b1)])
  exact own_retA X8 hx hlk (t := (.object "java/lang/String")) rfl hret rfl (hb hby own_d3_107) rfl N8 (by decide) (by decide) (⟨b1, t8, c8, rfl, K8, A8, G8, F8, V8⟩)
theorem own_ef_own_req4 (m : MethodId) (x0 : Addr) : entryFrame m #[(.ref x0)] 5 = mkF m 0 #[.val (.ref x0), .unset, .unset, .unset, .unset] [] := by first | (simp [entryFrame, mkF, argsToLocals, Value.category]; done) | rfl
set_option maxRecDepth 65536 in
set_option maxHeartbeats 40000000 in
theorem own_req4 (l : Launch) (Z : State) (a0 : Array Value) (hw : ∀ d ∈ tables_1, d.before a0 Z = true) (a1 ab : Addr) (kb : ClassId) (u0 u1 u2 u3 cs : Int32) (sv : Value) (hsv : sv.isRef = true) (h0 : Heap) (n0 : Nat) (Z0 : n0 ≤ h0.size) (Ea : Exa Z h0 a1 "java/lang/String") (Gc : Fld Z h0 a1 "java/lang/String" "coder" "B" (.int (0 : Int32))) (Gv : Fld Z h0 a1 "java/lang/String" "value" "[B" (.ref ab)) (Vb : Arv Z h0 ab kb .byte (4 : Int32) ((([u0, u1, u2, u3] : List Int32).map (fun c => c.toInt8.toInt32)).map Value.int) (.int (0 : Int32))) (S_c : Sta Z h0 "java/lang/String" "COMPACT_STRINGS" "Z" (.int cs)) (S_f : Sta Z h0 "jdk/internal/util/Preconditions" "SIOOBE_FORMATTER" "Ljava/util/function/BiFunction;" sv) (hcs : ¬ cs = 0) (hcd : StrChars.Road.CodA ([u0, u1, u2, u3] : List Int32) 0 (4 : Int32) ((([u0, u1, u2, u3] : List Int32).map (fun c => c.toInt8.toInt32)).map Value.int)) (hbd : ∀ c ∈ ([u0, u1, u2, u3] : List Int32), ¬ c < 0 ∧ ¬ (65535 : Int32) < c) (k0 : own_isn u0 = 1) (k1 : own_isn u1 = 1 ∨ (u1 = 47 ∧ ¬ u0 = 47)) (k2 : own_isn u2 = 1 ∨ (u2 = 47 ∧ ¬ u1 = 47)) (k3 : own_isn u3 = 1) :
    OCon l (⟨"com/example/nutex/nutex/LockNames", "requireValid", "(Ljava/lang/String;)Ljava/lang/String;"⟩ : MethodName) prog_12_method_2_code 5 (some (.object "java/lang/String")) ({ frames := 4, cells := 0, slots := 0, locals := 60 } : Room) Z #[(.ref a1)] h0 n0 (fun v h => v = some (.ref a1) ∧ h = h0) := by
  refine own_body own_pn_10 ?_
  intro p e s m below meth c T0 hx hZ hby hml hown hnm hret hlk e0 X0
  replace hown : s.vm.findClass "com/example/nutex/nutex/LockNames" = some m.cls := hown
  replace hnm : meth.name = "requireValid" := hnm
  have N0 := Fr.nil n0
  have K0 : Keep h0 h0 [] := Keep.refl _ _
  refine own_at (own_ef_own_req4 m a1) ?_
  refine own_go (g' := (mkF m 1 #[.val (.ref a1), .unset, .unset, .unset, .unset] [(.ref a1)])) (fun t kt => XS.aloadN X0.here hx rfl (hb hby own_d10_0) rfl rfl kt) ?_
  refine own_go (g' := (mkF m 14 #[.val (.ref a1), .unset, .unset, .unset, .unset] [])) (fun t kt => XS.ifnonnullYes X0.here hx rfl (pc0 := 1) (pc' := 14) rfl (hb hby own_d10_1) rfl (by decide) (by decide) kt) ?_
  refine own_go (g' := (mkF m 15 #[.val (.ref a1), .unset, .unset, .unset, .unset] [(.ref a1)])) (fun t kt => XS.aloadN X0.here hx rfl (hb hby own_d10_14) rfl rfl kt) ?_
  refine own_callVB X0 hx hZ (a := a1) (W := 0) (argsL := []) (rest := []) (c1 := 0) (s1 := 0) (Qc := fun v h' L => (v = some (.int (if (List.length ([u0, u1, u2, u3] : List Int32)) = 0 then 1 else 0))) ∧ L = [] ∧ h' = h0) hown (hw _ (List.mem_of_getElem? (i := 44) rfl)) (hw _ (List.mem_of_getElem? (i := 45) rfl)) (hw _ (List.mem_of_getElem? (i := 47) rfl)) (hw _ (List.mem_of_getElem? (i := 46) rfl)) (by decide) (StrChars.Road.empW (W := 0) hZ (fun d hd => hw d (own_wm d hd)) (kI := 4) (hw _ (List.mem_of_getElem? (i := 11) rfl)) Ea Gv Gc Vb hcd hbd (Nat.le_of_ble_eq_true rfl) (by decide) (by decide)) Ea (g := (mkF m 15 #[.val (.ref a1), .unset, .unset, .unset, .unset] [(.ref a1)])) rfl (by rw [hml]; rfl) (lenOf own_pd2 rfl) rfl (by show 2 * 0 + _ ≤ _; exact Nat.le_of_eq rfl) (hb hby own_d10_15) e0 (by decide) (by decide) (fun v1 T1 L1 X1 hq1 => ?_)
  obtain ⟨rfl, rfl, e1⟩ := hq1
  have N1 := Fr.app N0 (Fr.nil n0)
  show OEnds _ _ _ _ _ _ T1 (mkF m 18 #[.val (.ref a1), .unset, .unset, .unset, .unset] [(.int (0 : Int32))])
  refine own_go (g' := (mkF m 21 #[.val (.ref a1), .unset, .unset, .unset, .unset] [])) (fun t kt => XS.ifNo X1.here hx rfl (hb hby own_d10_18) rfl ((if0 _ _).trans (teq ((by decide) : (0 : Int32) = (0 : Int32))).2) kt) ?_
  refine own_go (g' := (mkF m 22 #[.val (.ref a1), .unset, .unset, .unset, .unset] [(.ref a1)])) (fun t kt => XS.aloadN X1.here hx rfl (hb hby own_d10_21) rfl rfl kt) ?_
  refine own_callVB X1 hx hZ (a := a1) (W := 0) (argsL := []) (rest := []) (c1 := 0) (s1 := 0) (Qc := fun v h' L => (v = some (.int (Int32.ofNat (List.length ([u0, u1, u2, u3] : List Int32))))) ∧ L = [] ∧ h' = h0) hown (hw _ (List.mem_of_getElem? (i := 49) rfl)) (hw _ (List.mem_of_getElem? (i := 50) rfl)) (hw _ (List.mem_of_getElem? (i := 52) rfl)) (hw _ (List.mem_of_getElem? (i := 51) rfl)) (by decide) (StrChars.Road.lenW (W := 0) hZ (fun d hd => hw d (own_wl d hd)) (kI := 4) (hw _ (List.mem_of_getElem? (i := 11) rfl)) Ea Gv Gc Vb hcd hbd S_c hcs (Nat.le_of_ble_eq_true rfl) (by decide) (by decide)) Ea (g := (mkF m 22 #[.val (.ref a1), .unset, .unset, .unset, .unset] [(.ref a1)])) rfl (by rw [hml]; rfl) (lenOf own_pd3 rfl) rfl (by show 2 * 0 + _ ≤ _; exact Nat.le_of_eq rfl) (hb hby own_d10_22) e1 (by decide) (by decide) (fun v2 T2 L2 X2 hq2 => ?_)
  obtain ⟨rfl, rfl, e2⟩ := hq2
  have N2 := Fr.app N1 (Fr.nil n0)
  show OEnds _ _ _ _ _ _ T2 (mkF m 25 #[.val (.ref a1), .unset, .unset, .unset, .unset] [(.int (4 : Int32))])
  refine own_go (g' := (mkF m 28 #[.val (.ref a1), .unset, .unset, .unset, .unset] [(.int (200 : Int32)), (.int (4 : Int32))])) (fun t kt => XS.sipush X2.here hx rfl (hb hby own_d10_25) kt) ?_
  refine own_go (g' := (mkF m 48 #[.val (.ref a1), .unset, .unset, .unset, .unset] [])) (fun t kt => XS.icmpYes X2.here hx rfl (pc0 := 28) (pc' := 48) rfl (hb hby own_d10_28) rfl (flt ((by decide) : ¬ ((200 : Int32) < (4 : Int32)))).2.2.2 (by decide) (by decide) kt) ?_
  refine own_go (g' := (mkF m 49 #[.val (.ref a1), .unset, .unset, .unset, .unset] [(.int (0 : Int32))])) (fun t kt => XS.iconst X2.here hx rfl (hb hby own_d10_48) kt) ?_
  refine own_go (g' := (mkF m 50 #[.val (.ref a1), .val (.int (0 : Int32)), .unset, .unset, .unset] [])) (fun t kt => XS.istoreN X2.here hx rfl (hb hby own_d10_49) rfl (l' := #[.val (.ref a1), .val (.int (0 : Int32)), .unset, .unset, .unset]) rfl kt) ?_
  have hd4 : ∀ (T : State) (locs : List Loc) (sl2 sl3 sl4 : Slot), Stand p l e ({ frames := 4, cells := 0, slots := 0, locals := 60 } : Room) s m #[(.ref a1)] below meth c T locs 0 0 → T.heap = h0 → Fr n0 locs → own_One sl2 → own_One sl3 → own_One sl4 → OEnds p e below (fun o t L => FrameEnd s o t L (({ frames := 4, cells := 0, slots := 0, locals := 60 } : Room)).cells (({ frames := 4, cells := 0, slots := 0, locals := 60 } : Room)).slots) n0 (fun v h => v = some (.ref a1) ∧ h = h0) T (mkF m 50 #[.val (.ref a1), .val (.int (4 : Int32)), sl2, sl3, sl4] []) := by
    intro T3 L3 sl2 sl3 sl4 X3 e3 N3 hsl2 hsl3 hsl4
    refine own_go (g' := (mkF m 51 #[.val (.ref a1), .val (.int (4 : Int32)), sl2, sl3, sl4] [(.int (4 : Int32))])) (fun t kt => XS.iloadN X3.here hx rfl (hb hby own_d10_50) rfl kt) ?_
    refine own_go (g' := (mkF m 52 #[.val (.ref a1), .val (.int (4 : Int32)), sl2, sl3, sl4] [(.ref a1), (.int (4 : Int32))])) (fun t kt => XS.aloadN X3.here hx rfl (hb hby own_d10_51) rfl rfl kt) ?_
    refine own_callVB X3 hx hZ (a := a1) (W := 1) (argsL := []) (rest := [(.int (4 : Int32))]) (c1 := 0) (s1 := 0) (Qc := fun v h' L => (v = some (.int (Int32.ofNat (List.length ([u0, u1, u2, u3] : List Int32))))) ∧ L = [] ∧ h' = h0) hown (hw _ (List.mem_of_getElem? (i := 49) rfl)) (hw _ (List.mem_of_getElem? (i := 50) rfl)) (hw _ (List.mem_of_getElem? (i := 52) rfl)) (hw _ (List.mem_of_getElem? (i := 51) rfl)) (by decide) (StrChars.Road.lenW (W := 1) hZ (fun d hd => hw d (own_wl d hd)) (kI := 4) (hw _ (List.mem_of_getElem? (i := 11) rfl)) Ea Gv Gc Vb hcd hbd S_c hcs (Nat.le_of_ble_eq_true rfl) (by decide) (by decide)) Ea (g := (mkF m 52 #[.val (.ref a1), .val (.int (4 : Int32)), sl2, sl3, sl4] [(.ref a1), (.int (4 : Int32))])) rfl (by rw [hml]; rfl) (lenOf own_pd3 rfl) rfl (by show 2 * 0 + _ ≤ _; exact Nat.le_of_eq rfl) (hb hby own_d10_52) e3 (by decide) (by decide) (fun v4 T4 L4 X4 hq4 => ?_)
    obtain ⟨rfl, rfl, e4⟩ := hq4
    have N4 := Fr.app N3 (Fr.nil n0)
    show OEnds _ _ _ _ _ _ T4 (mkF m 55 #[.val (.ref a1), .val (.int (4 : Int32)), sl2, sl3, sl4] [(.int (4 : Int32)), (.int (4 : Int32))])
    refine own_go (g' := (mkF m 184 #[.val (.ref a1), .val (.int (4 : Int32)), sl2, sl3, sl4] [])) (fun t kt => XS.icmpYes X4.here hx rfl (pc0 := 55) (pc' := 184) rfl (hb hby own_d10_55) rfl (flt ((by decide) : ¬ ((4 : Int32) < (4 : Int32)))).2.1 (by decide) (by decide) kt) ?_
    refine own_go (g' := (mkF m 185 #[.val (.ref a1), .val (.int (4 : Int32)), sl2, sl3, sl4] [(.ref a1)])) (fun t kt => XS.aloadN X4.here hx rfl (hb hby own_d10_184) rfl rfl kt) ?_
    exact own_retA X4 hx hlk (t := (.object "java/lang/String")) rfl hret rfl (hb hby own_d10_185) e4 N4 (by decide) (by decide) (⟨rfl, rfl⟩)
  have hd3 : ∀ (T : State) (locs : List Loc) (sl2 sl3 sl4 : Slot), Stand p l e ({ frames := 4, cells := 0, slots := 0, locals := 60 } : Room) s m #[(.ref a1)] below meth c T locs 0 0 → T.heap = h0 → Fr n0 locs → own_One sl2 → own_One sl3 → own_One sl4 → OEnds p e below (fun o t L => FrameEnd s o t L (({ frames := 4, cells := 0, slots := 0, locals := 60 } : Room)).cells (({ frames := 4, cells := 0, slots := 0, locals := 60 } : Room)).slots) n0 (fun v h => v = some (.ref a1) ∧ h = h0) T (mkF m 50 #[.val (.ref a1), .val (.int (3 : Int32)), sl2, sl3, sl4] []) := by
    intro T5 L5 sl2 sl3 sl4 X5 e5 N5 hsl2 hsl3 hsl4
    refine own_go (g' := (mkF m 51 #[.val (.ref a1), .val (.int (3 : Int32)), sl2, sl3, sl4] [(.int (3 : Int32))])) (fun t kt => XS.iloadN X5.here hx rfl (hb hby own_d10_50) rfl kt) ?_
    refine own_go (g' := (mkF m 52 #[.val (.ref a1), .val (.int (3 : Int32)), sl2, sl3, sl4] [(.ref a1), (.int (3 : Int32))])) (fun t kt => XS.aloadN X5.here hx rfl (hb hby own_d10_51) rfl rfl kt) ?_
    refine own_callVB X5 hx hZ (a := a1) (W := 1) (argsL := []) (rest := [(.int (3 : Int32))]) (c1 := 0) (s1 := 0) (Qc := fun v h' L => (v = some (.int (Int32.ofNat (List.length ([u0, u1, u2, u3] : List Int32))))) ∧ L = [] ∧ h' = h0) hown (hw _ (List.mem_of_getElem? (i := 49) rfl)) (hw _ (List.mem_of_getElem? (i := 50) rfl)) (hw _ (List.mem_of_getElem? (i := 52) rfl)) (hw _ (List.mem_of_getElem? (i := 51) rfl)) (by decide) (StrChars.Road.lenW (W := 1) hZ (fun d hd => hw d (own_wl d hd)) (kI := 4) (hw _ (List.mem_of_getElem? (i := 11) rfl)) Ea Gv Gc Vb hcd hbd S_c hcs (Nat.le_of_ble_eq_true rfl) (by decide) (by decide)) Ea (g := (mkF m 52 #[.val (.ref a1), .val (.int (3 : Int32)), sl2, sl3, sl4] [(.ref a1), (.int (3 : Int32))])) rfl (by rw [hml]; rfl) (lenOf own_pd3 rfl) rfl (by show 2 * 0 + _ ≤ _; exact Nat.le_of_eq rfl) (hb hby own_d10_52) e5 (by decide) (by decide) (fun v6 T6 L6 X6 hq6 => ?_)
    obtain ⟨rfl, rfl, e6⟩ := hq6
    have N6 := Fr.app N5 (Fr.nil n0)
    show OEnds _ _ _ _ _ _ T6 (mkF m 55 #[.val (.ref a1), .val (.int (3 : Int32)), sl2, sl3, sl4] [(.int (4 : Int32)), (.int (3 : Int32))])
    refine own_go (g' := (mkF m 58 #[.val (.ref a1), .val (.int (3 : Int32)), sl2, sl3, sl4] [])) (fun t kt => XS.icmpNo X6.here hx rfl (hb hby own_d10_55) rfl (tlt ((by decide) : (3 : Int32) < (4 : Int32))).2.1 kt) ?_
    refine own_go (g' := (mkF m 59 #[.val (.ref a1), .val (.int (3 : Int32)), sl2, sl3, sl4] [(.ref a1)])) (fun t kt => XS.aloadN X6.here hx rfl (hb hby own_d10_58) rfl rfl kt) ?_
    refine own_go (g' := (mkF m 60 #[.val (.ref a1), .val (.int (3 : Int32)), sl2, sl3, sl4] [(.int (3 : Int32)), (.ref a1)])) (fun t kt => XS.iloadN X6.here hx rfl (hb hby own_d10_59) rfl kt) ?_
    refine own_callVB X6 hx hZ (a := a1) (W := 0) (argsL := [(.int (3 : Int32))]) (rest := []) (c1 := 0) (s1 := 0) (Qc := fun v h' L => (v = some (.int (List.getD ([u0, u1, u2, u3] : List Int32) 3 0))) ∧ L = [] ∧ h' = h0) hown (hw _ (List.mem_of_getElem? (i := 59) rfl)) (hw _ (List.mem_of_getElem? (i := 60) rfl)) (hw _ (List.mem_of_getElem? (i := 62) rfl)) (hw _ (List.mem_of_getElem? (i := 61) rfl)) (by decide) (StrChars.Road.chN (W := 0) hZ (fun d hd => hw d (own_wc d hd)) (kI := 4) (hw _ (List.mem_of_getElem? (i := 11) rfl)) Ea Gv Gc Vb hcd hbd S_c hcs S_f hsv (Nat.le_of_ble_eq_true rfl) (i := 3) (Nat.le_of_ble_eq_true rfl) (j := (3 : Int32)) rfl (by decide) (by decide)) Ea (g := (mkF m 60 #[.val (.ref a1), .val (.int (3 : Int32)), sl2, sl3, sl4] [(.int (3 : Int32)), (.ref a1)])) rfl (by rw [hml]; rfl) (lenOf own_pd0 rfl) rfl (by show 2 * 0 + _ ≤ _; exact Nat.le_of_eq rfl) (hb hby own_d10_60) e6 (by decide) (by decide) (fun v7 T7 L7 X7 hq7 => ?_)
    obtain ⟨rfl, rfl, e7⟩ := hq7
    have N7 := Fr.app N6 (Fr.nil n0)
    show OEnds _ _ _ _ _ _ T7 (mkF m 63 #[.val (.ref a1), .val (.int (3 : Int32)), sl2, sl3, sl4] [(.int u3)])
    refine own_go (g' := (mkF m 64 #[.val (.ref a1), .val (.int (3 : Int32)), .val (.int u3), sl3, sl4] [])) (fun t kt => XS.istoreN X7.here hx rfl (hb hby own_d10_63) rfl (l' := #[.val (.ref a1), .val (.int (3 : Int32)), .val (.int u3), sl3, sl4]) (XS.store1 (o := sl2) rfl hsl2 rfl) kt) ?_
    refine own_go (g' := (mkF m 65 #[.val (.ref a1), .val (.int (3 : Int32)), .val (.int u3), sl3, sl4] [(.int u3)])) (fun t kt => XS.iloadN X7.here hx rfl (hb hby own_d10_64) rfl kt) ?_
    refine own_go (g' := (mkF m 67 #[.val (.ref a1), .val (.int (3 : Int32)), .val (.int u3), sl3, sl4] [(.int (47 : Int32)), (.int u3)])) (fun t kt => XS.bipush X7.here hx rfl (hb hby own_d10_65) kt) ?_
    refine own_go (g' := (mkF m 136 #[.val (.ref a1), .val (.int (3 : Int32)), .val (.int u3), sl3, sl4] [])) (fun t kt => XS.icmpYes X7.here hx rfl (pc0 := 67) (pc' := 136) rfl (hb hby own_d10_67) rfl (feq ((own_n47 k3) : ¬ (u3 = (47 : Int32)))).2 (by decide) (by decide) kt) ?_
    refine own_go (g' := (mkF m 137 #[.val (.ref a1), .val (.int (3 : Int32)), .val (.int u3), sl3, sl4] [(.int u3)])) (fun t kt => XS.iloadN X7.here hx rfl (hb hby own_d10_136) rfl kt) ?_
    refine own_callS X7 hx hZ (W := 0) (argsL := [(.int u3)]) (rest := []) hown (hw _ (List.mem_of_getElem? (i := 81) rfl)) (hw _ (List.mem_of_getElem? (i := 82) rfl)) (hw _ (List.mem_of_getElem? (i := 42) rfl)) (hw _ (List.mem_of_getElem? (i := 83) rfl)) (by decide) (own_isname l Z a0 hw u3 h0 n0 Z0) (by decide) (by decide) (g := (mkF m 137 #[.val (.ref a1), .val (.int (3 : Int32)), .val (.int u3), sl3, sl4] [(.int u3)])) rfl (by rw [hml]; rfl) (lenOf own_pd4 rfl) rfl (by show 2 * 0 + _ ≤ _; exact Nat.le_of_eq rfl) (hb hby own_d10_137) e7 N7 (by decide) (by decide) (fun v8 T8 L8 X8 N8 hq8 => ?_)
    obtain ⟨rfl, e8⟩ := hq8
    show OEnds _ _ _ _ _ _ T8 (mkF m 140 #[.val (.ref a1), .val (.int (3 : Int32)), .val (.int u3), sl3, sl4] [(.int (own_isn u3))])
    refine own_go (g' := (mkF m 178 #[.val (.ref a1), .val (.int (3 : Int32)), .val (.int u3), sl3, sl4] [])) (fun t kt => XS.ifYes X8.here hx rfl (pc0 := 140) (pc' := 178) rfl (hb hby own_d10_140) rfl ((if0 _ _).trans (feq ((own_nz k3) : ¬ ((own_isn u3) = (0 : Int32)))).2) (by decide) (by decide) kt) ?_
    refine own_go (g' := (mkF m 181 #[.val (.ref a1), .val (.int (4 : Int32)), .val (.int u3), sl3, sl4] [])) (fun t kt => XS.iinc X8.here hx rfl (hb hby own_d10_178) rfl (l' := #[.val (.ref a1), .val (.int (4 : Int32)), .val (.int u3), sl3, sl4]) rfl kt) ?_
    refine own_go (g' := (mkF m 50 #[.val (.ref a1), .val (.int (4 : Int32)), .val (.int u3), sl3, sl4] [])) (fun t kt => XS.goto X8.here hx rfl (pc0 := 181) (pc' := 50) rfl (hb hby own_d10_181) (by decide) (by decide) kt) ?_
    exact hd4 _ _ _ _ _ X8 e8 N8 (Or.inr ⟨_, rfl, rfl⟩) hsl3 hsl4
  have hd2 : ∀ (T : State) (locs : List Loc) (sl2 sl3 sl4 : Slot), Stand p l e ({ frames := 4, cells := 0, slots := 0, locals := 60 } : Room) s m #[(.ref a1)] below meth c T locs 0 0 → T.heap = h0 → Fr n0 locs → own_One sl2 → own_One sl3 → own_One sl4 → OEnds p e below (fun o t L => FrameEnd s o t L (({ frames := 4, cells := 0, slots := 0, locals := 60 } : Room)).cells (({ frames := 4, cells := 0, slots := 0, locals := 60 } : Room)).slots) n0 (fun v h => v = some (.ref a1) ∧ h = h0) T (mkF m 50 #[.val (.ref a1), .val (.int (2 : Int32)), sl2, sl3, sl4] []) := by
    intro T9 L9 sl2 sl3 sl4 X9 e9 N9 hsl2 hsl3 hsl4
    refine own_go (g' := (mkF m 51 #[.val (.ref a1), .val (.int (2 : Int32)), sl2, sl3, sl4] [(.int (2 : Int32))])) (fun t kt => XS.iloadN X9.here hx rfl (hb hby own_d10_50) rfl kt) ?_
    refine own_go (g' := (mkF m 52 #[.val (.ref a1), .val (.int (2 : Int32)), sl2, sl3, sl4] [(.ref a1), (.int (2 : Int32))])) (fun t kt => XS.aloadN X9.here hx rfl (hb hby own_d10_51) rfl rfl kt) ?_
    refine own_callVB X9 hx hZ (a := a1) (W := 1) (argsL := []) (rest := [(.int (2 : Int32))]) (c1 := 0) (s1 := 0) (Qc := fun v h' L => (v = some (.int (Int32.ofNat (List.length ([u0, u1, u2, u3] : List Int32))))) ∧ L = [] ∧ h' = h0) hown (hw _ (List.mem_of_getElem? (i := 49) rfl)) (hw _ (List.mem_of_getElem? (i := 50) rfl)) (hw _ (List.mem_of_getElem? (i := 52) rfl)) (hw _ (List.mem_of_getElem? (i := 51) rfl)) (by decide) (StrChars.Road.lenW (W := 1) hZ (fun d hd => hw d (own_wl d hd)) (kI := 4) (hw _ (List.mem_of_getElem? (i := 11) rfl)) Ea Gv Gc Vb hcd hbd S_c hcs (Nat.le_of_ble_eq_true rfl) (by decide) (by decide)) Ea (g := (mkF m 52 #[.val (.ref a1), .val (.int (2 : Int32)), sl2, sl3, sl4] [(.ref a1), (.int (2 : Int32))])) rfl (by rw [hml]; rfl) (lenOf own_pd3 rfl) rfl (by show 2 * 0 + _ ≤ _; exact Nat.le_of_eq rfl) (hb hby own_d10_52) e9 (by decide) (by decide) (fun v10 T10 L10 X10 hq10 => ?_)
    obtain ⟨rfl, rfl, e10⟩ := hq10
    have N10 := Fr.app N9 (Fr.nil n0)
    show OEnds _ _ _ _ _ _ T10 (mkF m 55 #[.val (.ref a1), .val (.int (2 : Int32)), sl2, sl3, sl4] [(.int (4 : Int32)), (.int (2 : Int32))])
    refine own_go (g' := (mkF m 58 #[.val (.ref a1), .val (.int (2 : Int32)), sl2, sl3, sl4] [])) (fun t kt => XS.icmpNo X10.here hx rfl (hb hby own_d10_55) rfl (tlt ((by decide) : (2 : Int32) < (4 : Int32))).2.1 kt) ?_
    refine own_go (g' := (mkF m 59 #[.val (.ref a1), .val (.int (2 : Int32)), sl2, sl3, sl4] [(.ref a1)])) (fun t kt => XS.aloadN X10.here hx rfl (hb hby own_d10_58) rfl rfl kt) ?_
    refine own_go (g' := (mkF m 60 #[.val (.ref a1), .val (.int (2 : Int32)), sl2, sl3, sl4] [(.int (2 : Int32)), (.ref a1)])) (fun t kt => XS.iloadN X10.here hx rfl (hb hby own_d10_59) rfl kt) ?_
    refine own_callVB X10 hx hZ (a := a1) (W := 0) (argsL := [(.int (2 : Int32))]) (rest := []) (c1 := 0) (s1 := 0) (Qc := fun v h' L => (v = some (.int (List.getD ([u0, u1, u2, u3] : List Int32) 2 0))) ∧ L = [] ∧ h' = h0) hown (hw _ (List.mem_of_getElem? (i := 59) rfl)) (hw _ (List.mem_of_getElem? (i := 60) rfl)) (hw _ (List.mem_of_getElem? (i := 62) rfl)) (hw _ (List.mem_of_getElem? (i := 61) rfl)) (by decide) (StrChars.Road.chN (W := 0) hZ (fun d hd => hw d (own_wc d hd)) (kI := 4) (hw _ (List.mem_of_getElem? (i := 11) rfl)) Ea Gv Gc Vb hcd hbd S_c hcs S_f hsv (Nat.le_of_ble_eq_true rfl) (i := 2) (Nat.le_of_ble_eq_true rfl) (j := (2 : Int32)) rfl (by decide) (by decide)) Ea (g := (mkF m 60 #[.val (.ref a1), .val (.int (2 : Int32)), sl2, sl3, sl4] [(.int (2 : Int32)), (.ref a1)])) rfl (by rw [hml]; rfl) (lenOf own_pd0 rfl) rfl (by show 2 * 0 + _ ≤ _; exact Nat.le_of_eq rfl) (hb hby own_d10_60) e10 (by decide) (by decide) (fun v11 T11 L11 X11 hq11 => ?_)
    obtain ⟨rfl, rfl, e11⟩ := hq11
    have N11 := Fr.app N10 (Fr.nil n0)
    show OEnds _ _ _ _ _ _ T11 (mkF m 63 #[.val (.ref a1), .val (.int (2 : Int32)), sl2, sl3, sl4] [(.int u2)])
    refine own_go (g' := (mkF m 64 #[.val (.ref a1), .val (.int (2 : Int32)), .val (.int u2), sl3, sl4] [])) (fun t kt => XS.istoreN X11.here hx rfl (hb hby own_d10_63) rfl (l' := #[.val (.ref a1), .val (.int (2 : Int32)), .val (.int u2), sl3, sl4]) (XS.store1 (o := sl2) rfl hsl2 rfl) kt) ?_
    refine own_go (g' := (mkF m 65 #[.val (.ref a1), .val (.int (2 : Int32)), .val (.int u2), sl3, sl4] [(.int u2)])) (fun t kt => XS.iloadN X11.here hx rfl (hb hby own_d10_64) rfl kt) ?_
    refine own_go (g' := (mkF m 67 #[.val (.ref a1), .val (.int (2 : Int32)), .val (.int u2), sl3, sl4] [(.int (47 : Int32)), (.int u2)])) (fun t kt => XS.bipush X11.here hx rfl (hb hby own_d10_65) kt) ?_
    by_cases hc12 : u2 = (47 : Int32)
    · refine own_go (g' := (mkF m 70 #[.val (.ref a1), .val (.int (2 : Int32)), .val (.int u2), sl3, sl4] [])) (fun t kt => XS.icmpNo X11.here hx rfl (hb hby own_d10_67) rfl (teq hc12).2 kt) ?_
      refine own_go (g' := (mkF m 71 #[.val (.ref a1), .val (.int (2 : Int32)), .val (.int u2), sl3, sl4] [(.int (2 : Int32))])) (fun t kt => XS.iloadN X11.here hx rfl (hb hby own_d10_70) rfl kt) ?_
      refine own_go (g' := (mkF m 74 #[.val (.ref a1), .val (.int (2 : Int32)), .val (.int u2), sl3, sl4] [])) (fun t kt => XS.ifNo X11.here hx rfl (hb hby own_d10_71) rfl ((if0 _ _).trans (tlt ((by decide) : (0 : Int32) < (2 : Int32))).2.2.2) kt) ?_
      refine own_go (g' := (mkF m 75 #[.val (.ref a1), .val (.int (2 : Int32)), .val (.int u2), sl3, sl4] [(.ref a1)])) (fun t kt => XS.aloadN X11.here hx rfl (hb hby own_d10_74) rfl rfl kt) ?_
      refine own_go (g' := (mkF m 76 #[.val (.ref a1), .val (.int (2 : Int32)), .val (.int u2), sl3, sl4] [(.int (2 : Int32)), (.ref a1)])) (fun t kt => XS.iloadN X11.here hx rfl (hb hby own_d10_75) rfl kt) ?_
      refine own_go (g' := (mkF m 77 #[.val (.ref a1), .val (.int (2 : Int32)), .val (.int u2), sl3, sl4] [(.int (1 : Int32)), (.int (2 : Int32)), (.ref a1)])) (fun t kt => XS.iconst X11.here hx rfl (hb hby own_d10_76) kt) ?_
      refine own_go (g' := (mkF m 78 #[.val (.ref a1), .val (.int (2 : Int32)), .val (.int u2), sl3, sl4] [(.int (1 : Int32)), (.ref a1)])) (fun t kt => XS.isub X11.here hx rfl (hb hby own_d10_77) rfl kt) ?_
      refine own_callVB X11 hx hZ (a := a1) (W := 0) (argsL := [(.int (1 : Int32))]) (rest := []) (c1 := 0) (s1 := 0) (Qc := fun v h' L => (v = some (.int (List.getD ([u0, u1, u2, u3] : List Int32) 1 0))) ∧ L = [] ∧ h' = h0) hown (hw _ (List.mem_of_getElem? (i := 59) rfl)) (hw _ (List.mem_of_getElem? (i := 60) rfl)) (hw _ (List.mem_of_getElem? (i := 62) rfl)) (hw _ (List.mem_of_getElem? (i := 61) rfl)) (by decide) (StrChars.Road.chN (W := 0) hZ (fun d hd => hw d (own_wc d hd)) (kI := 4) (hw _ (List.mem_of_getElem? (i := 11) rfl)) Ea Gv Gc Vb hcd hbd S_c hcs S_f hsv (Nat.le_of_ble_eq_true rfl) (i := 1) (Nat.le_of_ble_eq_true rfl) (j := (1 : Int32)) rfl (by decide) (by decide)) Ea (g := (mkF m 78 #[.val (.ref a1), .val (.int (2 : Int32)), .val (.int u2), sl3, sl4] [(.int (1 : Int32)), (.ref a1)])) rfl (by rw [hml]; rfl) (lenOf own_pd0 rfl) rfl (by show 2 * 0 + _ ≤ _; exact Nat.le_of_eq rfl) (hb hby own_d10_78) e11 (by decide) (by decide) (fun v13 T13 L13 X13 hq13 => ?_)
      obtain ⟨rfl, rfl, e13⟩ := hq13
      have N13 := Fr.app N11 (Fr.nil n0)
      show OEnds _ _ _ _ _ _ T13 (mkF m 81 #[.val (.ref a1), .val (.int (2 : Int32)), .val (.int u2), sl3, sl4] [(.int u1)])
      refine own_go (g' := (mkF m 83 #[.val (.ref a1), .val (.int (2 : Int32)), .val (.int u2), sl3, sl4] [(.int (47 : Int32)), (.int u1)])) (fun t kt => XS.bipush X13.here hx rfl (hb hby own_d10_81) kt) ?_
      refine own_go (g' := (mkF m 86 #[.val (.ref a1), .val (.int (2 : Int32)), .val (.int u2), sl3, sl4] [])) (fun t kt => XS.icmpNo X13.here hx rfl (hb hby own_d10_83) rfl (feq ((own_prev k2 hc12) : ¬ (u1 = (47 : Int32)))).1 kt) ?_
      refine own_go (g' := (mkF m 87 #[.val (.ref a1), .val (.int (2 : Int32)), .val (.int u2), sl3, sl4] [(.int (1 : Int32))])) (fun t kt => XS.iconst X13.here hx rfl (hb hby own_d10_86) kt) ?_
      refine own_go (g' := (mkF m 91 #[.val (.ref a1), .val (.int (2 : Int32)), .val (.int u2), sl3, sl4] [(.int (1 : Int32))])) (fun t kt => XS.goto X13.here hx rfl (pc0 := 87) (pc' := 91) rfl (hb hby own_d10_87) (by decide) (by decide) kt) ?_
      refine own_go (g' := (mkF m 92 #[.val (.ref a1), .val (.int (2 : Int32)), .val (.int u2), .val (.int (1 : Int32)), sl4] [])) (fun t kt => XS.istoreN X13.here hx rfl (hb hby own_d10_91) rfl (l' := #[.val (.ref a1), .val (.int (2 : Int32)), .val (.int u2), .val (.int (1 : Int32)), sl4]) (XS.store1 (o := sl3) rfl hsl3 rfl) kt) ?_
      refine own_go (g' := (mkF m 93 #[.val (.ref a1), .val (.int (2 : Int32)), .val (.int u2), .val (.int (1 : Int32)), sl4] [(.int (2 : Int32))])) (fun t kt => XS.iloadN X13.here hx rfl (hb hby own_d10_92) rfl kt) ?_
      refine own_go (g' := (mkF m 94 #[.val (.ref a1), .val (.int (2 : Int32)), .val (.int u2), .val (.int (1 : Int32)), sl4] [(.ref a1), (.int (2 : Int32))])) (fun t kt => XS.aloadN X13.here hx rfl (hb hby own_d10_93) rfl rfl kt) ?_
      refine own_callVB X13 hx hZ (a := a1) (W := 1) (argsL := []) (rest := [(.int (2 : Int32))]) (c1 := 0) (s1 := 0) (Qc := fun v h' L => (v = some (.int (Int32.ofNat (List.length ([u0, u1, u2, u3] : List Int32))))) ∧ L = [] ∧ h' = h0) hown (hw _ (List.mem_of_getElem? (i := 49) rfl)) (hw _ (List.mem_of_getElem? (i := 50) rfl)) (hw _ (List.mem_of_getElem? (i := 52) rfl)) (hw _ (List.mem_of_getElem? (i := 51) rfl)) (by decide) (StrChars.Road.lenW (W := 1) hZ (fun d hd => hw d (own_wl d hd)) (kI := 4) (hw _ (List.mem_of_getElem? (i := 11) rfl)) Ea Gv Gc Vb hcd hbd S_c hcs (Nat.le_of_ble_eq_true rfl) (by decide) (by decide)) Ea (g := (mkF m 94 #[.val (.ref a1), .val (.int (2 : Int32)), .val (.int u2), .val (.int (1 : Int32)), sl4] [(.ref a1), (.int (2 : Int32))])) rfl (by rw [hml]; rfl) (lenOf own_pd3 rfl) rfl (by show 2 * 0 + _ ≤ _; exact Nat.le_of_eq rfl) (hb hby own_d10_94) e13 (by decide) (by decide) (fun v14 T14 L14 X14 hq14 => ?_)
      obtain ⟨rfl, rfl, e14⟩ := hq14
      have N14 := Fr.app N13 (Fr.nil n0)
      show OEnds _ _ _ _ _ _ T14 (mkF m 97 #[.val (.ref a1), .val (.int (2 : Int32)), .val (.int u2), .val (.int (1 : Int32)), sl4] [(.int (4 : Int32)), (.int (2 : Int32))])
      refine own_go (g' := (mkF m 98 #[.val (.ref a1), .val (.int (2 : Int32)), .val (.int u2), .val (.int (1 : Int32)), sl4] [(.int (1 : Int32)), (.int (4 : Int32)), (.int (2 : Int32))])) (fun t kt => XS.iconst X14.here hx rfl (hb hby own_d10_97) kt) ?_
      refine own_go (g' := (mkF m 99 #[.val (.ref a1), .val (.int (2 : Int32)), .val (.int u2), .val (.int (1 : Int32)), sl4] [(.int (3 : Int32)), (.int (2 : Int32))])) (fun t kt => XS.isub X14.here hx rfl (hb hby own_d10_98) rfl kt) ?_
      refine own_go (g' := (mkF m 102 #[.val (.ref a1), .val (.int (2 : Int32)), .val (.int u2), .val (.int (1 : Int32)), sl4] [])) (fun t kt => XS.icmpNo X14.here hx rfl (hb hby own_d10_99) rfl (tlt ((by decide) : (2 : Int32) < (3 : Int32))).2.1 kt) ?_
      refine own_go (g' := (mkF m 103 #[.val (.ref a1), .val (.int (2 : Int32)), .val (.int u2), .val (.int (1 : Int32)), sl4] [(.int (1 : Int32))])) (fun t kt => XS.iconst X14.here hx rfl (hb hby own_d10_102) kt) ?_
      refine own_go (g' := (mkF m 107 #[.val (.ref a1), .val (.int (2 : Int32)), .val (.int u2), .val (.int (1 : Int32)), sl4] [(.int (1 : Int32))])) (fun t kt => XS.goto X14.here hx rfl (pc0 := 103) (pc' := 107) rfl (hb hby own_d10_103) (by decide) (by decide) kt) ?_
      refine own_go (g' := (mkF m 109 #[.val (.ref a1), .val (.int (2 : Int32)), .val (.int u2), .val (.int (1 : Int32)), .val (.int (1 : Int32))] [])) (fun t kt => XS.istore X14.here hx rfl (hb hby own_d10_107) rfl (l' := #[.val (.ref a1), .val (.int (2 : Int32)), .val (.int u2), .val (.int (1 : Int32)), .val (.int (1 : Int32))]) (XS.store1 (o := sl4) rfl hsl4 rfl) kt) ?_
      refine own_go (g' := (mkF m 110 #[.val (.ref a1), .val (.int (2 : Int32)), .val (.int u2), .val (.int (1 : Int32)), .val (.int (1 : Int32))] [(.int (1 : Int32))])) (fun t kt => XS.iloadN X14.here hx rfl (hb hby own_d10_109) rfl kt) ?_
      refine own_go (g' := (mkF m 113 #[.val (.ref a1), .val (.int (2 : Int32)), .val (.int u2), .val (.int (1 : Int32)), .val (.int (1 : Int32))] [])) (fun t kt => XS.ifNo X14.here hx rfl (hb hby own_d10_110) rfl ((if0 _ _).trans (feq ((by decide) : ¬ ((1 : Int32) = (0 : Int32)))).1) kt) ?_
      refine own_go (g' := (mkF m 115 #[.val (.ref a1), .val (.int (2 : Int32)), .val (.int u2), .val (.int (1 : Int32)), .val (.int (1 : Int32))] [(.int (1 : Int32))])) (fun t kt => XS.iload X14.here hx rfl (hb hby own_d10_113) rfl kt) ?_
      refine own_go (g' := (mkF m 133 #[.val (.ref a1), .val (.int (2 : Int32)), .val (.int u2), .val (.int (1 : Int32)), .val (.int (1 : Int32))] [])) (fun t kt => XS.ifYes X14.here hx rfl (pc0 := 115) (pc' := 133) rfl (hb hby own_d10_115) rfl ((if0 _ _).trans (feq ((by decide) : ¬ ((1 : Int32) = (0 : Int32)))).2) (by decide) (by decide) kt) ?_
      refine own_go (g' := (mkF m 178 #[.val (.ref a1), .val (.int (2 : Int32)), .val (.int u2), .val (.int (1 : Int32)), .val (.int (1 : Int32))] [])) (fun t kt => XS.goto X14.here hx rfl (pc0 := 133) (pc' := 178) rfl (hb hby own_d10_133) (by decide) (by decide) kt) ?_
      refine own_go (g' := (mkF m 181 #[.val (.ref a1), .val (.int (3 : Int32)), .val (.int u2), .val (.int (1 : Int32)), .val (.int (1 : Int32))] [])) (fun t kt => XS.iinc X14.here hx rfl (hb hby own_d10_178) rfl (l' := #[.val (.ref a1), .val (.int (3 : Int32)), .val (.int u2), .val (.int (1 : Int32)), .val (.int (1 : Int32))]) rfl kt) ?_
      refine own_go (g' := (mkF m 50 #[.val (.ref a1), .val (.int (3 : Int32)), .val (.int u2), .val (.int (1 : Int32)), .val (.int (1 : Int32))] [])) (fun t kt => XS.goto X14.here hx rfl (pc0 := 181) (pc' := 50) rfl (hb hby own_d10_181) (by decide) (by decide) kt) ?_
      exact hd3 _ _ _ _ _ X14 e14 N14 (Or.inr ⟨_, rfl, rfl⟩) (Or.inr ⟨_, rfl, rfl⟩) (Or.inr ⟨_, rfl, rfl⟩)
    · refine own_go (g' := (mkF m 136 #[.val (.ref a1), .val (.int (2 : Int32)), .val (.int u2), sl3, sl4] [])) (fun t kt => XS.icmpYes X11.here hx rfl (pc0 := 67) (pc' := 136) rfl (hb hby own_d10_67) rfl (feq hc12).2 (by decide) (by decide) kt) ?_
      refine own_go (g' := (mkF m 137 #[.val (.ref a1), .val (.int (2 : Int32)), .val (.int u2), sl3, sl4] [(.int u2)])) (fun t kt => XS.iloadN X11.here hx rfl (hb hby own_d10_136) rfl kt) ?_
      refine own_callS X11 hx hZ (W := 0) (argsL := [(.int u2)]) (rest := []) hown (hw _ (List.mem_of_getElem? (i := 81) rfl)) (hw _ (List.mem_of_getElem? (i := 82) rfl)) (hw _ (List.mem_of_getElem? (i := 42) rfl)) (hw _ (List.mem_of_getElem? (i := 83) rfl)) (by decide) (own_isname l Z a0 hw u2 h0 n0 Z0) (by decide) (by decide) (g := (mkF m 137 #[.val (.ref a1), .val (.int (2 : Int32)), .val (.int u2), sl3, sl4] [(.int u2)])) rfl (by rw [hml]; rfl) (lenOf own_pd4 rfl) rfl (by show 2 * 0 + _ ≤ _; exact Nat.le_of_eq rfl) (hb hby own_d10_137) e11 N11 (by decide) (by decide) (fun v15 T15 L15 X15 N15 hq15 => ?_)
      obtain ⟨rfl, e15⟩ := hq15
      show OEnds _ _ _ _ _ _ T15 (mkF m 140 #[.val (.ref a1), .val (.int (2 : Int32)), .val (.int u2), sl3, sl4] [(.int (own_isn u2))])
      refine own_go (g' := (mkF m 178 #[.val (.ref a1), .val (.int (2 : Int32)), .val (.int u2), sl3, sl4] [])) (fun t kt => XS.ifYes X15.here hx rfl (pc0 := 140) (pc' := 178) rfl (hb hby own_d10_140) rfl ((if0 _ _).trans (feq ((own_nz (own_one k2 hc12)) : ¬ ((own_isn u2) = (0 : Int32)))).2) (by decide) (by decide) kt) ?_
      refine own_go (g' := (mkF m 181 #[.val (.ref a1), .val (.int (3 : Int32)), .val (.int u2), sl3, sl4] [])) (fun t kt => XS.iinc X15.here hx rfl (hb hby own_d10_178) rfl (l' := #[.val (.ref a1), .val (.int (3 : Int32)), .val (.int u2), sl3, sl4]) rfl kt) ?_
      refine own_go (g' := (mkF m 50 #[.val (.ref a1), .val (.int (3 : Int32)), .val (.int u2), sl3, sl4] [])) (fun t kt => XS.goto X15.here hx rfl (pc0 := 181) (pc' := 50) rfl (hb hby own_d10_181) (by decide) (by decide) kt) ?_
      exact hd3 _ _ _ _ _ X15 e15 N15 (Or.inr ⟨_, rfl, rfl⟩) hsl3 hsl4
  have hd1 : ∀ (T : State) (locs : List Loc) (sl2 sl3 sl4 : Slot), Stand p l e ({ frames := 4, cells := 0, slots := 0, locals := 60 } : Room) s m #[(.ref a1)] below meth c T locs 0 0 → T.heap = h0 → Fr n0 locs → own_One sl2 → own_One sl3 → own_One sl4 → OEnds p e below (fun o t L => FrameEnd s o t L (({ frames := 4, cells := 0, slots := 0, locals := 60 } : Room)).cells (({ frames := 4, cells := 0, slots := 0, locals := 60 } : Room)).slots) n0 (fun v h => v = some (.ref a1) ∧ h = h0) T (mkF m 50 #[.val (.ref a1), .val (.int (1 : Int32)), sl2, sl3, sl4] []) := by
    intro T16 L16 sl2 sl3 sl4 X16 e16 N16 hsl2 hsl3 hsl4
    refine own_go (g' := (mkF m 51 #[.val (.ref a1), .val (.int (1 : Int32)), sl2, sl3, sl4] [(.int (1 : Int32))])) (fun t kt => XS.iloadN X16.here hx rfl (hb hby own_d10_50) rfl kt) ?_
    refine own_go (g' := (mkF m 52 #[.val (.ref a1), .val (.int (1 : Int32)), sl2, sl3, sl4] [(.ref a1), (.int (1 : Int32))])) (fun t kt => XS.aloadN X16.here hx rfl (hb hby own_d10_51) rfl rfl kt) ?_
    refine own_callVB X16 hx hZ (a := a1) (W := 1) (argsL := []) (rest := [(.int (1 : Int32))]) (c1 := 0) (s1 := 0) (Qc := fun v h' L => (v = some (.int (Int32.ofNat (List.length ([u0, u1, u2, u3] : List Int32))))) ∧ L = [] ∧ h' = h0) hown (hw _ (List.mem_of_getElem? (i := 49) rfl)) (hw _ (List.mem_of_getElem? (i := 50) rfl)) (hw _ (List.mem_of_getElem? (i := 52) rfl)) (hw _ (List.mem_of_getElem? (i := 51) rfl)) (by decide) (StrChars.Road.lenW (W := 1) hZ (fun d hd => hw d (own_wl d hd)) (kI := 4) (hw _ (List.mem_of_getElem? (i := 11) rfl)) Ea Gv Gc Vb hcd hbd S_c hcs (Nat.le_of_ble_eq_true rfl) (by decide) (by decide)) Ea (g := (mkF m 52 #[.val (.ref a1), .val (.int (1 : Int32)), sl2, sl3, sl4] [(.ref a1), (.int (1 : Int32))])) rfl (by rw [hml]; rfl) (lenOf own_pd3 rfl) rfl (by show 2 * 0 + _ ≤ _; exact Nat.le_of_eq rfl) (hb hby own_d10_52) e16 (by decide) (by decide) (fun v17 T17 L17 X17 hq17 => ?_)
    obtain ⟨rfl, rfl, e17⟩ := hq17
    have N17 := Fr.app N16 (Fr.nil n0)
    show OEnds _ _ _ _ _ _ T17 (mkF m 55 #[.val (.ref a1), .val (.int (1 : Int32)), sl2, sl3, sl4] [(.int (4 : Int32)), (.int (1 : Int32))])
    refine own_go (g' := (mkF m 58 #[.val (.ref a1), .val (.int (1 : Int32)), sl2, sl3, sl4] [])) (fun t kt => XS.icmpNo X17.here hx rfl (hb hby own_d10_55) rfl (tlt ((by decide) : (1 : Int32) < (4 : Int32))).2.1 kt) ?_
    refine own_go (g' := (mkF m 59 #[.val (.ref a1), .val (.int (1 : Int32)), sl2, sl3, sl4] [(.ref a1)])) (fun t kt => XS.aloadN X17.here hx rfl (hb hby own_d10_58) rfl rfl kt) ?_
    refine own_go (g' := (mkF m 60 #[.val (.ref a1), .val (.int (1 : Int32)), sl2, sl3, sl4] [(.int (1 : Int32)), (.ref a1)])) (fun t kt => XS.iloadN X17.here hx rfl (hb hby own_d10_59) rfl kt) ?_
    refine own_callVB X17 hx hZ (a := a1) (W := 0) (argsL := [(.int (1 : Int32))]) (rest := []) (c1 := 0) (s1 := 0) (Qc := fun v h' L => (v = some (.int (List.getD ([u0, u1, u2, u3] : List Int32) 1 0))) ∧ L = [] ∧ h' = h0) hown (hw _ (List.mem_of_getElem? (i := 59) rfl)) (hw _ (List.mem_of_getElem? (i := 60) rfl)) (hw _ (List.mem_of_getElem? (i := 62) rfl)) (hw _ (List.mem_of_getElem? (i := 61) rfl)) (by decide) (StrChars.Road.chN (W := 0) hZ (fun d hd => hw d (own_wc d hd)) (kI := 4) (hw _ (List.mem_of_getElem? (i := 11) rfl)) Ea Gv Gc Vb hcd hbd S_c hcs S_f hsv (Nat.le_of_ble_eq_true rfl) (i := 1) (Nat.le_of_ble_eq_true rfl) (j := (1 : Int32)) rfl (by decide) (by decide)) Ea (g := (mkF m 60 #[.val (.ref a1), .val (.int (1 : Int32)), sl2, sl3, sl4] [(.int (1 : Int32)), (.ref a1)])) rfl (by rw [hml]; rfl) (lenOf own_pd0 rfl) rfl (by show 2 * 0 + _ ≤ _; exact Nat.le_of_eq rfl) (hb hby own_d10_60) e17 (by decide) (by decide) (fun v18 T18 L18 X18 hq18 => ?_)
    obtain ⟨rfl, rfl, e18⟩ := hq18
    have N18 := Fr.app N17 (Fr.nil n0)
    show OEnds _ _ _ _ _ _ T18 (mkF m 63 #[.val (.ref a1), .val (.int (1 : Int32)), sl2, sl3, sl4] [(.int u1)])
    refine own_go (g' := (mkF m 64 #[.val (.ref a1), .val (.int (1 : Int32)), .val (.int u1), sl3, sl4] [])) (fun t kt => XS.istoreN X18.here hx rfl (hb hby own_d10_63) rfl (l' := #[.val (.ref a1), .val (.int (1 : Int32)), .val (.int u1), sl3, sl4]) (XS.store1 (o := sl2) rfl hsl2 rfl) kt) ?_
    refine own_go (g' := (mkF m 65 #[.val (.ref a1), .val (.int (1 : Int32)), .val (.int u1), sl3, sl4] [(.int u1)])) (fun t kt => XS.iloadN X18.here hx rfl (hb hby own_d10_64) rfl kt) ?_
    refine own_go (g' := (mkF m 67 #[.val (.ref a1), .val (.int (1 : Int32)), .val (.int u1), sl3, sl4] [(.int (47 : Int32)), (.int u1)])) (fun t kt => XS.bipush X18.here hx rfl (hb hby own_d10_65) kt) ?_
    by_cases hc19 : u1 = (47 : Int32)
    · refine own_go (g' := (mkF m 70 #[.val (.ref a1), .val (.int (1 : Int32)), .val (.int u1), sl3, sl4] [])) (fun t kt => XS.icmpNo X18.here hx rfl (hb hby own_d10_67) rfl (teq hc19).2 kt) ?_
      refine own_go (g' := (mkF m 71 #[.val (.ref a1), .val (.int (1 : Int32)), .val (.int u1), sl3, sl4] [(.int (1 : Int32))])) (fun t kt => XS.iloadN X18.here hx rfl (hb hby own_d10_70) rfl kt) ?_
      refine own_go (g' := (mkF m 74 #[.val (.ref a1), .val (.int (1 : Int32)), .val (.int u1), sl3, sl4] [])) (fun t kt => XS.ifNo X18.here hx rfl (hb hby own_d10_71) rfl ((if0 _ _).trans (tlt ((by decide) : (0 : Int32) < (1 : Int32))).2.2.2) kt) ?_
      refine own_go (g' := (mkF m 75 #[.val (.ref a1), .val (.int (1 : Int32)), .val (.int u1), sl3, sl4] [(.ref a1)])) (fun t kt => XS.aloadN X18.here hx rfl (hb hby own_d10_74) rfl rfl kt) ?_
      refine own_go (g' := (mkF m 76 #[.val (.ref a1), .val (.int (1 : Int32)), .val (.int u1), sl3, sl4] [(.int (1 : Int32)), (.ref a1)])) (fun t kt => XS.iloadN X18.here hx rfl (hb hby own_d10_75) rfl kt) ?_
      refine own_go (g' := (mkF m 77 #[.val (.ref a1), .val (.int (1 : Int32)), .val (.int u1), sl3, sl4] [(.int (1 : Int32)), (.int (1 : Int32)), (.ref a1)])) (fun t kt => XS.iconst X18.here hx rfl (hb hby own_d10_76) kt) ?_
      refine own_go (g' := (mkF m 78 #[.val (.ref a1), .val (.int (1 : Int32)), .val (.int u1), sl3, sl4] [(.int (0 : Int32)), (.ref a1)])) (fun t kt => XS.isub X18.here hx rfl (hb hby own_d10_77) rfl kt) ?_
      refine own_callVB X18 hx hZ (a := a1) (W := 0) (argsL := [(.int (0 : Int32))]) (rest := []) (c1 := 0) (s1 := 0) (Qc := fun v h' L => (v = some (.int (List.getD ([u0, u1, u2, u3] : List Int32) 0 0))) ∧ L = [] ∧ h' = h0) hown (hw _ (List.mem_of_getElem? (i := 59) rfl)) (hw _ (List.mem_of_getElem? (i := 60) rfl)) (hw _ (List.mem_of_getElem? (i := 62) rfl)) (hw _ (List.mem_of_getElem? (i := 61) rfl)) (by decide) (StrChars.Road.chN (W := 0) hZ (fun d hd => hw d (own_wc d hd)) (kI := 4) (hw _ (List.mem_of_getElem? (i := 11) rfl)) Ea Gv Gc Vb hcd hbd S_c hcs S_f hsv (Nat.le_of_ble_eq_true rfl) (i := 0) (Nat.le_of_ble_eq_true rfl) (j := (0 : Int32)) rfl (by decide) (by decide)) Ea (g := (mkF m 78 #[.val (.ref a1), .val (.int (1 : Int32)), .val (.int u1), sl3, sl4] [(.int (0 : Int32)), (.ref a1)])) rfl (by rw [hml]; rfl) (lenOf own_pd0 rfl) rfl (by show 2 * 0 + _ ≤ _; exact Nat.le_of_eq rfl) (hb hby own_d10_78) e18 (by decide) (by decide) (fun v20 T20 L20 X20 hq20 => ?_)
      obtain ⟨rfl, rfl, e20⟩ := hq20
      have N20 := Fr.app N18 (Fr.nil n0)
      show OEnds _ _ _ _ _ _ T20 (mkF m 81 #[.val (.ref a1), .val (.int (1 : Int32)), .val (.int u1), sl3, sl4] [(.int u0)])
      refine own_go (g' := (mkF m 83 #[.val (.ref a1), .val (.int (1 : Int32)), .val (.int u1), sl3, sl4] [(.int (47 : Int32)), (.int u0)])) (fun t kt => XS.bipush X20.here hx rfl (hb hby own_d10_81) kt) ?_
      refine own_go (g' := (mkF m 86 #[.val (.ref a1), .val (.int (1 : Int32)), .val (.int u1), sl3, sl4] [])) (fun t kt => XS.icmpNo X20.here hx rfl (hb hby own_d10_83) rfl (feq ((own_prev k1 hc19) : ¬ (u0 = (47 : Int32)))).1 kt) ?_
      refine own_go (g' := (mkF m 87 #[.val (.ref a1), .val (.int (1 : Int32)), .val (.int u1), sl3, sl4] [(.int (1 : Int32))])) (fun t kt => XS.iconst X20.here hx rfl (hb hby own_d10_86) kt) ?_
      refine own_go (g' := (mkF m 91 #[.val (.ref a1), .val (.int (1 : Int32)), .val (.int u1), sl3, sl4] [(.int (1 : Int32))])) (fun t kt => XS.goto X20.here hx rfl (pc0 := 87) (pc' := 91) rfl (hb hby own_d10_87) (by decide) (by decide) kt) ?_
      refine own_go (g' := (mkF m 92 #[.val (.ref a1), .val (.int (1 : Int32)), .val (.int u1), .val (.int (1 : Int32)), sl4] [])) (fun t kt => XS.istoreN X20.here hx rfl (hb hby own_d10_91) rfl (l' := #[.val (.ref a1), .val (.int (1 : Int32)), .val (.int u1), .val (.int (1 : Int32)), sl4]) (XS.store1 (o := sl3) rfl hsl3 rfl) kt) ?_
      refine own_go (g' := (mkF m 93 #[.val (.ref a1), .val (.int (1 : Int32)), .val (.int u1), .val (.int (1 : Int32)), sl4] [(.int (1 : Int32))])) (fun t kt => XS.iloadN X20.here hx rfl (hb hby own_d10_92) rfl kt) ?_
      refine own_go (g' := (mkF m 94 #[.val (.ref a1), .val (.int (1 : Int32)), .val (.int u1), .val (.int (1 : Int32)), sl4] [(.ref a1), (.int (1 : Int32))])) (fun t kt => XS.aloadN X20.here hx rfl (hb hby own_d10_93) rfl rfl kt) ?_
      refine own_callVB X20 hx hZ (a := a1) (W := 1) (argsL := []) (rest := [(.int (1 : Int32))]) (c1 := 0) (s1 := 0) (Qc := fun v h' L => (v = some (.int (Int32.ofNat (List.length ([u0, u1, u2, u3] : List Int32))))) ∧ L = [] ∧ h' = h0) hown (hw _ (List.mem_of_getElem? (i := 49) rfl)) (hw _ (List.mem_of_getElem? (i := 50) rfl)) (hw _ (List.mem_of_getElem? (i := 52) rfl)) (hw _ (List.mem_of_getElem? (i := 51) rfl)) (by decide) (StrChars.Road.lenW (W := 1) hZ (fun d hd => hw d (own_wl d hd)) (kI := 4) (hw _ (List.mem_of_getElem? (i := 11) rfl)) Ea Gv Gc Vb hcd hbd S_c hcs (Nat.le_of_ble_eq_true rfl) (by decide) (by decide)) Ea (g := (mkF m 94 #[.val (.ref a1), .val (.int (1 : Int32)), .val (.int u1), .val (.int (1 : Int32)), sl4] [(.ref a1), (.int (1 : Int32))])) rfl (by rw [hml]; rfl) (lenOf own_pd3 rfl) rfl (by show 2 * 0 + _ ≤ _; exact Nat.le_of_eq rfl) (hb hby own_d10_94) e20 (by decide) (by decide) (fun v21 T21 L21 X21 hq21 => ?_)
      obtain ⟨rfl, rfl, e21⟩ := hq21
      have N21 := Fr.app N20 (Fr.nil n0)
      show OEnds _ _ _ _ _ _ T21 (mkF m 97 #[.val (.ref a1), .val (.int (1 : Int32)), .val (.int u1), .val (.int (1 : Int32)), sl4] [(.int (4 : Int32)), (.int (1 : Int32))])
      refine own_go (g' := (mkF m 98 #[.val (.ref a1), .val (.int (1 : Int32)), .val (.int u1), .val (.int (1 : Int32)), sl4] [(.int (1 : Int32)), (.int (4 : Int32)), (.int (1 : Int32))])) (fun t kt => XS.iconst X21.here hx rfl (hb hby own_d10_97) kt) ?_
      refine own_go (g' := (mkF m 99 #[.val (.ref a1), .val (.int (1 : Int32)), .val (.int u1), .val (.int (1 : Int32)), sl4] [(.int (3 : Int32)), (.int (1 : Int32))])) (fun t kt => XS.isub X21.here hx rfl (hb hby own_d10_98) rfl kt) ?_
      refine own_go (g' := (mkF m 102 #[.val (.ref a1), .val (.int (1 : Int32)), .val (.int u1), .val (.int (1 : Int32)), sl4] [])) (fun t kt => XS.icmpNo X21.here hx rfl (hb hby own_d10_99) rfl (tlt ((by decide) : (1 : Int32) < (3 : Int32))).2.1 kt) ?_
      refine own_go (g' := (mkF m 103 #[.val (.ref a1), .val (.int (1 : Int32)), .val (.int u1), .val (.int (1 : Int32)), sl4] [(.int (1 : Int32))])) (fun t kt => XS.iconst X21.here hx rfl (hb hby own_d10_102) kt) ?_
      refine own_go (g' := (mkF m 107 #[.val (.ref a1), .val (.int (1 : Int32)), .val (.int u1), .val (.int (1 : Int32)), sl4] [(.int (1 : Int32))])) (fun t kt => XS.goto X21.here hx rfl (pc0 := 103) (pc' := 107) rfl (hb hby own_d10_103) (by decide) (by decide) kt) ?_
      refine own_go (g' := (mkF m 109 #[.val (.ref a1), .val (.int (1 : Int32)), .val (.int u1), .val (.int (1 : Int32)), .val (.int (1 : Int32))] [])) (fun t kt => XS.istore X21.here hx rfl (hb hby own_d10_107) rfl (l' := #[.val (.ref a1), .val (.int (1 : Int32)), .val (.int u1), .val (.int (1 : Int32)), .val (.int (1 : Int32))]) (XS.store1 (o := sl4) rfl hsl4 rfl) kt) ?_
      refine own_go (g' := (mkF m 110 #[.val (.ref a1), .val (.int (1 : Int32)), .val (.int u1), .val (.int (1 : Int32)), .val (.int (1 : Int32))] [(.int (1 : Int32))])) (fun t kt => XS.iloadN X21.here hx rfl (hb hby own_d10_109) rfl kt) ?_
      refine own_go (g' := (mkF m 113 #[.val (.ref a1), .val (.int (1 : Int32)), .val (.int u1), .val (.int (1 : Int32)), .val (.int (1 : Int32))] [])) (fun t kt => XS.ifNo X21.here hx rfl (hb hby own_d10_110) rfl ((if0 _ _).trans (feq ((by decide) : ¬ ((1 : Int32) = (0 : Int32)))).1) kt) ?_
      refine own_go (g' := (mkF m 115 #[.val (.ref a1), .val (.int (1 : Int32)), .val (.int u1), .val (.int (1 : Int32)), .val (.int (1 : Int32))] [(.int (1 : Int32))])) (fun t kt => XS.iload X21.here hx rfl (hb hby own_d10_113) rfl kt) ?_
      refine own_go (g' := (mkF m 133 #[.val (.ref a1), .val (.int (1 : Int32)), .val (.int u1), .val (.int (1 : Int32)), .val (.int (1 : Int32))] [])) (fun t kt => XS.ifYes X21.here hx rfl (pc0 := 115) (pc' := 133) rfl (hb hby own_d10_115) rfl ((if0 _ _).trans (feq ((by decide) : ¬ ((1 : Int32) = (0 : Int32)))).2) (by decide) (by decide) kt) ?_
      refine own_go (g' := (mkF m 178 #[.val (.ref a1), .val (.int (1 : Int32)), .val (.int u1), .val (.int (1 : Int32)), .val (.int (1 : Int32))] [])) (fun t kt => XS.goto X21.here hx rfl (pc0 := 133) (pc' := 178) rfl (hb hby own_d10_133) (by decide) (by decide) kt) ?_
      refine own_go (g' := (mkF m 181 #[.val (.ref a1), .val (.int (2 : Int32)), .val (.int u1), .val (.int (1 : Int32)), .val (.int (1 : Int32))] [])) (fun t kt => XS.iinc X21.here hx rfl (hb hby own_d10_178) rfl (l' := #[.val (.ref a1), .val (.int (2 : Int32)), .val (.int u1), .val (.int (1 : Int32)), .val (.int (1 : Int32))]) rfl kt) ?_
      refine own_go (g' := (mkF m 50 #[.val (.ref a1), .val (.int (2 : Int32)), .val (.int u1), .val (.int (1 : Int32)), .val (.int (1 : Int32))] [])) (fun t kt => XS.goto X21.here hx rfl (pc0 := 181) (pc' := 50) rfl (hb hby own_d10_181) (by decide) (by decide) kt) ?_
      exact hd2 _ _ _ _ _ X21 e21 N21 (Or.inr ⟨_, rfl, rfl⟩) (Or.inr ⟨_, rfl, rfl⟩) (Or.inr ⟨_, rfl, rfl⟩)
    · refine own_go (g' := (mkF m 136 #[.val (.ref a1), .val (.int (1 : Int32)), .val (.int u1), sl3, sl4] [])) (fun t kt => XS.icmpYes X18.here hx rfl (pc0 := 67) (pc' := 136) rfl (hb hby own_d10_67) rfl (feq hc19).2 (by decide) (by decide) kt) ?_
      refine own_go (g' := (mkF m 137 #[.val (.ref a1), .val (.int (1 : Int32)), .val (.int u1), sl3, sl4] [(.int u1)])) (fun t kt => XS.iloadN X18.here hx rfl (hb hby own_d10_136) rfl kt) ?_
      refine own_callS X18 hx hZ (W := 0) (argsL := [(.int u1)]) (rest := []) hown (hw _ (List.mem_of_getElem? (i := 81) rfl)) (hw _ (List.mem_of_getElem? (i := 82) rfl)) (hw _ (List.mem_of_getElem? (i := 42) rfl)) (hw _ (List.mem_of_getElem? (i := 83) rfl)) (by decide) (own_isname l Z a0 hw u1 h0 n0 Z0) (by decide) (by decide) (g := (mkF m 137 #[.val (.ref a1), .val (.int (1 : Int32)), .val (.int u1), sl3, sl4] [(.int u1)])) rfl (by rw [hml]; rfl) (lenOf own_pd4 rfl) rfl (by show 2 * 0 + _ ≤ _; exact Nat.le_of_eq rfl) (hb hby own_d10_137) e18 N18 (by decide) (by decide) (fun v22 T22 L22 X22 N22 hq22 => ?_)
      obtain ⟨rfl, e22⟩ := hq22
      show OEnds _ _ _ _ _ _ T22 (mkF m 140 #[.val (.ref a1), .val (.int (1 : Int32)), .val (.int u1), sl3, sl4] [(.int (own_isn u1))])
      refine own_go (g' := (mkF m 178 #[.val (.ref a1), .val (.int (1 : Int32)), .val (.int u1), sl3, sl4] [])) (fun t kt => XS.ifYes X22.here hx rfl (pc0 := 140) (pc' := 178) rfl (hb hby own_d10_140) rfl ((if0 _ _).trans (feq ((own_nz (own_one k1 hc19)) : ¬ ((own_isn u1) = (0 : Int32)))).2) (by decide) (by decide) kt) ?_
      refine own_go (g' := (mkF m 181 #[.val (.ref a1), .val (.int (2 : Int32)), .val (.int u1), sl3, sl4] [])) (fun t kt => XS.iinc X22.here hx rfl (hb hby own_d10_178) rfl (l' := #[.val (.ref a1), .val (.int (2 : Int32)), .val (.int u1), sl3, sl4]) rfl kt) ?_
      refine own_go (g' := (mkF m 50 #[.val (.ref a1), .val (.int (2 : Int32)), .val (.int u1), sl3, sl4] [])) (fun t kt => XS.goto X22.here hx rfl (pc0 := 181) (pc' := 50) rfl (hb hby own_d10_181) (by decide) (by decide) kt) ?_
      exact hd2 _ _ _ _ _ X22 e22 N22 (Or.inr ⟨_, rfl, rfl⟩) hsl3 hsl4
  have hd0 : ∀ (T : State) (locs : List Loc) (sl2 sl3 sl4 : Slot), Stand p l e ({ frames := 4, cells := 0, slots := 0, locals := 60 } : Room) s m #[(.ref a1)] below meth c T locs 0 0 → T.heap = h0 → Fr n0 locs → own_One sl2 → own_One sl3 → own_One sl4 → OEnds p e below (fun o t L => FrameEnd s o t L (({ frames := 4, cells := 0, slots := 0, locals := 60 } : Room)).cells (({ frames := 4, cells := 0, slots := 0, locals := 60 } : Room)).slots) n0 (fun v h => v = some (.ref a1) ∧ h = h0) T (mkF m 50 #[.val (.ref a1), .val (.int (0 : Int32)), sl2, sl3, sl4] []) := by
    intro T23 L23 sl2 sl3 sl4 X23 e23 N23 hsl2 hsl3 hsl4
    refine own_go (g' := (mkF m 51 #[.val (.ref a1), .val (.int (0 : Int32)), sl2, sl3, sl4] [(.int (0 : Int32))])) (fun t kt => XS.iloadN X23.here hx rfl (hb hby own_d10_50) rfl kt) ?_
    refine own_go (g' := (mkF m 52 #[.val (.ref a1), .val (.int (0 : Int32)), sl2, sl3, sl4] [(.ref a1), (.int (0 : Int32))])) (fun t kt => XS.aloadN X23.here hx rfl (hb hby own_d10_51) rfl rfl kt) ?_
    refine own_callVB X23 hx hZ (a := a1) (W := 1) (argsL := []) (rest := [(.int (0 : Int32))]) (c1 := 0) (s1 := 0) (Qc := fun v h' L => (v = some (.int (Int32.ofNat (List.length ([u0, u1, u2, u3] : List Int32))))) ∧ L = [] ∧ h' = h0) hown (hw _ (List.mem_of_getElem? (i := 49) rfl)) (hw _ (List.mem_of_getElem? (i := 50) rfl)) (hw _ (List.mem_of_getElem? (i := 52) rfl)) (hw _ (List.mem_of_getElem? (i := 51) rfl)) (by decide) (StrChars.Road.lenW (W := 1) hZ (fun d hd => hw d (own_wl d hd)) (kI := 4) (hw _ (List.mem_of_getElem? (i := 11) rfl)) Ea Gv Gc Vb hcd hbd S_c hcs (Nat.le_of_ble_eq_true rfl) (by decide) (by decide)) Ea (g := (mkF m 52 #[.val (.ref a1), .val (.int (0 : Int32)), sl2, sl3, sl4] [(.ref a1), (.int (0 : Int32))])) rfl (by rw [hml]; rfl) (lenOf own_pd3 rfl) rfl (by show 2 * 0 + _ ≤ _; exact Nat.le_of_eq rfl) (hb hby own_d10_52) e23 (by decide) (by decide) (fun v24 T24 L24 X24 hq24 => ?_)
    obtain ⟨rfl, rfl, e24⟩ := hq24
    have N24 := Fr.app N23 (Fr.nil n0)
    show OEnds _ _ _ _ _ _ T24 (mkF m 55 #[.val (.ref a1), .val (.int (0 : Int32)), sl2, sl3, sl4] [(.int (4 : Int32)), (.int (0 : Int32))])
    refine own_go (g' := (mkF m 58 #[.val (.ref a1), .val (.int (0 : Int32)), sl2, sl3, sl4] [])) (fun t kt => XS.icmpNo X24.here hx rfl (hb hby own_d10_55) rfl (tlt ((by decide) : (0 : Int32) < (4 : Int32))).2.1 kt) ?_
    refine own_go (g' := (mkF m 59 #[.val (.ref a1), .val (.int (0 : Int32)), sl2, sl3, sl4] [(.ref a1)])) (fun t kt => XS.aloadN X24.here hx rfl (hb hby own_d10_58) rfl rfl kt) ?_
    refine own_go (g' := (mkF m 60 #[.val (.ref a1), .val (.int (0 : Int32)), sl2, sl3, sl4] [(.int (0 : Int32)), (.ref a1)])) (fun t kt => XS.iloadN X24.here hx rfl (hb hby own_d10_59) rfl kt) ?_
    refine own_callVB X24 hx hZ (a := a1) (W := 0) (argsL := [(.int (0 : Int32))]) (rest := []) (c1 := 0) (s1 := 0) (Qc := fun v h' L => (v = some (.int (List.getD ([u0, u1, u2, u3] : List Int32) 0 0))) ∧ L = [] ∧ h' = h0) hown (hw _ (List.mem_of_getElem? (i := 59) rfl)) (hw _ (List.mem_of_getElem? (i := 60) rfl)) (hw _ (List.mem_of_getElem? (i := 62) rfl)) (hw _ (List.mem_of_getElem? (i := 61) rfl)) (by decide) (StrChars.Road.chN (W := 0) hZ (fun d hd => hw d (own_wc d hd)) (kI := 4) (hw _ (List.mem_of_getElem? (i := 11) rfl)) Ea Gv Gc Vb hcd hbd S_c hcs S_f hsv (Nat.le_of_ble_eq_true rfl) (i := 0) (Nat.le_of_ble_eq_true rfl) (j := (0 : Int32)) rfl (by decide) (by decide)) Ea (g := (mkF m 60 #[.val (.ref a1), .val (.int (0 : Int32)), sl2, sl3, sl4] [(.int (0 : Int32)), (.ref a1)])) rfl (by rw [hml]; rfl) (lenOf own_pd0 rfl) rfl (by show 2 * 0 + _ ≤ _; exact Nat.le_of_eq rfl) (hb hby own_d10_60) e24 (by decide) (by decide) (fun v25 T25 L25 X25 hq25 => ?_)
    obtain ⟨rfl, rfl, e25⟩ := hq25
    have N25 := Fr.app N24 (Fr.nil n0)
    show OEnds _ _ _ _ _ _ T25 (mkF m 63 #[.val (.ref a1), .val (.int (0 : Int32)), sl2, sl3, sl4] [(.int u0)])
    refine own_go (g' := (mkF m 64 #[.val (.ref a1), .val (.int (0 : Int32)), .val (.int u0), sl3, sl4] [])) (fun t kt => XS.istoreN X25.here hx rfl (hb hby own_d10_63) rfl (l' := #[.val (.ref a1), .val (.int (0 : Int32)), .val (.int u0), sl3, sl4]) (XS.store1 (o := sl2) rfl hsl2 rfl) kt) ?_
    refine own_go (g' := (mkF m 65 #[.val (.ref a1), .val (.int (0 : Int32)), .val (.int u0), sl3, sl4] [(.int u0)])) (fun t kt => XS.iloadN X25.here hx rfl (hb hby own_d10_64) rfl kt) ?_
    refine own_go (g' := (mkF m 67 #[.val (.ref a1), .val (.int (0 : Int32)), .val (.int u0), sl3, sl4] [(.int (47 : Int32)), (.int u0)])) (fun t kt => XS.bipush X25.here hx rfl (hb hby own_d10_65) kt) ?_
    refine own_go (g' := (mkF m 136 #[.val (.ref a1), .val (.int (0 : Int32)), .val (.int u0), sl3, sl4] [])) (fun t kt => XS.icmpYes X25.here hx rfl (pc0 := 67) (pc' := 136) rfl (hb hby own_d10_67) rfl (feq ((own_n47 k0) : ¬ (u0 = (47 : Int32)))).2 (by decide) (by decide) kt) ?_
    refine own_go (g' := (mkF m 137 #[.val (.ref a1), .val (.int (0 : Int32)), .val (.int u0), sl3, sl4] [(.int u0)])) (fun t kt => XS.iloadN X25.here hx rfl (hb hby own_d10_136) rfl kt) ?_
    refine own_callS X25 hx hZ (W := 0) (argsL := [(.int u0)]) (rest := []) hown (hw _ (List.mem_of_getElem? (i := 81) rfl)) (hw _ (List.mem_of_getElem? (i := 82) rfl)) (hw _ (List.mem_of_getElem? (i := 42) rfl)) (hw _ (List.mem_of_getElem? (i := 83) rfl)) (by decide) (own_isname l Z a0 hw u0 h0 n0 Z0) (by decide) (by decide) (g := (mkF m 137 #[.val (.ref a1), .val (.int (0 : Int32)), .val (.int u0), sl3, sl4] [(.int u0)])) rfl (by rw [hml]; rfl) (lenOf own_pd4 rfl) rfl (by show 2 * 0 + _ ≤ _; exact Nat.le_of_eq rfl) (hb hby own_d10_137) e25 N25 (by decide) (by decide) (fun v26 T26 L26 X26 N26 hq26 => ?_)
    obtain ⟨rfl, e26⟩ := hq26
    show OEnds _ _ _ _ _ _ T26 (mkF m 140 #[.val (.ref a1), .val (.int (0 : Int32)), .val (.int u0), sl3, sl4] [(.int (own_isn u0))])
    refine own_go (g' := (mkF m 178 #[.val (.ref a1), .val (.int (0 : Int32)), .val (.int u0), sl3, sl4] [])) (fun t kt => XS.ifYes X26.here hx rfl (pc0 := 140) (pc' := 178) rfl (hb hby own_d10_140) rfl ((if0 _ _).trans (feq ((own_nz k0) : ¬ ((own_isn u0) = (0 : Int32)))).2) (by decide) (by decide) kt) ?_
    refine own_go (g' := (mkF m 181 #[.val (.ref a1), .val (.int (1 : Int32)), .val (.int u0), sl3, sl4] [])) (fun t kt => XS.iinc X26.here hx rfl (hb hby own_d10_178) rfl (l' := #[.val (.ref a1), .val (.int (1 : Int32)), .val (.int u0), sl3, sl4]) rfl kt) ?_
    refine own_go (g' := (mkF m 50 #[.val (.ref a1), .val (.int (1 : Int32)), .val (.int u0), sl3, sl4] [])) (fun t kt => XS.goto X26.here hx rfl (pc0 := 181) (pc' := 50) rfl (hb hby own_d10_181) (by decide) (by decide) kt) ?_
    exact hd1 _ _ _ _ _ X26 e26 N26 (Or.inr ⟨_, rfl, rfl⟩) hsl3 hsl4
  exact hd0 _ _ _ _ _ X2 e2 N2 (Or.inl rfl) (Or.inl rfl) (Or.inl rfl)
theorem own_d3_108 : decode method_4_code 108 = .ok (.iload 6, 2) := by decide +kernel
theorem own_d3_110 : decode method_4_code 110 = .ok (.iconst 5, 1) := by decide +kernel
theorem own_d3_111 : decode method_4_code 111 = .ok (.if_icmp .ne 35, 3) := by decide +kernel
theorem own_d3_114 : decode method_4_code 114 = .ok (.new 13, 3) := by decide +kernel
theorem own_d3_117 : decode method_4_code 117 = .ok (.dup, 1) := by decide +kernel
theorem own_d3_118 : decode method_4_code 118 = .ok (.iconst 5, 1) := by decide +kernel
theorem own_d3_119 : decode method_4_code 119 = .ok (.newarray .char, 2) := by decide +kernel
theorem own_d3_121 : decode method_4_code 121 = .ok (.dup, 1) := by decide +kernel
theorem own_d3_122 : decode method_4_code 122 = .ok (.iconst 0, 1) := by decide +kernel
theorem own_d3_123 : decode method_4_code 123 = .ok (.iload_n 0, 1) := by decide +kernel
theorem own_d3_124 : decode method_4_code 124 = .ok (.castore, 1) := by decide +kernel
theorem own_d3_125 : decode method_4_code 125 = .ok (.dup, 1) := by decide +kernel
theorem own_d3_126 : decode method_4_code 126 = .ok (.iconst 1, 1) := by decide +kernel
theorem own_d3_127 : decode method_4_code 127 = .ok (.iload_n 1, 1) := by decide +kernel
theorem own_d3_128 : decode method_4_code 128 = .ok (.castore, 1) := by decide +kernel
theorem own_d3_129 : decode method_4_code 129 = .ok (.dup, 1) := by decide +kernel
theorem own_d3_130 : decode method_4_code 130 = .ok (.iconst 2, 1) := by decide +kernel
theorem own_d3_131 : decode method_4_code 131 = .ok (.iload_n 2, 1) := by decide +kernel
theorem own_d3_132 : decode method_4_code 132 = .ok (.castore, 1) := by decide +kernel
theorem own_d3_133 : decode method_4_code 133 = .ok (.dup, 1) := by decide +kernel
theorem own_d3_134 : decode method_4_code 134 = .ok (.iconst 3, 1) := by decide +kernel
theorem own_d3_135 : decode method_4_code 135 = .ok (.iload_n 3, 1) := by decide +kernel
theorem own_d3_136 : decode method_4_code 136 = .ok (.castore, 1) := by decide +kernel
theorem own_d3_137 : decode method_4_code 137 = .ok (.dup, 1) := by decide +kernel
theorem own_d3_138 : decode method_4_code 138 = .ok (.iconst 4, 1) := by decide +kernel
theorem own_d3_139 : decode method_4_code 139 = .ok (.iload 4, 2) := by decide +kernel
theorem own_d3_141 : decode method_4_code 141 = .ok (.castore, 1) := by decide +kernel
theorem own_d3_142 : decode method_4_code 142 = .ok (.invokespecial 15, 3) := by decide +kernel
theorem own_d3_145 : decode method_4_code 145 = .ok (.areturn, 1) := by decide +kernel
theorem own_ef_own_build5 (m : MethodId) (x0 : Int32) (x1 : Int32) (x2 : Int32) (x3 : Int32) (x4 : Int32) (x5 : Int32) : entryFrame m #[(.int x0), (.int x1), (.int x2), (.int x3), (.int x4), (.int x5), (.int (5 : Int32))] 7 = mkF m 0 #[.val (.int x0), .val (.int x1), .val (.int x2), .val (.int x3), .val (.int x4), .val (.int x5), .val (.int (5 : Int32))] [] := by first | (simp [entryFrame, mkF, argsToLocals, Value.category]; done) | rfl
set_option maxRecDepth 65536 in
set_option maxHeartbeats 40000000 in
theorem own_build5 (l : Launch) (Z : State) (a0 : Array Value) (hw : ∀ d ∈ tables_1, d.before a0 Z = true) (u0 u1 u2 u3 u4 u5 cs : Int32) (h0 : Heap) (n0 : Nat) (Z0 : n0 ≤ h0.size) (S_c : Sta Z h0 "java/lang/String" "COMPACT_STRINGS" "Z" (.int cs)) (hcs : ¬ cs = 0) (r0 : (¬ u0 < 0 ∧ ¬ (255 : Int32) < u0) ∧ nar .char u0 = u0) (r1 : (¬ u1 < 0 ∧ ¬ (255 : Int32) < u1) ∧ nar .char u1 = u1) (r2 : (¬ u2 < 0 ∧ ¬ (255 : Int32) < u2) ∧ nar .char u2 = u2) (r3 : (¬ u3 < 0 ∧ ¬ (255 : Int32) < u3) ∧ nar .char u3 = u3) (r4 : (¬ u4 < 0 ∧ ¬ (255 : Int32) < u4) ∧ nar .char u4 = u4) :
    OCon l (⟨"com/example/nutex/nutex/LockNamesRequireValidPinLaw", "build", "(CCCCCCI)Ljava/lang/String;"⟩ : MethodName) method_4_code 7 (some (.object "java/lang/String")) ({ frames := 4, cells := 3, slots := 14, locals := 66 } : Room) Z #[(.int u0), (.int u1), (.int u2), (.int u3), (.int u4), (.int u5), (.int (5 : Int32))] h0 n0 (fun v h => ∃ b t k, v = some (.ref b) ∧ Keep h0 h [] ∧ Exa Z h b "java/lang/String" ∧ Fld Z h b "java/lang/String" "coder" "B" (.int (0 : Int32)) ∧ Fld Z h b "java/lang/String" "value" "[B" (.ref t) ∧ Arv Z h t k .byte (5 : Int32) ((([u0, u1, u2, u3, u4] : List Int32).map (fun c => c.toInt8.toInt32)).map Value.int) (.int (0 : Int32))) := by
  refine own_body own_pn_3 ?_
  intro p e s m below meth c T0 hx hZ hby hml hown hnm hret hlk e0 X0
  replace hown : s.vm.findClass "com/example/nutex/nutex/LockNamesRequireValidPinLaw" = some m.cls := hown
  replace hnm : meth.name = "build" := hnm
  have N0 := Fr.nil n0
  have K0 : Keep h0 h0 [] := Keep.refl _ _
  refine own_at (own_ef_own_build5 m u0 u1 u2 u3 u4 u5) ?_
  refine own_go (g' := (mkF m 2 #[.val (.int u0), .val (.int u1), .val (.int u2), .val (.int u3), .val (.int u4), .val (.int u5), .val (.int (5 : Int32))] [(.int (5 : Int32))])) (fun t kt => XS.iload X0.here hx rfl (hb hby own_d3_0) rfl kt) ?_
  refine own_go (g' := (mkF m 3 #[.val (.int u0), .val (.int u1), .val (.int u2), .val (.int u3), .val (.int u4), .val (.int u5), .val (.int (5 : Int32))] [(.int (1 : Int32)), (.int (5 : Int32))])) (fun t kt => XS.iconst X0.here hx rfl (hb hby own_d3_2) kt) ?_
  refine own_go (g' := (mkF m 21 #[.val (.int u0), .val (.int u1), .val (.int u2), .val (.int u3), .val (.int u4), .val (.int u5), .val (.int (5 : Int32))] [])) (fun t kt => XS.icmpYes X0.here hx rfl (pc0 := 3) (pc' := 21) rfl (hb hby own_d3_3) rfl (feq ((by decide) : ¬ ((5 : Int32) = (1 : Int32)))).2 (by decide) (by decide) kt) ?_
  refine own_go (g' := (mkF m 23 #[.val (.int u0), .val (.int u1), .val (.int u2), .val (.int u3), .val (.int u4), .val (.int u5), .val (.int (5 : Int32))] [(.int (5 : Int32))])) (fun t kt => XS.iload X0.here hx rfl (hb hby own_d3_21) rfl kt) ?_
  refine own_go (g' := (mkF m 24 #[.val (.int u0), .val (.int u1), .val (.int u2), .val (.int u3), .val (.int u4), .val (.int u5), .val (.int (5 : Int32))] [(.int (2 : Int32)), (.int (5 : Int32))])) (fun t kt => XS.iconst X0.here hx rfl (hb hby own_d3_23) kt) ?_
  refine own_go (g' := (mkF m 46 #[.val (.int u0), .val (.int u1), .val (.int u2), .val (.int u3), .val (.int u4), .val (.int u5), .val (.int (5 : Int32))] [])) (fun t kt => XS.icmpYes X0.here hx rfl (pc0 := 24) (pc' := 46) rfl (hb hby own_d3_24) rfl (feq ((by decide) : ¬ ((5 : Int32) = (2 : Int32)))).2 (by decide) (by decide) kt) ?_
  refine own_go (g' := (mkF m 48 #[.val (.int u0), .val (.int u1), .val (.int u2), .val (.int u3), .val (.int u4), .val (.int u5), .val (.int (5 : Int32))] [(.int (5 : Int32))])) (fun t kt => XS.iload X0.here hx rfl (hb hby own_d3_46) rfl kt) ?_
  refine own_go (g' := (mkF m 49 #[.val (.int u0), .val (.int u1), .val (.int u2), .val (.int u3), .val (.int u4), .val (.int u5), .val (.int (5 : Int32))] [(.int (3 : Int32)), (.int (5 : Int32))])) (fun t kt => XS.iconst X0.here hx rfl (hb hby own_d3_48) kt) ?_
  refine own_go (g' := (mkF m 75 #[.val (.int u0), .val (.int u1), .val (.int u2), .val (.int u3), .val (.int u4), .val (.int u5), .val (.int (5 : Int32))] [])) (fun t kt => XS.icmpYes X0.here hx rfl (pc0 := 49) (pc' := 75) rfl (hb hby own_d3_49) rfl (feq ((by decide) : ¬ ((5 : Int32) = (3 : Int32)))).2 (by decide) (by decide) kt) ?_
  refine own_go (g' := (mkF m 77 #[.val (.int u0), .val (.int u1), .val (.int u2), .val (.int u3), .val (.int u4), .val (.int u5), .val (.int (5 : Int32))] [(.int (5 : Int32))])) (fun t kt => XS.iload X0.here hx rfl (hb hby own_d3_75) rfl kt) ?_
  refine own_go (g' := (mkF m 78 #[.val (.int u0), .val (.int u1), .val (.int u2), .val (.int u3), .val (.int u4), .val (.int u5), .val (.int (5 : Int32))] [(.int (4 : Int32)), (.int (5 : Int32))])) (fun t kt => XS.iconst X0.here hx rfl (hb hby own_d3_77) kt) ?_
  refine own_go (g' := (mkF m 108 #[.val (.int u0), .val (.int u1), .val (.int u2), .val (.int u3), .val (.int u4), .val (.int u5), .val (.int (5 : Int32))] [])) (fun t kt => XS.icmpYes X0.here hx rfl (pc0 := 78) (pc' := 108) rfl (hb hby own_d3_78) rfl (feq ((by decide) : ¬ ((5 : Int32) = (4 : Int32)))).2 (by decide) (by decide) kt) ?_
  refine own_go (g' := (mkF m 110 #[.val (.int u0), .val (.int u1), .val (.int u2), .val (.int u3), .val (.int u4), .val (.int u5), .val (.int (5 : Int32))] [(.int (5 : Int32))])) (fun t kt => XS.iload X0.here hx rfl (hb hby own_d3_108) rfl kt) ?_
  refine own_go (g' := (mkF m 111 #[.val (.int u0), .val (.int u1), .val (.int u2), .val (.int u3), .val (.int u4), .val (.int u5), .val (.int (5 : Int32))] [(.int (5 : Int32)), (.int (5 : Int32))])) (fun t kt => XS.iconst X0.here hx rfl (hb hby own_d3_110) kt) ?_
  refine own_go (g' := (mkF m 114 #[.val (.int u0), .val (.int u1), .val (.int u2), .val (.int u3), .val (.int u4), .val (.int u5), .val (.int (5 : Int32))] [])) (fun t kt => XS.icmpNo X0.here hx rfl (hb hby own_d3_111) rfl (teq ((by decide) : (5 : Int32) = (5 : Int32))).2 kt) ?_
  refine own_new X0 hx hZ hown (hw _ (List.mem_of_getElem? (i := 10) rfl)) (hw _ (List.mem_of_getElem? (i := 11) rfl)) (hw _ (List.mem_of_getElem? (i := 12) rfl)) e0 (g := (mkF m 114 #[.val (.int u0), .val (.int u1), .val (.int u2), .val (.int u3), .val (.int u4), .val (.int u5), .val (.int (5 : Int32))] [])) rfl (hb hby own_d3_114) (by decide) (by decide) (fun T1 h1 b1 g1 X1 e1 E1 A1 D1 => ?_)
  show OEnds _ _ _ _ _ _ T1 (mkF m 117 #[.val (.int u0), .val (.int u1), .val (.int u2), .val (.int u3), .val (.int u4), .val (.int u5), .val (.int (5 : Int32))] [(.ref b1)])
  have S_c_h1 := S_c.ext E1
  have gz_b1 : h0.size ≤ b1 := Nat.le_trans K0.1 (Nat.le_of_eq g1.symm)
  have ge_b1 : n0 ≤ b1 := Nat.le_trans Z0 gz_b1
  have K1 := K0.ext E1
  have F1_coder : Fld Z h1 b1 "java/lang/String" "coder" "B" (.int (0 : Int32)) := D1 (Or.inr (hw _ (List.mem_of_getElem? (i := 37) rfl))) (ty := .byte) (by decide)
  have F1_value : Fld Z h1 b1 "java/lang/String" "value" "[B" .null := D1 (Or.inr (hw _ (List.mem_of_getElem? (i := 39) rfl))) (ty := (.array .byte)) (by decide)
  refine own_go (g' := (mkF m 118 #[.val (.int u0), .val (.int u1), .val (.int u2), .val (.int u3), .val (.int u4), .val (.int u5), .val (.int (5 : Int32))] [(.ref b1), (.ref b1)])) (fun t kt => XS.dup X1.here hx rfl (hb hby own_d3_117) rfl rfl kt) ?_
  refine own_go (g' := (mkF m 119 #[.val (.int u0), .val (.int u1), .val (.int u2), .val (.int u3), .val (.int u4), .val (.int u5), .val (.int (5 : Int32))] [(.int (5 : Int32)), (.ref b1), (.ref b1)])) (fun t kt => XS.iconst X1.here hx rfl (hb hby own_d3_118) kt) ?_
  refine own_newarr X1 hx hZ (hw _ (List.mem_of_getElem? (i := 13) rfl)) e1 (g := (mkF m 119 #[.val (.int u0), .val (.int u1), .val (.int u2), .val (.int u3), .val (.int u4), .val (.int u5), .val (.int (5 : Int32))] [(.int (5 : Int32)), (.ref b1), (.ref b1)])) rfl (hb hby own_d3_119) rfl (by decide) (cap := 5) (by decide) (by decide) (by decide) (by decide) (fun T2 h2 b2 k2 g2 X2 e2 E2 V2 => ?_)
  show OEnds _ _ _ _ _ _ T2 (mkF m 121 #[.val (.int u0), .val (.int u1), .val (.int u2), .val (.int u3), .val (.int u4), .val (.int u5), .val (.int (5 : Int32))] [(.ref b2), (.ref b1), (.ref b1)])
  have ne_b1_b2 : b1 ≠ b2 := Nat.ne_of_lt (Nat.lt_of_lt_of_le A1.lt (Nat.le_of_eq g2.symm))
  have S_c_h2 := S_c_h1.ext E2
  have A1_h2 := A1.ext E2
  have F1_coder_h2 := F1_coder.ext E2
  have F1_value_h2 := F1_value.ext E2
  have gz_b2 : h0.size ≤ b2 := Nat.le_trans K1.1 (Nat.le_of_eq g2.symm)
  have ge_b2 : n0 ≤ b2 := Nat.le_trans Z0 gz_b2
  have K2 := K1.ext E2
  replace V2 : Arv Z h2 b2 k2 .char (5 : Int32) [(.int (0 : Int32)), (.int (0 : Int32)), (.int (0 : Int32)), (.int (0 : Int32)), (.int (0 : Int32))] (.int (0 : Int32)) := V2
  refine own_go (g' := (mkF m 122 #[.val (.int u0), .val (.int u1), .val (.int u2), .val (.int u3), .val (.int u4), .val (.int u5), .val (.int (5 : Int32))] [(.ref b2), (.ref b2), (.ref b1), (.ref b1)])) (fun t kt => XS.dup X2.here hx rfl (hb hby own_d3_121) rfl rfl kt) ?_
  refine own_go (g' := (mkF m 123 #[.val (.int u0), .val (.int u1), .val (.int u2), .val (.int u3), .val (.int u4), .val (.int u5), .val (.int (5 : Int32))] [(.int (0 : Int32)), (.ref b2), (.ref b2), (.ref b1), (.ref b1)])) (fun t kt => XS.iconst X2.here hx rfl (hb hby own_d3_122) kt) ?_
  refine own_go (g' := (mkF m 124 #[.val (.int u0), .val (.int u1), .val (.int u2), .val (.int u3), .val (.int u4), .val (.int u5), .val (.int (5 : Int32))] [(.int u0), (.int (0 : Int32)), (.ref b2), (.ref b2), (.ref b1), (.ref b1)])) (fun t kt => XS.iloadN X2.here hx rfl (hb hby own_d3_123) rfl kt) ?_
  refine own_castore X2 hx hZ e2 V2 ⟨by decide, by decide⟩ 0 rfl (Nat.le_of_ble_eq_true rfl) N0 ge_b2 (g := (mkF m 124 #[.val (.int u0), .val (.int u1), .val (.int u2), .val (.int u3), .val (.int u4), .val (.int u5), .val (.int (5 : Int32))] [(.int u0), (.int (0 : Int32)), (.ref b2), (.ref b2), (.ref b1), (.ref b1)])) rfl rfl (hb hby own_d3_124) (fun T3 h3 L3 X3 e3 N3 W3 V3 => ?_)
  show OEnds _ _ _ _ _ _ T3 (mkF m 125 #[.val (.int u0), .val (.int u1), .val (.int u2), .val (.int u3), .val (.int u4), .val (.int u5), .val (.int (5 : Int32))] [(.ref b2), (.ref b1), (.ref b1)])
  have S_c_h3 := S_c_h2.wr W3
  have A1_h3 := A1_h2.wr W3
  have F1_coder_h3 := F1_coder_h2.other W3 (Or.inl ne_b1_b2)
  have F1_value_h3 := F1_value_h2.other W3 (Or.inl ne_b1_b2)
  have K3 := K2.wr W3 (Or.inr gz_b2)
  replace V3 : Arv Z h3 b2 k2 .char (5 : Int32) [(.int (nar .char u0)), (.int (0 : Int32)), (.int (0 : Int32)), (.int (0 : Int32)), (.int (0 : Int32))] (.int (0 : Int32)) := V3
  refine own_go (g' := (mkF m 126 #[.val (.int u0), .val (.int u1), .val (.int u2), .val (.int u3), .val (.int u4), .val (.int u5), .val (.int (5 : Int32))] [(.ref b2), (.ref b2), (.ref b1), (.ref b1)])) (fun t kt => XS.dup X3.here hx rfl (hb hby own_d3_125) rfl rfl kt) ?_
  refine own_go (g' := (mkF m 127 #[.val (.int u0), .val (.int u1), .val (.int u2), .val (.int u3), .val (.int u4), .val (.int u5), .val (.int (5 : Int32))] [(.int (1 : Int32)), (.ref b2), (.ref b2), (.ref b1), (.ref b1)])) (fun t kt => XS.iconst X3.here hx rfl (hb hby own_d3_126) kt) ?_
  refine own_go (g' := (mkF m 128 #[.val (.int u0), .val (.int u1), .val (.int u2), .val (.int u3), .val (.int u4), .val (.int u5), .val (.int (5 : Int32))] [(.int u1), (.int (1 : Int32)), (.ref b2), (.ref b2), (.ref b1), (.ref b1)])) (fun t kt => XS.iloadN X3.here hx rfl (hb hby own_d3_127) rfl kt) ?_
  refine own_castore X3 hx hZ e3 V3 ⟨by decide, by decide⟩ 1 rfl (Nat.le_of_ble_eq_true rfl) N3 ge_b2 (g := (mkF m 128 #[.val (.int u0), .val (.int u1), .val (.int u2), .val (.int u3), .val (.int u4), .val (.int u5), .val (.int (5 : Int32))] [(.int u1), (.int (1 : Int32)), (.ref b2), (.ref b2), (.ref b1), (.ref b1)])) rfl rfl (hb hby own_d3_128) (fun T4 h4 L4 X4 e4 N4 W4 V4 => ?_)
  show OEnds _ _ _ _ _ _ T4 (mkF m 129 #[.val (.int u0), .val (.int u1), .val (.int u2), .val (.int u3), .val (.int u4), .val (.int u5), .val (.int (5 : Int32))] [(.ref b2), (.ref b1), (.ref b1)])
  have S_c_h4 := S_c_h3.wr W4
  have A1_h4 := A1_h3.wr W4
  have F1_coder_h4 := F1_coder_h3.other W4 (Or.inl ne_b1_b2)
  have F1_value_h4 := F1_value_h3.other W4 (Or.inl ne_b1_b2)
  have K4 := K3.wr W4 (Or.inr gz_b2)
  replace V4 : Arv Z h4 b2 k2 .char (5 : Int32) [(.int (nar .char u0)), (.int (nar .char u1)), (.int (0 : Int32)), (.int (0 : Int32)), (.int (0 : Int32))] (.int (0 : Int32)) := V4
  refine own_go (g' := (mkF m 130 #[.val (.int u0), .val (.int u1), .val (.int u2), .val (.int u3), .val (.int u4), .val (.int u5), .val (.int (5 : Int32))] [(.ref b2), (.ref b2), (.ref b1), (.ref b1)])) (fun t kt => XS.dup X4.here hx rfl (hb hby own_d3_129) rfl rfl kt) ?_
  refine own_go (g' := (mkF m 131 #[.val (.int u0), .val (.int u1), .val (.int u2), .val (.int u3), .val (.int u4), .val (.int u5), .val (.int (5 : Int32))] [(.int (2 : Int32)), (.ref b2), (.ref b2), (.ref b1), (.ref b1)])) (fun t kt => XS.iconst X4.here hx rfl (hb hby own_d3_130) kt) ?_
  refine own_go (g' := (mkF m 132 #[.val (.int u0), .val (.int u1), .val (.int u2), .val (.int u3), .val (.int u4), .val (.int u5), .val (.int (5 : Int32))] [(.int u2), (.int (2 : Int32)), (.ref b2), (.ref b2), (.ref b1), (.ref b1)])) (fun t kt => XS.iloadN X4.here hx rfl (hb hby own_d3_131) rfl kt) ?_
  refine own_castore X4 hx hZ e4 V4 ⟨by decide, by decide⟩ 2 rfl (Nat.le_of_ble_eq_true rfl) N4 ge_b2 (g := (mkF m 132 #[.val (.int u0), .val (.int u1), .val (.int u2), .val (.int u3), .val (.int u4), .val (.int u5), .val (.int (5 : Int32))] [(.int u2), (.int (2 : Int32)), (.ref b2), (.ref b2), (.ref b1), (.ref b1)])) rfl rfl (hb hby own_d3_132) (fun T5 h5 L5 X5 e5 N5 W5 V5 => ?_)
  show OEnds _ _ _ _ _ _ T5 (mkF m 133 #[.val (.int u0), .val (.int u1), .val (.int u2), .val (.int u3), .val (.int u4), .val (.int u5), .val (.int (5 : Int32))] [(.ref b2), (.ref b1), (.ref b1)])
  have S_c_h5 := S_c_h4.wr W5
  have A1_h5 := A1_h4.wr W5
  have F1_coder_h5 := F1_coder_h4.other W5 (Or.inl ne_b1_b2)
  have F1_value_h5 := F1_value_h4.other W5 (Or.inl ne_b1_b2)
  have K5 := K4.wr W5 (Or.inr gz_b2)
  replace V5 : Arv Z h5 b2 k2 .char (5 : Int32) [(.int (nar .char u0)), (.int (nar .char u1)), (.int (nar .char u2)), (.int (0 : Int32)), (.int (0 : Int32))] (.int (0 : Int32)) := V5
  refine own_go (g' := (mkF m 134 #[.val (.int u0), .val (.int u1), .val (.int u2), .val (.int u3), .val (.int u4), .val (.int u5), .val (.int (5 : Int32))] [(.ref b2), (.ref b2), (.ref b1), (.ref b1)])) (fun t kt => XS.dup X5.here hx rfl (hb hby own_d3_133) rfl rfl kt) ?_
  refine own_go (g' := (mkF m 135 #[.val (.int u0), .val (.int u1), .val (.int u2), .val (.int u3), .val (.int u4), .val (.int u5), .val (.int (5 : Int32))] [(.int (3 : Int32)), (.ref b2), (.ref b2), (.ref b1), (.ref b1)])) (fun t kt => XS.iconst X5.here hx rfl (hb hby own_d3_134) kt) ?_
  refine own_go (g' := (mkF m 136 #[.val (.int u0), .val (.int u1), .val (.int u2), .val (.int u3), .val (.int u4), .val (.int u5), .val (.int (5 : Int32))] [(.int u3), (.int (3 : Int32)), (.ref b2), (.ref b2), (.ref b1), (.ref b1)])) (fun t kt => XS.iloadN X5.here hx rfl (hb hby own_d3_135) rfl kt) ?_
  refine own_castore X5 hx hZ e5 V5 ⟨by decide, by decide⟩ 3 rfl (Nat.le_of_ble_eq_true rfl) N5 ge_b2 (g := (mkF m 136 #[.val (.int u0), .val (.int u1), .val (.int u2), .val (.int u3), .val (.int u4), .val (.int u5), .val (.int (5 : Int32))] [(.int u3), (.int (3 : Int32)), (.ref b2), (.ref b2), (.ref b1), (.ref b1)])) rfl rfl (hb hby own_d3_136) (fun T6 h6 L6 X6 e6 N6 W6 V6 => ?_)
  show OEnds _ _ _ _ _ _ T6 (mkF m 137 #[.val (.int u0), .val (.int u1), .val (.int u2), .val (.int u3), .val (.int u4), .val (.int u5), .val (.int (5 : Int32))] [(.ref b2), (.ref b1), (.ref b1)])
  have S_c_h6 := S_c_h5.wr W6
  have A1_h6 := A1_h5.wr W6
  have F1_coder_h6 := F1_coder_h5.other W6 (Or.inl ne_b1_b2)
  have F1_value_h6 := F1_value_h5.other W6 (Or.inl ne_b1_b2)
  have K6 := K5.wr W6 (Or.inr gz_b2)
  replace V6 : Arv Z h6 b2 k2 .char (5 : Int32) [(.int (nar .char u0)), (.int (nar .char u1)), (.int (nar .char u2)), (.int (nar .char u3)), (.int (0 : Int32))] (.int (0 : Int32)) := V6
  refine own_go (g' := (mkF m 138 #[.val (.int u0), .val (.int u1), .val (.int u2), .val (.int u3), .val (.int u4), .val (.int u5), .val (.int (5 : Int32))] [(.ref b2), (.ref b2), (.ref b1), (.ref b1)])) (fun t kt => XS.dup X6.here hx rfl (hb hby own_d3_137) rfl rfl kt) ?_
  refine own_go (g' := (mkF m 139 #[.val (.int u0), .val (.int u1), .val (.int u2), .val (.int u3), .val (.int u4), .val (.int u5), .val (.int (5 : Int32))] [(.int (4 : Int32)), (.ref b2), (.ref b2), (.ref b1), (.ref b1)])) (fun t kt => XS.iconst X6.here hx rfl (hb hby own_d3_138) kt) ?_
  refine own_go (g' := (mkF m 141 #[.val (.int u0), .val (.int u1), .val (.int u2), .val (.int u3), .val (.int u4), .val (.int u5), .val (.int (5 : Int32))] [(.int u4), (.int (4 : Int32)), (.ref b2), (.ref b2), (.ref b1), (.ref b1)])) (fun t kt => XS.iload X6.here hx rfl (hb hby own_d3_139) rfl kt) ?_
  refine own_castore X6 hx hZ e6 V6 ⟨by decide, by decide⟩ 4 rfl (Nat.le_of_ble_eq_true rfl) N6 ge_b2 (g := (mkF m 141 #[.val (.int u0), .val (.int u1), .val (.int u2), .val (.int u3), .val (.int u4), .val (.int u5), .val (.int (5 : Int32))] [(.int u4), (.int (4 : Int32)), (.ref b2), (.ref b2), (.ref b1), (.ref b1)])) rfl rfl (hb hby own_d3_141) (fun T7 h7 L7 X7 e7 N7 W7 V7 => ?_)
  show OEnds _ _ _ _ _ _ T7 (mkF m 142 #[.val (.int u0), .val (.int u1), .val (.int u2), .val (.int u3), .val (.int u4), .val (.int u5), .val (.int (5 : Int32))] [(.ref b2), (.ref b1), (.ref b1)])
  have S_c_h7 := S_c_h6.wr W7
  have A1_h7 := A1_h6.wr W7
  have F1_coder_h7 := F1_coder_h6.other W7 (Or.inl ne_b1_b2)
  have F1_value_h7 := F1_value_h6.other W7 (Or.inl ne_b1_b2)
  have K7 := K6.wr W7 (Or.inr gz_b2)
  replace V7 : Arv Z h7 b2 k2 .char (5 : Int32) [(.int (nar .char u0)), (.int (nar .char u1)), (.int (nar .char u2)), (.int (nar .char u3)), (.int (nar .char u4))] (.int (0 : Int32)) := V7
  have Vr8 : Arv Z h7 b2 k2 .char (5 : Int32) [(.int u0), (.int u1), (.int u2), (.int u3), (.int u4)] (.int (0 : Int32)) := by simpa only [(r0).2, (r1).2, (r2).2, (r3).2, (r4).2] using V7
  have hp9 : ∀ c ∈ ([u0, u1, u2, u3, u4] : List Int32), ¬ c < 0 ∧ ¬ (255 : Int32) < c := (own_alS (r0).1 (own_alS (r1).1 (own_alS (r2).1 (own_alS (r3).1 (own_alS (r4).1 own_al0)))))
  refine own_callCB X7 hx hZ (a := b1) (W := 1) (argsL := [(.ref b2)]) (rest := [(.ref b1)]) (c1 := 1) (s1 := 5) (Qc := fun v h' L => StrChars.Road.QV Z b1 (5 : Int32) (([u0, u1, u2, u3, u4] : List Int32).map (fun c => c.toInt8.toInt32)) h7 n0 v h' L) rfl hown (hw _ (List.mem_of_getElem? (i := 14) rfl)) (hw _ (List.mem_of_getElem? (i := 15) rfl)) (hw _ (List.mem_of_getElem? (i := 16) rfl)) (by decide) (StrChars.Road.backV (W := 1) hZ (fun d hd => hw d (own_wi d hd)) (kI := 4) (hw _ (List.mem_of_getElem? (i := 11) rfl)) (cs := ([u0, u1, u2, u3, u4] : List Int32)) (bs := (([u0, u1, u2, u3, u4] : List Int32).map (fun c => c.toInt8.toInt32))) (n := 5) ge_b1 (Nat.le_trans Z0 K7.1) A1_h7 F1_value_h7 F1_coder_h7 Vr8 S_c_h7 hcs rfl rfl (by decide) (by decide) hp9 rfl (by decide) (by decide)) (g := (mkF m 142 #[.val (.int u0), .val (.int u1), .val (.int u2), .val (.int u3), .val (.int u4), .val (.int u5), .val (.int (5 : Int32))] [(.ref b2), (.ref b1), (.ref b1)])) rfl (by rw [hml]; rfl) (lenOf own_pd1 rfl) rfl (by show 2 * 0 + _ ≤ _; exact Nat.le_of_eq rfl) (hb hby own_d3_142) e7 (by decide) (by decide) (fun v9 T9 L9 X9 hq9 => ?_)
  obtain ⟨rfl, M9, Kc9, A9, G9, t9, c9, ge_t9, gy_t9, ny_t9, F9, V9⟩ := hq9
  have N9 := Fr.app N7 M9
  have ne_b1_t9 : b1 ≠ t9 := Nat.ne_of_lt (Nat.lt_of_lt_of_le A1_h7.lt gy_t9)
  have ne_b2_t9 : b2 ≠ t9 := Nat.ne_of_lt (Nat.lt_of_lt_of_le Vr8.lt gy_t9)
  have gz_t9 : h0.size ≤ t9 := Nat.le_trans K7.1 gy_t9
  have Vr8_h9 := Vr8.keep Kc9 (ninS (Ne.symm ne_b1_b2) nin0)
  have K9 := K7.trans Kc9 (allS (Or.inr gz_b1) all0)
  have S_c_h9 := S_c.ext (own_kext K9)
  have hcd9 := StrChars.Road.codOf (cs := ([u0, u1, u2, u3, u4] : List Int32)) (n := 5) rfl (fun c hc => (hp9 c hc).2)
  have hbd9 := own_up _ hp9
  show OEnds _ _ _ _ _ _ T9 (mkF m 145 #[.val (.int u0), .val (.int u1), .val (.int u2), .val (.int u3), .val (.int u4), .val (.int u5), .val (.int (5 : Int32))] [(.ref b1)])
  exact own_retA X9 hx hlk (t := (.object "java/lang/String")) rfl hret rfl (hb hby own_d3_145) rfl N9 (by decide) (by decide) (⟨b1, t9, c9, rfl, K9, A9, G9, F9, V9⟩)
theorem own_ef_own_req5 (m : MethodId) (x0 : Addr) : entryFrame m #[(.ref x0)] 5 = mkF m 0 #[.val (.ref x0), .unset, .unset, .unset, .unset] [] := by first | (simp [entryFrame, mkF, argsToLocals, Value.category]; done) | rfl
set_option maxRecDepth 65536 in
set_option maxHeartbeats 40000000 in
theorem own_req5 (l : Launch) (Z : State) (a0 : Array Value) (hw : ∀ d ∈ tables_1, d.before a0 Z = true) (a1 ab : Addr) (kb : ClassId) (u0 u1 u2 u3 u4 cs : Int32) (sv : Value) (hsv : sv.isRef = true) (h0 : Heap) (n0 : Nat) (Z0 : n0 ≤ h0.size) (Ea : Exa Z h0 a1 "java/lang/String") (Gc : Fld Z h0 a1 "java/lang/String" "coder" "B" (.int (0 : Int32))) (Gv : Fld Z h0 a1 "java/lang/String" "value" "[B" (.ref ab)) (Vb : Arv Z h0 ab kb .byte (5 : Int32) ((([u0, u1, u2, u3, u4] : List Int32).map (fun c => c.toInt8.toInt32)).map Value.int) (.int (0 : Int32))) (S_c : Sta Z h0 "java/lang/String" "COMPACT_STRINGS" "Z" (.int cs)) (S_f : Sta Z h0 "jdk/internal/util/Preconditions" "SIOOBE_FORMATTER" "Ljava/util/function/BiFunction;" sv) (hcs : ¬ cs = 0) (hcd : StrChars.Road.CodA ([u0, u1, u2, u3, u4] : List Int32) 0 (5 : Int32) ((([u0, u1, u2, u3, u4] : List Int32).map (fun c => c.toInt8.toInt32)).map Value.int)) (hbd : ∀ c ∈ ([u0, u1, u2, u3, u4] : List Int32), ¬ c < 0 ∧ ¬ (65535 : Int32) < c) (k0 : own_isn u0 = 1) (k1 : own_isn u1 = 1 ∨ (u1 = 47 ∧ ¬ u0 = 47)) (k2 : own_isn u2 = 1 ∨ (u2 = 47 ∧ ¬ u1 = 47)) (k3 : own_isn u3 = 1 ∨ (u3 = 47 ∧ ¬ u2 = 47)) (k4 : own_isn u4 = 1) :
    OCon l (⟨"com/example/nutex/nutex/LockNames", "requireValid", "(Ljava/lang/String;)Ljava/lang/String;"⟩ : MethodName) prog_12_method_2_code 5 (some (.object "java/lang/String")) ({ frames := 4, cells := 0, slots := 0, locals := 60 } : Room) Z #[(.ref a1)] h0 n0 (fun v h => v = some (.ref a1) ∧ h = h0) := by
  refine own_body own_pn_10 ?_
  intro p e s m below meth c T0 hx hZ hby hml hown hnm hret hlk e0 X0
  replace hown : s.vm.findClass "com/example/nutex/nutex/LockNames" = some m.cls := hown
  replace hnm : meth.name = "requireValid" := hnm
  have N0 := Fr.nil n0
  have K0 : Keep h0 h0 [] := Keep.refl _ _
  refine own_at (own_ef_own_req5 m a1) ?_
  refine own_go (g' := (mkF m 1 #[.val (.ref a1), .unset, .unset, .unset, .unset] [(.ref a1)])) (fun t kt => XS.aloadN X0.here hx rfl (hb hby own_d10_0) rfl rfl kt) ?_
  refine own_go (g' := (mkF m 14 #[.val (.ref a1), .unset, .unset, .unset, .unset] [])) (fun t kt => XS.ifnonnullYes X0.here hx rfl (pc0 := 1) (pc' := 14) rfl (hb hby own_d10_1) rfl (by decide) (by decide) kt) ?_
  refine own_go (g' := (mkF m 15 #[.val (.ref a1), .unset, .unset, .unset, .unset] [(.ref a1)])) (fun t kt => XS.aloadN X0.here hx rfl (hb hby own_d10_14) rfl rfl kt) ?_
  refine own_callVB X0 hx hZ (a := a1) (W := 0) (argsL := []) (rest := []) (c1 := 0) (s1 := 0) (Qc := fun v h' L => (v = some (.int (if (List.length ([u0, u1, u2, u3, u4] : List Int32)) = 0 then 1 else 0))) ∧ L = [] ∧ h' = h0) hown (hw _ (List.mem_of_getElem? (i := 44) rfl)) (hw _ (List.mem_of_getElem? (i := 45) rfl)) (hw _ (List.mem_of_getElem? (i := 47) rfl)) (hw _ (List.mem_of_getElem? (i := 46) rfl)) (by decide) (StrChars.Road.empW (W := 0) hZ (fun d hd => hw d (own_wm d hd)) (kI := 4) (hw _ (List.mem_of_getElem? (i := 11) rfl)) Ea Gv Gc Vb hcd hbd (Nat.le_of_ble_eq_true rfl) (by decide) (by decide)) Ea (g := (mkF m 15 #[.val (.ref a1), .unset, .unset, .unset, .unset] [(.ref a1)])) rfl (by rw [hml]; rfl) (lenOf own_pd2 rfl) rfl (by show 2 * 0 + _ ≤ _; exact Nat.le_of_eq rfl) (hb hby own_d10_15) e0 (by decide) (by decide) (fun v1 T1 L1 X1 hq1 => ?_)
  obtain ⟨rfl, rfl, e1⟩ := hq1
  have N1 := Fr.app N0 (Fr.nil n0)
  show OEnds _ _ _ _ _ _ T1 (mkF m 18 #[.val (.ref a1), .unset, .unset, .unset, .unset] [(.int (0 : Int32))])
  refine own_go (g' := (mkF m 21 #[.val (.ref a1), .unset, .unset, .unset, .unset] [])) (fun t kt => XS.ifNo X1.here hx rfl (hb hby own_d10_18) rfl ((if0 _ _).trans (teq ((by decide) : (0 : Int32) = (0 : Int32))).2) kt) ?_
  refine own_go (g' := (mkF m 22 #[.val (.ref a1), .unset, .unset, .unset, .unset] [(.ref a1)])) (fun t kt => XS.aloadN X1.here hx rfl (hb hby own_d10_21) rfl rfl kt) ?_
  refine own_callVB X1 hx hZ (a := a1) (W := 0) (argsL := []) (rest := []) (c1 := 0) (s1 := 0) (Qc := fun v h' L => (v = some (.int (Int32.ofNat (List.length ([u0, u1, u2, u3, u4] : List Int32))))) ∧ L = [] ∧ h' = h0) hown (hw _ (List.mem_of_getElem? (i := 49) rfl)) (hw _ (List.mem_of_getElem? (i := 50) rfl)) (hw _ (List.mem_of_getElem? (i := 52) rfl)) (hw _ (List.mem_of_getElem? (i := 51) rfl)) (by decide) (StrChars.Road.lenW (W := 0) hZ (fun d hd => hw d (own_wl d hd)) (kI := 4) (hw _ (List.mem_of_getElem? (i := 11) rfl)) Ea Gv Gc Vb hcd hbd S_c hcs (Nat.le_of_ble_eq_true rfl) (by decide) (by decide)) Ea (g := (mkF m 22 #[.val (.ref a1), .unset, .unset, .unset, .unset] [(.ref a1)])) rfl (by rw [hml]; rfl) (lenOf own_pd3 rfl) rfl (by show 2 * 0 + _ ≤ _; exact Nat.le_of_eq rfl) (hb hby own_d10_22) e1 (by decide) (by decide) (fun v2 T2 L2 X2 hq2 => ?_)
  obtain ⟨rfl, rfl, e2⟩ := hq2
  have N2 := Fr.app N1 (Fr.nil n0)
  show OEnds _ _ _ _ _ _ T2 (mkF m 25 #[.val (.ref a1), .unset, .unset, .unset, .unset] [(.int (5 : Int32))])
  refine own_go (g' := (mkF m 28 #[.val (.ref a1), .unset, .unset, .unset, .unset] [(.int (200 : Int32)), (.int (5 : Int32))])) (fun t kt => XS.sipush X2.here hx rfl (hb hby own_d10_25) kt) ?_
  refine own_go (g' := (mkF m 48 #[.val (.ref a1), .unset, .unset, .unset, .unset] [])) (fun t kt => XS.icmpYes X2.here hx rfl (pc0 := 28) (pc' := 48) rfl (hb hby own_d10_28) rfl (flt ((by decide) : ¬ ((200 : Int32) < (5 : Int32)))).2.2.2 (by decide) (by decide) kt) ?_
  refine own_go (g' := (mkF m 49 #[.val (.ref a1), .unset, .unset, .unset, .unset] [(.int (0 : Int32))])) (fun t kt => XS.iconst X2.here hx rfl (hb hby own_d10_48) kt) ?_
  refine own_go (g' := (mkF m 50 #[.val (.ref a1), .val (.int (0 : Int32)), .unset, .unset, .unset] [])) (fun t kt => XS.istoreN X2.here hx rfl (hb hby own_d10_49) rfl (l' := #[.val (.ref a1), .val (.int (0 : Int32)), .unset, .unset, .unset]) rfl kt) ?_
  have hd5 : ∀ (T : State) (locs : List Loc) (sl2 sl3 sl4 : Slot), Stand p l e ({ frames := 4, cells := 0, slots := 0, locals := 60 } : Room) s m #[(.ref a1)] below meth c T locs 0 0 → T.heap = h0 → Fr n0 locs → own_One sl2 → own_One sl3 → own_One sl4 → OEnds p e below (fun o t L => FrameEnd s o t L (({ frames := 4, cells := 0, slots := 0, locals := 60 } : Room)).cells (({ frames := 4, cells := 0, slots := 0, locals := 60 } : Room)).slots) n0 (fun v h => v = some (.ref a1) ∧ h = h0) T (mkF m 50 #[.val (.ref a1), .val (.int (5 : Int32)), sl2, sl3, sl4] []) := by
    intro T3 L3 sl2 sl3 sl4 X3 e3 N3 hsl2 hsl3 hsl4
    refine own_go (g' := (mkF m 51 #[.val (.ref a1), .val (.int (5 : Int32)), sl2, sl3, sl4] [(.int (5 : Int32))])) (fun t kt => XS.iloadN X3.here hx rfl (hb hby own_d10_50) rfl kt) ?_
    refine own_go (g' := (mkF m 52 #[.val (.ref a1), .val (.int (5 : Int32)), sl2, sl3, sl4] [(.ref a1), (.int (5 : Int32))])) (fun t kt => XS.aloadN X3.here hx rfl (hb hby own_d10_51) rfl rfl kt) ?_
    refine own_callVB X3 hx hZ (a := a1) (W := 1) (argsL := []) (rest := [(.int (5 : Int32))]) (c1 := 0) (s1 := 0) (Qc := fun v h' L => (v = some (.int (Int32.ofNat (List.length ([u0, u1, u2, u3, u4] : List Int32))))) ∧ L = [] ∧ h' = h0) hown (hw _ (List.mem_of_getElem? (i := 49) rfl)) (hw _ (List.mem_of_getElem? (i := 50) rfl)) (hw _ (List.mem_of_getElem? (i := 52) rfl)) (hw _ (List.mem_of_getElem? (i := 51) rfl)) (by decide) (StrChars.Road.lenW (W := 1) hZ (fun d hd => hw d (own_wl d hd)) (kI := 4) (hw _ (List.mem_of_getElem? (i := 11) rfl)) Ea Gv Gc Vb hcd hbd S_c hcs (Nat.le_of_ble_eq_true rfl) (by decide) (by decide)) Ea (g := (mkF m 52 #[.val (.ref a1), .val (.int (5 : Int32)), sl2, sl3, sl4] [(.ref a1), (.int (5 : Int32))])) rfl (by rw [hml]; rfl) (lenOf own_pd3 rfl) rfl (by show 2 * 0 + _ ≤ _; exact Nat.le_of_eq rfl) (hb hby own_d10_52) e3 (by decide) (by decide) (fun v4 T4 L4 X4 hq4 => ?_)
    obtain ⟨rfl, rfl, e4⟩ := hq4
    have N4 := Fr.app N3 (Fr.nil n0)
    show OEnds _ _ _ _ _ _ T4 (mkF m 55 #[.val (.ref a1), .val (.int (5 : Int32)), sl2, sl3, sl4] [(.int (5 : Int32)), (.int (5 : Int32))])
    refine own_go (g' := (mkF m 184 #[.val (.ref a1), .val (.int (5 : Int32)), sl2, sl3, sl4] [])) (fun t kt => XS.icmpYes X4.here hx rfl (pc0 := 55) (pc' := 184) rfl (hb hby own_d10_55) rfl (flt ((by decide) : ¬ ((5 : Int32) < (5 : Int32)))).2.1 (by decide) (by decide) kt) ?_
    refine own_go (g' := (mkF m 185 #[.val (.ref a1), .val (.int (5 : Int32)), sl2, sl3, sl4] [(.ref a1)])) (fun t kt => XS.aloadN X4.here hx rfl (hb hby own_d10_184) rfl rfl kt) ?_
    exact own_retA X4 hx hlk (t := (.object "java/lang/String")) rfl hret rfl (hb hby own_d10_185) e4 N4 (by decide) (by decide) (⟨rfl, rfl⟩)
  have hd4 : ∀ (T : State) (locs : List Loc) (sl2 sl3 sl4 : Slot), Stand p l e ({ frames := 4, cells := 0, slots := 0, locals := 60 } : Room) s m #[(.ref a1)] below meth c T locs 0 0 → T.heap = h0 → Fr n0 locs → own_One sl2 → own_One sl3 → own_One sl4 → OEnds p e below (fun o t L => FrameEnd s o t L (({ frames := 4, cells := 0, slots := 0, locals := 60 } : Room)).cells (({ frames := 4, cells := 0, slots := 0, locals := 60 } : Room)).slots) n0 (fun v h => v = some (.ref a1) ∧ h = h0) T (mkF m 50 #[.val (.ref a1), .val (.int (4 : Int32)), sl2, sl3, sl4] []) := by
    intro T5 L5 sl2 sl3 sl4 X5 e5 N5 hsl2 hsl3 hsl4
    refine own_go (g' := (mkF m 51 #[.val (.ref a1), .val (.int (4 : Int32)), sl2, sl3, sl4] [(.int (4 : Int32))])) (fun t kt => XS.iloadN X5.here hx rfl (hb hby own_d10_50) rfl kt) ?_
    refine own_go (g' := (mkF m 52 #[.val (.ref a1), .val (.int (4 : Int32)), sl2, sl3, sl4] [(.ref a1), (.int (4 : Int32))])) (fun t kt => XS.aloadN X5.here hx rfl (hb hby own_d10_51) rfl rfl kt) ?_
    refine own_callVB X5 hx hZ (a := a1) (W := 1) (argsL := []) (rest := [(.int (4 : Int32))]) (c1 := 0) (s1 := 0) (Qc := fun v h' L => (v = some (.int (Int32.ofNat (List.length ([u0, u1, u2, u3, u4] : List Int32))))) ∧ L = [] ∧ h' = h0) hown (hw _ (List.mem_of_getElem? (i := 49) rfl)) (hw _ (List.mem_of_getElem? (i := 50) rfl)) (hw _ (List.mem_of_getElem? (i := 52) rfl)) (hw _ (List.mem_of_getElem? (i := 51) rfl)) (by decide) (StrChars.Road.lenW (W := 1) hZ (fun d hd => hw d (own_wl d hd)) (kI := 4) (hw _ (List.mem_of_getElem? (i := 11) rfl)) Ea Gv Gc Vb hcd hbd S_c hcs (Nat.le_of_ble_eq_true rfl) (by decide) (by decide)) Ea (g := (mkF m 52 #[.val (.ref a1), .val (.int (4 : Int32)), sl2, sl3, sl4] [(.ref a1), (.int (4 : Int32))])) rfl (by rw [hml]; rfl) (lenOf own_pd3 rfl) rfl (by show 2 * 0 + _ ≤ _; exact Nat.le_of_eq rfl) (hb hby own_d10_52) e5 (by decide) (by decide) (fun v6 T6 L6 X6 hq6 => ?_)
    obtain ⟨rfl, rfl, e6⟩ := hq6
    have N6 := Fr.app N5 (Fr.nil n0)
    show OEnds _ _ _ _ _ _ T6 (mkF m 55 #[.val (.ref a1), .val (.int (4 : Int32)), sl2, sl3, sl4] [(.int (5 : Int32)), (.int (4 : Int32))])
    refine own_go (g' := (mkF m 58 #[.val (.ref a1), .val (.int (4 : Int32)), sl2, sl3, sl4] [])) (fun t kt => XS.icmpNo X6.here hx rfl (hb hby own_d10_55) rfl (tlt ((by decide) : (4 : Int32) < (5 : Int32))).2.1 kt) ?_
    refine own_go (g' := (mkF m 59 #[.val (.ref a1), .val (.int (4 : Int32)), sl2, sl3, sl4] [(.ref a1)])) (fun t kt => XS.aloadN X6.here hx rfl (hb hby own_d10_58) rfl rfl kt) ?_
    refine own_go (g' := (mkF m 60 #[.val (.ref a1), .val (.int (4 : Int32)), sl2, sl3, sl4] [(.int (4 : Int32)), (.ref a1)])) (fun t kt => XS.iloadN X6.here hx rfl (hb hby own_d10_59) rfl kt) ?_
    refine own_callVB X6 hx hZ (a := a1) (W := 0) (argsL := [(.int (4 : Int32))]) (rest := []) (c1 := 0) (s1 := 0) (Qc := fun v h' L => (v = some (.int (List.getD ([u0, u1, u2, u3, u4] : List Int32) 4 0))) ∧ L = [] ∧ h' = h0) hown (hw _ (List.mem_of_getElem? (i := 59) rfl)) (hw _ (List.mem_of_getElem? (i := 60) rfl)) (hw _ (List.mem_of_getElem? (i := 62) rfl)) (hw _ (List.mem_of_getElem? (i := 61) rfl)) (by decide) (StrChars.Road.chN (W := 0) hZ (fun d hd => hw d (own_wc d hd)) (kI := 4) (hw _ (List.mem_of_getElem? (i := 11) rfl)) Ea Gv Gc Vb hcd hbd S_c hcs S_f hsv (Nat.le_of_ble_eq_true rfl) (i := 4) (Nat.le_of_ble_eq_true rfl) (j := (4 : Int32)) rfl (by decide) (by decide)) Ea (g := (mkF m 60 #[.val (.ref a1), .val (.int (4 : Int32)), sl2, sl3, sl4] [(.int (4 : Int32)), (.ref a1)])) rfl (by rw [hml]; rfl) (lenOf own_pd0 rfl) rfl (by show 2 * 0 + _ ≤ _; exact Nat.le_of_eq rfl) (hb hby own_d10_60) e6 (by decide) (by decide) (fun v7 T7 L7 X7 hq7 => ?_)
    obtain ⟨rfl, rfl, e7⟩ := hq7
    have N7 := Fr.app N6 (Fr.nil n0)
    show OEnds _ _ _ _ _ _ T7 (mkF m 63 #[.val (.ref a1), .val (.int (4 : Int32)), sl2, sl3, sl4] [(.int u4)])
    refine own_go (g' := (mkF m 64 #[.val (.ref a1), .val (.int (4 : Int32)), .val (.int u4), sl3, sl4] [])) (fun t kt => XS.istoreN X7.here hx rfl (hb hby own_d10_63) rfl (l' := #[.val (.ref a1), .val (.int (4 : Int32)), .val (.int u4), sl3, sl4]) (XS.store1 (o := sl2) rfl hsl2 rfl) kt) ?_
    refine own_go (g' := (mkF m 65 #[.val (.ref a1), .val (.int (4 : Int32)), .val (.int u4), sl3, sl4] [(.int u4)])) (fun t kt => XS.iloadN X7.here hx rfl (hb hby own_d10_64) rfl kt) ?_
    refine own_go (g' := (mkF m 67 #[.val (.ref a1), .val (.int (4 : Int32)), .val (.int u4), sl3, sl4] [(.int (47 : Int32)), (.int u4)])) (fun t kt => XS.bipush X7.here hx rfl (hb hby own_d10_65) kt) ?_
    refine own_go (g' := (mkF m 136 #[.val (.ref a1), .val (.int (4 : Int32)), .val (.int u4), sl3, sl4] [])) (fun t kt => XS.icmpYes X7.here hx rfl (pc0 := 67) (pc' := 136) rfl (hb hby own_d10_67) rfl (feq ((own_n47 k4) : ¬ (u4 = (47 : Int32)))).2 (by decide) (by decide) kt) ?_
    refine own_go (g' := (mkF m 137 #[.val (.ref a1), .val (.int (4 : Int32)), .val (.int u4), sl3, sl4] [(.int u4)])) (fun t kt => XS.iloadN X7.here hx rfl (hb hby own_d10_136) rfl kt) ?_
    refine own_callS X7 hx hZ (W := 0) (argsL := [(.int u4)]) (rest := []) hown (hw _ (List.mem_of_getElem? (i := 81) rfl)) (hw _ (List.mem_of_getElem? (i := 82) rfl)) (hw _ (List.mem_of_getElem? (i := 42) rfl)) (hw _ (List.mem_of_getElem? (i := 83) rfl)) (by decide) (own_isname l Z a0 hw u4 h0 n0 Z0) (by decide) (by decide) (g := (mkF m 137 #[.val (.ref a1), .val (.int (4 : Int32)), .val (.int u4), sl3, sl4] [(.int u4)])) rfl (by rw [hml]; rfl) (lenOf own_pd4 rfl) rfl (by show 2 * 0 + _ ≤ _; exact Nat.le_of_eq rfl) (hb hby own_d10_137) e7 N7 (by decide) (by decide) (fun v8 T8 L8 X8 N8 hq8 => ?_)
    obtain ⟨rfl, e8⟩ := hq8
    show OEnds _ _ _ _ _ _ T8 (mkF m 140 #[.val (.ref a1), .val (.int (4 : Int32)), .val (.int u4), sl3, sl4] [(.int (own_isn u4))])
    refine own_go (g' := (mkF m 178 #[.val (.ref a1), .val (.int (4 : Int32)), .val (.int u4), sl3, sl4] [])) (fun t kt => XS.ifYes X8.here hx rfl (pc0 := 140) (pc' := 178) rfl (hb hby own_d10_140) rfl ((if0 _ _).trans (feq ((own_nz k4) : ¬ ((own_isn u4) = (0 : Int32)))).2) (by decide) (by decide) kt) ?_
    refine own_go (g' := (mkF m 181 #[.val (.ref a1), .val (.int (5 : Int32)), .val (.int u4), sl3, sl4] [])) (fun t kt => XS.iinc X8.here hx rfl (hb hby own_d10_178) rfl (l' := #[.val (.ref a1), .val (.int (5 : Int32)), .val (.int u4), sl3, sl4]) rfl kt) ?_
    refine own_go (g' := (mkF m 50 #[.val (.ref a1), .val (.int (5 : Int32)), .val (.int u4), sl3, sl4] [])) (fun t kt => XS.goto X8.here hx rfl (pc0 := 181) (pc' := 50) rfl (hb hby own_d10_181) (by decide) (by decide) kt) ?_
    exact hd5 _ _ _ _ _ X8 e8 N8 (Or.inr ⟨_, rfl, rfl⟩) hsl3 hsl4
  have hd3 : ∀ (T : State) (locs : List Loc) (sl2 sl3 sl4 : Slot), Stand p l e ({ frames := 4, cells := 0, slots := 0, locals := 60 } : Room) s m #[(.ref a1)] below meth c T locs 0 0 → T.heap = h0 → Fr n0 locs → own_One sl2 → own_One sl3 → own_One sl4 → OEnds p e below (fun o t L => FrameEnd s o t L (({ frames := 4, cells := 0, slots := 0, locals := 60 } : Room)).cells (({ frames := 4, cells := 0, slots := 0, locals := 60 } : Room)).slots) n0 (fun v h => v = some (.ref a1) ∧ h = h0) T (mkF m 50 #[.val (.ref a1), .val (.int (3 : Int32)), sl2, sl3, sl4] []) := by
    intro T9 L9 sl2 sl3 sl4 X9 e9 N9 hsl2 hsl3 hsl4
    refine own_go (g' := (mkF m 51 #[.val (.ref a1), .val (.int (3 : Int32)), sl2, sl3, sl4] [(.int (3 : Int32))])) (fun t kt => XS.iloadN X9.here hx rfl (hb hby own_d10_50) rfl kt) ?_
    refine own_go (g' := (mkF m 52 #[.val (.ref a1), .val (.int (3 : Int32)), sl2, sl3, sl4] [(.ref a1), (.int (3 : Int32))])) (fun t kt => XS.aloadN X9.here hx rfl (hb hby own_d10_51) rfl rfl kt) ?_
    refine own_callVB X9 hx hZ (a := a1) (W := 1) (argsL := []) (rest := [(.int (3 : Int32))]) (c1 := 0) (s1 := 0) (Qc := fun v h' L => (v = some (.int (Int32.ofNat (List.length ([u0, u1, u2, u3, u4] : List Int32))))) ∧ L = [] ∧ h' = h0) hown (hw _ (List.mem_of_getElem? (i := 49) rfl)) (hw _ (List.mem_of_getElem? (i := 50) rfl)) (hw _ (List.mem_of_getElem? (i := 52) rfl)) (hw _ (List.mem_of_getElem? (i := 51) rfl)) (by decide) (StrChars.Road.lenW (W := 1) hZ (fun d hd => hw d (own_wl d hd)) (kI := 4) (hw _ (List.mem_of_getElem? (i := 11) rfl)) Ea Gv Gc Vb hcd hbd S_c hcs (Nat.le_of_ble_eq_true rfl) (by decide) (by decide)) Ea (g := (mkF m 52 #[.val (.ref a1), .val (.int (3 : Int32)), sl2, sl3, sl4] [(.ref a1), (.int (3 : Int32))])) rfl (by rw [hml]; rfl) (lenOf own_pd3 rfl) rfl (by show 2 * 0 + _ ≤ _; exact Nat.le_of_eq rfl) (hb hby own_d10_52) e9 (by decide) (by decide) (fun v10 T10 L10 X10 hq10 => ?_)
    obtain ⟨rfl, rfl, e10⟩ := hq10
    have N10 := Fr.app N9 (Fr.nil n0)
    show OEnds _ _ _ _ _ _ T10 (mkF m 55 #[.val (.ref a1), .val (.int (3 : Int32)), sl2, sl3, sl4] [(.int (5 : Int32)), (.int (3 : Int32))])
    refine own_go (g' := (mkF m 58 #[.val (.ref a1), .val (.int (3 : Int32)), sl2, sl3, sl4] [])) (fun t kt => XS.icmpNo X10.here hx rfl (hb hby own_d10_55) rfl (tlt ((by decide) : (3 : Int32) < (5 : Int32))).2.1 kt) ?_
    refine own_go (g' := (mkF m 59 #[.val (.ref a1), .val (.int (3 : Int32)), sl2, sl3, sl4] [(.ref a1)])) (fun t kt => XS.aloadN X10.here hx rfl (hb hby own_d10_58) rfl rfl kt) ?_
    refine own_go (g' := (mkF m 60 #[.val (.ref a1), .val (.int (3 : Int32)), sl2, sl3, sl4] [(.int (3 : Int32)), (.ref a1)])) (fun t kt => XS.iloadN X10.here hx rfl (hb hby own_d10_59) rfl kt) ?_
    refine own_callVB X10 hx hZ (a := a1) (W := 0) (argsL := [(.int (3 : Int32))]) (rest := []) (c1 := 0) (s1 := 0) (Qc := fun v h' L => (v = some (.int (List.getD ([u0, u1, u2, u3, u4] : List Int32) 3 0))) ∧ L = [] ∧ h' = h0) hown (hw _ (List.mem_of_getElem? (i := 59) rfl)) (hw _ (List.mem_of_getElem? (i := 60) rfl)) (hw _ (List.mem_of_getElem? (i := 62) rfl)) (hw _ (List.mem_of_getElem? (i := 61) rfl)) (by decide) (StrChars.Road.chN (W := 0) hZ (fun d hd => hw d (own_wc d hd)) (kI := 4) (hw _ (List.mem_of_getElem? (i := 11) rfl)) Ea Gv Gc Vb hcd hbd S_c hcs S_f hsv (Nat.le_of_ble_eq_true rfl) (i := 3) (Nat.le_of_ble_eq_true rfl) (j := (3 : Int32)) rfl (by decide) (by decide)) Ea (g := (mkF m 60 #[.val (.ref a1), .val (.int (3 : Int32)), sl2, sl3, sl4] [(.int (3 : Int32)), (.ref a1)])) rfl (by rw [hml]; rfl) (lenOf own_pd0 rfl) rfl (by show 2 * 0 + _ ≤ _; exact Nat.le_of_eq rfl) (hb hby own_d10_60) e10 (by decide) (by decide) (fun v11 T11 L11 X11 hq11 => ?_)
    obtain ⟨rfl, rfl, e11⟩ := hq11
    have N11 := Fr.app N10 (Fr.nil n0)
    show OEnds _ _ _ _ _ _ T11 (mkF m 63 #[.val (.ref a1), .val (.int (3 : Int32)), sl2, sl3, sl4] [(.int u3)])
    refine own_go (g' := (mkF m 64 #[.val (.ref a1), .val (.int (3 : Int32)), .val (.int u3), sl3, sl4] [])) (fun t kt => XS.istoreN X11.here hx rfl (hb hby own_d10_63) rfl (l' := #[.val (.ref a1), .val (.int (3 : Int32)), .val (.int u3), sl3, sl4]) (XS.store1 (o := sl2) rfl hsl2 rfl) kt) ?_
    refine own_go (g' := (mkF m 65 #[.val (.ref a1), .val (.int (3 : Int32)), .val (.int u3), sl3, sl4] [(.int u3)])) (fun t kt => XS.iloadN X11.here hx rfl (hb hby own_d10_64) rfl kt) ?_
    refine own_go (g' := (mkF m 67 #[.val (.ref a1), .val (.int (3 : Int32)), .val (.int u3), sl3, sl4] [(.int (47 : Int32)), (.int u3)])) (fun t kt => XS.bipush X11.here hx rfl (hb hby own_d10_65) kt) ?_
    by_cases hc12 : u3 = (47 : Int32)
    · refine own_go (g' := (mkF m 70 #[.val (.ref a1), .val (.int (3 : Int32)), .val (.int u3), sl3, sl4] [])) (fun t kt => XS.icmpNo X11.here hx rfl (hb hby own_d10_67) rfl (teq hc12).2 kt) ?_
      refine own_go (g' := (mkF m 71 #[.val (.ref a1), .val (.int (3 : Int32)), .val (.int u3), sl3, sl4] [(.int (3 : Int32))])) (fun t kt => XS.iloadN X11.here hx rfl (hb hby own_d10_70) rfl kt) ?_
      refine own_go (g' := (mkF m 74 #[.val (.ref a1), .val (.int (3 : Int32)), .val (.int u3), sl3, sl4] [])) (fun t kt => XS.ifNo X11.here hx rfl (hb hby own_d10_71) rfl ((if0 _ _).trans (tlt ((by decide) : (0 : Int32) < (3 : Int32))).2.2.2) kt) ?_
      refine own_go (g' := (mkF m 75 #[.val (.ref a1), .val (.int (3 : Int32)), .val (.int u3), sl3, sl4] [(.ref a1)])) (fun t kt => XS.aloadN X11.here hx rfl (hb hby own_d10_74) rfl rfl kt) ?_
      refine own_go (g' := (mkF m 76 #[.val (.ref a1), .val (.int (3 : Int32)), .val (.int u3), sl3, sl4] [(.int (3 : Int32)), (.ref a1)])) (fun t kt => XS.iloadN X11.here hx rfl (hb hby own_d10_75) rfl kt) ?_
      refine own_go (g' := (mkF m 77 #[.val (.ref a1), .val (.int (3 : Int32)), .val (.int u3), sl3, sl4] [(.int (1 : Int32)), (.int (3 : Int32)), (.ref a1)])) (fun t kt => XS.iconst X11.here hx rfl (hb hby own_d10_76) kt) ?_
      refine own_go (g' := (mkF m 78 #[.val (.ref a1), .val (.int (3 : Int32)), .val (.int u3), sl3, sl4] [(.int (2 : Int32)), (.ref a1)])) (fun t kt => XS.isub X11.here hx rfl (hb hby own_d10_77) rfl kt) ?_
      refine own_callVB X11 hx hZ (a := a1) (W := 0) (argsL := [(.int (2 : Int32))]) (rest := []) (c1 := 0) (s1 := 0) (Qc := fun v h' L => (v = some (.int (List.getD ([u0, u1, u2, u3, u4] : List Int32) 2 0))) ∧ L = [] ∧ h' = h0) hown (hw _ (List.mem_of_getElem? (i := 59) rfl)) (hw _ (List.mem_of_getElem? (i := 60) rfl)) (hw _ (List.mem_of_getElem? (i := 62) rfl)) (hw _ (List.mem_of_getElem? (i := 61) rfl)) (by decide) (StrChars.Road.chN (W := 0) hZ (fun d hd => hw d (own_wc d hd)) (kI := 4) (hw _ (List.mem_of_getElem? (i := 11) rfl)) Ea Gv Gc Vb hcd hbd S_c hcs S_f hsv (Nat.le_of_ble_eq_true rfl) (i := 2) (Nat.le_of_ble_eq_true rfl) (j := (2 : Int32)) rfl (by decide) (by decide)) Ea (g := (mkF m 78 #[.val (.ref a1), .val (.int (3 : Int32)), .val (.int u3), sl3, sl4] [(.int (2 : Int32)), (.ref a1)])) rfl (by rw [hml]; rfl) (lenOf own_pd0 rfl) rfl (by show 2 * 0 + _ ≤ _; exact Nat.le_of_eq rfl) (hb hby own_d10_78) e11 (by decide) (by decide) (fun v13 T13 L13 X13 hq13 => ?_)
      obtain ⟨rfl, rfl, e13⟩ := hq13
      have N13 := Fr.app N11 (Fr.nil n0)
      show OEnds _ _ _ _ _ _ T13 (mkF m 81 #[.val (.ref a1), .val (.int (3 : Int32)), .val (.int u3), sl3, sl4] [(.int u2)])
      refine own_go (g' := (mkF m 83 #[.val (.ref a1), .val (.int (3 : Int32)), .val (.int u3), sl3, sl4] [(.int (47 : Int32)), (.int u2)])) (fun t kt => XS.bipush X13.here hx rfl (hb hby own_d10_81) kt) ?_
      refine own_go (g' := (mkF m 86 #[.val (.ref a1), .val (.int (3 : Int32)), .val (.int u3), sl3, sl4] [])) (fun t kt => XS.icmpNo X13.here hx rfl (hb hby own_d10_83) rfl (feq ((own_prev k3 hc12) : ¬ (u2 = (47 : Int32)))).1 kt) ?_
      refine own_go (g' := (mkF m 87 #[.val (.ref a1), .val (.int (3 : Int32)), .val (.int u3), sl3, sl4] [(.int (1 : Int32))])) (fun t kt => XS.iconst X13.here hx rfl (hb hby own_d10_86) kt) ?_
      refine own_go (g' := (mkF m 91 #[.val (.ref a1), .val (.int (3 : Int32)), .val (.int u3), sl3, sl4] [(.int (1 : Int32))])) (fun t kt => XS.goto X13.here hx rfl (pc0 := 87) (pc' := 91) rfl (hb hby own_d10_87) (by decide) (by decide) kt) ?_
      refine own_go (g' := (mkF m 92 #[.val (.ref a1), .val (.int (3 : Int32)), .val (.int u3), .val (.int (1 : Int32)), sl4] [])) (fun t kt => XS.istoreN X13.here hx rfl (hb hby own_d10_91) rfl (l' := #[.val (.ref a1), .val (.int (3 : Int32)), .val (.int u3), .val (.int (1 : Int32)), sl4]) (XS.store1 (o := sl3) rfl hsl3 rfl) kt) ?_
      refine own_go (g' := (mkF m 93 #[.val (.ref a1), .val (.int (3 : Int32)), .val (.int u3), .val (.int (1 : Int32)), sl4] [(.int (3 : Int32))])) (fun t kt => XS.iloadN X13.here hx rfl (hb hby own_d10_92) rfl kt) ?_
      refine own_go (g' := (mkF m 94 #[.val (.ref a1), .val (.int (3 : Int32)), .val (.int u3), .val (.int (1 : Int32)), sl4] [(.ref a1), (.int (3 : Int32))])) (fun t kt => XS.aloadN X13.here hx rfl (hb hby own_d10_93) rfl rfl kt) ?_
      refine own_callVB X13 hx hZ (a := a1) (W := 1) (argsL := []) (rest := [(.int (3 : Int32))]) (c1 := 0) (s1 := 0) (Qc := fun v h' L => (v = some (.int (Int32.ofNat (List.length ([u0, u1, u2, u3, u4] : List Int32))))) ∧ L = [] ∧ h' = h0) hown (hw _ (List.mem_of_getElem? (i := 49) rfl)) (hw _ (List.mem_of_getElem? (i := 50) rfl)) (hw _ (List.mem_of_getElem? (i := 52) rfl)) (hw _ (List.mem_of_getElem? (i := 51) rfl)) (by decide) (StrChars.Road.lenW (W := 1) hZ (fun d hd => hw d (own_wl d hd)) (kI := 4) (hw _ (List.mem_of_getElem? (i := 11) rfl)) Ea Gv Gc Vb hcd hbd S_c hcs (Nat.le_of_ble_eq_true rfl) (by decide) (by decide)) Ea (g := (mkF m 94 #[.val (.ref a1), .val (.int (3 : Int32)), .val (.int u3), .val (.int (1 : Int32)), sl4] [(.ref a1), (.int (3 : Int32))])) rfl (by rw [hml]; rfl) (lenOf own_pd3 rfl) rfl (by show 2 * 0 + _ ≤ _; exact Nat.le_of_eq rfl) (hb hby own_d10_94) e13 (by decide) (by decide) (fun v14 T14 L14 X14 hq14 => ?_)
      obtain ⟨rfl, rfl, e14⟩ := hq14
      have N14 := Fr.app N13 (Fr.nil n0)
      show OEnds _ _ _ _ _ _ T14 (mkF m 97 #[.val (.ref a1), .val (.int (3 : Int32)), .val (.int u3), .val (.int (1 : Int32)), sl4] [(.int (5 : Int32)), (.int (3 : Int32))])
      refine own_go (g' := (mkF m 98 #[.val (.ref a1), .val (.int (3 : Int32)), .val (.int u3), .val (.int (1 : Int32)), sl4] [(.int (1 : Int32)), (.int (5 : Int32)), (.int (3 : Int32))])) (fun t kt => XS.iconst X14.here hx rfl (hb hby own_d10_97) kt) ?_
      refine own_go (g' := (mkF m 99 #[.val (.ref a1), .val (.int (3 : Int32)), .val (.int u3), .val (.int (1 : Int32)), sl4] [(.int (4 : Int32)), (.int (3 : Int32))])) (fun t kt => XS.isub X14.here hx rfl (hb hby own_d10_98) rfl kt) ?_
      refine own_go (g' := (mkF m 102 #[.val (.ref a1), .val (.int (3 : Int32)), .val (.int u3), .val (.int (1 : Int32)), sl4] [])) (fun t kt => XS.icmpNo X14.here hx rfl (hb hby own_d10_99) rfl (tlt ((by decide) : (3 : Int32) < (4 : Int32))).2.1 kt) ?_
      refine own_go (g' := (mkF m 103 #[.val (.ref a1), .val (.int (3 : Int32)), .val (.int u3), .val (.int (1 : Int32)), sl4] [(.int (1 : Int32))])) (fun t kt => XS.iconst X14.here hx rfl (hb hby own_d10_102) kt) ?_
      refine own_go (g' := (mkF m 107 #[.val (.ref a1), .val (.int (3 : Int32)), .val (.int u3), .val (.int (1 : Int32)), sl4] [(.int (1 : Int32))])) (fun t kt => XS.goto X14.here hx rfl (pc0 := 103) (pc' := 107) rfl (hb hby own_d10_103) (by decide) (by decide) kt) ?_
      refine own_go (g' := (mkF m 109 #[.val (.ref a1), .val (.int (3 : Int32)), .val (.int u3), .val (.int (1 : Int32)), .val (.int (1 : Int32))] [])) (fun t kt => XS.istore X14.here hx rfl (hb hby own_d10_107) rfl (l' := #[.val (.ref a1), .val (.int (3 : Int32)), .val (.int u3), .val (.int (1 : Int32)), .val (.int (1 : Int32))]) (XS.store1 (o := sl4) rfl hsl4 rfl) kt) ?_
      refine own_go (g' := (mkF m 110 #[.val (.ref a1), .val (.int (3 : Int32)), .val (.int u3), .val (.int (1 : Int32)), .val (.int (1 : Int32))] [(.int (1 : Int32))])) (fun t kt => XS.iloadN X14.here hx rfl (hb hby own_d10_109) rfl kt) ?_
      refine own_go (g' := (mkF m 113 #[.val (.ref a1), .val (.int (3 : Int32)), .val (.int u3), .val (.int (1 : Int32)), .val (.int (1 : Int32))] [])) (fun t kt => XS.ifNo X14.here hx rfl (hb hby own_d10_110) rfl ((if0 _ _).trans (feq ((by decide) : ¬ ((1 : Int32) = (0 : Int32)))).1) kt) ?_
      refine own_go (g' := (mkF m 115 #[.val (.ref a1), .val (.int (3 : Int32)), .val (.int u3), .val (.int (1 : Int32)), .val (.int (1 : Int32))] [(.int (1 : Int32))])) (fun t kt => XS.iload X14.here hx rfl (hb hby own_d10_113) rfl kt) ?_
      refine own_go (g' := (mkF m 133 #[.val (.ref a1), .val (.int (3 : Int32)), .val (.int u3), .val (.int (1 : Int32)), .val (.int (1 : Int32))] [])) (fun t kt => XS.ifYes X14.here hx rfl (pc0 := 115) (pc' := 133) rfl (hb hby own_d10_115) rfl ((if0 _ _).trans (feq ((by decide) : ¬ ((1 : Int32) = (0 : Int32)))).2) (by decide) (by decide) kt) ?_
      refine own_go (g' := (mkF m 178 #[.val (.ref a1), .val (.int (3 : Int32)), .val (.int u3), .val (.int (1 : Int32)), .val (.int (1 : Int32))] [])) (fun t kt => XS.goto X14.here hx rfl (pc0 := 133) (pc' := 178) rfl (hb hby own_d10_133) (by decide) (by decide) kt) ?_
      refine own_go (g' := (mkF m 181 #[.val (.ref a1), .val (.int (4 : Int32)), .val (.int u3), .val (.int (1 : Int32)), .val (.int (1 : Int32))] [])) (fun t kt => XS.iinc X14.here hx rfl (hb hby own_d10_178) rfl (l' := #[.val (.ref a1), .val (.int (4 : Int32)), .val (.int u3), .val (.int (1 : Int32)), .val (.int (1 : Int32))]) rfl kt) ?_
      refine own_go (g' := (mkF m 50 #[.val (.ref a1), .val (.int (4 : Int32)), .val (.int u3), .val (.int (1 : Int32)), .val (.int (1 : Int32))] [])) (fun t kt => XS.goto X14.here hx rfl (pc0 := 181) (pc' := 50) rfl (hb hby own_d10_181) (by decide) (by decide) kt) ?_
      exact hd4 _ _ _ _ _ X14 e14 N14 (Or.inr ⟨_, rfl, rfl⟩) (Or.inr ⟨_, rfl, rfl⟩) (Or.inr ⟨_, rfl, rfl⟩)
    · refine own_go (g' := (mkF m 136 #[.val (.ref a1), .val (.int (3 : Int32)), .val (.int u3), sl3, sl4] [])) (fun t kt => XS.icmpYes X11.here hx rfl (pc0 := 67) (pc' := 136) rfl (hb hby own_d10_67) rfl (feq hc12).2 (by decide) (by decide) kt) ?_
      refine own_go (g' := (mkF m 137 #[.val (.ref a1), .val (.int (3 : Int32)), .val (.int u3), sl3, sl4] [(.int u3)])) (fun t kt => XS.iloadN X11.here hx rfl (hb hby own_d10_136) rfl kt) ?_
      refine own_callS X11 hx hZ (W := 0) (argsL := [(.int u3)]) (rest := []) hown (hw _ (List.mem_of_getElem? (i := 81) rfl)) (hw _ (List.mem_of_getElem? (i := 82) rfl)) (hw _ (List.mem_of_getElem? (i := 42) rfl)) (hw _ (List.mem_of_getElem? (i := 83) rfl)) (by decide) (own_isname l Z a0 hw u3 h0 n0 Z0) (by decide) (by decide) (g := (mkF m 137 #[.val (.ref a1), .val (.int (3 : Int32)), .val (.int u3), sl3, sl4] [(.int u3)])) rfl (by rw [hml]; rfl) (lenOf own_pd4 rfl) rfl (by show 2 * 0 + _ ≤ _; exact Nat.le_of_eq rfl) (hb hby own_d10_137) e11 N11 (by decide) (by decide) (fun v15 T15 L15 X15 N15 hq15 => ?_)
      obtain ⟨rfl, e15⟩ := hq15
      show OEnds _ _ _ _ _ _ T15 (mkF m 140 #[.val (.ref a1), .val (.int (3 : Int32)), .val (.int u3), sl3, sl4] [(.int (own_isn u3))])
      refine own_go (g' := (mkF m 178 #[.val (.ref a1), .val (.int (3 : Int32)), .val (.int u3), sl3, sl4] [])) (fun t kt => XS.ifYes X15.here hx rfl (pc0 := 140) (pc' := 178) rfl (hb hby own_d10_140) rfl ((if0 _ _).trans (feq ((own_nz (own_one k3 hc12)) : ¬ ((own_isn u3) = (0 : Int32)))).2) (by decide) (by decide) kt) ?_
      refine own_go (g' := (mkF m 181 #[.val (.ref a1), .val (.int (4 : Int32)), .val (.int u3), sl3, sl4] [])) (fun t kt => XS.iinc X15.here hx rfl (hb hby own_d10_178) rfl (l' := #[.val (.ref a1), .val (.int (4 : Int32)), .val (.int u3), sl3, sl4]) rfl kt) ?_
      refine own_go (g' := (mkF m 50 #[.val (.ref a1), .val (.int (4 : Int32)), .val (.int u3), sl3, sl4] [])) (fun t kt => XS.goto X15.here hx rfl (pc0 := 181) (pc' := 50) rfl (hb hby own_d10_181) (by decide) (by decide) kt) ?_
      exact hd4 _ _ _ _ _ X15 e15 N15 (Or.inr ⟨_, rfl, rfl⟩) hsl3 hsl4
  have hd2 : ∀ (T : State) (locs : List Loc) (sl2 sl3 sl4 : Slot), Stand p l e ({ frames := 4, cells := 0, slots := 0, locals := 60 } : Room) s m #[(.ref a1)] below meth c T locs 0 0 → T.heap = h0 → Fr n0 locs → own_One sl2 → own_One sl3 → own_One sl4 → OEnds p e below (fun o t L => FrameEnd s o t L (({ frames := 4, cells := 0, slots := 0, locals := 60 } : Room)).cells (({ frames := 4, cells := 0, slots := 0, locals := 60 } : Room)).slots) n0 (fun v h => v = some (.ref a1) ∧ h = h0) T (mkF m 50 #[.val (.ref a1), .val (.int (2 : Int32)), sl2, sl3, sl4] []) := by
    intro T16 L16 sl2 sl3 sl4 X16 e16 N16 hsl2 hsl3 hsl4
    refine own_go (g' := (mkF m 51 #[.val (.ref a1), .val (.int (2 : Int32)), sl2, sl3, sl4] [(.int (2 : Int32))])) (fun t kt => XS.iloadN X16.here hx rfl (hb hby own_d10_50) rfl kt) ?_
    refine own_go (g' := (mkF m 52 #[.val (.ref a1), .val (.int (2 : Int32)), sl2, sl3, sl4] [(.ref a1), (.int (2 : Int32))])) (fun t kt => XS.aloadN X16.here hx rfl (hb hby own_d10_51) rfl rfl kt) ?_
    refine own_callVB X16 hx hZ (a := a1) (W := 1) (argsL := []) (rest := [(.int (2 : Int32))]) (c1 := 0) (s1 := 0) (Qc := fun v h' L => (v = some (.int (Int32.ofNat (List.length ([u0, u1, u2, u3, u4] : List Int32))))) ∧ L = [] ∧ h' = h0) hown (hw _ (List.mem_of_getElem? (i := 49) rfl)) (hw _ (List.mem_of_getElem? (i := 50) rfl)) (hw _ (List.mem_of_getElem? (i := 52) rfl)) (hw _ (List.mem_of_getElem? (i := 51) rfl)) (by decide) (StrChars.Road.lenW (W := 1) hZ (fun d hd => hw d (own_wl d hd)) (kI := 4) (hw _ (List.mem_of_getElem? (i := 11) rfl)) Ea Gv Gc Vb hcd hbd S_c hcs (Nat.le_of_ble_eq_true rfl) (by decide) (by decide)) Ea (g := (mkF m 52 #[.val (.ref a1), .val (.int (2 : Int32)), sl2, sl3, sl4] [(.ref a1), (.int (2 : Int32))])) rfl (by rw [hml]; rfl) (lenOf own_pd3 rfl) rfl (by show 2 * 0 + _ ≤ _; exact Nat.le_of_eq rfl) (hb hby own_d10_52) e16 (by decide) (by decide) (fun v17 T17 L17 X17 hq17 => ?_)
    obtain ⟨rfl, rfl, e17⟩ := hq17
    have N17 := Fr.app N16 (Fr.nil n0)
    show OEnds _ _ _ _ _ _ T17 (mkF m 55 #[.val (.ref a1), .val (.int (2 : Int32)), sl2, sl3, sl4] [(.int (5 : Int32)), (.int (2 : Int32))])
    refine own_go (g' := (mkF m 58 #[.val (.ref a1), .val (.int (2 : Int32)), sl2, sl3, sl4] [])) (fun t kt => XS.icmpNo X17.here hx rfl (hb hby own_d10_55) rfl (tlt ((by decide) : (2 : Int32) < (5 : Int32))).2.1 kt) ?_
    refine own_go (g' := (mkF m 59 #[.val (.ref a1), .val (.int (2 : Int32)), sl2, sl3, sl4] [(.ref a1)])) (fun t kt => XS.aloadN X17.here hx rfl (hb hby own_d10_58) rfl rfl kt) ?_
    refine own_go (g' := (mkF m 60 #[.val (.ref a1), .val (.int (2 : Int32)), sl2, sl3, sl4] [(.int (2 : Int32)), (.ref a1)])) (fun t kt => XS.iloadN X17.here hx rfl (hb hby own_d10_59) rfl kt) ?_
    refine own_callVB X17 hx hZ (a := a1) (W := 0) (argsL := [(.int (2 : Int32))]) (rest := []) (c1 := 0) (s1 := 0) (Qc := fun v h' L => (v = some (.int (List.getD ([u0, u1, u2, u3, u4] : List Int32) 2 0))) ∧ L = [] ∧ h' = h0) hown (hw _ (List.mem_of_getElem? (i := 59) rfl)) (hw _ (List.mem_of_getElem? (i := 60) rfl)) (hw _ (List.mem_of_getElem? (i := 62) rfl)) (hw _ (List.mem_of_getElem? (i := 61) rfl)) (by decide) (StrChars.Road.chN (W := 0) hZ (fun d hd => hw d (own_wc d hd)) (kI := 4) (hw _ (List.mem_of_getElem? (i := 11) rfl)) Ea Gv Gc Vb hcd hbd S_c hcs S_f hsv (Nat.le_of_ble_eq_true rfl) (i := 2) (Nat.le_of_ble_eq_true rfl) (j := (2 : Int32)) rfl (by decide) (by decide)) Ea (g := (mkF m 60 #[.val (.ref a1), .val (.int (2 : Int32)), sl2, sl3, sl4] [(.int (2 : Int32)), (.ref a1)])) rfl (by rw [hml]; rfl) (lenOf own_pd0 rfl) rfl (by show 2 * 0 + _ ≤ _; exact Nat.le_of_eq rfl) (hb hby own_d10_60) e17 (by decide) (by decide) (fun v18 T18 L18 X18 hq18 => ?_)
    obtain ⟨rfl, rfl, e18⟩ := hq18
    have N18 := Fr.app N17 (Fr.nil n0)
    show OEnds _ _ _ _ _ _ T18 (mkF m 63 #[.val (.ref a1), .val (.int (2 : Int32)), sl2, sl3, sl4] [(.int u2)])
    refine own_go (g' := (mkF m 64 #[.val (.ref a1), .val (.int (2 : Int32)), .val (.int u2), sl3, sl4] [])) (fun t kt => XS.istoreN X18.here hx rfl (hb hby own_d10_63) rfl (l' := #[.val (.ref a1), .val (.int (2 : Int32)), .val (.int u2), sl3, sl4]) (XS.store1 (o := sl2) rfl hsl2 rfl) kt) ?_
    refine own_go (g' := (mkF m 65 #[.val (.ref a1), .val (.int (2 : Int32)), .val (.int u2), sl3, sl4] [(.int u2)])) (fun t kt => XS.iloadN X18.here hx rfl (hb hby own_d10_64) rfl kt) ?_
    refine own_go (g' := (mkF m 67 #[.val (.ref a1), .val (.int (2 : Int32)), .val (.int u2), sl3, sl4] [(.int (47 : Int32)), (.int u2)])) (fun t kt => XS.bipush X18.here hx rfl (hb hby own_d10_65) kt) ?_
    by_cases hc19 : u2 = (47 : Int32)
    · refine own_go (g' := (mkF m 70 #[.val (.ref a1), .val (.int (2 : Int32)), .val (.int u2), sl3, sl4] [])) (fun t kt => XS.icmpNo X18.here hx rfl (hb hby own_d10_67) rfl (teq hc19).2 kt) ?_
      refine own_go (g' := (mkF m 71 #[.val (.ref a1), .val (.int (2 : Int32)), .val (.int u2), sl3, sl4] [(.int (2 : Int32))])) (fun t kt => XS.iloadN X18.here hx rfl (hb hby own_d10_70) rfl kt) ?_
      refine own_go (g' := (mkF m 74 #[.val (.ref a1), .val (.int (2 : Int32)), .val (.int u2), sl3, sl4] [])) (fun t kt => XS.ifNo X18.here hx rfl (hb hby own_d10_71) rfl ((if0 _ _).trans (tlt ((by decide) : (0 : Int32) < (2 : Int32))).2.2.2) kt) ?_
      refine own_go (g' := (mkF m 75 #[.val (.ref a1), .val (.int (2 : Int32)), .val (.int u2), sl3, sl4] [(.ref a1)])) (fun t kt => XS.aloadN X18.here hx rfl (hb hby own_d10_74) rfl rfl kt) ?_
      refine own_go (g' := (mkF m 76 #[.val (.ref a1), .val (.int (2 : Int32)), .val (.int u2), sl3, sl4] [(.int (2 : Int32)), (.ref a1)])) (fun t kt => XS.iloadN X18.here hx rfl (hb hby own_d10_75) rfl kt) ?_
      refine own_go (g' := (mkF m 77 #[.val (.ref a1), .val (.int (2 : Int32)), .val (.int u2), sl3, sl4] [(.int (1 : Int32)), (.int (2 : Int32)), (.ref a1)])) (fun t kt => XS.iconst X18.here hx rfl (hb hby own_d10_76) kt) ?_
      refine own_go (g' := (mkF m 78 #[.val (.ref a1), .val (.int (2 : Int32)), .val (.int u2), sl3, sl4] [(.int (1 : Int32)), (.ref a1)])) (fun t kt => XS.isub X18.here hx rfl (hb hby own_d10_77) rfl kt) ?_
      refine own_callVB X18 hx hZ (a := a1) (W := 0) (argsL := [(.int (1 : Int32))]) (rest := []) (c1 := 0) (s1 := 0) (Qc := fun v h' L => (v = some (.int (List.getD ([u0, u1, u2, u3, u4] : List Int32) 1 0))) ∧ L = [] ∧ h' = h0) hown (hw _ (List.mem_of_getElem? (i := 59) rfl)) (hw _ (List.mem_of_getElem? (i := 60) rfl)) (hw _ (List.mem_of_getElem? (i := 62) rfl)) (hw _ (List.mem_of_getElem? (i := 61) rfl)) (by decide) (StrChars.Road.chN (W := 0) hZ (fun d hd => hw d (own_wc d hd)) (kI := 4) (hw _ (List.mem_of_getElem? (i := 11) rfl)) Ea Gv Gc Vb hcd hbd S_c hcs S_f hsv (Nat.le_of_ble_eq_true rfl) (i := 1) (Nat.le_of_ble_eq_true rfl) (j := (1 : Int32)) rfl (by decide) (by decide)) Ea (g := (mkF m 78 #[.val (.ref a1), .val (.int (2 : Int32)), .val (.int u2), sl3, sl4] [(.int (1 : Int32)), (.ref a1)])) rfl (by rw [hml]; rfl) (lenOf own_pd0 rfl) rfl (by show 2 * 0 + _ ≤ _; exact Nat.le_of_eq rfl) (hb hby own_d10_78) e18 (by decide) (by decide) (fun v20 T20 L20 X20 hq20 => ?_)
      obtain ⟨rfl, rfl, e20⟩ := hq20
      have N20 := Fr.app N18 (Fr.nil n0)
      show OEnds _ _ _ _ _ _ T20 (mkF m 81 #[.val (.ref a1), .val (.int (2 : Int32)), .val (.int u2), sl3, sl4] [(.int u1)])
      refine own_go (g' := (mkF m 83 #[.val (.ref a1), .val (.int (2 : Int32)), .val (.int u2), sl3, sl4] [(.int (47 : Int32)), (.int u1)])) (fun t kt => XS.bipush X20.here hx rfl (hb hby own_d10_81) kt) ?_
      refine own_go (g' := (mkF m 86 #[.val (.ref a1), .val (.int (2 : Int32)), .val (.int u2), sl3, sl4] [])) (fun t kt => XS.icmpNo X20.here hx rfl (hb hby own_d10_83) rfl (feq ((own_prev k2 hc19) : ¬ (u1 = (47 : Int32)))).1 kt) ?_
      refine own_go (g' := (mkF m 87 #[.val (.ref a1), .val (.int (2 : Int32)), .val (.int u2), sl3, sl4] [(.int (1 : Int32))])) (fun t kt => XS.iconst X20.here hx rfl (hb hby own_d10_86) kt) ?_
      refine own_go (g' := (mkF m 91 #[.val (.ref a1), .val (.int (2 : Int32)), .val (.int u2), sl3, sl4] [(.int (1 : Int32))])) (fun t kt => XS.goto X20.here hx rfl (pc0 := 87) (pc' := 91) rfl (hb hby own_d10_87) (by decide) (by decide) kt) ?_
      refine own_go (g' := (mkF m 92 #[.val (.ref a1), .val (.int (2 : Int32)), .val (.int u2), .val (.int (1 : Int32)), sl4] [])) (fun t kt => XS.istoreN X20.here hx rfl (hb hby own_d10_91) rfl (l' := #[.val (.ref a1), .val (.int (2 : Int32)), .val (.int u2), .val (.int (1 : Int32)), sl4]) (XS.store1 (o := sl3) rfl hsl3 rfl) kt) ?_
      refine own_go (g' := (mkF m 93 #[.val (.ref a1), .val (.int (2 : Int32)), .val (.int u2), .val (.int (1 : Int32)), sl4] [(.int (2 : Int32))])) (fun t kt => XS.iloadN X20.here hx rfl (hb hby own_d10_92) rfl kt) ?_
      refine own_go (g' := (mkF m 94 #[.val (.ref a1), .val (.int (2 : Int32)), .val (.int u2), .val (.int (1 : Int32)), sl4] [(.ref a1), (.int (2 : Int32))])) (fun t kt => XS.aloadN X20.here hx rfl (hb hby own_d10_93) rfl rfl kt) ?_
      refine own_callVB X20 hx hZ (a := a1) (W := 1) (argsL := []) (rest := [(.int (2 : Int32))]) (c1 := 0) (s1 := 0) (Qc := fun v h' L => (v = some (.int (Int32.ofNat (List.length ([u0, u1, u2, u3, u4] : List Int32))))) ∧ L = [] ∧ h' = h0) hown (hw _ (List.mem_of_getElem? (i := 49) rfl)) (hw _ (List.mem_of_getElem? (i := 50) rfl)) (hw _ (List.mem_of_getElem? (i := 52) rfl)) (hw _ (List.mem_of_getElem? (i := 51) rfl)) (by decide) (StrChars.Road.lenW (W := 1) hZ (fun d hd => hw d (own_wl d hd)) (kI := 4) (hw _ (List.mem_of_getElem? (i := 11) rfl)) Ea Gv Gc Vb hcd hbd S_c hcs (Nat.le_of_ble_eq_true rfl) (by decide) (by decide)) Ea (g := (mkF m 94 #[.val (.ref a1), .val (.int (2 : Int32)), .val (.int u2), .val (.int (1 : Int32)), sl4] [(.ref a1), (.int (2 : Int32))])) rfl (by rw [hml]; rfl) (lenOf own_pd3 rfl) rfl (by show 2 * 0 + _ ≤ _; exact Nat.le_of_eq rfl) (hb hby own_d10_94) e20 (by decide) (by decide) (fun v21 T21 L21 X21 hq21 => ?_)
      obtain ⟨rfl, rfl, e21⟩ := hq21
      have N21 := Fr.app N20 (Fr.nil n0)
      show OEnds _ _ _ _ _ _ T21 (mkF m 97 #[.val (.ref a1), .val (.int (2 : Int32)), .val (.int u2), .val (.int (1 : Int32)), sl4] [(.int (5 : Int32)), (.int (2 : Int32))])
      refine own_go (g' := (mkF m 98 #[.val (.ref a1), .val (.int (2 : Int32)), .val (.int u2), .val (.int (1 : Int32)), sl4] [(.int (1 : Int32)), (.int (5 : Int32)), (.int (2 : Int32))])) (fun t kt => XS.iconst X21.here hx rfl (hb hby own_d10_97) kt) ?_
      refine own_go (g' := (mkF m 99 #[.val (.ref a1), .val (.int (2 : Int32)), .val (.int u2), .val (.int (1 : Int32)), sl4] [(.int (4 : Int32)), (.int (2 : Int32))])) (fun t kt => XS.isub X21.here hx rfl (hb hby own_d10_98) rfl kt) ?_
      refine own_go (g' := (mkF m 102 #[.val (.ref a1), .val (.int (2 : Int32)), .val (.int u2), .val (.int (1 : Int32)), sl4] [])) (fun t kt => XS.icmpNo X21.here hx rfl (hb hby own_d10_99) rfl (tlt ((by decide) : (2 : Int32) < (4 : Int32))).2.1 kt) ?_
      refine own_go (g' := (mkF m 103 #[.val (.ref a1), .val (.int (2 : Int32)), .val (.int u2), .val (.int (1 : Int32)), sl4] [(.int (1 : Int32))])) (fun t kt => XS.iconst X21.here hx rfl (hb hby own_d10_102) kt) ?_
      refine own_go (g' := (mkF m 107 #[.val (.ref a1), .val (.int (2 : Int32)), .val (.int u2), .val (.int (1 : Int32)), sl4] [(.int (1 : Int32))])) (fun t kt => XS.goto X21.here hx rfl (pc0 := 103) (pc' := 107) rfl (hb hby own_d10_103) (by decide) (by decide) kt) ?_
      refine own_go (g' := (mkF m 109 #[.val (.ref a1), .val (.int (2 : Int32)), .val (.int u2), .val (.int (1 : Int32)), .val (.int (1 : Int32))] [])) (fun t kt => XS.istore X21.here hx rfl (hb hby own_d10_107) rfl (l' := #[.val (.ref a1), .val (.int (2 : Int32)), .val (.int u2), .val (.int (1 : Int32)), .val (.int (1 : Int32))]) (XS.store1 (o := sl4) rfl hsl4 rfl) kt) ?_
      refine own_go (g' := (mkF m 110 #[.val (.ref a1), .val (.int (2 : Int32)), .val (.int u2), .val (.int (1 : Int32)), .val (.int (1 : Int32))] [(.int (1 : Int32))])) (fun t kt => XS.iloadN X21.here hx rfl (hb hby own_d10_109) rfl kt) ?_
      refine own_go (g' := (mkF m 113 #[.val (.ref a1), .val (.int (2 : Int32)), .val (.int u2), .val (.int (1 : Int32)), .val (.int (1 : Int32))] [])) (fun t kt => XS.ifNo X21.here hx rfl (hb hby own_d10_110) rfl ((if0 _ _).trans (feq ((by decide) : ¬ ((1 : Int32) = (0 : Int32)))).1) kt) ?_
      refine own_go (g' := (mkF m 115 #[.val (.ref a1), .val (.int (2 : Int32)), .val (.int u2), .val (.int (1 : Int32)), .val (.int (1 : Int32))] [(.int (1 : Int32))])) (fun t kt => XS.iload X21.here hx rfl (hb hby own_d10_113) rfl kt) ?_
      refine own_go (g' := (mkF m 133 #[.val (.ref a1), .val (.int (2 : Int32)), .val (.int u2), .val (.int (1 : Int32)), .val (.int (1 : Int32))] [])) (fun t kt => XS.ifYes X21.here hx rfl (pc0 := 115) (pc' := 133) rfl (hb hby own_d10_115) rfl ((if0 _ _).trans (feq ((by decide) : ¬ ((1 : Int32) = (0 : Int32)))).2) (by decide) (by decide) kt) ?_
      refine own_go (g' := (mkF m 178 #[.val (.ref a1), .val (.int (2 : Int32)), .val (.int u2), .val (.int (1 : Int32)), .val (.int (1 : Int32))] [])) (fun t kt => XS.goto X21.here hx rfl (pc0 := 133) (pc' := 178) rfl (hb hby own_d10_133) (by decide) (by decide) kt) ?_
      refine own_go (g' := (mkF m 181 #[.val (.ref a1), .val (.int (3 : Int32)), .val (.int u2), .val (.int (1 : Int32)), .val (.int (1 : Int32))] [])) (fun t kt => XS.iinc X21.here hx rfl (hb hby own_d10_178) rfl (l' := #[.val (.ref a1), .val (.int (3 : Int32)), .val (.int u2), .val (.int (1 : Int32)), .val (.int (1 : Int32))]) rfl kt) ?_
      refine own_go (g' := (mkF m 50 #[.val (.ref a1), .val (.int (3 : Int32)), .val (.int u2), .val (.int (1 : Int32)), .val (.int (1 : Int32))] [])) (fun t kt => XS.goto X21.here hx rfl (pc0 := 181) (pc' := 50) rfl (hb hby own_d10_181) (by decide) (by decide) kt) ?_
      exact hd3 _ _ _ _ _ X21 e21 N21 (Or.inr ⟨_, rfl, rfl⟩) (Or.inr ⟨_, rfl, rfl⟩) (Or.inr ⟨_, rfl, rfl⟩)
    · refine own_go (g' := (mkF m 136 #[.val (.ref a1), .val (.int (2 : Int32)), .val (.int u2), sl3, sl4] [])) (fun t kt => XS.icmpYes X18.here hx rfl (pc0 := 67) (pc' := 136) rfl (hb hby own_d10_67) rfl (feq hc19).2 (by decide) (by decide) kt) ?_
      refine own_go (g' := (mkF m 137 #[.val (.ref a1), .val (.int (2 : Int32)), .val (.int u2), sl3, sl4] [(.int u2)])) (fun t kt => XS.iloadN X18.here hx rfl (hb hby own_d10_136) rfl kt) ?_
      refine own_callS X18 hx hZ (W := 0) (argsL := [(.int u2)]) (rest := []) hown (hw _ (List.mem_of_getElem? (i := 81) rfl)) (hw _ (List.mem_of_getElem? (i := 82) rfl)) (hw _ (List.mem_of_getElem? (i := 42) rfl)) (hw _ (List.mem_of_getElem? (i := 83) rfl)) (by decide) (own_isname l Z a0 hw u2 h0 n0 Z0) (by decide) (by decide) (g := (mkF m 137 #[.val (.ref a1), .val (.int (2 : Int32)), .val (.int u2), sl3, sl4] [(.int u2)])) rfl (by rw [hml]; rfl) (lenOf own_pd4 rfl) rfl (by show 2 * 0 + _ ≤ _; exact Nat.le_of_eq rfl) (hb hby own_d10_137) e18 N18 (by decide) (by decide) (fun v22 T22 L22 X22 N22 hq22 => ?_)
      obtain ⟨rfl, e22⟩ := hq22
      show OEnds _ _ _ _ _ _ T22 (mkF m 140 #[.val (.ref a1), .val (.int (2 : Int32)), .val (.int u2), sl3, sl4] [(.int (own_isn u2))])
      refine own_go (g' := (mkF m 178 #[.val (.ref a1), .val (.int (2 : Int32)), .val (.int u2), sl3, sl4] [])) (fun t kt => XS.ifYes X22.here hx rfl (pc0 := 140) (pc' := 178) rfl (hb hby own_d10_140) rfl ((if0 _ _).trans (feq ((own_nz (own_one k2 hc19)) : ¬ ((own_isn u2) = (0 : Int32)))).2) (by decide) (by decide) kt) ?_
      refine own_go (g' := (mkF m 181 #[.val (.ref a1), .val (.int (3 : Int32)), .val (.int u2), sl3, sl4] [])) (fun t kt => XS.iinc X22.here hx rfl (hb hby own_d10_178) rfl (l' := #[.val (.ref a1), .val (.int (3 : Int32)), .val (.int u2), sl3, sl4]) rfl kt) ?_
      refine own_go (g' := (mkF m 50 #[.val (.ref a1), .val (.int (3 : Int32)), .val (.int u2), sl3, sl4] [])) (fun t kt => XS.goto X22.here hx rfl (pc0 := 181) (pc' := 50) rfl (hb hby own_d10_181) (by decide) (by decide) kt) ?_
      exact hd3 _ _ _ _ _ X22 e22 N22 (Or.inr ⟨_, rfl, rfl⟩) hsl3 hsl4
  have hd1 : ∀ (T : State) (locs : List Loc) (sl2 sl3 sl4 : Slot), Stand p l e ({ frames := 4, cells := 0, slots := 0, locals := 60 } : Room) s m #[(.ref a1)] below meth c T locs 0 0 → T.heap = h0 → Fr n0 locs → own_One sl2 → own_One sl3 → own_One sl4 → OEnds p e below (fun o t L => FrameEnd s o t L (({ frames := 4, cells := 0, slots := 0, locals := 60 } : Room)).cells (({ frames := 4, cells := 0, slots := 0, locals := 60 } : Room)).slots) n0 (fun v h => v = some (.ref a1) ∧ h = h0) T (mkF m 50 #[.val (.ref a1), .val (.int (1 : Int32)), sl2, sl3, sl4] []) := by
    intro T23 L23 sl2 sl3 sl4 X23 e23 N23 hsl2 hsl3 hsl4
    refine own_go (g' := (mkF m 51 #[.val (.ref a1), .val (.int (1 : Int32)), sl2, sl3, sl4] [(.int (1 : Int32))])) (fun t kt => XS.iloadN X23.here hx rfl (hb hby own_d10_50) rfl kt) ?_
    refine own_go (g' := (mkF m 52 #[.val (.ref a1), .val (.int (1 : Int32)), sl2, sl3, sl4] [(.ref a1), (.int (1 : Int32))])) (fun t kt => XS.aloadN X23.here hx rfl (hb hby own_d10_51) rfl rfl kt) ?_
    refine own_callVB X23 hx hZ (a := a1) (W := 1) (argsL := []) (rest := [(.int (1 : Int32))]) (c1 := 0) (s1 := 0) (Qc := fun v h' L => (v = some (.int (Int32.ofNat (List.length ([u0, u1, u2, u3, u4] : List Int32))))) ∧ L = [] ∧ h' = h0) hown (hw _ (List.mem_of_getElem? (i := 49) rfl)) (hw _ (List.mem_of_getElem? (i := 50) rfl)) (hw _ (List.mem_of_getElem? (i := 52) rfl)) (hw _ (List.mem_of_getElem? (i := 51) rfl)) (by decide) (StrChars.Road.lenW (W := 1) hZ (fun d hd => hw d (own_wl d hd)) (kI := 4) (hw _ (List.mem_of_getElem? (i := 11) rfl)) Ea Gv Gc Vb hcd hbd S_c hcs (Nat.le_of_ble_eq_true rfl) (by decide) (by decide)) Ea (g := (mkF m 52 #[.val (.ref a1), .val (.int (1 : Int32)), sl2, sl3, sl4] [(.ref a1), (.int (1 : Int32))])) rfl (by rw [hml]; rfl) (lenOf own_pd3 rfl) rfl (by show 2 * 0 + _ ≤ _; exact Nat.le_of_eq rfl) (hb hby own_d10_52) e23 (by decide) (by decide) (fun v24 T24 L24 X24 hq24 => ?_)
    obtain ⟨rfl, rfl, e24⟩ := hq24
    have N24 := Fr.app N23 (Fr.nil n0)
    show OEnds _ _ _ _ _ _ T24 (mkF m 55 #[.val (.ref a1), .val (.int (1 : Int32)), sl2, sl3, sl4] [(.int (5 : Int32)), (.int (1 : Int32))])
    refine own_go (g' := (mkF m 58 #[.val (.ref a1), .val (.int (1 : Int32)), sl2, sl3, sl4] [])) (fun t kt => XS.icmpNo X24.here hx rfl (hb hby own_d10_55) rfl (tlt ((by decide) : (1 : Int32) < (5 : Int32))).2.1 kt) ?_
    refine own_go (g' := (mkF m 59 #[.val (.ref a1), .val (.int (1 : Int32)), sl2, sl3, sl4] [(.ref a1)])) (fun t kt => XS.aloadN X24.here hx rfl (hb hby own_d10_58) rfl rfl kt) ?_
    refine own_go (g' := (mkF m 60 #[.val (.ref a1), .val (.int (1 : Int32)), sl2, sl3, sl4] [(.int (1 : Int32)), (.ref a1)])) (fun t kt => XS.iloadN X24.here hx rfl (hb hby own_d10_59) rfl kt) ?_
    refine own_callVB X24 hx hZ (a := a1) (W := 0) (argsL := [(.int (1 : Int32))]) (rest := []) (c1 := 0) (s1 := 0) (Qc := fun v h' L => (v = some (.int (List.getD ([u0, u1, u2, u3, u4] : List Int32) 1 0))) ∧ L = [] ∧ h' = h0) hown (hw _ (List.mem_of_getElem? (i := 59) rfl)) (hw _ (List.mem_of_getElem? (i := 60) rfl)) (hw _ (List.mem_of_getElem? (i := 62) rfl)) (hw _ (List.mem_of_getElem? (i := 61) rfl)) (by decide) (StrChars.Road.chN (W := 0) hZ (fun d hd => hw d (own_wc d hd)) (kI := 4) (hw _ (List.mem_of_getElem? (i := 11) rfl)) Ea Gv Gc Vb hcd hbd S_c hcs S_f hsv (Nat.le_of_ble_eq_true rfl) (i := 1) (Nat.le_of_ble_eq_true rfl) (j := (1 : Int32)) rfl (by decide) (by decide)) Ea (g := (mkF m 60 #[.val (.ref a1), .val (.int (1 : Int32)), sl2, sl3, sl4] [(.int (1 : Int32)), (.ref a1)])) rfl (by rw [hml]; rfl) (lenOf own_pd0 rfl) rfl (by show 2 * 0 + _ ≤ _; exact Nat.le_of_eq rfl) (hb hby own_d10_60) e24 (by decide) (by decide) (fun v25 T25 L25 X25 hq25 => ?_)
    obtain ⟨rfl, rfl, e25⟩ := hq25
    have N25 := Fr.app N24 (Fr.nil n0)
    show OEnds _ _ _ _ _ _ T25 (mkF m 63 #[.val (.ref a1), .val (.int (1 : Int32)), sl2, sl3, sl4] [(.int u1)])
    refine own_go (g' := (mkF m 64 #[.val (.ref a1), .val (.int (1 : Int32)), .val (.int u1), sl3, sl4] [])) (fun t kt => XS.istoreN X25.here hx rfl (hb hby own_d10_63) rfl (l' := #[.val (.ref a1), .val (.int (1 : Int32)), .val (.int u1), sl3, sl4]) (XS.store1 (o := sl2) rfl hsl2 rfl) kt) ?_
    refine own_go (g' := (mkF m 65 #[.val (.ref a1), .val (.int (1 : Int32)), .val (.int u1), sl3, sl4] [(.int u1)])) (fun t kt => XS.iloadN X25.here hx rfl (hb hby own_d10_64) rfl kt) ?_
    refine own_go (g' := (mkF m 67 #[.val (.ref a1), .val (.int (1 : Int32)), .val (.int u1), sl3, sl4] [(.int (47 : Int32)), (.int u1)])) (fun t kt => XS.bipush X25.here hx rfl (hb hby own_d10_65) kt) ?_
    by_cases hc26 : u1 = (47 : Int32)
    · refine own_go (g' := (mkF m 70 #[.val (.ref a1), .val (.int (1 : Int32)), .val (.int u1), sl3, sl4] [])) (fun t kt => XS.icmpNo X25.here hx rfl (hb hby own_d10_67) rfl (teq hc26).2 kt) ?_
      refine own_go (g' := (mkF m 71 #[.val (.ref a1), .val (.int (1 : Int32)), .val (.int u1), sl3, sl4] [(.int (1 : Int32))])) (fun t kt => XS.iloadN X25.here hx rfl (hb hby own_d10_70) rfl kt) ?_
      refine own_go (g' := (mkF m 74 #[.val (.ref a1), .val (.int (1 : Int32)), .val (.int u1), sl3, sl4] [])) (fun t kt => XS.ifNo X25.here hx rfl (hb hby own_d10_71) rfl ((if0 _ _).trans (tlt ((by decide) : (0 : Int32) < (1 : Int32))).2.2.2) kt) ?_
      refine own_go (g' := (mkF m 75 #[.val (.ref a1), .val (.int (1 : Int32)), .val (.int u1), sl3, sl4] [(.ref a1)])) (fun t kt => XS.aloadN X25.here hx rfl (hb hby own_d10_74) rfl rfl kt) ?_
      refine own_go (g' := (mkF m 76 #[.val (.ref a1), .val (.int (1 : Int32)), .val (.int u1), sl3, sl4] [(.int (1 : Int32)), (.ref a1)])) (fun t kt => XS.iloadN X25.here hx rfl (hb hby own_d10_75) rfl kt) ?_
      refine own_go (g' := (mkF m 77 #[.val (.ref a1), .val (.int (1 : Int32)), .val (.int u1), sl3, sl4] [(.int (1 : Int32)), (.int (1 : Int32)), (.ref a1)])) (fun t kt => XS.iconst X25.here hx rfl (hb hby own_d10_76) kt) ?_
      refine own_go (g' := (mkF m 78 #[.val (.ref a1), .val (.int (1 : Int32)), .val (.int u1), sl3, sl4] [(.int (0 : Int32)), (.ref a1)])) (fun t kt => XS.isub X25.here hx rfl (hb hby own_d10_77) rfl kt) ?_
      refine own_callVB X25 hx hZ (a := a1) (W := 0) (argsL := [(.int (0 : Int32))]) (rest := []) (c1 := 0) (s1 := 0) (Qc := fun v h' L => (v = some (.int (List.getD ([u0, u1, u2, u3, u4] : List Int32) 0 0))) ∧ L = [] ∧ h' = h0) hown (hw _ (List.mem_of_getElem? (i := 59) rfl)) (hw _ (List.mem_of_getElem? (i := 60) rfl)) (hw _ (List.mem_of_getElem? (i := 62) rfl)) (hw _ (List.mem_of_getElem? (i := 61) rfl)) (by decide) (StrChars.Road.chN (W := 0) hZ (fun d hd => hw d (own_wc d hd)) (kI := 4) (hw _ (List.mem_of_getElem? (i := 11) rfl)) Ea Gv Gc Vb hcd hbd S_c hcs S_f hsv (Nat.le_of_ble_eq_true rfl) (i := 0) (Nat.le_of_ble_eq_true rfl) (j := (0 : Int32)) rfl (by decide) (by decide)) Ea (g := (mkF m 78 #[.val (.ref a1), .val (.int (1 : Int32)), .val (.int u1), sl3, sl4] [(.int (0 : Int32)), (.ref a1)])) rfl (by rw [hml]; rfl) (lenOf own_pd0 rfl) rfl (by show 2 * 0 + _ ≤ _; exact Nat.le_of_eq rfl) (hb hby own_d10_78) e25 (by decide) (by decide) (fun v27 T27 L27 X27 hq27 => ?_)
      obtain ⟨rfl, rfl, e27⟩ := hq27
      have N27 := Fr.app N25 (Fr.nil n0)
      show OEnds _ _ _ _ _ _ T27 (mkF m 81 #[.val (.ref a1), .val (.int (1 : Int32)), .val (.int u1), sl3, sl4] [(.int u0)])
      refine own_go (g' := (mkF m 83 #[.val (.ref a1), .val (.int (1 : Int32)), .val (.int u1), sl3, sl4] [(.int (47 : Int32)), (.int u0)])) (fun t kt => XS.bipush X27.here hx rfl (hb hby own_d10_81) kt) ?_
      refine own_go (g' := (mkF m 86 #[.val (.ref a1), .val (.int (1 : Int32)), .val (.int u1), sl3, sl4] [])) (fun t kt => XS.icmpNo X27.here hx rfl (hb hby own_d10_83) rfl (feq ((own_prev k1 hc26) : ¬ (u0 = (47 : Int32)))).1 kt) ?_
      refine own_go (g' := (mkF m 87 #[.val (.ref a1), .val (.int (1 : Int32)), .val (.int u1), sl3, sl4] [(.int (1 : Int32))])) (fun t kt => XS.iconst X27.here hx rfl (hb hby own_d10_86) kt) ?_
      refine own_go (g' := (mkF m 91 #[.val (.ref a1), .val (.int (1 : Int32)), .val (.int u1), sl3, sl4] [(.int (1 : Int32))])) (fun t kt => XS.goto X27.here hx rfl (pc0 := 87) (pc' := 91) rfl (hb hby own_d10_87) (by decide) (by decide) kt) ?_
      refine own_go (g' := (mkF m 92 #[.val (.ref a1), .val (.int (1 : Int32)), .val (.int u1), .val (.int (1 : Int32)), sl4] [])) (fun t kt => XS.istoreN X27.here hx rfl (hb hby own_d10_91) rfl (l' := #[.val (.ref a1), .val (.int (1 : Int32)), .val (.int u1), .val (.int (1 : Int32)), sl4]) (XS.store1 (o := sl3) rfl hsl3 rfl) kt) ?_
      refine own_go (g' := (mkF m 93 #[.val (.ref a1), .val (.int (1 : Int32)), .val (.int u1), .val (.int (1 : Int32)), sl4] [(.int (1 : Int32))])) (fun t kt => XS.iloadN X27.here hx rfl (hb hby own_d10_92) rfl kt) ?_
      refine own_go (g' := (mkF m 94 #[.val (.ref a1), .val (.int (1 : Int32)), .val (.int u1), .val (.int (1 : Int32)), sl4] [(.ref a1), (.int (1 : Int32))])) (fun t kt => XS.aloadN X27.here hx rfl (hb hby own_d10_93) rfl rfl kt) ?_
      refine own_callVB X27 hx hZ (a := a1) (W := 1) (argsL := []) (rest := [(.int (1 : Int32))]) (c1 := 0) (s1 := 0) (Qc := fun v h' L => (v = some (.int (Int32.ofNat (List.length ([u0, u1, u2, u3, u4] : List Int32))))) ∧ L = [] ∧ h' = h0) hown (hw _ (List.mem_of_getElem? (i := 49) rfl)) (hw _ (List.mem_of_getElem? (i := 50) rfl)) (hw _ (List.mem_of_getElem? (i := 52) rfl)) (hw _ (List.mem_of_getElem? (i := 51) rfl)) (by decide) (StrChars.Road.lenW (W := 1) hZ (fun d hd => hw d (own_wl d hd)) (kI := 4) (hw _ (List.mem_of_getElem? (i := 11) rfl)) Ea Gv Gc Vb hcd hbd S_c hcs (Nat.le_of_ble_eq_true rfl) (by decide) (by decide)) Ea (g := (mkF m 94 #[.val (.ref a1), .val (.int (1 : Int32)), .val (.int u1), .val (.int (1 : Int32)), sl4] [(.ref a1), (.int (1 : Int32))])) rfl (by rw [hml]; rfl) (lenOf own_pd3 rfl) rfl (by show 2 * 0 + _ ≤ _; exact Nat.le_of_eq rfl) (hb hby own_d10_94) e27 (by decide) (by decide) (fun v28 T28 L28 X28 hq28 => ?_)
      obtain ⟨rfl, rfl, e28⟩ := hq28
      have N28 := Fr.app N27 (Fr.nil n0)
      show OEnds _ _ _ _ _ _ T28 (mkF m 97 #[.val (.ref a1), .val (.int (1 : Int32)), .val (.int u1), .val (.int (1 : Int32)), sl4] [(.int (5 : Int32)), (.int (1 : Int32))])
      refine own_go (g' := (mkF m 98 #[.val (.ref a1), .val (.int (1 : Int32)), .val (.int u1), .val (.int (1 : Int32)), sl4] [(.int (1 : Int32)), (.int (5 : Int32)), (.int (1 : Int32))])) (fun t kt => XS.iconst X28.here hx rfl (hb hby own_d10_97) kt) ?_
      refine own_go (g' := (mkF m 99 #[.val (.ref a1), .val (.int (1 : Int32)), .val (.int u1), .val (.int (1 : Int32)), sl4] [(.int (4 : Int32)), (.int (1 : Int32))])) (fun t kt => XS.isub X28.here hx rfl (hb hby own_d10_98) rfl kt) ?_
      refine own_go (g' := (mkF m 102 #[.val (.ref a1), .val (.int (1 : Int32)), .val (.int u1), .val (.int (1 : Int32)), sl4] [])) (fun t kt => XS.icmpNo X28.here hx rfl (hb hby own_d10_99) rfl (tlt ((by decide) : (1 : Int32) < (4 : Int32))).2.1 kt) ?_
      refine own_go (g' := (mkF m 103 #[.val (.ref a1), .val (.int (1 : Int32)), .val (.int u1), .val (.int (1 : Int32)), sl4] [(.int (1 : Int32))])) (fun t kt => XS.iconst X28.here hx rfl (hb hby own_d10_102) kt) ?_
      refine own_go (g' := (mkF m 107 #[.val (.ref a1), .val (.int (1 : Int32)), .val (.int u1), .val (.int (1 : Int32)), sl4] [(.int (1 : Int32))])) (fun t kt => XS.goto X28.here hx rfl (pc0 := 103) (pc' := 107) rfl (hb hby own_d10_103) (by decide) (by decide) kt) ?_
      refine own_go (g' := (mkF m 109 #[.val (.ref a1), .val (.int (1 : Int32)), .val (.int u1), .val (.int (1 : Int32)), .val (.int (1 : Int32))] [])) (fun t kt => XS.istore X28.here hx rfl (hb hby own_d10_107) rfl (l' := #[.val (.ref a1), .val (.int (1 : Int32)), .val (.int u1), .val (.int (1 : Int32)), .val (.int (1 : Int32))]) (XS.store1 (o := sl4) rfl hsl4 rfl) kt) ?_
      refine own_go (g' := (mkF m 110 #[.val (.ref a1), .val (.int (1 : Int32)), .val (.int u1), .val (.int (1 : Int32)), .val (.int (1 : Int32))] [(.int (1 : Int32))])) (fun t kt => XS.iloadN X28.here hx rfl (hb hby own_d10_109) rfl kt) ?_
      refine own_go (g' := (mkF m 113 #[.val (.ref a1), .val (.int (1 : Int32)), .val (.int u1), .val (.int (1 : Int32)), .val (.int (1 : Int32))] [])) (fun t kt => XS.ifNo X28.here hx rfl (hb hby own_d10_110) rfl ((if0 _ _).trans (feq ((by decide) : ¬ ((1 : Int32) = (0 : Int32)))).1) kt) ?_
      refine own_go (g' := (mkF m 115 #[.val (.ref a1), .val (.int (1 : Int32)), .val (.int u1), .val (.int (1 : Int32)), .val (.int (1 : Int32))] [(.int (1 : Int32))])) (fun t kt => XS.iload X28.here hx rfl (hb hby own_d10_113) rfl kt) ?_
      refine own_go (g' := (mkF m 133 #[.val (.ref a1), .val (.int (1 : Int32)), .val (.int u1), .val (.int (1 : Int32)), .val (.int (1 : Int32))] [])) (fun t kt => XS.ifYes X28.here hx rfl (pc0 := 115) (pc' := 133) rfl (hb hby own_d10_115) rfl ((if0 _ _).trans (feq ((by decide) : ¬ ((1 : Int32) = (0 : Int32)))).2) (by decide) (by decide) kt) ?_
      refine own_go (g' := (mkF m 178 #[.val (.ref a1), .val (.int (1 : Int32)), .val (.int u1), .val (.int (1 : Int32)), .val (.int (1 : Int32))] [])) (fun t kt => XS.goto X28.here hx rfl (pc0 := 133) (pc' := 178) rfl (hb hby own_d10_133) (by decide) (by decide) kt) ?_
      refine own_go (g' := (mkF m 181 #[.val (.ref a1), .val (.int (2 : Int32)), .val (.int u1), .val (.int (1 : Int32)), .val (.int (1 : Int32))] [])) (fun t kt => XS.iinc X28.here hx rfl (hb hby own_d10_178) rfl (l' := #[.val (.ref a1), .val (.int (2 : Int32)), .val (.int u1), .val (.int (1 : Int32)), .val (.int (1 : Int32))]) rfl kt) ?_
      refine own_go (g' := (mkF m 50 #[.val (.ref a1), .val (.int (2 : Int32)), .val (.int u1), .val (.int (1 : Int32)), .val (.int (1 : Int32))] [])) (fun t kt => XS.goto X28.here hx rfl (pc0 := 181) (pc' := 50) rfl (hb hby own_d10_181) (by decide) (by decide) kt) ?_
      exact hd2 _ _ _ _ _ X28 e28 N28 (Or.inr ⟨_, rfl, rfl⟩) (Or.inr ⟨_, rfl, rfl⟩) (Or.inr ⟨_, rfl, rfl⟩)
    · refine own_go (g' := (mkF m 136 #[.val (.ref a1), .val (.int (1 : Int32)), .val (.int u1), sl3, sl4] [])) (fun t kt => XS.icmpYes X25.here hx rfl (pc0 := 67) (pc' := 136) rfl (hb hby own_d10_67) rfl (feq hc26).2 (by decide) (by decide) kt) ?_
      refine own_go (g' := (mkF m 137 #[.val (.ref a1), .val (.int (1 : Int32)), .val (.int u1), sl3, sl4] [(.int u1)])) (fun t kt => XS.iloadN X25.here hx rfl (hb hby own_d10_136) rfl kt) ?_
      refine own_callS X25 hx hZ (W := 0) (argsL := [(.int u1)]) (rest := []) hown (hw _ (List.mem_of_getElem? (i := 81) rfl)) (hw _ (List.mem_of_getElem? (i := 82) rfl)) (hw _ (List.mem_of_getElem? (i := 42) rfl)) (hw _ (List.mem_of_getElem? (i := 83) rfl)) (by decide) (own_isname l Z a0 hw u1 h0 n0 Z0) (by decide) (by decide) (g := (mkF m 137 #[.val (.ref a1), .val (.int (1 : Int32)), .val (.int u1), sl3, sl4] [(.int u1)])) rfl (by rw [hml]; rfl) (lenOf own_pd4 rfl) rfl (by show 2 * 0 + _ ≤ _; exact Nat.le_of_eq rfl) (hb hby own_d10_137) e25 N25 (by decide) (by decide) (fun v29 T29 L29 X29 N29 hq29 => ?_)
      obtain ⟨rfl, e29⟩ := hq29
      show OEnds _ _ _ _ _ _ T29 (mkF m 140 #[.val (.ref a1), .val (.int (1 : Int32)), .val (.int u1), sl3, sl4] [(.int (own_isn u1))])
      refine own_go (g' := (mkF m 178 #[.val (.ref a1), .val (.int (1 : Int32)), .val (.int u1), sl3, sl4] [])) (fun t kt => XS.ifYes X29.here hx rfl (pc0 := 140) (pc' := 178) rfl (hb hby own_d10_140) rfl ((if0 _ _).trans (feq ((own_nz (own_one k1 hc26)) : ¬ ((own_isn u1) = (0 : Int32)))).2) (by decide) (by decide) kt) ?_
      refine own_go (g' := (mkF m 181 #[.val (.ref a1), .val (.int (2 : Int32)), .val (.int u1), sl3, sl4] [])) (fun t kt => XS.iinc X29.here hx rfl (hb hby own_d10_178) rfl (l' := #[.val (.ref a1), .val (.int (2 : Int32)), .val (.int u1), sl3, sl4]) rfl kt) ?_
      refine own_go (g' := (mkF m 50 #[.val (.ref a1), .val (.int (2 : Int32)), .val (.int u1), sl3, sl4] [])) (fun t kt => XS.goto X29.here hx rfl (pc0 := 181) (pc' := 50) rfl (hb hby own_d10_181) (by decide) (by decide) kt) ?_
      exact hd2 _ _ _ _ _ X29 e29 N29 (Or.inr ⟨_, rfl, rfl⟩) hsl3 hsl4
  have hd0 : ∀ (T : State) (locs : List Loc) (sl2 sl3 sl4 : Slot), Stand p l e ({ frames := 4, cells := 0, slots := 0, locals := 60 } : Room) s m #[(.ref a1)] below meth c T locs 0 0 → T.heap = h0 → Fr n0 locs → own_One sl2 → own_One sl3 → own_One sl4 → OEnds p e below (fun o t L => FrameEnd s o t L (({ frames := 4, cells := 0, slots := 0, locals := 60 } : Room)).cells (({ frames := 4, cells := 0, slots := 0, locals := 60 } : Room)).slots) n0 (fun v h => v = some (.ref a1) ∧ h = h0) T (mkF m 50 #[.val (.ref a1), .val (.int (0 : Int32)), sl2, sl3, sl4] []) := by
    intro T30 L30 sl2 sl3 sl4 X30 e30 N30 hsl2 hsl3 hsl4
    refine own_go (g' := (mkF m 51 #[.val (.ref a1), .val (.int (0 : Int32)), sl2, sl3, sl4] [(.int (0 : Int32))])) (fun t kt => XS.iloadN X30.here hx rfl (hb hby own_d10_50) rfl kt) ?_
    refine own_go (g' := (mkF m 52 #[.val (.ref a1), .val (.int (0 : Int32)), sl2, sl3, sl4] [(.ref a1), (.int (0 : Int32))])) (fun t kt => XS.aloadN X30.here hx rfl (hb hby own_d10_51) rfl rfl kt) ?_
    refine own_callVB X30 hx hZ (a := a1) (W := 1) (argsL := []) (rest := [(.int (0 : Int32))]) (c1 := 0) (s1 := 0) (Qc := fun v h' L => (v = some (.int (Int32.ofNat (List.length ([u0, u1, u2, u3, u4] : List Int32))))) ∧ L = [] ∧ h' = h0) hown (hw _ (List.mem_of_getElem? (i := 49) rfl)) (hw _ (List.mem_of_getElem? (i := 50) rfl)) (hw _ (List.mem_of_getElem? (i := 52) rfl)) (hw _ (List.mem_of_getElem? (i := 51) rfl)) (by decide) (StrChars.Road.lenW (W := 1) hZ (fun d hd => hw d (own_wl d hd)) (kI := 4) (hw _ (List.mem_of_getElem? (i := 11) rfl)) Ea Gv Gc Vb hcd hbd S_c hcs (Nat.le_of_ble_eq_true rfl) (by decide) (by decide)) Ea (g := (mkF m 52 #[.val (.ref a1), .val (.int (0 : Int32)), sl2, sl3, sl4] [(.ref a1), (.int (0 : Int32))])) rfl (by rw [hml]; rfl) (lenOf own_pd3 rfl) rfl (by show 2 * 0 + _ ≤ _; exact Nat.le_of_eq rfl) (hb hby own_d10_52) e30 (by decide) (by decide) (fun v31 T31 L31 X31 hq31 => ?_)
    obtain ⟨rfl, rfl, e31⟩ := hq31
    have N31 := Fr.app N30 (Fr.nil n0)
    show OEnds _ _ _ _ _ _ T31 (mkF m 55 #[.val (.ref a1), .val (.int (0 : Int32)), sl2, sl3, sl4] [(.int (5 : Int32)), (.int (0 : Int32))])
    refine own_go (g' := (mkF m 58 #[.val (.ref a1), .val (.int (0 : Int32)), sl2, sl3, sl4] [])) (fun t kt => XS.icmpNo X31.here hx rfl (hb hby own_d10_55) rfl (tlt ((by decide) : (0 : Int32) < (5 : Int32))).2.1 kt) ?_
    refine own_go (g' := (mkF m 59 #[.val (.ref a1), .val (.int (0 : Int32)), sl2, sl3, sl4] [(.ref a1)])) (fun t kt => XS.aloadN X31.here hx rfl (hb hby own_d10_58) rfl rfl kt) ?_
    refine own_go (g' := (mkF m 60 #[.val (.ref a1), .val (.int (0 : Int32)), sl2, sl3, sl4] [(.int (0 : Int32)), (.ref a1)])) (fun t kt => XS.iloadN X31.here hx rfl (hb hby own_d10_59) rfl kt) ?_
    refine own_callVB X31 hx hZ (a := a1) (W := 0) (argsL := [(.int (0 : Int32))]) (rest := []) (c1 := 0) (s1 := 0) (Qc := fun v h' L => (v = some (.int (List.getD ([u0, u1, u2, u3, u4] : List Int32) 0 0))) ∧ L = [] ∧ h' = h0) hown (hw _ (List.mem_of_getElem? (i := 59) rfl)) (hw _ (List.mem_of_getElem? (i := 60) rfl)) (hw _ (List.mem_of_getElem? (i := 62) rfl)) (hw _ (List.mem_of_getElem? (i := 61) rfl)) (by decide) (StrChars.Road.chN (W := 0) hZ (fun d hd => hw d (own_wc d hd)) (kI := 4) (hw _ (List.mem_of_getElem? (i := 11) rfl)) Ea Gv Gc Vb hcd hbd S_c hcs S_f hsv (Nat.le_of_ble_eq_true rfl) (i := 0) (Nat.le_of_ble_eq_true rfl) (j := (0 : Int32)) rfl (by decide) (by decide)) Ea (g := (mkF m 60 #[.val (.ref a1), .val (.int (0 : Int32)), sl2, sl3, sl4] [(.int (0 : Int32)), (.ref a1)])) rfl (by rw [hml]; rfl) (lenOf own_pd0 rfl) rfl (by show 2 * 0 + _ ≤ _; exact Nat.le_of_eq rfl) (hb hby own_d10_60) e31 (by decide) (by decide) (fun v32 T32 L32 X32 hq32 => ?_)
    obtain ⟨rfl, rfl, e32⟩ := hq32
    have N32 := Fr.app N31 (Fr.nil n0)
    show OEnds _ _ _ _ _ _ T32 (mkF m 63 #[.val (.ref a1), .val (.int (0 : Int32)), sl2, sl3, sl4] [(.int u0)])
    refine own_go (g' := (mkF m 64 #[.val (.ref a1), .val (.int (0 : Int32)), .val (.int u0), sl3, sl4] [])) (fun t kt => XS.istoreN X32.here hx rfl (hb hby own_d10_63) rfl (l' := #[.val (.ref a1), .val (.int (0 : Int32)), .val (.int u0), sl3, sl4]) (XS.store1 (o := sl2) rfl hsl2 rfl) kt) ?_
    refine own_go (g' := (mkF m 65 #[.val (.ref a1), .val (.int (0 : Int32)), .val (.int u0), sl3, sl4] [(.int u0)])) (fun t kt => XS.iloadN X32.here hx rfl (hb hby own_d10_64) rfl kt) ?_
    refine own_go (g' := (mkF m 67 #[.val (.ref a1), .val (.int (0 : Int32)), .val (.int u0), sl3, sl4] [(.int (47 : Int32)), (.int u0)])) (fun t kt => XS.bipush X32.here hx rfl (hb hby own_d10_65) kt) ?_
    refine own_go (g' := (mkF m 136 #[.val (.ref a1), .val (.int (0 : Int32)), .val (.int u0), sl3, sl4] [])) (fun t kt => XS.icmpYes X32.here hx rfl (pc0 := 67) (pc' := 136) rfl (hb hby own_d10_67) rfl (feq ((own_n47 k0) : ¬ (u0 = (47 : Int32)))).2 (by decide) (by decide) kt) ?_
    refine own_go (g' := (mkF m 137 #[.val (.ref a1), .val (.int (0 : Int32)), .val (.int u0), sl3, sl4] [(.int u0)])) (fun t kt => XS.iloadN X32.here hx rfl (hb hby own_d10_136) rfl kt) ?_
    refine own_callS X32 hx hZ (W := 0) (argsL := [(.int u0)]) (rest := []) hown (hw _ (List.mem_of_getElem? (i := 81) rfl)) (hw _ (List.mem_of_getElem? (i := 82) rfl)) (hw _ (List.mem_of_getElem? (i := 42) rfl)) (hw _ (List.mem_of_getElem? (i := 83) rfl)) (by decide) (own_isname l Z a0 hw u0 h0 n0 Z0) (by decide) (by decide) (g := (mkF m 137 #[.val (.ref a1), .val (.int (0 : Int32)), .val (.int u0), sl3, sl4] [(.int u0)])) rfl (by rw [hml]; rfl) (lenOf own_pd4 rfl) rfl (by show 2 * 0 + _ ≤ _; exact Nat.le_of_eq rfl) (hb hby own_d10_137) e32 N32 (by decide) (by decide) (fun v33 T33 L33 X33 N33 hq33 => ?_)
    obtain ⟨rfl, e33⟩ := hq33
    show OEnds _ _ _ _ _ _ T33 (mkF m 140 #[.val (.ref a1), .val (.int (0 : Int32)), .val (.int u0), sl3, sl4] [(.int (own_isn u0))])
    refine own_go (g' := (mkF m 178 #[.val (.ref a1), .val (.int (0 : Int32)), .val (.int u0), sl3, sl4] [])) (fun t kt => XS.ifYes X33.here hx rfl (pc0 := 140) (pc' := 178) rfl (hb hby own_d10_140) rfl ((if0 _ _).trans (feq ((own_nz k0) : ¬ ((own_isn u0) = (0 : Int32)))).2) (by decide) (by decide) kt) ?_
    refine own_go (g' := (mkF m 181 #[.val (.ref a1), .val (.int (1 : Int32)), .val (.int u0), sl3, sl4] [])) (fun t kt => XS.iinc X33.here hx rfl (hb hby own_d10_178) rfl (l' := #[.val (.ref a1), .val (.int (1 : Int32)), .val (.int u0), sl3, sl4]) rfl kt) ?_
    refine own_go (g' := (mkF m 50 #[.val (.ref a1), .val (.int (1 : Int32)), .val (.int u0), sl3, sl4] [])) (fun t kt => XS.goto X33.here hx rfl (pc0 := 181) (pc' := 50) rfl (hb hby own_d10_181) (by decide) (by decide) kt) ?_
    exact hd1 _ _ _ _ _ X33 e33 N33 (Or.inr ⟨_, rfl, rfl⟩) hsl3 hsl4
  exact hd0 _ _ _ _ _ X2 e2 N2 (Or.inl rfl) (Or.inl rfl) (Or.inl rfl)
theorem own_d3_146 : decode method_4_code 146 = .ok (.new 13, 3) := by decide +kernel
theorem own_d3_149 : decode method_4_code 149 = .ok (.dup, 1) := by decide +kernel
theorem own_d3_150 : decode method_4_code 150 = .ok (.bipush 6, 2) := by decide +kernel
theorem own_d3_152 : decode method_4_code 152 = .ok (.newarray .char, 2) := by decide +kernel
theorem own_d3_154 : decode method_4_code 154 = .ok (.dup, 1) := by decide +kernel
theorem own_d3_155 : decode method_4_code 155 = .ok (.iconst 0, 1) := by decide +kernel
theorem own_d3_156 : decode method_4_code 156 = .ok (.iload_n 0, 1) := by decide +kernel
theorem own_d3_157 : decode method_4_code 157 = .ok (.castore, 1) := by decide +kernel
theorem own_d3_158 : decode method_4_code 158 = .ok (.dup, 1) := by decide +kernel
theorem own_d3_159 : decode method_4_code 159 = .ok (.iconst 1, 1) := by decide +kernel
theorem own_d3_160 : decode method_4_code 160 = .ok (.iload_n 1, 1) := by decide +kernel
theorem own_d3_161 : decode method_4_code 161 = .ok (.castore, 1) := by decide +kernel
theorem own_d3_162 : decode method_4_code 162 = .ok (.dup, 1) := by decide +kernel
theorem own_d3_163 : decode method_4_code 163 = .ok (.iconst 2, 1) := by decide +kernel
theorem own_d3_164 : decode method_4_code 164 = .ok (.iload_n 2, 1) := by decide +kernel
theorem own_d3_165 : decode method_4_code 165 = .ok (.castore, 1) := by decide +kernel
theorem own_d3_166 : decode method_4_code 166 = .ok (.dup, 1) := by decide +kernel
theorem own_d3_167 : decode method_4_code 167 = .ok (.iconst 3, 1) := by decide +kernel
theorem own_d3_168 : decode method_4_code 168 = .ok (.iload_n 3, 1) := by decide +kernel
theorem own_d3_169 : decode method_4_code 169 = .ok (.castore, 1) := by decide +kernel
theorem own_d3_170 : decode method_4_code 170 = .ok (.dup, 1) := by decide +kernel
theorem own_d3_171 : decode method_4_code 171 = .ok (.iconst 4, 1) := by decide +kernel
theorem own_d3_172 : decode method_4_code 172 = .ok (.iload 4, 2) := by decide +kernel
theorem own_d3_174 : decode method_4_code 174 = .ok (.castore, 1) := by decide +kernel
theorem own_d3_175 : decode method_4_code 175 = .ok (.dup, 1) := by decide +kernel
theorem own_d3_176 : decode method_4_code 176 = .ok (.iconst 5, 1) := by decide +kernel
theorem own_d3_177 : decode method_4_code 177 = .ok (.iload 5, 2) := by decide +kernel
theorem own_d3_179 : decode method_4_code 179 = .ok (.castore, 1) := by decide +kernel
theorem own_d3_180 : decode method_4_code 180 = .ok (.invokespecial 15, 3) := by decide +kernel
theorem own_d3_183 : decode method_4_code 183 = .ok (.areturn, 1) := by decide +kernel
theorem own_ef_own_build6 (m : MethodId) (x0 : Int32) (x1 : Int32) (x2 : Int32) (x3 : Int32) (x4 : Int32) (x5 : Int32) : entryFrame m #[(.int x0), (.int x1), (.int x2), (.int x3), (.int x4), (.int x5), (.int (6 : Int32))] 7 = mkF m 0 #[.val (.int x0), .val (.int x1), .val (.int x2), .val (.int x3), .val (.int x4), .val (.int x5), .val (.int (6 : Int32))] [] := by first | (simp [entryFrame, mkF, argsToLocals, Value.category]; done) | rfl
set_option maxRecDepth 65536 in
set_option maxHeartbeats 40000000 in
theorem own_build6 (l : Launch) (Z : State) (a0 : Array Value) (hw : ∀ d ∈ tables_1, d.before a0 Z = true) (u0 u1 u2 u3 u4 u5 cs : Int32) (h0 : Heap) (n0 : Nat) (Z0 : n0 ≤ h0.size) (S_c : Sta Z h0 "java/lang/String" "COMPACT_STRINGS" "Z" (.int cs)) (hcs : ¬ cs = 0) (r0 : (¬ u0 < 0 ∧ ¬ (255 : Int32) < u0) ∧ nar .char u0 = u0) (r1 : (¬ u1 < 0 ∧ ¬ (255 : Int32) < u1) ∧ nar .char u1 = u1) (r2 : (¬ u2 < 0 ∧ ¬ (255 : Int32) < u2) ∧ nar .char u2 = u2) (r3 : (¬ u3 < 0 ∧ ¬ (255 : Int32) < u3) ∧ nar .char u3 = u3) (r4 : (¬ u4 < 0 ∧ ¬ (255 : Int32) < u4) ∧ nar .char u4 = u4) (r5 : (¬ u5 < 0 ∧ ¬ (255 : Int32) < u5) ∧ nar .char u5 = u5) :
    OCon l (⟨"com/example/nutex/nutex/LockNamesRequireValidPinLaw", "build", "(CCCCCCI)Ljava/lang/String;"⟩ : MethodName) method_4_code 7 (some (.object "java/lang/String")) ({ frames := 4, cells := 3, slots := 16, locals := 66 } : Room) Z #[(.int u0), (.int u1), (.int u2), (.int u3), (.int u4), (.int u5), (.int (6 : Int32))] h0 n0 (fun v h => ∃ b t k, v = some (.ref b) ∧ Keep h0 h [] ∧ Exa Z h b "java/lang/String" ∧ Fld Z h b "java/lang/String" "coder" "B" (.int (0 : Int32)) ∧ Fld Z h b "java/lang/String" "value" "[B" (.ref t) ∧ Arv Z h t k .byte (6 : Int32) ((([u0, u1, u2, u3, u4, u5] : List Int32).map (fun c => c.toInt8.toInt32)).map Value.int) (.int (0 : Int32))) := by
  refine own_body own_pn_3 ?_
  intro p e s m below meth c T0 hx hZ hby hml hown hnm hret hlk e0 X0
  replace hown : s.vm.findClass "com/example/nutex/nutex/LockNamesRequireValidPinLaw" = some m.cls := hown
  replace hnm : meth.name = "build" := hnm
  have N0 := Fr.nil n0
  have K0 : Keep h0 h0 [] := Keep.refl _ _
  refine own_at (own_ef_own_build6 m u0 u1 u2 u3 u4 u5) ?_
  refine own_go (g' := (mkF m 2 #[.val (.int u0), .val (.int u1), .val (.int u2), .val (.int u3), .val (.int u4), .val (.int u5), .val (.int (6 : Int32))] [(.int (6 : Int32))])) (fun t kt => XS.iload X0.here hx rfl (hb hby own_d3_0) rfl kt) ?_
  refine own_go (g' := (mkF m 3 #[.val (.int u0), .val (.int u1), .val (.int u2), .val (.int u3), .val (.int u4), .val (.int u5), .val (.int (6 : Int32))] [(.int (1 : Int32)), (.int (6 : Int32))])) (fun t kt => XS.iconst X0.here hx rfl (hb hby own_d3_2) kt) ?_
  refine own_go (g' := (mkF m 21 #[.val (.int u0), .val (.int u1), .val (.int u2), .val (.int u3), .val (.int u4), .val (.int u5), .val (.int (6 : Int32))] [])) (fun t kt => XS.icmpYes X0.here hx rfl (pc0 := 3) (pc' := 21) rfl (hb hby own_d3_3) rfl (feq ((by decide) : ¬ ((6 : Int32) = (1 : Int32)))).2 (by decide) (by decide) kt) ?_
  refine own_go (g' := (mkF m 23 #[.val (.int u0), .val (.int u1), .val (.int u2), .val (.int u3), .val (.int u4), .val (.int u5), .val (.int (6 : Int32))] [(.int (6 : Int32))])) (fun t kt => XS.iload X0.here hx rfl (hb hby own_d3_21) rfl kt) ?_
  refine own_go (g' := (mkF m 24 #[.val (.int u0), .val (.int u1), .val (.int u2), .val (.int u3), .val (.int u4), .val (.int u5), .val (.int (6 : Int32))] [(.int (2 : Int32)), (.int (6 : Int32))])) (fun t kt => XS.iconst X0.here hx rfl (hb hby own_d3_23) kt) ?_
  refine own_go (g' := (mkF m 46 #[.val (.int u0), .val (.int u1), .val (.int u2), .val (.int u3), .val (.int u4), .val (.int u5), .val (.int (6 : Int32))] [])) (fun t kt => XS.icmpYes X0.here hx rfl (pc0 := 24) (pc' := 46) rfl (hb hby own_d3_24) rfl (feq ((by decide) : ¬ ((6 : Int32) = (2 : Int32)))).2 (by decide) (by decide) kt) ?_
  refine own_go (g' := (mkF m 48 #[.val (.int u0), .val (.int u1), .val (.int u2), .val (.int u3), .val (.int u4), .val (.int u5), .val (.int (6 : Int32))] [(.int (6 : Int32))])) (fun t kt => XS.iload X0.here hx rfl (hb hby own_d3_46) rfl kt) ?_
  refine own_go (g' := (mkF m 49 #[.val (.int u0), .val (.int u1), .val (.int u2), .val (.int u3), .val (.int u4), .val (.int u5), .val (.int (6 : Int32))] [(.int (3 : Int32)), (.int (6 : Int32))])) (fun t kt => XS.iconst X0.here hx rfl (hb hby own_d3_48) kt) ?_
  refine own_go (g' := (mkF m 75 #[.val (.int u0), .val (.int u1), .val (.int u2), .val (.int u3), .val (.int u4), .val (.int u5), .val (.int (6 : Int32))] [])) (fun t kt => XS.icmpYes X0.here hx rfl (pc0 := 49) (pc' := 75) rfl (hb hby own_d3_49) rfl (feq ((by decide) : ¬ ((6 : Int32) = (3 : Int32)))).2 (by decide) (by decide) kt) ?_
  refine own_go (g' := (mkF m 77 #[.val (.int u0), .val (.int u1), .val (.int u2), .val (.int u3), .val (.int u4), .val (.int u5), .val (.int (6 : Int32))] [(.int (6 : Int32))])) (fun t kt => XS.iload X0.here hx rfl (hb hby own_d3_75) rfl kt) ?_
  refine own_go (g' := (mkF m 78 #[.val (.int u0), .val (.int u1), .val (.int u2), .val (.int u3), .val (.int u4), .val (.int u5), .val (.int (6 : Int32))] [(.int (4 : Int32)), (.int (6 : Int32))])) (fun t kt => XS.iconst X0.here hx rfl (hb hby own_d3_77) kt) ?_
  refine own_go (g' := (mkF m 108 #[.val (.int u0), .val (.int u1), .val (.int u2), .val (.int u3), .val (.int u4), .val (.int u5), .val (.int (6 : Int32))] [])) (fun t kt => XS.icmpYes X0.here hx rfl (pc0 := 78) (pc' := 108) rfl (hb hby own_d3_78) rfl (feq ((by decide) : ¬ ((6 : Int32) = (4 : Int32)))).2 (by decide) (by decide) kt) ?_
  refine own_go (g' := (mkF m 110 #[.val (.int u0), .val (.int u1), .val (.int u2), .val (.int u3), .val (.int u4), .val (.int u5), .val (.int (6 : Int32))] [(.int (6 : Int32))])) (fun t kt => XS.iload X0.here hx rfl (hb hby own_d3_108) rfl kt) ?_
  refine own_go (g' := (mkF m 111 #[.val (.int u0), .val (.int u1), .val (.int u2), .val (.int u3), .val (.int u4), .val (.int u5), .val (.int (6 : Int32))] [(.int (5 : Int32)), (.int (6 : Int32))])) (fun t kt => XS.iconst X0.here hx rfl (hb hby own_d3_110) kt) ?_
  refine own_go (g' := (mkF m 146 #[.val (.int u0), .val (.int u1), .val (.int u2), .val (.int u3), .val (.int u4), .val (.int u5), .val (.int (6 : Int32))] [])) (fun t kt => XS.icmpYes X0.here hx rfl (pc0 := 111) (pc' := 146) rfl (hb hby own_d3_111) rfl (feq ((by decide) : ¬ ((6 : Int32) = (5 : Int32)))).2 (by decide) (by decide) kt) ?_
  refine own_new X0 hx hZ hown (hw _ (List.mem_of_getElem? (i := 10) rfl)) (hw _ (List.mem_of_getElem? (i := 11) rfl)) (hw _ (List.mem_of_getElem? (i := 12) rfl)) e0 (g := (mkF m 146 #[.val (.int u0), .val (.int u1), .val (.int u2), .val (.int u3), .val (.int u4), .val (.int u5), .val (.int (6 : Int32))] [])) rfl (hb hby own_d3_146) (by decide) (by decide) (fun T1 h1 b1 g1 X1 e1 E1 A1 D1 => ?_)
  show OEnds _ _ _ _ _ _ T1 (mkF m 149 #[.val (.int u0), .val (.int u1), .val (.int u2), .val (.int u3), .val (.int u4), .val (.int u5), .val (.int (6 : Int32))] [(.ref b1)])
  have S_c_h1 := S_c.ext E1
  have gz_b1 : h0.size ≤ b1 := Nat.le_trans K0.1 (Nat.le_of_eq g1.symm)
  have ge_b1 : n0 ≤ b1 := Nat.le_trans Z0 gz_b1
  have K1 := K0.ext E1
  have F1_coder : Fld Z h1 b1 "java/lang/String" "coder" "B" (.int (0 : Int32)) := D1 (Or.inr (hw _ (List.mem_of_getElem? (i := 37) rfl))) (ty := .byte) (by decide)
  have F1_value : Fld Z h1 b1 "java/lang/String" "value" "[B" .null := D1 (Or.inr (hw _ (List.mem_of_getElem? (i := 39) rfl))) (ty := (.array .byte)) (by decide)
  refine own_go (g' := (mkF m 150 #[.val (.int u0), .val (.int u1), .val (.int u2), .val (.int u3), .val (.int u4), .val (.int u5), .val (.int (6 : Int32))] [(.ref b1), (.ref b1)])) (fun t kt => XS.dup X1.here hx rfl (hb hby own_d3_149) rfl rfl kt) ?_
  refine own_go (g' := (mkF m 152 #[.val (.int u0), .val (.int u1), .val (.int u2), .val (.int u3), .val (.int u4), .val (.int u5), .val (.int (6 : Int32))] [(.int (6 : Int32)), (.ref b1), (.ref b1)])) (fun t kt => XS.bipush X1.here hx rfl (hb hby own_d3_150) kt) ?_
  refine own_newarr X1 hx hZ (hw _ (List.mem_of_getElem? (i := 13) rfl)) e1 (g := (mkF m 152 #[.val (.int u0), .val (.int u1), .val (.int u2), .val (.int u3), .val (.int u4), .val (.int u5), .val (.int (6 : Int32))] [(.int (6 : Int32)), (.ref b1), (.ref b1)])) rfl (hb hby own_d3_152) rfl (by decide) (cap := 6) (by decide) (by decide) (by decide) (by decide) (fun T2 h2 b2 k2 g2 X2 e2 E2 V2 => ?_)
  show OEnds _ _ _ _ _ _ T2 (mkF m 154 #[.val (.int u0), .val (.int u1), .val (.int u2), .val (.int u3), .val (.int u4), .val (.int u5), .val (.int (6 : Int32))] [(.ref b2), (.ref b1), (.ref b1)])
  have ne_b1_b2 : b1 ≠ b2 := Nat.ne_of_lt (Nat.lt_of_lt_of_le A1.lt (Nat.le_of_eq g2.symm))
  have S_c_h2 := S_c_h1.ext E2
  have A1_h2 := A1.ext E2
  have F1_coder_h2 := F1_coder.ext E2
  have F1_value_h2 := F1_value.ext E2
  have gz_b2 : h0.size ≤ b2 := Nat.le_trans K1.1 (Nat.le_of_eq g2.symm)
  have ge_b2 : n0 ≤ b2 := Nat.le_trans Z0 gz_b2
  have K2 := K1.ext E2
  replace V2 : Arv Z h2 b2 k2 .char (6 : Int32) [(.int (0 : Int32)), (.int (0 : Int32)), (.int (0 : Int32)), (.int (0 : Int32)), (.int (0 : Int32)), (.int (0 : Int32))] (.int (0 : Int32)) := V2
  refine own_go (g' := (mkF m 155 #[.val (.int u0), .val (.int u1), .val (.int u2), .val (.int u3), .val (.int u4), .val (.int u5), .val (.int (6 : Int32))] [(.ref b2), (.ref b2), (.ref b1), (.ref b1)])) (fun t kt => XS.dup X2.here hx rfl (hb hby own_d3_154) rfl rfl kt) ?_
  refine own_go (g' := (mkF m 156 #[.val (.int u0), .val (.int u1), .val (.int u2), .val (.int u3), .val (.int u4), .val (.int u5), .val (.int (6 : Int32))] [(.int (0 : Int32)), (.ref b2), (.ref b2), (.ref b1), (.ref b1)])) (fun t kt => XS.iconst X2.here hx rfl (hb hby own_d3_155) kt) ?_
  refine own_go (g' := (mkF m 157 #[.val (.int u0), .val (.int u1), .val (.int u2), .val (.int u3), .val (.int u4), .val (.int u5), .val (.int (6 : Int32))] [(.int u0), (.int (0 : Int32)), (.ref b2), (.ref b2), (.ref b1), (.ref b1)])) (fun t kt => XS.iloadN X2.here hx rfl (hb hby own_d3_156) rfl kt) ?_
  refine own_castore X2 hx hZ e2 V2 ⟨by decide, by decide⟩ 0 rfl (Nat.le_of_ble_eq_true rfl) N0 ge_b2 (g := (mkF m 157 #[.val (.int u0), .val (.int u1), .val (.int u2), .val (.int u3), .val (.int u4), .val (.int u5), .val (.int (6 : Int32))] [(.int u0), (.int (0 : Int32)), (.ref b2), (.ref b2), (.ref b1), (.ref b1)])) rfl rfl (hb hby own_d3_157) (fun T3 h3 L3 X3 e3 N3 W3 V3 => ?_)
  show OEnds _ _ _ _ _ _ T3 (mkF m 158 #[.val (.int u0), .val (.int u1), .val (.int u2), .val (.int u3), .val (.int u4), .val (.int u5), .val (.int (6 : Int32))] [(.ref b2), (.ref b1), (.ref b1)])
  have S_c_h3 := S_c_h2.wr W3
  have A1_h3 := A1_h2.wr W3
  have F1_coder_h3 := F1_coder_h2.other W3 (Or.inl ne_b1_b2)
  have F1_value_h3 := F1_value_h2.other W3 (Or.inl ne_b1_b2)
  have K3 := K2.wr W3 (Or.inr gz_b2)
  replace V3 : Arv Z h3 b2 k2 .char (6 : Int32) [(.int (nar .char u0)), (.int (0 : Int32)), (.int (0 : Int32)), (.int (0 : Int32)), (.int (0 : Int32)), (.int (0 : Int32))] (.int (0 : Int32)) := V3
  refine own_go (g' := (mkF m 159 #[.val (.int u0), .val (.int u1), .val (.int u2), .val (.int u3), .val (.int u4), .val (.int u5), .val (.int (6 : Int32))] [(.ref b2), (.ref b2), (.ref b1), (.ref b1)])) (fun t kt => XS.dup X3.here hx rfl (hb hby own_d3_158) rfl rfl kt) ?_
  refine own_go (g' := (mkF m 160 #[.val (.int u0), .val (.int u1), .val (.int u2), .val (.int u3), .val (.int u4), .val (.int u5), .val (.int (6 : Int32))] [(.int (1 : Int32)), (.ref b2), (.ref b2), (.ref b1), (.ref b1)])) (fun t kt => XS.iconst X3.here hx rfl (hb hby own_d3_159) kt) ?_
  refine own_go (g' := (mkF m 161 #[.val (.int u0), .val (.int u1), .val (.int u2), .val (.int u3), .val (.int u4), .val (.int u5), .val (.int (6 : Int32))] [(.int u1), (.int (1 : Int32)), (.ref b2), (.ref b2), (.ref b1), (.ref b1)])) (fun t kt => XS.iloadN X3.here hx rfl (hb hby own_d3_160) rfl kt) ?_
  refine own_castore X3 hx hZ e3 V3 ⟨by decide, by decide⟩ 1 rfl (Nat.le_of_ble_eq_true rfl) N3 ge_b2 (g := (mkF m 161 #[.val (.int u0), .val (.int u1), .val (.int u2), .val (.int u3), .val (.int u4), .val (.int u5), .val (.int (6 : Int32))] [(.int u1), (.int (1 : Int32)), (.ref b2), (.ref b2), (.ref b1), (.ref b1)])) rfl rfl (hb hby own_d3_161) (fun T4 h4 L4 X4 e4 N4 W4 V4 => ?_)
  show OEnds _ _ _ _ _ _ T4 (mkF m 162 #[.val (.int u0), .val (.int u1), .val (.int u2), .val (.int u3), .val (.int u4), .val (.int u5), .val (.int (6 : Int32))] [(.ref b2), (.ref b1), (.ref b1)])
  have S_c_h4 := S_c_h3.wr W4
  have A1_h4 := A1_h3.wr W4
  have F1_coder_h4 := F1_coder_h3.other W4 (Or.inl ne_b1_b2)
  have F1_value_h4 := F1_value_h3.other W4 (Or.inl ne_b1_b2)
  have K4 := K3.wr W4 (Or.inr gz_b2)
  replace V4 : Arv Z h4 b2 k2 .char (6 : Int32) [(.int (nar .char u0)), (.int (nar .char u1)), (.int (0 : Int32)), (.int (0 : Int32)), (.int (0 : Int32)), (.int (0 : Int32))] (.int (0 : Int32)) := V4
  refine own_go (g' := (mkF m 163 #[.val (.int u0), .val (.int u1), .val (.int u2), .val (.int u3), .val (.int u4), .val (.int u5), .val (.int (6 : Int32))] [(.ref b2), (.ref b2), (.ref b1), (.ref b1)])) (fun t kt => XS.dup X4.here hx rfl (hb hby own_d3_162) rfl rfl kt) ?_
  refine own_go (g' := (mkF m 164 #[.val (.int u0), .val (.int u1), .val (.int u2), .val (.int u3), .val (.int u4), .val (.int u5), .val (.int (6 : Int32))] [(.int (2 : Int32)), (.ref b2), (.ref b2), (.ref b1), (.ref b1)])) (fun t kt => XS.iconst X4.here hx rfl (hb hby own_d3_163) kt) ?_
  refine own_go (g' := (mkF m 165 #[.val (.int u0), .val (.int u1), .val (.int u2), .val (.int u3), .val (.int u4), .val (.int u5), .val (.int (6 : Int32))] [(.int u2), (.int (2 : Int32)), (.ref b2), (.ref b2), (.ref b1), (.ref b1)])) (fun t kt => XS.iloadN X4.here hx rfl (hb hby own_d3_164) rfl kt) ?_
  refine own_castore X4 hx hZ e4 V4 ⟨by decide, by decide⟩ 2 rfl (Nat.le_of_ble_eq_true rfl) N4 ge_b2 (g := (mkF m 165 #[.val (.int u0), .val (.int u1), .val (.int u2), .val (.int u3), .val (.int u4), .val (.int u5), .val (.int (6 : Int32))] [(.int u2), (.int (2 : Int32)), (.ref b2), (.ref b2), (.ref b1), (.ref b1)])) rfl rfl (hb hby own_d3_165) (fun T5 h5 L5 X5 e5 N5 W5 V5 => ?_)
  show OEnds _ _ _ _ _ _ T5 (mkF m 166 #[.val (.int u0), .val (.int u1), .val (.int u2), .val (.int u3), .val (.int u4), .val (.int u5), .val (.int (6 : Int32))] [(.ref b2), (.ref b1), (.ref b1)])
  have S_c_h5 := S_c_h4.wr W5
  have A1_h5 := A1_h4.wr W5
  have F1_coder_h5 := F1_coder_h4.other W5 (Or.inl ne_b1_b2)
  have F1_value_h5 := F1_value_h4.other W5 (Or.inl ne_b1_b2)
  have K5 := K4.wr W5 (Or.inr gz_b2)
  replace V5 : Arv Z h5 b2 k2 .char (6 : Int32) [(.int (nar .char u0)), (.int (nar .char u1)), (.int (nar .char u2)), (.int (0 : Int32)), (.int (0 : Int32)), (.int (0 : Int32))] (.int (0 : Int32)) := V5
  refine own_go (g' := (mkF m 167 #[.val (.int u0), .val (.int u1), .val (.int u2), .val (.int u3), .val (.int u4), .val (.int u5), .val (.int (6 : Int32))] [(.ref b2), (.ref b2), (.ref b1), (.ref b1)])) (fun t kt => XS.dup X5.here hx rfl (hb hby own_d3_166) rfl rfl kt) ?_
  refine own_go (g' := (mkF m 168 #[.val (.int u0), .val (.int u1), .val (.int u2), .val (.int u3), .val (.int u4), .val (.int u5), .val (.int (6 : Int32))] [(.int (3 : Int32)), (.ref b2), (.ref b2), (.ref b1), (.ref b1)])) (fun t kt => XS.iconst X5.here hx rfl (hb hby own_d3_167) kt) ?_
  refine own_go (g' := (mkF m 169 #[.val (.int u0), .val (.int u1), .val (.int u2), .val (.int u3), .val (.int u4), .val (.int u5), .val (.int (6 : Int32))] [(.int u3), (.int (3 : Int32)), (.ref b2), (.ref b2), (.ref b1), (.ref b1)])) (fun t kt => XS.iloadN X5.here hx rfl (hb hby own_d3_168) rfl kt) ?_
  refine own_castore X5 hx hZ e5 V5 ⟨by decide, by decide⟩ 3 rfl (Nat.le_of_ble_eq_true rfl) N5 ge_b2 (g := (mkF m 169 #[.val (.int u0), .val (.int u1), .val (.int u2), .val (.int u3), .val (.int u4), .val (.int u5), .val (.int (6 : Int32))] [(.int u3), (.int (3 : Int32)), (.ref b2), (.ref b2), (.ref b1), (.ref b1)])) rfl rfl (hb hby own_d3_169) (fun T6 h6 L6 X6 e6 N6 W6 V6 => ?_)
  show OEnds _ _ _ _ _ _ T6 (mkF m 170 #[.val (.int u0), .val (.int u1), .val (.int u2), .val (.int u3), .val (.int u4), .val (.int u5), .val (.int (6 : Int32))] [(.ref b2), (.ref b1), (.ref b1)])
  have S_c_h6 := S_c_h5.wr W6
  have A1_h6 := A1_h5.wr W6
  have F1_coder_h6 := F1_coder_h5.other W6 (Or.inl ne_b1_b2)
  have F1_value_h6 := F1_value_h5.other W6 (Or.inl ne_b1_b2)
  have K6 := K5.wr W6 (Or.inr gz_b2)
  replace V6 : Arv Z h6 b2 k2 .char (6 : Int32) [(.int (nar .char u0)), (.int (nar .char u1)), (.int (nar .char u2)), (.int (nar .char u3)), (.int (0 : Int32)), (.int (0 : Int32))] (.int (0 : Int32)) := V6
  refine own_go (g' := (mkF m 171 #[.val (.int u0), .val (.int u1), .val (.int u2), .val (.int u3), .val (.int u4), .val (.int u5), .val (.int (6 : Int32))] [(.ref b2), (.ref b2), (.ref b1), (.ref b1)])) (fun t kt => XS.dup X6.here hx rfl (hb hby own_d3_170) rfl rfl kt) ?_
  refine own_go (g' := (mkF m 172 #[.val (.int u0), .val (.int u1), .val (.int u2), .val (.int u3), .val (.int u4), .val (.int u5), .val (.int (6 : Int32))] [(.int (4 : Int32)), (.ref b2), (.ref b2), (.ref b1), (.ref b1)])) (fun t kt => XS.iconst X6.here hx rfl (hb hby own_d3_171) kt) ?_
  refine own_go (g' := (mkF m 174 #[.val (.int u0), .val (.int u1), .val (.int u2), .val (.int u3), .val (.int u4), .val (.int u5), .val (.int (6 : Int32))] [(.int u4), (.int (4 : Int32)), (.ref b2), (.ref b2), (.ref b1), (.ref b1)])) (fun t kt => XS.iload X6.here hx rfl (hb hby own_d3_172) rfl kt) ?_
  refine own_castore X6 hx hZ e6 V6 ⟨by decide, by decide⟩ 4 rfl (Nat.le_of_ble_eq_true rfl) N6 ge_b2 (g := (mkF m 174 #[.val (.int u0), .val (.int u1), .val (.int u2), .val (.int u3), .val (.int u4), .val (.int u5), .val (.int (6 : Int32))] [(.int u4), (.int (4 : Int32)), (.ref b2), (.ref b2), (.ref b1), (.ref b1)])) rfl rfl (hb hby own_d3_174) (fun T7 h7 L7 X7 e7 N7 W7 V7 => ?_)
  show OEnds _ _ _ _ _ _ T7 (mkF m 175 #[.val (.int u0), .val (.int u1), .val (.int u2), .val (.int u3), .val (.int u4), .val (.int u5), .val (.int (6 : Int32))] [(.ref b2), (.ref b1), (.ref b1)])
  have S_c_h7 := S_c_h6.wr W7
  have A1_h7 := A1_h6.wr W7
  have F1_coder_h7 := F1_coder_h6.other W7 (Or.inl ne_b1_b2)
  have F1_value_h7 := F1_value_h6.other W7 (Or.inl ne_b1_b2)
  have K7 := K6.wr W7 (Or.inr gz_b2)
  replace V7 : Arv Z h7 b2 k2 .char (6 : Int32) [(.int (nar .char u0)), (.int (nar .char u1)), (.int (nar .char u2)), (.int (nar .char u3)), (.int (nar .char u4)), (.int (0 : Int32))] (.int (0 : Int32)) := V7
  refine own_go (g' := (mkF m 176 #[.val (.int u0), .val (.int u1), .val (.int u2), .val (.int u3), .val (.int u4), .val (.int u5), .val (.int (6 : Int32))] [(.ref b2), (.ref b2), (.ref b1), (.ref b1)])) (fun t kt => XS.dup X7.here hx rfl (hb hby own_d3_175) rfl rfl kt) ?_
  refine own_go (g' := (mkF m 177 #[.val (.int u0), .val (.int u1), .val (.int u2), .val (.int u3), .val (.int u4), .val (.int u5), .val (.int (6 : Int32))] [(.int (5 : Int32)), (.ref b2), (.ref b2), (.ref b1), (.ref b1)])) (fun t kt => XS.iconst X7.here hx rfl (hb hby own_d3_176) kt) ?_
  refine own_go (g' := (mkF m 179 #[.val (.int u0), .val (.int u1), .val (.int u2), .val (.int u3), .val (.int u4), .val (.int u5), .val (.int (6 : Int32))] [(.int u5), (.int (5 : Int32)), (.ref b2), (.ref b2), (.ref b1), (.ref b1)])) (fun t kt => XS.iload X7.here hx rfl (hb hby own_d3_177) rfl kt) ?_
  refine own_castore X7 hx hZ e7 V7 ⟨by decide, by decide⟩ 5 rfl (Nat.le_of_ble_eq_true rfl) N7 ge_b2 (g := (mkF m 179 #[.val (.int u0), .val (.int u1), .val (.int u2), .val (.int u3), .val (.int u4), .val (.int u5), .val (.int (6 : Int32))] [(.int u5), (.int (5 : Int32)), (.ref b2), (.ref b2), (.ref b1), (.ref b1)])) rfl rfl (hb hby own_d3_179) (fun T8 h8 L8 X8 e8 N8 W8 V8 => ?_)
  show OEnds _ _ _ _ _ _ T8 (mkF m 180 #[.val (.int u0), .val (.int u1), .val (.int u2), .val (.int u3), .val (.int u4), .val (.int u5), .val (.int (6 : Int32))] [(.ref b2), (.ref b1), (.ref b1)])
  have S_c_h8 := S_c_h7.wr W8
  have A1_h8 := A1_h7.wr W8
  have F1_coder_h8 := F1_coder_h7.other W8 (Or.inl ne_b1_b2)
  have F1_value_h8 := F1_value_h7.other W8 (Or.inl ne_b1_b2)
  have K8 := K7.wr W8 (Or.inr gz_b2)
  replace V8 : Arv Z h8 b2 k2 .char (6 : Int32) [(.int (nar .char u0)), (.int (nar .char u1)), (.int (nar .char u2)), (.int (nar .char u3)), (.int (nar .char u4)), (.int (nar .char u5))] (.int (0 : Int32)) := V8
  have Vr9 : Arv Z h8 b2 k2 .char (6 : Int32) [(.int u0), (.int u1), (.int u2), (.int u3), (.int u4), (.int u5)] (.int (0 : Int32)) := by simpa only [(r0).2, (r1).2, (r2).2, (r3).2, (r4).2, (r5).2] using V8
  have hp10 : ∀ c ∈ ([u0, u1, u2, u3, u4, u5] : List Int32), ¬ c < 0 ∧ ¬ (255 : Int32) < c := (own_alS (r0).1 (own_alS (r1).1 (own_alS (r2).1 (own_alS (r3).1 (own_alS (r4).1 (own_alS (r5).1 own_al0))))))
  refine own_callCB X8 hx hZ (a := b1) (W := 1) (argsL := [(.ref b2)]) (rest := [(.ref b1)]) (c1 := 1) (s1 := 6) (Qc := fun v h' L => StrChars.Road.QV Z b1 (6 : Int32) (([u0, u1, u2, u3, u4, u5] : List Int32).map (fun c => c.toInt8.toInt32)) h8 n0 v h' L) rfl hown (hw _ (List.mem_of_getElem? (i := 14) rfl)) (hw _ (List.mem_of_getElem? (i := 15) rfl)) (hw _ (List.mem_of_getElem? (i := 16) rfl)) (by decide) (StrChars.Road.backV (W := 1) hZ (fun d hd => hw d (own_wi d hd)) (kI := 4) (hw _ (List.mem_of_getElem? (i := 11) rfl)) (cs := ([u0, u1, u2, u3, u4, u5] : List Int32)) (bs := (([u0, u1, u2, u3, u4, u5] : List Int32).map (fun c => c.toInt8.toInt32))) (n := 6) ge_b1 (Nat.le_trans Z0 K8.1) A1_h8 F1_value_h8 F1_coder_h8 Vr9 S_c_h8 hcs rfl rfl (by decide) (by decide) hp10 rfl (by decide) (by decide)) (g := (mkF m 180 #[.val (.int u0), .val (.int u1), .val (.int u2), .val (.int u3), .val (.int u4), .val (.int u5), .val (.int (6 : Int32))] [(.ref b2), (.ref b1), (.ref b1)])) rfl (by rw [hml]; rfl) (lenOf own_pd1 rfl) rfl (by show 2 * 0 + _ ≤ _; exact Nat.le_of_eq rfl) (hb hby own_d3_180) e8 (by decide) (by decide) (fun v10 T10 L10 X10 hq10 => ?_)
  obtain ⟨rfl, M10, Kc10, A10, G10, t10, c10, ge_t10, gy_t10, ny_t10, F10, V10⟩ := hq10
  have N10 := Fr.app N8 M10
  have ne_b1_t10 : b1 ≠ t10 := Nat.ne_of_lt (Nat.lt_of_lt_of_le A1_h8.lt gy_t10)
  have ne_b2_t10 : b2 ≠ t10 := Nat.ne_of_lt (Nat.lt_of_lt_of_le Vr9.lt gy_t10)
  have gz_t10 : h0.size ≤ t10 := Nat.le_trans K8.1 gy_t10
  have Vr9_h10 := Vr9.keep Kc10 (ninS (Ne.symm ne_b1_b2) nin0)
  have K10 := K8.trans Kc10 (allS (Or.inr gz_b1) all0)
  have S_c_h10 := S_c.ext (own_kext K10)
  have hcd10 := StrChars.Road.codOf (cs := ([u0, u1, u2, u3, u4, u5] : List Int32)) (n := 6) rfl (fun c hc => (hp10 c hc).2)
  have hbd10 := own_up _ hp10
  show OEnds _ _ _ _ _ _ T10 (mkF m 183 #[.val (.int u0), .val (.int u1), .val (.int u2), .val (.int u3), .val (.int u4), .val (.int u5), .val (.int (6 : Int32))] [(.ref b1)])
  exact own_retA X10 hx hlk (t := (.object "java/lang/String")) rfl hret rfl (hb hby own_d3_183) rfl N10 (by decide) (by decide) (⟨b1, t10, c10, rfl, K10, A10, G10, F10, V10⟩)
theorem own_ef_own_req6 (m : MethodId) (x0 : Addr) : entryFrame m #[(.ref x0)] 5 = mkF m 0 #[.val (.ref x0), .unset, .unset, .unset, .unset] [] := by first | (simp [entryFrame, mkF, argsToLocals, Value.category]; done) | rfl
set_option maxRecDepth 65536 in
set_option maxHeartbeats 40000000 in
theorem own_req6 (l : Launch) (Z : State) (a0 : Array Value) (hw : ∀ d ∈ tables_1, d.before a0 Z = true) (a1 ab : Addr) (kb : ClassId) (u0 u1 u2 u3 u4 u5 cs : Int32) (sv : Value) (hsv : sv.isRef = true) (h0 : Heap) (n0 : Nat) (Z0 : n0 ≤ h0.size) (Ea : Exa Z h0 a1 "java/lang/String") (Gc : Fld Z h0 a1 "java/lang/String" "coder" "B" (.int (0 : Int32))) (Gv : Fld Z h0 a1 "java/lang/String" "value" "[B" (.ref ab)) (Vb : Arv Z h0 ab kb .byte (6 : Int32) ((([u0, u1, u2, u3, u4, u5] : List Int32).map (fun c => c.toInt8.toInt32)).map Value.int) (.int (0 : Int32))) (S_c : Sta Z h0 "java/lang/String" "COMPACT_STRINGS" "Z" (.int cs)) (S_f : Sta Z h0 "jdk/internal/util/Preconditions" "SIOOBE_FORMATTER" "Ljava/util/function/BiFunction;" sv) (hcs : ¬ cs = 0) (hcd : StrChars.Road.CodA ([u0, u1, u2, u3, u4, u5] : List Int32) 0 (6 : Int32) ((([u0, u1, u2, u3, u4, u5] : List Int32).map (fun c => c.toInt8.toInt32)).map Value.int)) (hbd : ∀ c ∈ ([u0, u1, u2, u3, u4, u5] : List Int32), ¬ c < 0 ∧ ¬ (65535 : Int32) < c) (k0 : own_isn u0 = 1) (k1 : own_isn u1 = 1 ∨ (u1 = 47 ∧ ¬ u0 = 47)) (k2 : own_isn u2 = 1 ∨ (u2 = 47 ∧ ¬ u1 = 47)) (k3 : own_isn u3 = 1 ∨ (u3 = 47 ∧ ¬ u2 = 47)) (k4 : own_isn u4 = 1 ∨ (u4 = 47 ∧ ¬ u3 = 47)) (k5 : own_isn u5 = 1) :
    OCon l (⟨"com/example/nutex/nutex/LockNames", "requireValid", "(Ljava/lang/String;)Ljava/lang/String;"⟩ : MethodName) prog_12_method_2_code 5 (some (.object "java/lang/String")) ({ frames := 4, cells := 0, slots := 0, locals := 60 } : Room) Z #[(.ref a1)] h0 n0 (fun v h => v = some (.ref a1) ∧ h = h0) := by
  refine own_body own_pn_10 ?_
  intro p e s m below meth c T0 hx hZ hby hml hown hnm hret hlk e0 X0
  replace hown : s.vm.findClass "com/example/nutex/nutex/LockNames" = some m.cls := hown
  replace hnm : meth.name = "requireValid" := hnm
  have N0 := Fr.nil n0
  have K0 : Keep h0 h0 [] := Keep.refl _ _
  refine own_at (own_ef_own_req6 m a1) ?_
  refine own_go (g' := (mkF m 1 #[.val (.ref a1), .unset, .unset, .unset, .unset] [(.ref a1)])) (fun t kt => XS.aloadN X0.here hx rfl (hb hby own_d10_0) rfl rfl kt) ?_
  refine own_go (g' := (mkF m 14 #[.val (.ref a1), .unset, .unset, .unset, .unset] [])) (fun t kt => XS.ifnonnullYes X0.here hx rfl (pc0 := 1) (pc' := 14) rfl (hb hby own_d10_1) rfl (by decide) (by decide) kt) ?_
  refine own_go (g' := (mkF m 15 #[.val (.ref a1), .unset, .unset, .unset, .unset] [(.ref a1)])) (fun t kt => XS.aloadN X0.here hx rfl (hb hby own_d10_14) rfl rfl kt) ?_
  refine own_callVB X0 hx hZ (a := a1) (W := 0) (argsL := []) (rest := []) (c1 := 0) (s1 := 0) (Qc := fun v h' L => (v = some (.int (if (List.length ([u0, u1, u2, u3, u4, u5] : List Int32)) = 0 then 1 else 0))) ∧ L = [] ∧ h' = h0) hown (hw _ (List.mem_of_getElem? (i := 44) rfl)) (hw _ (List.mem_of_getElem? (i := 45) rfl)) (hw _ (List.mem_of_getElem? (i := 47) rfl)) (hw _ (List.mem_of_getElem? (i := 46) rfl)) (by decide) (StrChars.Road.empW (W := 0) hZ (fun d hd => hw d (own_wm d hd)) (kI := 4) (hw _ (List.mem_of_getElem? (i := 11) rfl)) Ea Gv Gc Vb hcd hbd (Nat.le_of_ble_eq_true rfl) (by decide) (by decide)) Ea (g := (mkF m 15 #[.val (.ref a1), .unset, .unset, .unset, .unset] [(.ref a1)])) rfl (by rw [hml]; rfl) (lenOf own_pd2 rfl) rfl (by show 2 * 0 + _ ≤ _; exact Nat.le_of_eq rfl) (hb hby own_d10_15) e0 (by decide) (by decide) (fun v1 T1 L1 X1 hq1 => ?_)
  obtain ⟨rfl, rfl, e1⟩ := hq1
  have N1 := Fr.app N0 (Fr.nil n0)
  show OEnds _ _ _ _ _ _ T1 (mkF m 18 #[.val (.ref a1), .unset, .unset, .unset, .unset] [(.int (0 : Int32))])
  refine own_go (g' := (mkF m 21 #[.val (.ref a1), .unset, .unset, .unset, .unset] [])) (fun t kt => XS.ifNo X1.here hx rfl (hb hby own_d10_18) rfl ((if0 _ _).trans (teq ((by decide) : (0 : Int32) = (0 : Int32))).2) kt) ?_
  refine own_go (g' := (mkF m 22 #[.val (.ref a1), .unset, .unset, .unset, .unset] [(.ref a1)])) (fun t kt => XS.aloadN X1.here hx rfl (hb hby own_d10_21) rfl rfl kt) ?_
  refine own_callVB X1 hx hZ (a := a1) (W := 0) (argsL := []) (rest := []) (c1 := 0) (s1 := 0) (Qc := fun v h' L => (v = some (.int (Int32.ofNat (List.length ([u0, u1, u2, u3, u4, u5] : List Int32))))) ∧ L = [] ∧ h' = h0) hown (hw _ (List.mem_of_getElem? (i := 49) rfl)) (hw _ (List.mem_of_getElem? (i := 50) rfl)) (hw _ (List.mem_of_getElem? (i := 52) rfl)) (hw _ (List.mem_of_getElem? (i := 51) rfl)) (by decide) (StrChars.Road.lenW (W := 0) hZ (fun d hd => hw d (own_wl d hd)) (kI := 4) (hw _ (List.mem_of_getElem? (i := 11) rfl)) Ea Gv Gc Vb hcd hbd S_c hcs (Nat.le_of_ble_eq_true rfl) (by decide) (by decide)) Ea (g := (mkF m 22 #[.val (.ref a1), .unset, .unset, .unset, .unset] [(.ref a1)])) rfl (by rw [hml]; rfl) (lenOf own_pd3 rfl) rfl (by show 2 * 0 + _ ≤ _; exact Nat.le_of_eq rfl) (hb hby own_d10_22) e1 (by decide) (by decide) (fun v2 T2 L2 X2 hq2 => ?_)
  obtain ⟨rfl, rfl, e2⟩ := hq2
  have N2 := Fr.app N1 (Fr.nil n0)
  show OEnds _ _ _ _ _ _ T2 (mkF m 25 #[.val (.ref a1), .unset, .unset, .unset, .unset] [(.int (6 : Int32))])
  refine own_go (g' := (mkF m 28 #[.val (.ref a1), .unset, .unset, .unset, .unset] [(.int (200 : Int32)), (.int (6 : Int32))])) (fun t kt => XS.sipush X2.here hx rfl (hb hby own_d10_25) kt) ?_
  refine own_go (g' := (mkF m 48 #[.val (.ref a1), .unset, .unset, .unset, .unset] [])) (fun t kt => XS.icmpYes X2.here hx rfl (pc0 := 28) (pc' := 48) rfl (hb hby own_d10_28) rfl (flt ((by decide) : ¬ ((200 : Int32) < (6 : Int32)))).2.2.2 (by decide) (by decide) kt) ?_
  refine own_go (g' := (mkF m 49 #[.val (.ref a1), .unset, .unset, .unset, .unset] [(.int (0 : Int32))])) (fun t kt => XS.iconst X2.here hx rfl (hb hby own_d10_48) kt) ?_
  refine own_go (g' := (mkF m 50 #[.val (.ref a1), .val (.int (0 : Int32)), .unset, .unset, .unset] [])) (fun t kt => XS.istoreN X2.here hx rfl (hb hby own_d10_49) rfl (l' := #[.val (.ref a1), .val (.int (0 : Int32)), .unset, .unset, .unset]) rfl kt) ?_
  have hd6 : ∀ (T : State) (locs : List Loc) (sl2 sl3 sl4 : Slot), Stand p l e ({ frames := 4, cells := 0, slots := 0, locals := 60 } : Room) s m #[(.ref a1)] below meth c T locs 0 0 → T.heap = h0 → Fr n0 locs → own_One sl2 → own_One sl3 → own_One sl4 → OEnds p e below (fun o t L => FrameEnd s o t L (({ frames := 4, cells := 0, slots := 0, locals := 60 } : Room)).cells (({ frames := 4, cells := 0, slots := 0, locals := 60 } : Room)).slots) n0 (fun v h => v = some (.ref a1) ∧ h = h0) T (mkF m 50 #[.val (.ref a1), .val (.int (6 : Int32)), sl2, sl3, sl4] []) := by
    intro T3 L3 sl2 sl3 sl4 X3 e3 N3 hsl2 hsl3 hsl4
    refine own_go (g' := (mkF m 51 #[.val (.ref a1), .val (.int (6 : Int32)), sl2, sl3, sl4] [(.int (6 : Int32))])) (fun t kt => XS.iloadN X3.here hx rfl (hb hby own_d10_50) rfl kt) ?_
    refine own_go (g' := (mkF m 52 #[.val (.ref a1), .val (.int (6 : Int32)), sl2, sl3, sl4] [(.ref a1), (.int (6 : Int32))])) (fun t kt => XS.aloadN X3.here hx rfl (hb hby own_d10_51) rfl rfl kt) ?_
    refine own_callVB X3 hx hZ (a := a1) (W := 1) (argsL := []) (rest := [(.int (6 : Int32))]) (c1 := 0) (s1 := 0) (Qc := fun v h' L => (v = some (.int (Int32.ofNat (List.length ([u0, u1, u2, u3, u4, u5] : List Int32))))) ∧ L = [] ∧ h' = h0) hown (hw _ (List.mem_of_getElem? (i := 49) rfl)) (hw _ (List.mem_of_getElem? (i := 50) rfl)) (hw _ (List.mem_of_getElem? (i := 52) rfl)) (hw _ (List.mem_of_getElem? (i := 51) rfl)) (by decide) (StrChars.Road.lenW (W := 1) hZ (fun d hd => hw d (own_wl d hd)) (kI := 4) (hw _ (List.mem_of_getElem? (i := 11) rfl)) Ea Gv Gc Vb hcd hbd S_c hcs (Nat.le_of_ble_eq_true rfl) (by decide) (by decide)) Ea (g := (mkF m 52 #[.val (.ref a1), .val (.int (6 : Int32)), sl2, sl3, sl4] [(.ref a1), (.int (6 : Int32))])) rfl (by rw [hml]; rfl) (lenOf own_pd3 rfl) rfl (by show 2 * 0 + _ ≤ _; exact Nat.le_of_eq rfl) (hb hby own_d10_52) e3 (by decide) (by decide) (fun v4 T4 L4 X4 hq4 => ?_)
    obtain ⟨rfl, rfl, e4⟩ := hq4
    have N4 := Fr.app N3 (Fr.nil n0)
    show OEnds _ _ _ _ _ _ T4 (mkF m 55 #[.val (.ref a1), .val (.int (6 : Int32)), sl2, sl3, sl4] [(.int (6 : Int32)), (.int (6 : Int32))])
    refine own_go (g' := (mkF m 184 #[.val (.ref a1), .val (.int (6 : Int32)), sl2, sl3, sl4] [])) (fun t kt => XS.icmpYes X4.here hx rfl (pc0 := 55) (pc' := 184) rfl (hb hby own_d10_55) rfl (flt ((by decide) : ¬ ((6 : Int32) < (6 : Int32)))).2.1 (by decide) (by decide) kt) ?_
    refine own_go (g' := (mkF m 185 #[.val (.ref a1), .val (.int (6 : Int32)), sl2, sl3, sl4] [(.ref a1)])) (fun t kt => XS.aloadN X4.here hx rfl (hb hby own_d10_184) rfl rfl kt) ?_
    exact own_retA X4 hx hlk (t := (.object "java/lang/String")) rfl hret rfl (hb hby own_d10_185) e4 N4 (by decide) (by decide) (⟨rfl, rfl⟩)
  have hd5 : ∀ (T : State) (locs : List Loc) (sl2 sl3 sl4 : Slot), Stand p l e ({ frames := 4, cells := 0, slots := 0, locals := 60 } : Room) s m #[(.ref a1)] below meth c T locs 0 0 → T.heap = h0 → Fr n0 locs → own_One sl2 → own_One sl3 → own_One sl4 → OEnds p e below (fun o t L => FrameEnd s o t L (({ frames := 4, cells := 0, slots := 0, locals := 60 } : Room)).cells (({ frames := 4, cells := 0, slots := 0, locals := 60 } : Room)).slots) n0 (fun v h => v = some (.ref a1) ∧ h = h0) T (mkF m 50 #[.val (.ref a1), .val (.int (5 : Int32)), sl2, sl3, sl4] []) := by
    intro T5 L5 sl2 sl3 sl4 X5 e5 N5 hsl2 hsl3 hsl4
    refine own_go (g' := (mkF m 51 #[.val (.ref a1), .val (.int (5 : Int32)), sl2, sl3, sl4] [(.int (5 : Int32))])) (fun t kt => XS.iloadN X5.here hx rfl (hb hby own_d10_50) rfl kt) ?_
    refine own_go (g' := (mkF m 52 #[.val (.ref a1), .val (.int (5 : Int32)), sl2, sl3, sl4] [(.ref a1), (.int (5 : Int32))])) (fun t kt => XS.aloadN X5.here hx rfl (hb hby own_d10_51) rfl rfl kt) ?_
    refine own_callVB X5 hx hZ (a := a1) (W := 1) (argsL := []) (rest := [(.int (5 : Int32))]) (c1 := 0) (s1 := 0) (Qc := fun v h' L => (v = some (.int (Int32.ofNat (List.length ([u0, u1, u2, u3, u4, u5] : List Int32))))) ∧ L = [] ∧ h' = h0) hown (hw _ (List.mem_of_getElem? (i := 49) rfl)) (hw _ (List.mem_of_getElem? (i := 50) rfl)) (hw _ (List.mem_of_getElem? (i := 52) rfl)) (hw _ (List.mem_of_getElem? (i := 51) rfl)) (by decide) (StrChars.Road.lenW (W := 1) hZ (fun d hd => hw d (own_wl d hd)) (kI := 4) (hw _ (List.mem_of_getElem? (i := 11) rfl)) Ea Gv Gc Vb hcd hbd S_c hcs (Nat.le_of_ble_eq_true rfl) (by decide) (by decide)) Ea (g := (mkF m 52 #[.val (.ref a1), .val (.int (5 : Int32)), sl2, sl3, sl4] [(.ref a1), (.int (5 : Int32))])) rfl (by rw [hml]; rfl) (lenOf own_pd3 rfl) rfl (by show 2 * 0 + _ ≤ _; exact Nat.le_of_eq rfl) (hb hby own_d10_52) e5 (by decide) (by decide) (fun v6 T6 L6 X6 hq6 => ?_)
    obtain ⟨rfl, rfl, e6⟩ := hq6
    have N6 := Fr.app N5 (Fr.nil n0)
    show OEnds _ _ _ _ _ _ T6 (mkF m 55 #[.val (.ref a1), .val (.int (5 : Int32)), sl2, sl3, sl4] [(.int (6 : Int32)), (.int (5 : Int32))])
    refine own_go (g' := (mkF m 58 #[.val (.ref a1), .val (.int (5 : Int32)), sl2, sl3, sl4] [])) (fun t kt => XS.icmpNo X6.here hx rfl (hb hby own_d10_55) rfl (tlt ((by decide) : (5 : Int32) < (6 : Int32))).2.1 kt) ?_
    refine own_go (g' := (mkF m 59 #[.val (.ref a1), .val (.int (5 : Int32)), sl2, sl3, sl4] [(.ref a1)])) (fun t kt => XS.aloadN X6.here hx rfl (hb hby own_d10_58) rfl rfl kt) ?_
    refine own_go (g' := (mkF m 60 #[.val (.ref a1), .val (.int (5 : Int32)), sl2, sl3, sl4] [(.int (5 : Int32)), (.ref a1)])) (fun t kt => XS.iloadN X6.here hx rfl (hb hby own_d10_59) rfl kt) ?_
    refine own_callVB X6 hx hZ (a := a1) (W := 0) (argsL := [(.int (5 : Int32))]) (rest := []) (c1 := 0) (s1 := 0) (Qc := fun v h' L => (v = some (.int (List.getD ([u0, u1, u2, u3, u4, u5] : List Int32) 5 0))) ∧ L = [] ∧ h' = h0) hown (hw _ (List.mem_of_getElem? (i := 59) rfl)) (hw _ (List.mem_of_getElem? (i := 60) rfl)) (hw _ (List.mem_of_getElem? (i := 62) rfl)) (hw _ (List.mem_of_getElem? (i := 61) rfl)) (by decide) (StrChars.Road.chN (W := 0) hZ (fun d hd => hw d (own_wc d hd)) (kI := 4) (hw _ (List.mem_of_getElem? (i := 11) rfl)) Ea Gv Gc Vb hcd hbd S_c hcs S_f hsv (Nat.le_of_ble_eq_true rfl) (i := 5) (Nat.le_of_ble_eq_true rfl) (j := (5 : Int32)) rfl (by decide) (by decide)) Ea (g := (mkF m 60 #[.val (.ref a1), .val (.int (5 : Int32)), sl2, sl3, sl4] [(.int (5 : Int32)), (.ref a1)])) rfl (by rw [hml]; rfl) (lenOf own_pd0 rfl) rfl (by show 2 * 0 + _ ≤ _; exact Nat.le_of_eq rfl) (hb hby own_d10_60) e6 (by decide) (by decide) (fun v7 T7 L7 X7 hq7 => ?_)
    obtain ⟨rfl, rfl, e7⟩ := hq7
    have N7 := Fr.app N6 (Fr.nil n0)
    show OEnds _ _ _ _ _ _ T7 (mkF m 63 #[.val (.ref a1), .val (.int (5 : Int32)), sl2, sl3, sl4] [(.int u5)])
    refine own_go (g' := (mkF m 64 #[.val (.ref a1), .val (.int (5 : Int32)), .val (.int u5), sl3, sl4] [])) (fun t kt => XS.istoreN X7.here hx rfl (hb hby own_d10_63) rfl (l' := #[.val (.ref a1), .val (.int (5 : Int32)), .val (.int u5), sl3, sl4]) (XS.store1 (o := sl2) rfl hsl2 rfl) kt) ?_
    refine own_go (g' := (mkF m 65 #[.val (.ref a1), .val (.int (5 : Int32)), .val (.int u5), sl3, sl4] [(.int u5)])) (fun t kt => XS.iloadN X7.here hx rfl (hb hby own_d10_64) rfl kt) ?_
    refine own_go (g' := (mkF m 67 #[.val (.ref a1), .val (.int (5 : Int32)), .val (.int u5), sl3, sl4] [(.int (47 : Int32)), (.int u5)])) (fun t kt => XS.bipush X7.here hx rfl (hb hby own_d10_65) kt) ?_
    refine own_go (g' := (mkF m 136 #[.val (.ref a1), .val (.int (5 : Int32)), .val (.int u5), sl3, sl4] [])) (fun t kt => XS.icmpYes X7.here hx rfl (pc0 := 67) (pc' := 136) rfl (hb hby own_d10_67) rfl (feq ((own_n47 k5) : ¬ (u5 = (47 : Int32)))).2 (by decide) (by decide) kt) ?_
    refine own_go (g' := (mkF m 137 #[.val (.ref a1), .val (.int (5 : Int32)), .val (.int u5), sl3, sl4] [(.int u5)])) (fun t kt => XS.iloadN X7.here hx rfl (hb hby own_d10_136) rfl kt) ?_
    refine own_callS X7 hx hZ (W := 0) (argsL := [(.int u5)]) (rest := []) hown (hw _ (List.mem_of_getElem? (i := 81) rfl)) (hw _ (List.mem_of_getElem? (i := 82) rfl)) (hw _ (List.mem_of_getElem? (i := 42) rfl)) (hw _ (List.mem_of_getElem? (i := 83) rfl)) (by decide) (own_isname l Z a0 hw u5 h0 n0 Z0) (by decide) (by decide) (g := (mkF m 137 #[.val (.ref a1), .val (.int (5 : Int32)), .val (.int u5), sl3, sl4] [(.int u5)])) rfl (by rw [hml]; rfl) (lenOf own_pd4 rfl) rfl (by show 2 * 0 + _ ≤ _; exact Nat.le_of_eq rfl) (hb hby own_d10_137) e7 N7 (by decide) (by decide) (fun v8 T8 L8 X8 N8 hq8 => ?_)
    obtain ⟨rfl, e8⟩ := hq8
    show OEnds _ _ _ _ _ _ T8 (mkF m 140 #[.val (.ref a1), .val (.int (5 : Int32)), .val (.int u5), sl3, sl4] [(.int (own_isn u5))])
    refine own_go (g' := (mkF m 178 #[.val (.ref a1), .val (.int (5 : Int32)), .val (.int u5), sl3, sl4] [])) (fun t kt => XS.ifYes X8.here hx rfl (pc0 := 140) (pc' := 178) rfl (hb hby own_d10_140) rfl ((if0 _ _).trans (feq ((own_nz k5) : ¬ ((own_isn u5) = (0 : Int32)))).2) (by decide) (by decide) kt) ?_
    refine own_go (g' := (mkF m 181 #[.val (.ref a1), .val (.int (6 : Int32)), .val (.int u5), sl3, sl4] [])) (fun t kt => XS.iinc X8.here hx rfl (hb hby own_d10_178) rfl (l' := #[.val (.ref a1), .val (.int (6 : Int32)), .val (.int u5), sl3, sl4]) rfl kt) ?_
    refine own_go (g' := (mkF m 50 #[.val (.ref a1), .val (.int (6 : Int32)), .val (.int u5), sl3, sl4] [])) (fun t kt => XS.goto X8.here hx rfl (pc0 := 181) (pc' := 50) rfl (hb hby own_d10_181) (by decide) (by decide) kt) ?_
    exact hd6 _ _ _ _ _ X8 e8 N8 (Or.inr ⟨_, rfl, rfl⟩) hsl3 hsl4
  have hd4 : ∀ (T : State) (locs : List Loc) (sl2 sl3 sl4 : Slot), Stand p l e ({ frames := 4, cells := 0, slots := 0, locals := 60 } : Room) s m #[(.ref a1)] below meth c T locs 0 0 → T.heap = h0 → Fr n0 locs → own_One sl2 → own_One sl3 → own_One sl4 → OEnds p e below (fun o t L => FrameEnd s o t L (({ frames := 4, cells := 0, slots := 0, locals := 60 } : Room)).cells (({ frames := 4, cells := 0, slots := 0, locals := 60 } : Room)).slots) n0 (fun v h => v = some (.ref a1) ∧ h = h0) T (mkF m 50 #[.val (.ref a1), .val (.int (4 : Int32)), sl2, sl3, sl4] []) := by
    intro T9 L9 sl2 sl3 sl4 X9 e9 N9 hsl2 hsl3 hsl4
    refine own_go (g' := (mkF m 51 #[.val (.ref a1), .val (.int (4 : Int32)), sl2, sl3, sl4] [(.int (4 : Int32))])) (fun t kt => XS.iloadN X9.here hx rfl (hb hby own_d10_50) rfl kt) ?_
    refine own_go (g' := (mkF m 52 #[.val (.ref a1), .val (.int (4 : Int32)), sl2, sl3, sl4] [(.ref a1), (.int (4 : Int32))])) (fun t kt => XS.aloadN X9.here hx rfl (hb hby own_d10_51) rfl rfl kt) ?_
    refine own_callVB X9 hx hZ (a := a1) (W := 1) (argsL := []) (rest := [(.int (4 : Int32))]) (c1 := 0) (s1 := 0) (Qc := fun v h' L => (v = some (.int (Int32.ofNat (List.length ([u0, u1, u2, u3, u4, u5] : List Int32))))) ∧ L = [] ∧ h' = h0) hown (hw _ (List.mem_of_getElem? (i := 49) rfl)) (hw _ (List.mem_of_getElem? (i := 50) rfl)) (hw _ (List.mem_of_getElem? (i := 52) rfl)) (hw _ (List.mem_of_getElem? (i := 51) rfl)) (by decide) (StrChars.Road.lenW (W := 1) hZ (fun d hd => hw d (own_wl d hd)) (kI := 4) (hw _ (List.mem_of_getElem? (i := 11) rfl)) Ea Gv Gc Vb hcd hbd S_c hcs (Nat.le_of_ble_eq_true rfl) (by decide) (by decide)) Ea (g := (mkF m 52 #[.val (.ref a1), .val (.int (4 : Int32)), sl2, sl3, sl4] [(.ref a1), (.int (4 : Int32))])) rfl (by rw [hml]; rfl) (lenOf own_pd3 rfl) rfl (by show 2 * 0 + _ ≤ _; exact Nat.le_of_eq rfl) (hb hby own_d10_52) e9 (by decide) (by decide) (fun v10 T10 L10 X10 hq10 => ?_)
    obtain ⟨rfl, rfl, e10⟩ := hq10
    have N10 := Fr.app N9 (Fr.nil n0)
    show OEnds _ _ _ _ _ _ T10 (mkF m 55 #[.val (.ref a1), .val (.int (4 : Int32)), sl2, sl3, sl4] [(.int (6 : Int32)), (.int (4 : Int32))])
    refine own_go (g' := (mkF m 58 #[.val (.ref a1), .val (.int (4 : Int32)), sl2, sl3, sl4] [])) (fun t kt => XS.icmpNo X10.here hx rfl (hb hby own_d10_55) rfl (tlt ((by decide) : (4 : Int32) < (6 : Int32))).2.1 kt) ?_
    refine own_go (g' := (mkF m 59 #[.val (.ref a1), .val (.int (4 : Int32)), sl2, sl3, sl4] [(.ref a1)])) (fun t kt => XS.aloadN X10.here hx rfl (hb hby own_d10_58) rfl rfl kt) ?_
    refine own_go (g' := (mkF m 60 #[.val (.ref a1), .val (.int (4 : Int32)), sl2, sl3, sl4] [(.int (4 : Int32)), (.ref a1)])) (fun t kt => XS.iloadN X10.here hx rfl (hb hby own_d10_59) rfl kt) ?_
    refine own_callVB X10 hx hZ (a := a1) (W := 0) (argsL := [(.int (4 : Int32))]) (rest := []) (c1 := 0) (s1 := 0) (Qc := fun v h' L => (v = some (.int (List.getD ([u0, u1, u2, u3, u4, u5] : List Int32) 4 0))) ∧ L = [] ∧ h' = h0) hown (hw _ (List.mem_of_getElem? (i := 59) rfl)) (hw _ (List.mem_of_getElem? (i := 60) rfl)) (hw _ (List.mem_of_getElem? (i := 62) rfl)) (hw _ (List.mem_of_getElem? (i := 61) rfl)) (by decide) (StrChars.Road.chN (W := 0) hZ (fun d hd => hw d (own_wc d hd)) (kI := 4) (hw _ (List.mem_of_getElem? (i := 11) rfl)) Ea Gv Gc Vb hcd hbd S_c hcs S_f hsv (Nat.le_of_ble_eq_true rfl) (i := 4) (Nat.le_of_ble_eq_true rfl) (j := (4 : Int32)) rfl (by decide) (by decide)) Ea (g := (mkF m 60 #[.val (.ref a1), .val (.int (4 : Int32)), sl2, sl3, sl4] [(.int (4 : Int32)), (.ref a1)])) rfl (by rw [hml]; rfl) (lenOf own_pd0 rfl) rfl (by show 2 * 0 + _ ≤ _; exact Nat.le_of_eq rfl) (hb hby own_d10_60) e10 (by decide) (by decide) (fun v11 T11 L11 X11 hq11 => ?_)
    obtain ⟨rfl, rfl, e11⟩ := hq11
    have N11 := Fr.app N10 (Fr.nil n0)
    show OEnds _ _ _ _ _ _ T11 (mkF m 63 #[.val (.ref a1), .val (.int (4 : Int32)), sl2, sl3, sl4] [(.int u4)])
    refine own_go (g' := (mkF m 64 #[.val (.ref a1), .val (.int (4 : Int32)), .val (.int u4), sl3, sl4] [])) (fun t kt => XS.istoreN X11.here hx rfl (hb hby own_d10_63) rfl (l' := #[.val (.ref a1), .val (.int (4 : Int32)), .val (.int u4), sl3, sl4]) (XS.store1 (o := sl2) rfl hsl2 rfl) kt) ?_
    refine own_go (g' := (mkF m 65 #[.val (.ref a1), .val (.int (4 : Int32)), .val (.int u4), sl3, sl4] [(.int u4)])) (fun t kt => XS.iloadN X11.here hx rfl (hb hby own_d10_64) rfl kt) ?_
    refine own_go (g' := (mkF m 67 #[.val (.ref a1), .val (.int (4 : Int32)), .val (.int u4), sl3, sl4] [(.int (47 : Int32)), (.int u4)])) (fun t kt => XS.bipush X11.here hx rfl (hb hby own_d10_65) kt) ?_
    by_cases hc12 : u4 = (47 : Int32)
    · refine own_go (g' := (mkF m 70 #[.val (.ref a1), .val (.int (4 : Int32)), .val (.int u4), sl3, sl4] [])) (fun t kt => XS.icmpNo X11.here hx rfl (hb hby own_d10_67) rfl (teq hc12).2 kt) ?_
      refine own_go (g' := (mkF m 71 #[.val (.ref a1), .val (.int (4 : Int32)), .val (.int u4), sl3, sl4] [(.int (4 : Int32))])) (fun t kt => XS.iloadN X11.here hx rfl (hb hby own_d10_70) rfl kt) ?_
      refine own_go (g' := (mkF m 74 #[.val (.ref a1), .val (.int (4 : Int32)), .val (.int u4), sl3, sl4] [])) (fun t kt => XS.ifNo X11.here hx rfl (hb hby own_d10_71) rfl ((if0 _ _).trans (tlt ((by decide) : (0 : Int32) < (4 : Int32))).2.2.2) kt) ?_
      refine own_go (g' := (mkF m 75 #[.val (.ref a1), .val (.int (4 : Int32)), .val (.int u4), sl3, sl4] [(.ref a1)])) (fun t kt => XS.aloadN X11.here hx rfl (hb hby own_d10_74) rfl rfl kt) ?_
      refine own_go (g' := (mkF m 76 #[.val (.ref a1), .val (.int (4 : Int32)), .val (.int u4), sl3, sl4] [(.int (4 : Int32)), (.ref a1)])) (fun t kt => XS.iloadN X11.here hx rfl (hb hby own_d10_75) rfl kt) ?_
      refine own_go (g' := (mkF m 77 #[.val (.ref a1), .val (.int (4 : Int32)), .val (.int u4), sl3, sl4] [(.int (1 : Int32)), (.int (4 : Int32)), (.ref a1)])) (fun t kt => XS.iconst X11.here hx rfl (hb hby own_d10_76) kt) ?_
      refine own_go (g' := (mkF m 78 #[.val (.ref a1), .val (.int (4 : Int32)), .val (.int u4), sl3, sl4] [(.int (3 : Int32)), (.ref a1)])) (fun t kt => XS.isub X11.here hx rfl (hb hby own_d10_77) rfl kt) ?_
      refine own_callVB X11 hx hZ (a := a1) (W := 0) (argsL := [(.int (3 : Int32))]) (rest := []) (c1 := 0) (s1 := 0) (Qc := fun v h' L => (v = some (.int (List.getD ([u0, u1, u2, u3, u4, u5] : List Int32) 3 0))) ∧ L = [] ∧ h' = h0) hown (hw _ (List.mem_of_getElem? (i := 59) rfl)) (hw _ (List.mem_of_getElem? (i := 60) rfl)) (hw _ (List.mem_of_getElem? (i := 62) rfl)) (hw _ (List.mem_of_getElem? (i := 61) rfl)) (by decide) (StrChars.Road.chN (W := 0) hZ (fun d hd => hw d (own_wc d hd)) (kI := 4) (hw _ (List.mem_of_getElem? (i := 11) rfl)) Ea Gv Gc Vb hcd hbd S_c hcs S_f hsv (Nat.le_of_ble_eq_true rfl) (i := 3) (Nat.le_of_ble_eq_true rfl) (j := (3 : Int32)) rfl (by decide) (by decide)) Ea (g := (mkF m 78 #[.val (.ref a1), .val (.int (4 : Int32)), .val (.int u4), sl3, sl4] [(.int (3 : Int32)), (.ref a1)])) rfl (by rw [hml]; rfl) (lenOf own_pd0 rfl) rfl (by show 2 * 0 + _ ≤ _; exact Nat.le_of_eq rfl) (hb hby own_d10_78) e11 (by decide) (by decide) (fun v13 T13 L13 X13 hq13 => ?_)
      obtain ⟨rfl, rfl, e13⟩ := hq13
      have N13 := Fr.app N11 (Fr.nil n0)
      show OEnds _ _ _ _ _ _ T13 (mkF m 81 #[.val (.ref a1), .val (.int (4 : Int32)), .val (.int u4), sl3, sl4] [(.int u3)])
      refine own_go (g' := (mkF m 83 #[.val (.ref a1), .val (.int (4 : Int32)), .val (.int u4), sl3, sl4] [(.int (47 : Int32)), (.int u3)])) (fun t kt => XS.bipush X13.here hx rfl (hb hby own_d10_81) kt) ?_
      refine own_go (g' := (mkF m 86 #[.val (.ref a1), .val (.int (4 : Int32)), .val (.int u4), sl3, sl4] [])) (fun t kt => XS.icmpNo X13.here hx rfl (hb hby own_d10_83) rfl (feq ((own_prev k4 hc12) : ¬ (u3 = (47 : Int32)))).1 kt) ?_
      refine own_go (g' := (mkF m 87 #[.val (.ref a1), .val (.int (4 : Int32)), .val (.int u4), sl3, sl4] [(.int (1 : Int32))])) (fun t kt => XS.iconst X13.here hx rfl (hb hby own_d10_86) kt) ?_
      refine own_go (g' := (mkF m 91 #[.val (.ref a1), .val (.int (4 : Int32)), .val (.int u4), sl3, sl4] [(.int (1 : Int32))])) (fun t kt => XS.goto X13.here hx rfl (pc0 := 87) (pc' := 91) rfl (hb hby own_d10_87) (by decide) (by decide) kt) ?_
      refine own_go (g' := (mkF m 92 #[.val (.ref a1), .val (.int (4 : Int32)), .val (.int u4), .val (.int (1 : Int32)), sl4] [])) (fun t kt => XS.istoreN X13.here hx rfl (hb hby own_d10_91) rfl (l' := #[.val (.ref a1), .val (.int (4 : Int32)), .val (.int u4), .val (.int (1 : Int32)), sl4]) (XS.store1 (o := sl3) rfl hsl3 rfl) kt) ?_
      refine own_go (g' := (mkF m 93 #[.val (.ref a1), .val (.int (4 : Int32)), .val (.int u4), .val (.int (1 : Int32)), sl4] [(.int (4 : Int32))])) (fun t kt => XS.iloadN X13.here hx rfl (hb hby own_d10_92) rfl kt) ?_
      refine own_go (g' := (mkF m 94 #[.val (.ref a1), .val (.int (4 : Int32)), .val (.int u4), .val (.int (1 : Int32)), sl4] [(.ref a1), (.int (4 : Int32))])) (fun t kt => XS.aloadN X13.here hx rfl (hb hby own_d10_93) rfl rfl kt) ?_
      refine own_callVB X13 hx hZ (a := a1) (W := 1) (argsL := []) (rest := [(.int (4 : Int32))]) (c1 := 0) (s1 := 0) (Qc := fun v h' L => (v = some (.int (Int32.ofNat (List.length ([u0, u1, u2, u3, u4, u5] : List Int32))))) ∧ L = [] ∧ h' = h0) hown (hw _ (List.mem_of_getElem? (i := 49) rfl)) (hw _ (List.mem_of_getElem? (i := 50) rfl)) (hw _ (List.mem_of_getElem? (i := 52) rfl)) (hw _ (List.mem_of_getElem? (i := 51) rfl)) (by decide) (StrChars.Road.lenW (W := 1) hZ (fun d hd => hw d (own_wl d hd)) (kI := 4) (hw _ (List.mem_of_getElem? (i := 11) rfl)) Ea Gv Gc Vb hcd hbd S_c hcs (Nat.le_of_ble_eq_true rfl) (by decide) (by decide)) Ea (g := (mkF m 94 #[.val (.ref a1), .val (.int (4 : Int32)), .val (.int u4), .val (.int (1 : Int32)), sl4] [(.ref a1), (.int (4 : Int32))])) rfl (by rw [hml]; rfl) (lenOf own_pd3 rfl) rfl (by show 2 * 0 + _ ≤ _; exact Nat.le_of_eq rfl) (hb hby own_d10_94) e13 (by decide) (by decide) (fun v14 T14 L14 X14 hq14 => ?_)
      obtain ⟨rfl, rfl, e14⟩ := hq14
      have N14 := Fr.app N13 (Fr.nil n0)
      show OEnds _ _ _ _ _ _ T14 (mkF m 97 #[.val (.ref a1), .val (.int (4 : Int32)), .val (.int u4), .val (.int (1 : Int32)), sl4] [(.int (6 : Int32)), (.int (4 : Int32))])
      refine own_go (g' := (mkF m 98 #[.val (.ref a1), .val (.int (4 : Int32)), .val (.int u4), .val (.int (1 : Int32)), sl4] [(.int (1 : Int32)), (.int (6 : Int32)), (.int (4 : Int32))])) (fun t kt => XS.iconst X14.here hx rfl (hb hby own_d10_97) kt) ?_
      refine own_go (g' := (mkF m 99 #[.val (.ref a1), .val (.int (4 : Int32)), .val (.int u4), .val (.int (1 : Int32)), sl4] [(.int (5 : Int32)), (.int (4 : Int32))])) (fun t kt => XS.isub X14.here hx rfl (hb hby own_d10_98) rfl kt) ?_
      refine own_go (g' := (mkF m 102 #[.val (.ref a1), .val (.int (4 : Int32)), .val (.int u4), .val (.int (1 : Int32)), sl4] [])) (fun t kt => XS.icmpNo X14.here hx rfl (hb hby own_d10_99) rfl (tlt ((by decide) : (4 : Int32) < (5 : Int32))).2.1 kt) ?_
      refine own_go (g' := (mkF m 103 #[.val (.ref a1), .val (.int (4 : Int32)), .val (.int u4), .val (.int (1 : Int32)), sl4] [(.int (1 : Int32))])) (fun t kt => XS.iconst X14.here hx rfl (hb hby own_d10_102) kt) ?_
      refine own_go (g' := (mkF m 107 #[.val (.ref a1), .val (.int (4 : Int32)), .val (.int u4), .val (.int (1 : Int32)), sl4] [(.int (1 : Int32))])) (fun t kt => XS.goto X14.here hx rfl (pc0 := 103) (pc' := 107) rfl (hb hby own_d10_103) (by decide) (by decide) kt) ?_
      refine own_go (g' := (mkF m 109 #[.val (.ref a1), .val (.int (4 : Int32)), .val (.int u4), .val (.int (1 : Int32)), .val (.int (1 : Int32))] [])) (fun t kt => XS.istore X14.here hx rfl (hb hby own_d10_107) rfl (l' := #[.val (.ref a1), .val (.int (4 : Int32)), .val (.int u4), .val (.int (1 : Int32)), .val (.int (1 : Int32))]) (XS.store1 (o := sl4) rfl hsl4 rfl) kt) ?_
      refine own_go (g' := (mkF m 110 #[.val (.ref a1), .val (.int (4 : Int32)), .val (.int u4), .val (.int (1 : Int32)), .val (.int (1 : Int32))] [(.int (1 : Int32))])) (fun t kt => XS.iloadN X14.here hx rfl (hb hby own_d10_109) rfl kt) ?_
      refine own_go (g' := (mkF m 113 #[.val (.ref a1), .val (.int (4 : Int32)), .val (.int u4), .val (.int (1 : Int32)), .val (.int (1 : Int32))] [])) (fun t kt => XS.ifNo X14.here hx rfl (hb hby own_d10_110) rfl ((if0 _ _).trans (feq ((by decide) : ¬ ((1 : Int32) = (0 : Int32)))).1) kt) ?_
      refine own_go (g' := (mkF m 115 #[.val (.ref a1), .val (.int (4 : Int32)), .val (.int u4), .val (.int (1 : Int32)), .val (.int (1 : Int32))] [(.int (1 : Int32))])) (fun t kt => XS.iload X14.here hx rfl (hb hby own_d10_113) rfl kt) ?_
      refine own_go (g' := (mkF m 133 #[.val (.ref a1), .val (.int (4 : Int32)), .val (.int u4), .val (.int (1 : Int32)), .val (.int (1 : Int32))] [])) (fun t kt => XS.ifYes X14.here hx rfl (pc0 := 115) (pc' := 133) rfl (hb hby own_d10_115) rfl ((if0 _ _).trans (feq ((by decide) : ¬ ((1 : Int32) = (0 : Int32)))).2) (by decide) (by decide) kt) ?_
      refine own_go (g' := (mkF m 178 #[.val (.ref a1), .val (.int (4 : Int32)), .val (.int u4), .val (.int (1 : Int32)), .val (.int (1 : Int32))] [])) (fun t kt => XS.goto X14.here hx rfl (pc0 := 133) (pc' := 178) rfl (hb hby own_d10_133) (by decide) (by decide) kt) ?_
      refine own_go (g' := (mkF m 181 #[.val (.ref a1), .val (.int (5 : Int32)), .val (.int u4), .val (.int (1 : Int32)), .val (.int (1 : Int32))] [])) (fun t kt => XS.iinc X14.here hx rfl (hb hby own_d10_178) rfl (l' := #[.val (.ref a1), .val (.int (5 : Int32)), .val (.int u4), .val (.int (1 : Int32)), .val (.int (1 : Int32))]) rfl kt) ?_
      refine own_go (g' := (mkF m 50 #[.val (.ref a1), .val (.int (5 : Int32)), .val (.int u4), .val (.int (1 : Int32)), .val (.int (1 : Int32))] [])) (fun t kt => XS.goto X14.here hx rfl (pc0 := 181) (pc' := 50) rfl (hb hby own_d10_181) (by decide) (by decide) kt) ?_
      exact hd5 _ _ _ _ _ X14 e14 N14 (Or.inr ⟨_, rfl, rfl⟩) (Or.inr ⟨_, rfl, rfl⟩) (Or.inr ⟨_, rfl, rfl⟩)
    · refine own_go (g' := (mkF m 136 #[.val (.ref a1), .val (.int (4 : Int32)), .val (.int u4), sl3, sl4] [])) (fun t kt => XS.icmpYes X11.here hx rfl (pc0 := 67) (pc' := 136) rfl (hb hby own_d10_67) rfl (feq hc12).2 (by decide) (by decide) kt) ?_
      refine own_go (g' := (mkF m 137 #[.val (.ref a1), .val (.int (4 : Int32)), .val (.int u4), sl3, sl4] [(.int u4)])) (fun t kt => XS.iloadN X11.here hx rfl (hb hby own_d10_136) rfl kt) ?_
      refine own_callS X11 hx hZ (W := 0) (argsL := [(.int u4)]) (rest := []) hown (hw _ (List.mem_of_getElem? (i := 81) rfl)) (hw _ (List.mem_of_getElem? (i := 82) rfl)) (hw _ (List.mem_of_getElem? (i := 42) rfl)) (hw _ (List.mem_of_getElem? (i := 83) rfl)) (by decide) (own_isname l Z a0 hw u4 h0 n0 Z0) (by decide) (by decide) (g := (mkF m 137 #[.val (.ref a1), .val (.int (4 : Int32)), .val (.int u4), sl3, sl4] [(.int u4)])) rfl (by rw [hml]; rfl) (lenOf own_pd4 rfl) rfl (by show 2 * 0 + _ ≤ _; exact Nat.le_of_eq rfl) (hb hby own_d10_137) e11 N11 (by decide) (by decide) (fun v15 T15 L15 X15 N15 hq15 => ?_)
      obtain ⟨rfl, e15⟩ := hq15
      show OEnds _ _ _ _ _ _ T15 (mkF m 140 #[.val (.ref a1), .val (.int (4 : Int32)), .val (.int u4), sl3, sl4] [(.int (own_isn u4))])
      refine own_go (g' := (mkF m 178 #[.val (.ref a1), .val (.int (4 : Int32)), .val (.int u4), sl3, sl4] [])) (fun t kt => XS.ifYes X15.here hx rfl (pc0 := 140) (pc' := 178) rfl (hb hby own_d10_140) rfl ((if0 _ _).trans (feq ((own_nz (own_one k4 hc12)) : ¬ ((own_isn u4) = (0 : Int32)))).2) (by decide) (by decide) kt) ?_
      refine own_go (g' := (mkF m 181 #[.val (.ref a1), .val (.int (5 : Int32)), .val (.int u4), sl3, sl4] [])) (fun t kt => XS.iinc X15.here hx rfl (hb hby own_d10_178) rfl (l' := #[.val (.ref a1), .val (.int (5 : Int32)), .val (.int u4), sl3, sl4]) rfl kt) ?_
      refine own_go (g' := (mkF m 50 #[.val (.ref a1), .val (.int (5 : Int32)), .val (.int u4), sl3, sl4] [])) (fun t kt => XS.goto X15.here hx rfl (pc0 := 181) (pc' := 50) rfl (hb hby own_d10_181) (by decide) (by decide) kt) ?_
      exact hd5 _ _ _ _ _ X15 e15 N15 (Or.inr ⟨_, rfl, rfl⟩) hsl3 hsl4
  have hd3 : ∀ (T : State) (locs : List Loc) (sl2 sl3 sl4 : Slot), Stand p l e ({ frames := 4, cells := 0, slots := 0, locals := 60 } : Room) s m #[(.ref a1)] below meth c T locs 0 0 → T.heap = h0 → Fr n0 locs → own_One sl2 → own_One sl3 → own_One sl4 → OEnds p e below (fun o t L => FrameEnd s o t L (({ frames := 4, cells := 0, slots := 0, locals := 60 } : Room)).cells (({ frames := 4, cells := 0, slots := 0, locals := 60 } : Room)).slots) n0 (fun v h => v = some (.ref a1) ∧ h = h0) T (mkF m 50 #[.val (.ref a1), .val (.int (3 : Int32)), sl2, sl3, sl4] []) := by
    intro T16 L16 sl2 sl3 sl4 X16 e16 N16 hsl2 hsl3 hsl4
    refine own_go (g' := (mkF m 51 #[.val (.ref a1), .val (.int (3 : Int32)), sl2, sl3, sl4] [(.int (3 : Int32))])) (fun t kt => XS.iloadN X16.here hx rfl (hb hby own_d10_50) rfl kt) ?_
    refine own_go (g' := (mkF m 52 #[.val (.ref a1), .val (.int (3 : Int32)), sl2, sl3, sl4] [(.ref a1), (.int (3 : Int32))])) (fun t kt => XS.aloadN X16.here hx rfl (hb hby own_d10_51) rfl rfl kt) ?_
    refine own_callVB X16 hx hZ (a := a1) (W := 1) (argsL := []) (rest := [(.int (3 : Int32))]) (c1 := 0) (s1 := 0) (Qc := fun v h' L => (v = some (.int (Int32.ofNat (List.length ([u0, u1, u2, u3, u4, u5] : List Int32))))) ∧ L = [] ∧ h' = h0) hown (hw _ (List.mem_of_getElem? (i := 49) rfl)) (hw _ (List.mem_of_getElem? (i := 50) rfl)) (hw _ (List.mem_of_getElem? (i := 52) rfl)) (hw _ (List.mem_of_getElem? (i := 51) rfl)) (by decide) (StrChars.Road.lenW (W := 1) hZ (fun d hd => hw d (own_wl d hd)) (kI := 4) (hw _ (List.mem_of_getElem? (i := 11) rfl)) Ea Gv Gc Vb hcd hbd S_c hcs (Nat.le_of_ble_eq_true rfl) (by decide) (by decide)) Ea (g := (mkF m 52 #[.val (.ref a1), .val (.int (3 : Int32)), sl2, sl3, sl4] [(.ref a1), (.int (3 : Int32))])) rfl (by rw [hml]; rfl) (lenOf own_pd3 rfl) rfl (by show 2 * 0 + _ ≤ _; exact Nat.le_of_eq rfl) (hb hby own_d10_52) e16 (by decide) (by decide) (fun v17 T17 L17 X17 hq17 => ?_)
    obtain ⟨rfl, rfl, e17⟩ := hq17
    have N17 := Fr.app N16 (Fr.nil n0)
    show OEnds _ _ _ _ _ _ T17 (mkF m 55 #[.val (.ref a1), .val (.int (3 : Int32)), sl2, sl3, sl4] [(.int (6 : Int32)), (.int (3 : Int32))])
    refine own_go (g' := (mkF m 58 #[.val (.ref a1), .val (.int (3 : Int32)), sl2, sl3, sl4] [])) (fun t kt => XS.icmpNo X17.here hx rfl (hb hby own_d10_55) rfl (tlt ((by decide) : (3 : Int32) < (6 : Int32))).2.1 kt) ?_
    refine own_go (g' := (mkF m 59 #[.val (.ref a1), .val (.int (3 : Int32)), sl2, sl3, sl4] [(.ref a1)])) (fun t kt => XS.aloadN X17.here hx rfl (hb hby own_d10_58) rfl rfl kt) ?_
    refine own_go (g' := (mkF m 60 #[.val (.ref a1), .val (.int (3 : Int32)), sl2, sl3, sl4] [(.int (3 : Int32)), (.ref a1)])) (fun t kt => XS.iloadN X17.here hx rfl (hb hby own_d10_59) rfl kt) ?_
    refine own_callVB X17 hx hZ (a := a1) (W := 0) (argsL := [(.int (3 : Int32))]) (rest := []) (c1 := 0) (s1 := 0) (Qc := fun v h' L => (v = some (.int (List.getD ([u0, u1, u2, u3, u4, u5] : List Int32) 3 0))) ∧ L = [] ∧ h' = h0) hown (hw _ (List.mem_of_getElem? (i := 59) rfl)) (hw _ (List.mem_of_getElem? (i := 60) rfl)) (hw _ (List.mem_of_getElem? (i := 62) rfl)) (hw _ (List.mem_of_getElem? (i := 61) rfl)) (by decide) (StrChars.Road.chN (W := 0) hZ (fun d hd => hw d (own_wc d hd)) (kI := 4) (hw _ (List.mem_of_getElem? (i := 11) rfl)) Ea Gv Gc Vb hcd hbd S_c hcs S_f hsv (Nat.le_of_ble_eq_true rfl) (i := 3) (Nat.le_of_ble_eq_true rfl) (j := (3 : Int32)) rfl (by decide) (by decide)) Ea (g := (mkF m 60 #[.val (.ref a1), .val (.int (3 : Int32)), sl2, sl3, sl4] [(.int (3 : Int32)), (.ref a1)])) rfl (by rw [hml]; rfl) (lenOf own_pd0 rfl) rfl (by show 2 * 0 + _ ≤ _; exact Nat.le_of_eq rfl) (hb hby own_d10_60) e17 (by decide) (by decide) (fun v18 T18 L18 X18 hq18 => ?_)
    obtain ⟨rfl, rfl, e18⟩ := hq18
    have N18 := Fr.app N17 (Fr.nil n0)
    show OEnds _ _ _ _ _ _ T18 (mkF m 63 #[.val (.ref a1), .val (.int (3 : Int32)), sl2, sl3, sl4] [(.int u3)])
    refine own_go (g' := (mkF m 64 #[.val (.ref a1), .val (.int (3 : Int32)), .val (.int u3), sl3, sl4] [])) (fun t kt => XS.istoreN X18.here hx rfl (hb hby own_d10_63) rfl (l' := #[.val (.ref a1), .val (.int (3 : Int32)), .val (.int u3), sl3, sl4]) (XS.store1 (o := sl2) rfl hsl2 rfl) kt) ?_
    refine own_go (g' := (mkF m 65 #[.val (.ref a1), .val (.int (3 : Int32)), .val (.int u3), sl3, sl4] [(.int u3)])) (fun t kt => XS.iloadN X18.here hx rfl (hb hby own_d10_64) rfl kt) ?_
    refine own_go (g' := (mkF m 67 #[.val (.ref a1), .val (.int (3 : Int32)), .val (.int u3), sl3, sl4] [(.int (47 : Int32)), (.int u3)])) (fun t kt => XS.bipush X18.here hx rfl (hb hby own_d10_65) kt) ?_
    by_cases hc19 : u3 = (47 : Int32)
    · refine own_go (g' := (mkF m 70 #[.val (.ref a1), .val (.int (3 : Int32)), .val (.int u3), sl3, sl4] [])) (fun t kt => XS.icmpNo X18.here hx rfl (hb hby own_d10_67) rfl (teq hc19).2 kt) ?_
      refine own_go (g' := (mkF m 71 #[.val (.ref a1), .val (.int (3 : Int32)), .val (.int u3), sl3, sl4] [(.int (3 : Int32))])) (fun t kt => XS.iloadN X18.here hx rfl (hb hby own_d10_70) rfl kt) ?_
      refine own_go (g' := (mkF m 74 #[.val (.ref a1), .val (.int (3 : Int32)), .val (.int u3), sl3, sl4] [])) (fun t kt => XS.ifNo X18.here hx rfl (hb hby own_d10_71) rfl ((if0 _ _).trans (tlt ((by decide) : (0 : Int32) < (3 : Int32))).2.2.2) kt) ?_
      refine own_go (g' := (mkF m 75 #[.val (.ref a1), .val (.int (3 : Int32)), .val (.int u3), sl3, sl4] [(.ref a1)])) (fun t kt => XS.aloadN X18.here hx rfl (hb hby own_d10_74) rfl rfl kt) ?_
      refine own_go (g' := (mkF m 76 #[.val (.ref a1), .val (.int (3 : Int32)), .val (.int u3), sl3, sl4] [(.int (3 : Int32)), (.ref a1)])) (fun t kt => XS.iloadN X18.here hx rfl (hb hby own_d10_75) rfl kt) ?_
      refine own_go (g' := (mkF m 77 #[.val (.ref a1), .val (.int (3 : Int32)), .val (.int u3), sl3, sl4] [(.int (1 : Int32)), (.int (3 : Int32)), (.ref a1)])) (fun t kt => XS.iconst X18.here hx rfl (hb hby own_d10_76) kt) ?_
      refine own_go (g' := (mkF m 78 #[.val (.ref a1), .val (.int (3 : Int32)), .val (.int u3), sl3, sl4] [(.int (2 : Int32)), (.ref a1)])) (fun t kt => XS.isub X18.here hx rfl (hb hby own_d10_77) rfl kt) ?_
      refine own_callVB X18 hx hZ (a := a1) (W := 0) (argsL := [(.int (2 : Int32))]) (rest := []) (c1 := 0) (s1 := 0) (Qc := fun v h' L => (v = some (.int (List.getD ([u0, u1, u2, u3, u4, u5] : List Int32) 2 0))) ∧ L = [] ∧ h' = h0) hown (hw _ (List.mem_of_getElem? (i := 59) rfl)) (hw _ (List.mem_of_getElem? (i := 60) rfl)) (hw _ (List.mem_of_getElem? (i := 62) rfl)) (hw _ (List.mem_of_getElem? (i := 61) rfl)) (by decide) (StrChars.Road.chN (W := 0) hZ (fun d hd => hw d (own_wc d hd)) (kI := 4) (hw _ (List.mem_of_getElem? (i := 11) rfl)) Ea Gv Gc Vb hcd hbd S_c hcs S_f hsv (Nat.le_of_ble_eq_true rfl) (i := 2) (Nat.le_of_ble_eq_true rfl) (j := (2 : Int32)) rfl (by decide) (by decide)) Ea (g := (mkF m 78 #[.val (.ref a1), .val (.int (3 : Int32)), .val (.int u3), sl3, sl4] [(.int (2 : Int32)), (.ref a1)])) rfl (by rw [hml]; rfl) (lenOf own_pd0 rfl) rfl (by show 2 * 0 + _ ≤ _; exact Nat.le_of_eq rfl) (hb hby own_d10_78) e18 (by decide) (by decide) (fun v20 T20 L20 X20 hq20 => ?_)
      obtain ⟨rfl, rfl, e20⟩ := hq20
      have N20 := Fr.app N18 (Fr.nil n0)
      show OEnds _ _ _ _ _ _ T20 (mkF m 81 #[.val (.ref a1), .val (.int (3 : Int32)), .val (.int u3), sl3, sl4] [(.int u2)])
      refine own_go (g' := (mkF m 83 #[.val (.ref a1), .val (.int (3 : Int32)), .val (.int u3), sl3, sl4] [(.int (47 : Int32)), (.int u2)])) (fun t kt => XS.bipush X20.here hx rfl (hb hby own_d10_81) kt) ?_
      refine own_go (g' := (mkF m 86 #[.val (.ref a1), .val (.int (3 : Int32)), .val (.int u3), sl3, sl4] [])) (fun t kt => XS.icmpNo X20.here hx rfl (hb hby own_d10_83) rfl (feq ((own_prev k3 hc19) : ¬ (u2 = (47 : Int32)))).1 kt) ?_
      refine own_go (g' := (mkF m 87 #[.val (.ref a1), .val (.int (3 : Int32)), .val (.int u3), sl3, sl4] [(.int (1 : Int32))])) (fun t kt => XS.iconst X20.here hx rfl (hb hby own_d10_86) kt) ?_
      refine own_go (g' := (mkF m 91 #[.val (.ref a1), .val (.int (3 : Int32)), .val (.int u3), sl3, sl4] [(.int (1 : Int32))])) (fun t kt => XS.goto X20.here hx rfl (pc0 := 87) (pc' := 91) rfl (hb hby own_d10_87) (by decide) (by decide) kt) ?_
      refine own_go (g' := (mkF m 92 #[.val (.ref a1), .val (.int (3 : Int32)), .val (.int u3), .val (.int (1 : Int32)), sl4] [])) (fun t kt => XS.istoreN X20.here hx rfl (hb hby own_d10_91) rfl (l' := #[.val (.ref a1), .val (.int (3 : Int32)), .val (.int u3), .val (.int (1 : Int32)), sl4]) (XS.store1 (o := sl3) rfl hsl3 rfl) kt) ?_
      refine own_go (g' := (mkF m 93 #[.val (.ref a1), .val (.int (3 : Int32)), .val (.int u3), .val (.int (1 : Int32)), sl4] [(.int (3 : Int32))])) (fun t kt => XS.iloadN X20.here hx rfl (hb hby own_d10_92) rfl kt) ?_
      refine own_go (g' := (mkF m 94 #[.val (.ref a1), .val (.int (3 : Int32)), .val (.int u3), .val (.int (1 : Int32)), sl4] [(.ref a1), (.int (3 : Int32))])) (fun t kt => XS.aloadN X20.here hx rfl (hb hby own_d10_93) rfl rfl kt) ?_
      refine own_callVB X20 hx hZ (a := a1) (W := 1) (argsL := []) (rest := [(.int (3 : Int32))]) (c1 := 0) (s1 := 0) (Qc := fun v h' L => (v = some (.int (Int32.ofNat (List.length ([u0, u1, u2, u3, u4, u5] : List Int32))))) ∧ L = [] ∧ h' = h0) hown (hw _ (List.mem_of_getElem? (i := 49) rfl)) (hw _ (List.mem_of_getElem? (i := 50) rfl)) (hw _ (List.mem_of_getElem? (i := 52) rfl)) (hw _ (List.mem_of_getElem? (i := 51) rfl)) (by decide) (StrChars.Road.lenW (W := 1) hZ (fun d hd => hw d (own_wl d hd)) (kI := 4) (hw _ (List.mem_of_getElem? (i := 11) rfl)) Ea Gv Gc Vb hcd hbd S_c hcs (Nat.le_of_ble_eq_true rfl) (by decide) (by decide)) Ea (g := (mkF m 94 #[.val (.ref a1), .val (.int (3 : Int32)), .val (.int u3), .val (.int (1 : Int32)), sl4] [(.ref a1), (.int (3 : Int32))])) rfl (by rw [hml]; rfl) (lenOf own_pd3 rfl) rfl (by show 2 * 0 + _ ≤ _; exact Nat.le_of_eq rfl) (hb hby own_d10_94) e20 (by decide) (by decide) (fun v21 T21 L21 X21 hq21 => ?_)
      obtain ⟨rfl, rfl, e21⟩ := hq21
      have N21 := Fr.app N20 (Fr.nil n0)
      show OEnds _ _ _ _ _ _ T21 (mkF m 97 #[.val (.ref a1), .val (.int (3 : Int32)), .val (.int u3), .val (.int (1 : Int32)), sl4] [(.int (6 : Int32)), (.int (3 : Int32))])
      refine own_go (g' := (mkF m 98 #[.val (.ref a1), .val (.int (3 : Int32)), .val (.int u3), .val (.int (1 : Int32)), sl4] [(.int (1 : Int32)), (.int (6 : Int32)), (.int (3 : Int32))])) (fun t kt => XS.iconst X21.here hx rfl (hb hby own_d10_97) kt) ?_
      refine own_go (g' := (mkF m 99 #[.val (.ref a1), .val (.int (3 : Int32)), .val (.int u3), .val (.int (1 : Int32)), sl4] [(.int (5 : Int32)), (.int (3 : Int32))])) (fun t kt => XS.isub X21.here hx rfl (hb hby own_d10_98) rfl kt) ?_
      refine own_go (g' := (mkF m 102 #[.val (.ref a1), .val (.int (3 : Int32)), .val (.int u3), .val (.int (1 : Int32)), sl4] [])) (fun t kt => XS.icmpNo X21.here hx rfl (hb hby own_d10_99) rfl (tlt ((by decide) : (3 : Int32) < (5 : Int32))).2.1 kt) ?_
      refine own_go (g' := (mkF m 103 #[.val (.ref a1), .val (.int (3 : Int32)), .val (.int u3), .val (.int (1 : Int32)), sl4] [(.int (1 : Int32))])) (fun t kt => XS.iconst X21.here hx rfl (hb hby own_d10_102) kt) ?_
      refine own_go (g' := (mkF m 107 #[.val (.ref a1), .val (.int (3 : Int32)), .val (.int u3), .val (.int (1 : Int32)), sl4] [(.int (1 : Int32))])) (fun t kt => XS.goto X21.here hx rfl (pc0 := 103) (pc' := 107) rfl (hb hby own_d10_103) (by decide) (by decide) kt) ?_
      refine own_go (g' := (mkF m 109 #[.val (.ref a1), .val (.int (3 : Int32)), .val (.int u3), .val (.int (1 : Int32)), .val (.int (1 : Int32))] [])) (fun t kt => XS.istore X21.here hx rfl (hb hby own_d10_107) rfl (l' := #[.val (.ref a1), .val (.int (3 : Int32)), .val (.int u3), .val (.int (1 : Int32)), .val (.int (1 : Int32))]) (XS.store1 (o := sl4) rfl hsl4 rfl) kt) ?_
      refine own_go (g' := (mkF m 110 #[.val (.ref a1), .val (.int (3 : Int32)), .val (.int u3), .val (.int (1 : Int32)), .val (.int (1 : Int32))] [(.int (1 : Int32))])) (fun t kt => XS.iloadN X21.here hx rfl (hb hby own_d10_109) rfl kt) ?_
      refine own_go (g' := (mkF m 113 #[.val (.ref a1), .val (.int (3 : Int32)), .val (.int u3), .val (.int (1 : Int32)), .val (.int (1 : Int32))] [])) (fun t kt => XS.ifNo X21.here hx rfl (hb hby own_d10_110) rfl ((if0 _ _).trans (feq ((by decide) : ¬ ((1 : Int32) = (0 : Int32)))).1) kt) ?_
      refine own_go (g' := (mkF m 115 #[.val (.ref a1), .val (.int (3 : Int32)), .val (.int u3), .val (.int (1 : Int32)), .val (.int (1 : Int32))] [(.int (1 : Int32))])) (fun t kt => XS.iload X21.here hx rfl (hb hby own_d10_113) rfl kt) ?_
      refine own_go (g' := (mkF m 133 #[.val (.ref a1), .val (.int (3 : Int32)), .val (.int u3), .val (.int (1 : Int32)), .val (.int (1 : Int32))] [])) (fun t kt => XS.ifYes X21.here hx rfl (pc0 := 115) (pc' := 133) rfl (hb hby own_d10_115) rfl ((if0 _ _).trans (feq ((by decide) : ¬ ((1 : Int32) = (0 : Int32)))).2) (by decide) (by decide) kt) ?_
      refine own_go (g' := (mkF m 178 #[.val (.ref a1), .val (.int (3 : Int32)), .val (.int u3), .val (.int (1 : Int32)), .val (.int (1 : Int32))] [])) (fun t kt => XS.goto X21.here hx rfl (pc0 := 133) (pc' := 178) rfl (hb hby own_d10_133) (by decide) (by decide) kt) ?_
      refine own_go (g' := (mkF m 181 #[.val (.ref a1), .val (.int (4 : Int32)), .val (.int u3), .val (.int (1 : Int32)), .val (.int (1 : Int32))] [])) (fun t kt => XS.iinc X21.here hx rfl (hb hby own_d10_178) rfl (l' := #[.val (.ref a1), .val (.int (4 : Int32)), .val (.int u3), .val (.int (1 : Int32)), .val (.int (1 : Int32))]) rfl kt) ?_
      refine own_go (g' := (mkF m 50 #[.val (.ref a1), .val (.int (4 : Int32)), .val (.int u3), .val (.int (1 : Int32)), .val (.int (1 : Int32))] [])) (fun t kt => XS.goto X21.here hx rfl (pc0 := 181) (pc' := 50) rfl (hb hby own_d10_181) (by decide) (by decide) kt) ?_
      exact hd4 _ _ _ _ _ X21 e21 N21 (Or.inr ⟨_, rfl, rfl⟩) (Or.inr ⟨_, rfl, rfl⟩) (Or.inr ⟨_, rfl, rfl⟩)
    · refine own_go (g' := (mkF m 136 #[.val (.ref a1), .val (.int (3 : Int32)), .val (.int u3), sl3, sl4] [])) (fun t kt => XS.icmpYes X18.here hx rfl (pc0 := 67) (pc' := 136) rfl (hb hby own_d10_67) rfl (feq hc19).2 (by decide) (by decide) kt) ?_
      refine own_go (g' := (mkF m 137 #[.val (.ref a1), .val (.int (3 : Int32)), .val (.int u3), sl3, sl4] [(.int u3)])) (fun t kt => XS.iloadN X18.here hx rfl (hb hby own_d10_136) rfl kt) ?_
      refine own_callS X18 hx hZ (W := 0) (argsL := [(.int u3)]) (rest := []) hown (hw _ (List.mem_of_getElem? (i := 81) rfl)) (hw _ (List.mem_of_getElem? (i := 82) rfl)) (hw _ (List.mem_of_getElem? (i := 42) rfl)) (hw _ (List.mem_of_getElem? (i := 83) rfl)) (by decide) (own_isname l Z a0 hw u3 h0 n0 Z0) (by decide) (by decide) (g := (mkF m 137 #[.val (.ref a1), .val (.int (3 : Int32)), .val (.int u3), sl3, sl4] [(.int u3)])) rfl (by rw [hml]; rfl) (lenOf own_pd4 rfl) rfl (by show 2 * 0 + _ ≤ _; exact Nat.le_of_eq rfl) (hb hby own_d10_137) e18 N18 (by decide) (by decide) (fun v22 T22 L22 X22 N22 hq22 => ?_)
      obtain ⟨rfl, e22⟩ := hq22
      show OEnds _ _ _ _ _ _ T22 (mkF m 140 #[.val (.ref a1), .val (.int (3 : Int32)), .val (.int u3), sl3, sl4] [(.int (own_isn u3))])
      refine own_go (g' := (mkF m 178 #[.val (.ref a1), .val (.int (3 : Int32)), .val (.int u3), sl3, sl4] [])) (fun t kt => XS.ifYes X22.here hx rfl (pc0 := 140) (pc' := 178) rfl (hb hby own_d10_140) rfl ((if0 _ _).trans (feq ((own_nz (own_one k3 hc19)) : ¬ ((own_isn u3) = (0 : Int32)))).2) (by decide) (by decide) kt) ?_
      refine own_go (g' := (mkF m 181 #[.val (.ref a1), .val (.int (4 : Int32)), .val (.int u3), sl3, sl4] [])) (fun t kt => XS.iinc X22.here hx rfl (hb hby own_d10_178) rfl (l' := #[.val (.ref a1), .val (.int (4 : Int32)), .val (.int u3), sl3, sl4]) rfl kt) ?_
      refine own_go (g' := (mkF m 50 #[.val (.ref a1), .val (.int (4 : Int32)), .val (.int u3), sl3, sl4] [])) (fun t kt => XS.goto X22.here hx rfl (pc0 := 181) (pc' := 50) rfl (hb hby own_d10_181) (by decide) (by decide) kt) ?_
      exact hd4 _ _ _ _ _ X22 e22 N22 (Or.inr ⟨_, rfl, rfl⟩) hsl3 hsl4
  have hd2 : ∀ (T : State) (locs : List Loc) (sl2 sl3 sl4 : Slot), Stand p l e ({ frames := 4, cells := 0, slots := 0, locals := 60 } : Room) s m #[(.ref a1)] below meth c T locs 0 0 → T.heap = h0 → Fr n0 locs → own_One sl2 → own_One sl3 → own_One sl4 → OEnds p e below (fun o t L => FrameEnd s o t L (({ frames := 4, cells := 0, slots := 0, locals := 60 } : Room)).cells (({ frames := 4, cells := 0, slots := 0, locals := 60 } : Room)).slots) n0 (fun v h => v = some (.ref a1) ∧ h = h0) T (mkF m 50 #[.val (.ref a1), .val (.int (2 : Int32)), sl2, sl3, sl4] []) := by
    intro T23 L23 sl2 sl3 sl4 X23 e23 N23 hsl2 hsl3 hsl4
    refine own_go (g' := (mkF m 51 #[.val (.ref a1), .val (.int (2 : Int32)), sl2, sl3, sl4] [(.int (2 : Int32))])) (fun t kt => XS.iloadN X23.here hx rfl (hb hby own_d10_50) rfl kt) ?_
    refine own_go (g' := (mkF m 52 #[.val (.ref a1), .val (.int (2 : Int32)), sl2, sl3, sl4] [(.ref a1), (.int (2 : Int32))])) (fun t kt => XS.aloadN X23.here hx rfl (hb hby own_d10_51) rfl rfl kt) ?_
    refine own_callVB X23 hx hZ (a := a1) (W := 1) (argsL := []) (rest := [(.int (2 : Int32))]) (c1 := 0) (s1 := 0) (Qc := fun v h' L => (v = some (.int (Int32.ofNat (List.length ([u0, u1, u2, u3, u4, u5] : List Int32))))) ∧ L = [] ∧ h' = h0) hown (hw _ (List.mem_of_getElem? (i := 49) rfl)) (hw _ (List.mem_of_getElem? (i := 50) rfl)) (hw _ (List.mem_of_getElem? (i := 52) rfl)) (hw _ (List.mem_of_getElem? (i := 51) rfl)) (by decide) (StrChars.Road.lenW (W := 1) hZ (fun d hd => hw d (own_wl d hd)) (kI := 4) (hw _ (List.mem_of_getElem? (i := 11) rfl)) Ea Gv Gc Vb hcd hbd S_c hcs (Nat.le_of_ble_eq_true rfl) (by decide) (by decide)) Ea (g := (mkF m 52 #[.val (.ref a1), .val (.int (2 : Int32)), sl2, sl3, sl4] [(.ref a1), (.int (2 : Int32))])) rfl (by rw [hml]; rfl) (lenOf own_pd3 rfl) rfl (by show 2 * 0 + _ ≤ _; exact Nat.le_of_eq rfl) (hb hby own_d10_52) e23 (by decide) (by decide) (fun v24 T24 L24 X24 hq24 => ?_)
    obtain ⟨rfl, rfl, e24⟩ := hq24
    have N24 := Fr.app N23 (Fr.nil n0)
    show OEnds _ _ _ _ _ _ T24 (mkF m 55 #[.val (.ref a1), .val (.int (2 : Int32)), sl2, sl3, sl4] [(.int (6 : Int32)), (.int (2 : Int32))])
    refine own_go (g' := (mkF m 58 #[.val (.ref a1), .val (.int (2 : Int32)), sl2, sl3, sl4] [])) (fun t kt => XS.icmpNo X24.here hx rfl (hb hby own_d10_55) rfl (tlt ((by decide) : (2 : Int32) < (6 : Int32))).2.1 kt) ?_
    refine own_go (g' := (mkF m 59 #[.val (.ref a1), .val (.int (2 : Int32)), sl2, sl3, sl4] [(.ref a1)])) (fun t kt => XS.aloadN X24.here hx rfl (hb hby own_d10_58) rfl rfl kt) ?_
    refine own_go (g' := (mkF m 60 #[.val (.ref a1), .val (.int (2 : Int32)), sl2, sl3, sl4] [(.int (2 : Int32)), (.ref a1)])) (fun t kt => XS.iloadN X24.here hx rfl (hb hby own_d10_59) rfl kt) ?_
    refine own_callVB X24 hx hZ (a := a1) (W := 0) (argsL := [(.int (2 : Int32))]) (rest := []) (c1 := 0) (s1 := 0) (Qc := fun v h' L => (v = some (.int (List.getD ([u0, u1, u2, u3, u4, u5] : List Int32) 2 0))) ∧ L = [] ∧ h' = h0) hown (hw _ (List.mem_of_getElem? (i := 59) rfl)) (hw _ (List.mem_of_getElem? (i := 60) rfl)) (hw _ (List.mem_of_getElem? (i := 62) rfl)) (hw _ (List.mem_of_getElem? (i := 61) rfl)) (by decide) (StrChars.Road.chN (W := 0) hZ (fun d hd => hw d (own_wc d hd)) (kI := 4) (hw _ (List.mem_of_getElem? (i := 11) rfl)) Ea Gv Gc Vb hcd hbd S_c hcs S_f hsv (Nat.le_of_ble_eq_true rfl) (i := 2) (Nat.le_of_ble_eq_true rfl) (j := (2 : Int32)) rfl (by decide) (by decide)) Ea (g := (mkF m 60 #[.val (.ref a1), .val (.int (2 : Int32)), sl2, sl3, sl4] [(.int (2 : Int32)), (.ref a1)])) rfl (by rw [hml]; rfl) (lenOf own_pd0 rfl) rfl (by show 2 * 0 + _ ≤ _; exact Nat.le_of_eq rfl) (hb hby own_d10_60) e24 (by decide) (by decide) (fun v25 T25 L25 X25 hq25 => ?_)
    obtain ⟨rfl, rfl, e25⟩ := hq25
    have N25 := Fr.app N24 (Fr.nil n0)
    show OEnds _ _ _ _ _ _ T25 (mkF m 63 #[.val (.ref a1), .val (.int (2 : Int32)), sl2, sl3, sl4] [(.int u2)])
    refine own_go (g' := (mkF m 64 #[.val (.ref a1), .val (.int (2 : Int32)), .val (.int u2), sl3, sl4] [])) (fun t kt => XS.istoreN X25.here hx rfl (hb hby own_d10_63) rfl (l' := #[.val (.ref a1), .val (.int (2 : Int32)), .val (.int u2), sl3, sl4]) (XS.store1 (o := sl2) rfl hsl2 rfl) kt) ?_
    refine own_go (g' := (mkF m 65 #[.val (.ref a1), .val (.int (2 : Int32)), .val (.int u2), sl3, sl4] [(.int u2)])) (fun t kt => XS.iloadN X25.here hx rfl (hb hby own_d10_64) rfl kt) ?_
    refine own_go (g' := (mkF m 67 #[.val (.ref a1), .val (.int (2 : Int32)), .val (.int u2), sl3, sl4] [(.int (47 : Int32)), (.int u2)])) (fun t kt => XS.bipush X25.here hx rfl (hb hby own_d10_65) kt) ?_
    by_cases hc26 : u2 = (47 : Int32)
    · refine own_go (g' := (mkF m 70 #[.val (.ref a1), .val (.int (2 : Int32)), .val (.int u2), sl3, sl4] [])) (fun t kt => XS.icmpNo X25.here hx rfl (hb hby own_d10_67) rfl (teq hc26).2 kt) ?_
      refine own_go (g' := (mkF m 71 #[.val (.ref a1), .val (.int (2 : Int32)), .val (.int u2), sl3, sl4] [(.int (2 : Int32))])) (fun t kt => XS.iloadN X25.here hx rfl (hb hby own_d10_70) rfl kt) ?_
      refine own_go (g' := (mkF m 74 #[.val (.ref a1), .val (.int (2 : Int32)), .val (.int u2), sl3, sl4] [])) (fun t kt => XS.ifNo X25.here hx rfl (hb hby own_d10_71) rfl ((if0 _ _).trans (tlt ((by decide) : (0 : Int32) < (2 : Int32))).2.2.2) kt) ?_
      refine own_go (g' := (mkF m 75 #[.val (.ref a1), .val (.int (2 : Int32)), .val (.int u2), sl3, sl4] [(.ref a1)])) (fun t kt => XS.aloadN X25.here hx rfl (hb hby own_d10_74) rfl rfl kt) ?_
      refine own_go (g' := (mkF m 76 #[.val (.ref a1), .val (.int (2 : Int32)), .val (.int u2), sl3, sl4] [(.int (2 : Int32)), (.ref a1)])) (fun t kt => XS.iloadN X25.here hx rfl (hb hby own_d10_75) rfl kt) ?_
      refine own_go (g' := (mkF m 77 #[.val (.ref a1), .val (.int (2 : Int32)), .val (.int u2), sl3, sl4] [(.int (1 : Int32)), (.int (2 : Int32)), (.ref a1)])) (fun t kt => XS.iconst X25.here hx rfl (hb hby own_d10_76) kt) ?_
      refine own_go (g' := (mkF m 78 #[.val (.ref a1), .val (.int (2 : Int32)), .val (.int u2), sl3, sl4] [(.int (1 : Int32)), (.ref a1)])) (fun t kt => XS.isub X25.here hx rfl (hb hby own_d10_77) rfl kt) ?_
      refine own_callVB X25 hx hZ (a := a1) (W := 0) (argsL := [(.int (1 : Int32))]) (rest := []) (c1 := 0) (s1 := 0) (Qc := fun v h' L => (v = some (.int (List.getD ([u0, u1, u2, u3, u4, u5] : List Int32) 1 0))) ∧ L = [] ∧ h' = h0) hown (hw _ (List.mem_of_getElem? (i := 59) rfl)) (hw _ (List.mem_of_getElem? (i := 60) rfl)) (hw _ (List.mem_of_getElem? (i := 62) rfl)) (hw _ (List.mem_of_getElem? (i := 61) rfl)) (by decide) (StrChars.Road.chN (W := 0) hZ (fun d hd => hw d (own_wc d hd)) (kI := 4) (hw _ (List.mem_of_getElem? (i := 11) rfl)) Ea Gv Gc Vb hcd hbd S_c hcs S_f hsv (Nat.le_of_ble_eq_true rfl) (i := 1) (Nat.le_of_ble_eq_true rfl) (j := (1 : Int32)) rfl (by decide) (by decide)) Ea (g := (mkF m 78 #[.val (.ref a1), .val (.int (2 : Int32)), .val (.int u2), sl3, sl4] [(.int (1 : Int32)), (.ref a1)])) rfl (by rw [hml]; rfl) (lenOf own_pd0 rfl) rfl (by show 2 * 0 + _ ≤ _; exact Nat.le_of_eq rfl) (hb hby own_d10_78) e25 (by decide) (by decide) (fun v27 T27 L27 X27 hq27 => ?_)
      obtain ⟨rfl, rfl, e27⟩ := hq27
      have N27 := Fr.app N25 (Fr.nil n0)
      show OEnds _ _ _ _ _ _ T27 (mkF m 81 #[.val (.ref a1), .val (.int (2 : Int32)), .val (.int u2), sl3, sl4] [(.int u1)])
      refine own_go (g' := (mkF m 83 #[.val (.ref a1), .val (.int (2 : Int32)), .val (.int u2), sl3, sl4] [(.int (47 : Int32)), (.int u1)])) (fun t kt => XS.bipush X27.here hx rfl (hb hby own_d10_81) kt) ?_
      refine own_go (g' := (mkF m 86 #[.val (.ref a1), .val (.int (2 : Int32)), .val (.int u2), sl3, sl4] [])) (fun t kt => XS.icmpNo X27.here hx rfl (hb hby own_d10_83) rfl (feq ((own_prev k2 hc26) : ¬ (u1 = (47 : Int32)))).1 kt) ?_
      refine own_go (g' := (mkF m 87 #[.val (.ref a1), .val (.int (2 : Int32)), .val (.int u2), sl3, sl4] [(.int (1 : Int32))])) (fun t kt => XS.iconst X27.here hx rfl (hb hby own_d10_86) kt) ?_
      refine own_go (g' := (mkF m 91 #[.val (.ref a1), .val (.int (2 : Int32)), .val (.int u2), sl3, sl4] [(.int (1 : Int32))])) (fun t kt => XS.goto X27.here hx rfl (pc0 := 87) (pc' := 91) rfl (hb hby own_d10_87) (by decide) (by decide) kt) ?_
      refine own_go (g' := (mkF m 92 #[.val (.ref a1), .val (.int (2 : Int32)), .val (.int u2), .val (.int (1 : Int32)), sl4] [])) (fun t kt => XS.istoreN X27.here hx rfl (hb hby own_d10_91) rfl (l' := #[.val (.ref a1), .val (.int (2 : Int32)), .val (.int u2), .val (.int (1 : Int32)), sl4]) (XS.store1 (o := sl3) rfl hsl3 rfl) kt) ?_
      refine own_go (g' := (mkF m 93 #[.val (.ref a1), .val (.int (2 : Int32)), .val (.int u2), .val (.int (1 : Int32)), sl4] [(.int (2 : Int32))])) (fun t kt => XS.iloadN X27.here hx rfl (hb hby own_d10_92) rfl kt) ?_
      refine own_go (g' := (mkF m 94 #[.val (.ref a1), .val (.int (2 : Int32)), .val (.int u2), .val (.int (1 : Int32)), sl4] [(.ref a1), (.int (2 : Int32))])) (fun t kt => XS.aloadN X27.here hx rfl (hb hby own_d10_93) rfl rfl kt) ?_
      refine own_callVB X27 hx hZ (a := a1) (W := 1) (argsL := []) (rest := [(.int (2 : Int32))]) (c1 := 0) (s1 := 0) (Qc := fun v h' L => (v = some (.int (Int32.ofNat (List.length ([u0, u1, u2, u3, u4, u5] : List Int32))))) ∧ L = [] ∧ h' = h0) hown (hw _ (List.mem_of_getElem? (i := 49) rfl)) (hw _ (List.mem_of_getElem? (i := 50) rfl)) (hw _ (List.mem_of_getElem? (i := 52) rfl)) (hw _ (List.mem_of_getElem? (i := 51) rfl)) (by decide) (StrChars.Road.lenW (W := 1) hZ (fun d hd => hw d (own_wl d hd)) (kI := 4) (hw _ (List.mem_of_getElem? (i := 11) rfl)) Ea Gv Gc Vb hcd hbd S_c hcs (Nat.le_of_ble_eq_true rfl) (by decide) (by decide)) Ea (g := (mkF m 94 #[.val (.ref a1), .val (.int (2 : Int32)), .val (.int u2), .val (.int (1 : Int32)), sl4] [(.ref a1), (.int (2 : Int32))])) rfl (by rw [hml]; rfl) (lenOf own_pd3 rfl) rfl (by show 2 * 0 + _ ≤ _; exact Nat.le_of_eq rfl) (hb hby own_d10_94) e27 (by decide) (by decide) (fun v28 T28 L28 X28 hq28 => ?_)
      obtain ⟨rfl, rfl, e28⟩ := hq28
      have N28 := Fr.app N27 (Fr.nil n0)
      show OEnds _ _ _ _ _ _ T28 (mkF m 97 #[.val (.ref a1), .val (.int (2 : Int32)), .val (.int u2), .val (.int (1 : Int32)), sl4] [(.int (6 : Int32)), (.int (2 : Int32))])
      refine own_go (g' := (mkF m 98 #[.val (.ref a1), .val (.int (2 : Int32)), .val (.int u2), .val (.int (1 : Int32)), sl4] [(.int (1 : Int32)), (.int (6 : Int32)), (.int (2 : Int32))])) (fun t kt => XS.iconst X28.here hx rfl (hb hby own_d10_97) kt) ?_
      refine own_go (g' := (mkF m 99 #[.val (.ref a1), .val (.int (2 : Int32)), .val (.int u2), .val (.int (1 : Int32)), sl4] [(.int (5 : Int32)), (.int (2 : Int32))])) (fun t kt => XS.isub X28.here hx rfl (hb hby own_d10_98) rfl kt) ?_
      refine own_go (g' := (mkF m 102 #[.val (.ref a1), .val (.int (2 : Int32)), .val (.int u2), .val (.int (1 : Int32)), sl4] [])) (fun t kt => XS.icmpNo X28.here hx rfl (hb hby own_d10_99) rfl (tlt ((by decide) : (2 : Int32) < (5 : Int32))).2.1 kt) ?_
      refine own_go (g' := (mkF m 103 #[.val (.ref a1), .val (.int (2 : Int32)), .val (.int u2), .val (.int (1 : Int32)), sl4] [(.int (1 : Int32))])) (fun t kt => XS.iconst X28.here hx rfl (hb hby own_d10_102) kt) ?_
      refine own_go (g' := (mkF m 107 #[.val (.ref a1), .val (.int (2 : Int32)), .val (.int u2), .val (.int (1 : Int32)), sl4] [(.int (1 : Int32))])) (fun t kt => XS.goto X28.here hx rfl (pc0 := 103) (pc' := 107) rfl (hb hby own_d10_103) (by decide) (by decide) kt) ?_
      refine own_go (g' := (mkF m 109 #[.val (.ref a1), .val (.int (2 : Int32)), .val (.int u2), .val (.int (1 : Int32)), .val (.int (1 : Int32))] [])) (fun t kt => XS.istore X28.here hx rfl (hb hby own_d10_107) rfl (l' := #[.val (.ref a1), .val (.int (2 : Int32)), .val (.int u2), .val (.int (1 : Int32)), .val (.int (1 : Int32))]) (XS.store1 (o := sl4) rfl hsl4 rfl) kt) ?_
      refine own_go (g' := (mkF m 110 #[.val (.ref a1), .val (.int (2 : Int32)), .val (.int u2), .val (.int (1 : Int32)), .val (.int (1 : Int32))] [(.int (1 : Int32))])) (fun t kt => XS.iloadN X28.here hx rfl (hb hby own_d10_109) rfl kt) ?_
      refine own_go (g' := (mkF m 113 #[.val (.ref a1), .val (.int (2 : Int32)), .val (.int u2), .val (.int (1 : Int32)), .val (.int (1 : Int32))] [])) (fun t kt => XS.ifNo X28.here hx rfl (hb hby own_d10_110) rfl ((if0 _ _).trans (feq ((by decide) : ¬ ((1 : Int32) = (0 : Int32)))).1) kt) ?_
      refine own_go (g' := (mkF m 115 #[.val (.ref a1), .val (.int (2 : Int32)), .val (.int u2), .val (.int (1 : Int32)), .val (.int (1 : Int32))] [(.int (1 : Int32))])) (fun t kt => XS.iload X28.here hx rfl (hb hby own_d10_113) rfl kt) ?_
      refine own_go (g' := (mkF m 133 #[.val (.ref a1), .val (.int (2 : Int32)), .val (.int u2), .val (.int (1 : Int32)), .val (.int (1 : Int32))] [])) (fun t kt => XS.ifYes X28.here hx rfl (pc0 := 115) (pc' := 133) rfl (hb hby own_d10_115) rfl ((if0 _ _).trans (feq ((by decide) : ¬ ((1 : Int32) = (0 : Int32)))).2) (by decide) (by decide) kt) ?_
      refine own_go (g' := (mkF m 178 #[.val (.ref a1), .val (.int (2 : Int32)), .val (.int u2), .val (.int (1 : Int32)), .val (.int (1 : Int32))] [])) (fun t kt => XS.goto X28.here hx rfl (pc0 := 133) (pc' := 178) rfl (hb hby own_d10_133) (by decide) (by decide) kt) ?_
      refine own_go (g' := (mkF m 181 #[.val (.ref a1), .val (.int (3 : Int32)), .val (.int u2), .val (.int (1 : Int32)), .val (.int (1 : Int32))] [])) (fun t kt => XS.iinc X28.here hx rfl (hb hby own_d10_178) rfl (l' := #[.val (.ref a1), .val (.int (3 : Int32)), .val (.int u2), .val (.int (1 : Int32)), .val (.int (1 : Int32))]) rfl kt) ?_
      refine own_go (g' := (mkF m 50 #[.val (.ref a1), .val (.int (3 : Int32)), .val (.int u2), .val (.int (1 : Int32)), .val (.int (1 : Int32))] [])) (fun t kt => XS.goto X28.here hx rfl (pc0 := 181) (pc' := 50) rfl (hb hby own_d10_181) (by decide) (by decide) kt) ?_
      exact hd3 _ _ _ _ _ X28 e28 N28 (Or.inr ⟨_, rfl, rfl⟩) (Or.inr ⟨_, rfl, rfl⟩) (Or.inr ⟨_, rfl, rfl⟩)
    · refine own_go (g' := (mkF m 136 #[.val (.ref a1), .val (.int (2 : Int32)), .val (.int u2), sl3, sl4] [])) (fun t kt => XS.icmpYes X25.here hx rfl (pc0 := 67) (pc' := 136) rfl (hb hby own_d10_67) rfl (feq hc26).2 (by decide) (by decide) kt) ?_
      refine own_go (g' := (mkF m 137 #[.val (.ref a1), .val (.int (2 : Int32)), .val (.int u2), sl3, sl4] [(.int u2)])) (fun t kt => XS.iloadN X25.here hx rfl (hb hby own_d10_136) rfl kt) ?_
      refine own_callS X25 hx hZ (W := 0) (argsL := [(.int u2)]) (rest := []) hown (hw _ (List.mem_of_getElem? (i := 81) rfl)) (hw _ (List.mem_of_getElem? (i := 82) rfl)) (hw _ (List.mem_of_getElem? (i := 42) rfl)) (hw _ (List.mem_of_getElem? (i := 83) rfl)) (by decide) (own_isname l Z a0 hw u2 h0 n0 Z0) (by decide) (by decide) (g := (mkF m 137 #[.val (.ref a1), .val (.int (2 : Int32)), .val (.int u2), sl3, sl4] [(.int u2)])) rfl (by rw [hml]; rfl) (lenOf own_pd4 rfl) rfl (by show 2 * 0 + _ ≤ _; exact Nat.le_of_eq rfl) (hb hby own_d10_137) e25 N25 (by decide) (by decide) (fun v29 T29 L29 X29 N29 hq29 => ?_)
      obtain ⟨rfl, e29⟩ := hq29
      show OEnds _ _ _ _ _ _ T29 (mkF m 140 #[.val (.ref a1), .val (.int (2 : Int32)), .val (.int u2), sl3, sl4] [(.int (own_isn u2))])
      refine own_go (g' := (mkF m 178 #[.val (.ref a1), .val (.int (2 : Int32)), .val (.int u2), sl3, sl4] [])) (fun t kt => XS.ifYes X29.here hx rfl (pc0 := 140) (pc' := 178) rfl (hb hby own_d10_140) rfl ((if0 _ _).trans (feq ((own_nz (own_one k2 hc26)) : ¬ ((own_isn u2) = (0 : Int32)))).2) (by decide) (by decide) kt) ?_
      refine own_go (g' := (mkF m 181 #[.val (.ref a1), .val (.int (3 : Int32)), .val (.int u2), sl3, sl4] [])) (fun t kt => XS.iinc X29.here hx rfl (hb hby own_d10_178) rfl (l' := #[.val (.ref a1), .val (.int (3 : Int32)), .val (.int u2), sl3, sl4]) rfl kt) ?_
      refine own_go (g' := (mkF m 50 #[.val (.ref a1), .val (.int (3 : Int32)), .val (.int u2), sl3, sl4] [])) (fun t kt => XS.goto X29.here hx rfl (pc0 := 181) (pc' := 50) rfl (hb hby own_d10_181) (by decide) (by decide) kt) ?_
      exact hd3 _ _ _ _ _ X29 e29 N29 (Or.inr ⟨_, rfl, rfl⟩) hsl3 hsl4
  have hd1 : ∀ (T : State) (locs : List Loc) (sl2 sl3 sl4 : Slot), Stand p l e ({ frames := 4, cells := 0, slots := 0, locals := 60 } : Room) s m #[(.ref a1)] below meth c T locs 0 0 → T.heap = h0 → Fr n0 locs → own_One sl2 → own_One sl3 → own_One sl4 → OEnds p e below (fun o t L => FrameEnd s o t L (({ frames := 4, cells := 0, slots := 0, locals := 60 } : Room)).cells (({ frames := 4, cells := 0, slots := 0, locals := 60 } : Room)).slots) n0 (fun v h => v = some (.ref a1) ∧ h = h0) T (mkF m 50 #[.val (.ref a1), .val (.int (1 : Int32)), sl2, sl3, sl4] []) := by
    intro T30 L30 sl2 sl3 sl4 X30 e30 N30 hsl2 hsl3 hsl4
    refine own_go (g' := (mkF m 51 #[.val (.ref a1), .val (.int (1 : Int32)), sl2, sl3, sl4] [(.int (1 : Int32))])) (fun t kt => XS.iloadN X30.here hx rfl (hb hby own_d10_50) rfl kt) ?_
    refine own_go (g' := (mkF m 52 #[.val (.ref a1), .val (.int (1 : Int32)), sl2, sl3, sl4] [(.ref a1), (.int (1 : Int32))])) (fun t kt => XS.aloadN X30.here hx rfl (hb hby own_d10_51) rfl rfl kt) ?_
    refine own_callVB X30 hx hZ (a := a1) (W := 1) (argsL := []) (rest := [(.int (1 : Int32))]) (c1 := 0) (s1 := 0) (Qc := fun v h' L => (v = some (.int (Int32.ofNat (List.length ([u0, u1, u2, u3, u4, u5] : List Int32))))) ∧ L = [] ∧ h' = h0) hown (hw _ (List.mem_of_getElem? (i := 49) rfl)) (hw _ (List.mem_of_getElem? (i := 50) rfl)) (hw _ (List.mem_of_getElem? (i := 52) rfl)) (hw _ (List.mem_of_getElem? (i := 51) rfl)) (by decide) (StrChars.Road.lenW (W := 1) hZ (fun d hd => hw d (own_wl d hd)) (kI := 4) (hw _ (List.mem_of_getElem? (i := 11) rfl)) Ea Gv Gc Vb hcd hbd S_c hcs (Nat.le_of_ble_eq_true rfl) (by decide) (by decide)) Ea (g := (mkF m 52 #[.val (.ref a1), .val (.int (1 : Int32)), sl2, sl3, sl4] [(.ref a1), (.int (1 : Int32))])) rfl (by rw [hml]; rfl) (lenOf own_pd3 rfl) rfl (by show 2 * 0 + _ ≤ _; exact Nat.le_of_eq rfl) (hb hby own_d10_52) e30 (by decide) (by decide) (fun v31 T31 L31 X31 hq31 => ?_)
    obtain ⟨rfl, rfl, e31⟩ := hq31
    have N31 := Fr.app N30 (Fr.nil n0)
    show OEnds _ _ _ _ _ _ T31 (mkF m 55 #[.val (.ref a1), .val (.int (1 : Int32)), sl2, sl3, sl4] [(.int (6 : Int32)), (.int (1 : Int32))])
    refine own_go (g' := (mkF m 58 #[.val (.ref a1), .val (.int (1 : Int32)), sl2, sl3, sl4] [])) (fun t kt => XS.icmpNo X31.here hx rfl (hb hby own_d10_55) rfl (tlt ((by decide) : (1 : Int32) < (6 : Int32))).2.1 kt) ?_
    refine own_go (g' := (mkF m 59 #[.val (.ref a1), .val (.int (1 : Int32)), sl2, sl3, sl4] [(.ref a1)])) (fun t kt => XS.aloadN X31.here hx rfl (hb hby own_d10_58) rfl rfl kt) ?_
    refine own_go (g' := (mkF m 60 #[.val (.ref a1), .val (.int (1 : Int32)), sl2, sl3, sl4] [(.int (1 : Int32)), (.ref a1)])) (fun t kt => XS.iloadN X31.here hx rfl (hb hby own_d10_59) rfl kt) ?_
    refine own_callVB X31 hx hZ (a := a1) (W := 0) (argsL := [(.int (1 : Int32))]) (rest := []) (c1 := 0) (s1 := 0) (Qc := fun v h' L => (v = some (.int (List.getD ([u0, u1, u2, u3, u4, u5] : List Int32) 1 0))) ∧ L = [] ∧ h' = h0) hown (hw _ (List.mem_of_getElem? (i := 59) rfl)) (hw _ (List.mem_of_getElem? (i := 60) rfl)) (hw _ (List.mem_of_getElem? (i := 62) rfl)) (hw _ (List.mem_of_getElem? (i := 61) rfl)) (by decide) (StrChars.Road.chN (W := 0) hZ (fun d hd => hw d (own_wc d hd)) (kI := 4) (hw _ (List.mem_of_getElem? (i := 11) rfl)) Ea Gv Gc Vb hcd hbd S_c hcs S_f hsv (Nat.le_of_ble_eq_true rfl) (i := 1) (Nat.le_of_ble_eq_true rfl) (j := (1 : Int32)) rfl (by decide) (by decide)) Ea (g := (mkF m 60 #[.val (.ref a1), .val (.int (1 : Int32)), sl2, sl3, sl4] [(.int (1 : Int32)), (.ref a1)])) rfl (by rw [hml]; rfl) (lenOf own_pd0 rfl) rfl (by show 2 * 0 + _ ≤ _; exact Nat.le_of_eq rfl) (hb hby own_d10_60) e31 (by decide) (by decide) (fun v32 T32 L32 X32 hq32 => ?_)
    obtain ⟨rfl, rfl, e32⟩ := hq32
    have N32 := Fr.app N31 (Fr.nil n0)
    show OEnds _ _ _ _ _ _ T32 (mkF m 63 #[.val (.ref a1), .val (.int (1 : Int32)), sl2, sl3, sl4] [(.int u1)])
    refine own_go (g' := (mkF m 64 #[.val (.ref a1), .val (.int (1 : Int32)), .val (.int u1), sl3, sl4] [])) (fun t kt => XS.istoreN X32.here hx rfl (hb hby own_d10_63) rfl (l' := #[.val (.ref a1), .val (.int (1 : Int32)), .val (.int u1), sl3, sl4]) (XS.store1 (o := sl2) rfl hsl2 rfl) kt) ?_
    refine own_go (g' := (mkF m 65 #[.val (.ref a1), .val (.int (1 : Int32)), .val (.int u1), sl3, sl4] [(.int u1)])) (fun t kt => XS.iloadN X32.here hx rfl (hb hby own_d10_64) rfl kt) ?_
    refine own_go (g' := (mkF m 67 #[.val (.ref a1), .val (.int (1 : Int32)), .val (.int u1), sl3, sl4] [(.int (47 : Int32)), (.int u1)])) (fun t kt => XS.bipush X32.here hx rfl (hb hby own_d10_65) kt) ?_
    by_cases hc33 : u1 = (47 : Int32)
    · refine own_go (g' := (mkF m 70 #[.val (.ref a1), .val (.int (1 : Int32)), .val (.int u1), sl3, sl4] [])) (fun t kt => XS.icmpNo X32.here hx rfl (hb hby own_d10_67) rfl (teq hc33).2 kt) ?_
      refine own_go (g' := (mkF m 71 #[.val (.ref a1), .val (.int (1 : Int32)), .val (.int u1), sl3, sl4] [(.int (1 : Int32))])) (fun t kt => XS.iloadN X32.here hx rfl (hb hby own_d10_70) rfl kt) ?_
      refine own_go (g' := (mkF m 74 #[.val (.ref a1), .val (.int (1 : Int32)), .val (.int u1), sl3, sl4] [])) (fun t kt => XS.ifNo X32.here hx rfl (hb hby own_d10_71) rfl ((if0 _ _).trans (tlt ((by decide) : (0 : Int32) < (1 : Int32))).2.2.2) kt) ?_
      refine own_go (g' := (mkF m 75 #[.val (.ref a1), .val (.int (1 : Int32)), .val (.int u1), sl3, sl4] [(.ref a1)])) (fun t kt => XS.aloadN X32.here hx rfl (hb hby own_d10_74) rfl rfl kt) ?_
      refine own_go (g' := (mkF m 76 #[.val (.ref a1), .val (.int (1 : Int32)), .val (.int u1), sl3, sl4] [(.int (1 : Int32)), (.ref a1)])) (fun t kt => XS.iloadN X32.here hx rfl (hb hby own_d10_75) rfl kt) ?_
      refine own_go (g' := (mkF m 77 #[.val (.ref a1), .val (.int (1 : Int32)), .val (.int u1), sl3, sl4] [(.int (1 : Int32)), (.int (1 : Int32)), (.ref a1)])) (fun t kt => XS.iconst X32.here hx rfl (hb hby own_d10_76) kt) ?_
      refine own_go (g' := (mkF m 78 #[.val (.ref a1), .val (.int (1 : Int32)), .val (.int u1), sl3, sl4] [(.int (0 : Int32)), (.ref a1)])) (fun t kt => XS.isub X32.here hx rfl (hb hby own_d10_77) rfl kt) ?_
      refine own_callVB X32 hx hZ (a := a1) (W := 0) (argsL := [(.int (0 : Int32))]) (rest := []) (c1 := 0) (s1 := 0) (Qc := fun v h' L => (v = some (.int (List.getD ([u0, u1, u2, u3, u4, u5] : List Int32) 0 0))) ∧ L = [] ∧ h' = h0) hown (hw _ (List.mem_of_getElem? (i := 59) rfl)) (hw _ (List.mem_of_getElem? (i := 60) rfl)) (hw _ (List.mem_of_getElem? (i := 62) rfl)) (hw _ (List.mem_of_getElem? (i := 61) rfl)) (by decide) (StrChars.Road.chN (W := 0) hZ (fun d hd => hw d (own_wc d hd)) (kI := 4) (hw _ (List.mem_of_getElem? (i := 11) rfl)) Ea Gv Gc Vb hcd hbd S_c hcs S_f hsv (Nat.le_of_ble_eq_true rfl) (i := 0) (Nat.le_of_ble_eq_true rfl) (j := (0 : Int32)) rfl (by decide) (by decide)) Ea (g := (mkF m 78 #[.val (.ref a1), .val (.int (1 : Int32)), .val (.int u1), sl3, sl4] [(.int (0 : Int32)), (.ref a1)])) rfl (by rw [hml]; rfl) (lenOf own_pd0 rfl) rfl (by show 2 * 0 + _ ≤ _; exact Nat.le_of_eq rfl) (hb hby own_d10_78) e32 (by decide) (by decide) (fun v34 T34 L34 X34 hq34 => ?_)
      obtain ⟨rfl, rfl, e34⟩ := hq34
      have N34 := Fr.app N32 (Fr.nil n0)
      show OEnds _ _ _ _ _ _ T34 (mkF m 81 #[.val (.ref a1), .val (.int (1 : Int32)), .val (.int u1), sl3, sl4] [(.int u0)])
      refine own_go (g' := (mkF m 83 #[.val (.ref a1), .val (.int (1 : Int32)), .val (.int u1), sl3, sl4] [(.int (47 : Int32)), (.int u0)])) (fun t kt => XS.bipush X34.here hx rfl (hb hby own_d10_81) kt) ?_
      refine own_go (g' := (mkF m 86 #[.val (.ref a1), .val (.int (1 : Int32)), .val (.int u1), sl3, sl4] [])) (fun t kt => XS.icmpNo X34.here hx rfl (hb hby own_d10_83) rfl (feq ((own_prev k1 hc33) : ¬ (u0 = (47 : Int32)))).1 kt) ?_
      refine own_go (g' := (mkF m 87 #[.val (.ref a1), .val (.int (1 : Int32)), .val (.int u1), sl3, sl4] [(.int (1 : Int32))])) (fun t kt => XS.iconst X34.here hx rfl (hb hby own_d10_86) kt) ?_
      refine own_go (g' := (mkF m 91 #[.val (.ref a1), .val (.int (1 : Int32)), .val (.int u1), sl3, sl4] [(.int (1 : Int32))])) (fun t kt => XS.goto X34.here hx rfl (pc0 := 87) (pc' := 91) rfl (hb hby own_d10_87) (by decide) (by decide) kt) ?_
      refine own_go (g' := (mkF m 92 #[.val (.ref a1), .val (.int (1 : Int32)), .val (.int u1), .val (.int (1 : Int32)), sl4] [])) (fun t kt => XS.istoreN X34.here hx rfl (hb hby own_d10_91) rfl (l' := #[.val (.ref a1), .val (.int (1 : Int32)), .val (.int u1), .val (.int (1 : Int32)), sl4]) (XS.store1 (o := sl3) rfl hsl3 rfl) kt) ?_
      refine own_go (g' := (mkF m 93 #[.val (.ref a1), .val (.int (1 : Int32)), .val (.int u1), .val (.int (1 : Int32)), sl4] [(.int (1 : Int32))])) (fun t kt => XS.iloadN X34.here hx rfl (hb hby own_d10_92) rfl kt) ?_
      refine own_go (g' := (mkF m 94 #[.val (.ref a1), .val (.int (1 : Int32)), .val (.int u1), .val (.int (1 : Int32)), sl4] [(.ref a1), (.int (1 : Int32))])) (fun t kt => XS.aloadN X34.here hx rfl (hb hby own_d10_93) rfl rfl kt) ?_
      refine own_callVB X34 hx hZ (a := a1) (W := 1) (argsL := []) (rest := [(.int (1 : Int32))]) (c1 := 0) (s1 := 0) (Qc := fun v h' L => (v = some (.int (Int32.ofNat (List.length ([u0, u1, u2, u3, u4, u5] : List Int32))))) ∧ L = [] ∧ h' = h0) hown (hw _ (List.mem_of_getElem? (i := 49) rfl)) (hw _ (List.mem_of_getElem? (i := 50) rfl)) (hw _ (List.mem_of_getElem? (i := 52) rfl)) (hw _ (List.mem_of_getElem? (i := 51) rfl)) (by decide) (StrChars.Road.lenW (W := 1) hZ (fun d hd => hw d (own_wl d hd)) (kI := 4) (hw _ (List.mem_of_getElem? (i := 11) rfl)) Ea Gv Gc Vb hcd hbd S_c hcs (Nat.le_of_ble_eq_true rfl) (by decide) (by decide)) Ea (g := (mkF m 94 #[.val (.ref a1), .val (.int (1 : Int32)), .val (.int u1), .val (.int (1 : Int32)), sl4] [(.ref a1), (.int (1 : Int32))])) rfl (by rw [hml]; rfl) (lenOf own_pd3 rfl) rfl (by show 2 * 0 + _ ≤ _; exact Nat.le_of_eq rfl) (hb hby own_d10_94) e34 (by decide) (by decide) (fun v35 T35 L35 X35 hq35 => ?_)
      obtain ⟨rfl, rfl, e35⟩ := hq35
      have N35 := Fr.app N34 (Fr.nil n0)
      show OEnds _ _ _ _ _ _ T35 (mkF m 97 #[.val (.ref a1), .val (.int (1 : Int32)), .val (.int u1), .val (.int (1 : Int32)), sl4] [(.int (6 : Int32)), (.int (1 : Int32))])
      refine own_go (g' := (mkF m 98 #[.val (.ref a1), .val (.int (1 : Int32)), .val (.int u1), .val (.int (1 : Int32)), sl4] [(.int (1 : Int32)), (.int (6 : Int32)), (.int (1 : Int32))])) (fun t kt => XS.iconst X35.here hx rfl (hb hby own_d10_97) kt) ?_
      refine own_go (g' := (mkF m 99 #[.val (.ref a1), .val (.int (1 : Int32)), .val (.int u1), .val (.int (1 : Int32)), sl4] [(.int (5 : Int32)), (.int (1 : Int32))])) (fun t kt => XS.isub X35.here hx rfl (hb hby own_d10_98) rfl kt) ?_
      refine own_go (g' := (mkF m 102 #[.val (.ref a1), .val (.int (1 : Int32)), .val (.int u1), .val (.int (1 : Int32)), sl4] [])) (fun t kt => XS.icmpNo X35.here hx rfl (hb hby own_d10_99) rfl (tlt ((by decide) : (1 : Int32) < (5 : Int32))).2.1 kt) ?_
      refine own_go (g' := (mkF m 103 #[.val (.ref a1), .val (.int (1 : Int32)), .val (.int u1), .val (.int (1 : Int32)), sl4] [(.int (1 : Int32))])) (fun t kt => XS.iconst X35.here hx rfl (hb hby own_d10_102) kt) ?_
      refine own_go (g' := (mkF m 107 #[.val (.ref a1), .val (.int (1 : Int32)), .val (.int u1), .val (.int (1 : Int32)), sl4] [(.int (1 : Int32))])) (fun t kt => XS.goto X35.here hx rfl (pc0 := 103) (pc' := 107) rfl (hb hby own_d10_103) (by decide) (by decide) kt) ?_
      refine own_go (g' := (mkF m 109 #[.val (.ref a1), .val (.int (1 : Int32)), .val (.int u1), .val (.int (1 : Int32)), .val (.int (1 : Int32))] [])) (fun t kt => XS.istore X35.here hx rfl (hb hby own_d10_107) rfl (l' := #[.val (.ref a1), .val (.int (1 : Int32)), .val (.int u1), .val (.int (1 : Int32)), .val (.int (1 : Int32))]) (XS.store1 (o := sl4) rfl hsl4 rfl) kt) ?_
      refine own_go (g' := (mkF m 110 #[.val (.ref a1), .val (.int (1 : Int32)), .val (.int u1), .val (.int (1 : Int32)), .val (.int (1 : Int32))] [(.int (1 : Int32))])) (fun t kt => XS.iloadN X35.here hx rfl (hb hby own_d10_109) rfl kt) ?_
      refine own_go (g' := (mkF m 113 #[.val (.ref a1), .val (.int (1 : Int32)), .val (.int u1), .val (.int (1 : Int32)), .val (.int (1 : Int32))] [])) (fun t kt => XS.ifNo X35.here hx rfl (hb hby own_d10_110) rfl ((if0 _ _).trans (feq ((by decide) : ¬ ((1 : Int32) = (0 : Int32)))).1) kt) ?_
      refine own_go (g' := (mkF m 115 #[.val (.ref a1), .val (.int (1 : Int32)), .val (.int u1), .val (.int (1 : Int32)), .val (.int (1 : Int32))] [(.int (1 : Int32))])) (fun t kt => XS.iload X35.here hx rfl (hb hby own_d10_113) rfl kt) ?_
      refine own_go (g' := (mkF m 133 #[.val (.ref a1), .val (.int (1 : Int32)), .val (.int u1), .val (.int (1 : Int32)), .val (.int (1 : Int32))] [])) (fun t kt => XS.ifYes X35.here hx rfl (pc0 := 115) (pc' := 133) rfl (hb hby own_d10_115) rfl ((if0 _ _).trans (feq ((by decide) : ¬ ((1 : Int32) = (0 : Int32)))).2) (by decide) (by decide) kt) ?_
      refine own_go (g' := (mkF m 178 #[.val (.ref a1), .val (.int (1 : Int32)), .val (.int u1), .val (.int (1 : Int32)), .val (.int (1 : Int32))] [])) (fun t kt => XS.goto X35.here hx rfl (pc0 := 133) (pc' := 178) rfl (hb hby own_d10_133) (by decide) (by decide) kt) ?_
      refine own_go (g' := (mkF m 181 #[.val (.ref a1), .val (.int (2 : Int32)), .val (.int u1), .val (.int (1 : Int32)), .val (.int (1 : Int32))] [])) (fun t kt => XS.iinc X35.here hx rfl (hb hby own_d10_178) rfl (l' := #[.val (.ref a1), .val (.int (2 : Int32)), .val (.int u1), .val (.int (1 : Int32)), .val (.int (1 : Int32))]) rfl kt) ?_
      refine own_go (g' := (mkF m 50 #[.val (.ref a1), .val (.int (2 : Int32)), .val (.int u1), .val (.int (1 : Int32)), .val (.int (1 : Int32))] [])) (fun t kt => XS.goto X35.here hx rfl (pc0 := 181) (pc' := 50) rfl (hb hby own_d10_181) (by decide) (by decide) kt) ?_
      exact hd2 _ _ _ _ _ X35 e35 N35 (Or.inr ⟨_, rfl, rfl⟩) (Or.inr ⟨_, rfl, rfl⟩) (Or.inr ⟨_, rfl, rfl⟩)
    · refine own_go (g' := (mkF m 136 #[.val (.ref a1), .val (.int (1 : Int32)), .val (.int u1), sl3, sl4] [])) (fun t kt => XS.icmpYes X32.here hx rfl (pc0 := 67) (pc' := 136) rfl (hb hby own_d10_67) rfl (feq hc33).2 (by decide) (by decide) kt) ?_
      refine own_go (g' := (mkF m 137 #[.val (.ref a1), .val (.int (1 : Int32)), .val (.int u1), sl3, sl4] [(.int u1)])) (fun t kt => XS.iloadN X32.here hx rfl (hb hby own_d10_136) rfl kt) ?_
      refine own_callS X32 hx hZ (W := 0) (argsL := [(.int u1)]) (rest := []) hown (hw _ (List.mem_of_getElem? (i := 81) rfl)) (hw _ (List.mem_of_getElem? (i := 82) rfl)) (hw _ (List.mem_of_getElem? (i := 42) rfl)) (hw _ (List.mem_of_getElem? (i := 83) rfl)) (by decide) (own_isname l Z a0 hw u1 h0 n0 Z0) (by decide) (by decide) (g := (mkF m 137 #[.val (.ref a1), .val (.int (1 : Int32)), .val (.int u1), sl3, sl4] [(.int u1)])) rfl (by rw [hml]; rfl) (lenOf own_pd4 rfl) rfl (by show 2 * 0 + _ ≤ _; exact Nat.le_of_eq rfl) (hb hby own_d10_137) e32 N32 (by decide) (by decide) (fun v36 T36 L36 X36 N36 hq36 => ?_)
      obtain ⟨rfl, e36⟩ := hq36
      show OEnds _ _ _ _ _ _ T36 (mkF m 140 #[.val (.ref a1), .val (.int (1 : Int32)), .val (.int u1), sl3, sl4] [(.int (own_isn u1))])
      refine own_go (g' := (mkF m 178 #[.val (.ref a1), .val (.int (1 : Int32)), .val (.int u1), sl3, sl4] [])) (fun t kt => XS.ifYes X36.here hx rfl (pc0 := 140) (pc' := 178) rfl (hb hby own_d10_140) rfl ((if0 _ _).trans (feq ((own_nz (own_one k1 hc33)) : ¬ ((own_isn u1) = (0 : Int32)))).2) (by decide) (by decide) kt) ?_
      refine own_go (g' := (mkF m 181 #[.val (.ref a1), .val (.int (2 : Int32)), .val (.int u1), sl3, sl4] [])) (fun t kt => XS.iinc X36.here hx rfl (hb hby own_d10_178) rfl (l' := #[.val (.ref a1), .val (.int (2 : Int32)), .val (.int u1), sl3, sl4]) rfl kt) ?_
      refine own_go (g' := (mkF m 50 #[.val (.ref a1), .val (.int (2 : Int32)), .val (.int u1), sl3, sl4] [])) (fun t kt => XS.goto X36.here hx rfl (pc0 := 181) (pc' := 50) rfl (hb hby own_d10_181) (by decide) (by decide) kt) ?_
      exact hd2 _ _ _ _ _ X36 e36 N36 (Or.inr ⟨_, rfl, rfl⟩) hsl3 hsl4
  have hd0 : ∀ (T : State) (locs : List Loc) (sl2 sl3 sl4 : Slot), Stand p l e ({ frames := 4, cells := 0, slots := 0, locals := 60 } : Room) s m #[(.ref a1)] below meth c T locs 0 0 → T.heap = h0 → Fr n0 locs → own_One sl2 → own_One sl3 → own_One sl4 → OEnds p e below (fun o t L => FrameEnd s o t L (({ frames := 4, cells := 0, slots := 0, locals := 60 } : Room)).cells (({ frames := 4, cells := 0, slots := 0, locals := 60 } : Room)).slots) n0 (fun v h => v = some (.ref a1) ∧ h = h0) T (mkF m 50 #[.val (.ref a1), .val (.int (0 : Int32)), sl2, sl3, sl4] []) := by
    intro T37 L37 sl2 sl3 sl4 X37 e37 N37 hsl2 hsl3 hsl4
    refine own_go (g' := (mkF m 51 #[.val (.ref a1), .val (.int (0 : Int32)), sl2, sl3, sl4] [(.int (0 : Int32))])) (fun t kt => XS.iloadN X37.here hx rfl (hb hby own_d10_50) rfl kt) ?_
    refine own_go (g' := (mkF m 52 #[.val (.ref a1), .val (.int (0 : Int32)), sl2, sl3, sl4] [(.ref a1), (.int (0 : Int32))])) (fun t kt => XS.aloadN X37.here hx rfl (hb hby own_d10_51) rfl rfl kt) ?_
    refine own_callVB X37 hx hZ (a := a1) (W := 1) (argsL := []) (rest := [(.int (0 : Int32))]) (c1 := 0) (s1 := 0) (Qc := fun v h' L => (v = some (.int (Int32.ofNat (List.length ([u0, u1, u2, u3, u4, u5] : List Int32))))) ∧ L = [] ∧ h' = h0) hown (hw _ (List.mem_of_getElem? (i := 49) rfl)) (hw _ (List.mem_of_getElem? (i := 50) rfl)) (hw _ (List.mem_of_getElem? (i := 52) rfl)) (hw _ (List.mem_of_getElem? (i := 51) rfl)) (by decide) (StrChars.Road.lenW (W := 1) hZ (fun d hd => hw d (own_wl d hd)) (kI := 4) (hw _ (List.mem_of_getElem? (i := 11) rfl)) Ea Gv Gc Vb hcd hbd S_c hcs (Nat.le_of_ble_eq_true rfl) (by decide) (by decide)) Ea (g := (mkF m 52 #[.val (.ref a1), .val (.int (0 : Int32)), sl2, sl3, sl4] [(.ref a1), (.int (0 : Int32))])) rfl (by rw [hml]; rfl) (lenOf own_pd3 rfl) rfl (by show 2 * 0 + _ ≤ _; exact Nat.le_of_eq rfl) (hb hby own_d10_52) e37 (by decide) (by decide) (fun v38 T38 L38 X38 hq38 => ?_)
    obtain ⟨rfl, rfl, e38⟩ := hq38
    have N38 := Fr.app N37 (Fr.nil n0)
    show OEnds _ _ _ _ _ _ T38 (mkF m 55 #[.val (.ref a1), .val (.int (0 : Int32)), sl2, sl3, sl4] [(.int (6 : Int32)), (.int (0 : Int32))])
    refine own_go (g' := (mkF m 58 #[.val (.ref a1), .val (.int (0 : Int32)), sl2, sl3, sl4] [])) (fun t kt => XS.icmpNo X38.here hx rfl (hb hby own_d10_55) rfl (tlt ((by decide) : (0 : Int32) < (6 : Int32))).2.1 kt) ?_
    refine own_go (g' := (mkF m 59 #[.val (.ref a1), .val (.int (0 : Int32)), sl2, sl3, sl4] [(.ref a1)])) (fun t kt => XS.aloadN X38.here hx rfl (hb hby own_d10_58) rfl rfl kt) ?_
    refine own_go (g' := (mkF m 60 #[.val (.ref a1), .val (.int (0 : Int32)), sl2, sl3, sl4] [(.int (0 : Int32)), (.ref a1)])) (fun t kt => XS.iloadN X38.here hx rfl (hb hby own_d10_59) rfl kt) ?_
    refine own_callVB X38 hx hZ (a := a1) (W := 0) (argsL := [(.int (0 : Int32))]) (rest := []) (c1 := 0) (s1 := 0) (Qc := fun v h' L => (v = some (.int (List.getD ([u0, u1, u2, u3, u4, u5] : List Int32) 0 0))) ∧ L = [] ∧ h' = h0) hown (hw _ (List.mem_of_getElem? (i := 59) rfl)) (hw _ (List.mem_of_getElem? (i := 60) rfl)) (hw _ (List.mem_of_getElem? (i := 62) rfl)) (hw _ (List.mem_of_getElem? (i := 61) rfl)) (by decide) (StrChars.Road.chN (W := 0) hZ (fun d hd => hw d (own_wc d hd)) (kI := 4) (hw _ (List.mem_of_getElem? (i := 11) rfl)) Ea Gv Gc Vb hcd hbd S_c hcs S_f hsv (Nat.le_of_ble_eq_true rfl) (i := 0) (Nat.le_of_ble_eq_true rfl) (j := (0 : Int32)) rfl (by decide) (by decide)) Ea (g := (mkF m 60 #[.val (.ref a1), .val (.int (0 : Int32)), sl2, sl3, sl4] [(.int (0 : Int32)), (.ref a1)])) rfl (by rw [hml]; rfl) (lenOf own_pd0 rfl) rfl (by show 2 * 0 + _ ≤ _; exact Nat.le_of_eq rfl) (hb hby own_d10_60) e38 (by decide) (by decide) (fun v39 T39 L39 X39 hq39 => ?_)
    obtain ⟨rfl, rfl, e39⟩ := hq39
    have N39 := Fr.app N38 (Fr.nil n0)
    show OEnds _ _ _ _ _ _ T39 (mkF m 63 #[.val (.ref a1), .val (.int (0 : Int32)), sl2, sl3, sl4] [(.int u0)])
    refine own_go (g' := (mkF m 64 #[.val (.ref a1), .val (.int (0 : Int32)), .val (.int u0), sl3, sl4] [])) (fun t kt => XS.istoreN X39.here hx rfl (hb hby own_d10_63) rfl (l' := #[.val (.ref a1), .val (.int (0 : Int32)), .val (.int u0), sl3, sl4]) (XS.store1 (o := sl2) rfl hsl2 rfl) kt) ?_
    refine own_go (g' := (mkF m 65 #[.val (.ref a1), .val (.int (0 : Int32)), .val (.int u0), sl3, sl4] [(.int u0)])) (fun t kt => XS.iloadN X39.here hx rfl (hb hby own_d10_64) rfl kt) ?_
    refine own_go (g' := (mkF m 67 #[.val (.ref a1), .val (.int (0 : Int32)), .val (.int u0), sl3, sl4] [(.int (47 : Int32)), (.int u0)])) (fun t kt => XS.bipush X39.here hx rfl (hb hby own_d10_65) kt) ?_
    refine own_go (g' := (mkF m 136 #[.val (.ref a1), .val (.int (0 : Int32)), .val (.int u0), sl3, sl4] [])) (fun t kt => XS.icmpYes X39.here hx rfl (pc0 := 67) (pc' := 136) rfl (hb hby own_d10_67) rfl (feq ((own_n47 k0) : ¬ (u0 = (47 : Int32)))).2 (by decide) (by decide) kt) ?_
    refine own_go (g' := (mkF m 137 #[.val (.ref a1), .val (.int (0 : Int32)), .val (.int u0), sl3, sl4] [(.int u0)])) (fun t kt => XS.iloadN X39.here hx rfl (hb hby own_d10_136) rfl kt) ?_
    refine own_callS X39 hx hZ (W := 0) (argsL := [(.int u0)]) (rest := []) hown (hw _ (List.mem_of_getElem? (i := 81) rfl)) (hw _ (List.mem_of_getElem? (i := 82) rfl)) (hw _ (List.mem_of_getElem? (i := 42) rfl)) (hw _ (List.mem_of_getElem? (i := 83) rfl)) (by decide) (own_isname l Z a0 hw u0 h0 n0 Z0) (by decide) (by decide) (g := (mkF m 137 #[.val (.ref a1), .val (.int (0 : Int32)), .val (.int u0), sl3, sl4] [(.int u0)])) rfl (by rw [hml]; rfl) (lenOf own_pd4 rfl) rfl (by show 2 * 0 + _ ≤ _; exact Nat.le_of_eq rfl) (hb hby own_d10_137) e39 N39 (by decide) (by decide) (fun v40 T40 L40 X40 N40 hq40 => ?_)
    obtain ⟨rfl, e40⟩ := hq40
    show OEnds _ _ _ _ _ _ T40 (mkF m 140 #[.val (.ref a1), .val (.int (0 : Int32)), .val (.int u0), sl3, sl4] [(.int (own_isn u0))])
    refine own_go (g' := (mkF m 178 #[.val (.ref a1), .val (.int (0 : Int32)), .val (.int u0), sl3, sl4] [])) (fun t kt => XS.ifYes X40.here hx rfl (pc0 := 140) (pc' := 178) rfl (hb hby own_d10_140) rfl ((if0 _ _).trans (feq ((own_nz k0) : ¬ ((own_isn u0) = (0 : Int32)))).2) (by decide) (by decide) kt) ?_
    refine own_go (g' := (mkF m 181 #[.val (.ref a1), .val (.int (1 : Int32)), .val (.int u0), sl3, sl4] [])) (fun t kt => XS.iinc X40.here hx rfl (hb hby own_d10_178) rfl (l' := #[.val (.ref a1), .val (.int (1 : Int32)), .val (.int u0), sl3, sl4]) rfl kt) ?_
    refine own_go (g' := (mkF m 50 #[.val (.ref a1), .val (.int (1 : Int32)), .val (.int u0), sl3, sl4] [])) (fun t kt => XS.goto X40.here hx rfl (pc0 := 181) (pc' := 50) rfl (hb hby own_d10_181) (by decide) (by decide) kt) ?_
    exact hd1 _ _ _ _ _ X40 e40 N40 (Or.inr ⟨_, rfl, rfl⟩) hsl3 hsl4
  exact hd0 _ _ _ _ _ X2 e2 N2 (Or.inl rfl) (Or.inl rfl) (Or.inl rfl)
theorem own_pd5 : parseMethodDescriptor "(IIIC)C" = some ⟨[.int, .int, .int, .char], some .char⟩ := by decide +kernel
theorem own_pd6 : parseMethodDescriptor "(CCCCCCI)Ljava/lang/String;" = some ⟨[.char, .char, .char, .char, .char, .char, .int], some (.object "java/lang/String")⟩ := by decide +kernel
theorem own_pd7 : parseMethodDescriptor "(Ljava/lang/String;)Ljava/lang/String;" = some ⟨[(.object "java/lang/String")], some (.object "java/lang/String")⟩ := by decide +kernel
theorem own_pn_0 : plainFor x = true := by first | exact plainFor_of_name (by first | (simp [plainName, overriddenIn]; done) | decide +kernel) | decide +kernel
theorem own_ef_own_law (m : MethodId) (x0 : Int32) (x1 : Int32) (x2 : Int32) (x3 : Int32) (x4 : Int32) (x5 : Int32) : entryFrame m #[(.int x0), (.int x1), (.int x2), (.int x3), (.int x4), (.int x5)] maxLocals = mkF m 0 #[.val (.int x0), .val (.int x1), .val (.int x2), .val (.int x3), .val (.int x4), .val (.int x5), .unset, .unset, .unset, .unset, .unset, .unset, .unset, .unset, .unset] [] := by first | (simp [entryFrame, mkF, argsToLocals, Value.category, maxLocals]; done) | rfl
set_option maxRecDepth 65536 in
set_option maxHeartbeats 40000000 in
theorem own_law (l : Launch) (Z : State) (a0 : Array Value) (hw : ∀ d ∈ tables_1, d.before a0 Z = true) (p1 p2 p3 p4 p5 p6 cs : Int32) (sv : Value) (hsv : sv.isRef = true) (h0 : Heap) (n0 : Nat) (Z0 : n0 ≤ h0.size) (S_c : Sta Z h0 "java/lang/String" "COMPACT_STRINGS" "Z" (.int cs)) (S_f : Sta Z h0 "jdk/internal/util/Preconditions" "SIOOBE_FORMATTER" "Ljava/util/function/BiFunction;" sv) (hcs : ¬ cs = 0) :
    OCon l x code maxLocals ret room_1 Z #[(.int p1), (.int p2), (.int p3), (.int p4), (.int p5), (.int p6)] h0 n0 (fun v h => v = some (.int 1)) := by
  refine own_body own_pn_0 ?_
  intro p e s m below meth c T0 hx hZ hby hml hown hnm hret hlk e0 X0
  replace hml : c.maxLocals = 15 := hml
  replace hown : s.vm.findClass "com/example/nutex/nutex/LockNamesRequireValidPinLaw" = some m.cls := hown
  replace hnm : meth.name = "law" := hnm
  have N0 := Fr.nil n0
  have K0 : Keep h0 h0 [] := Keep.refl _ _
  refine own_at (own_ef_own_law m p1 p2 p3 p4 p5 p6) ?_
  refine own_go (g' := (mkF m 1 #[.val (.int p1), .val (.int p2), .val (.int p3), .val (.int p4), .val (.int p5), .val (.int p6), .unset, .unset, .unset, .unset, .unset, .unset, .unset, .unset, .unset] [(.int p1)])) (fun t kt => XS.iloadN X0.here hx rfl (hb hby at_0) rfl kt) ?_
  refine own_go (g' := (mkF m 3 #[.val (.int p1), .val (.int p2), .val (.int p3), .val (.int p4), .val (.int p5), .val (.int p6), .unset, .unset, .unset, .unset, .unset, .unset, .unset, .unset, .unset] [(.int (24 : Int32)), (.int p1)])) (fun t kt => XS.bipush X0.here hx rfl (hb hby at_1) kt) ?_
  refine own_go (g' := (mkF m 4 #[.val (.int p1), .val (.int p2), .val (.int p3), .val (.int p4), .val (.int p5), .val (.int p6), .unset, .unset, .unset, .unset, .unset, .unset, .unset, .unset, .unset] [(.int ((p1.toUInt32 >>> ((24 : Int32) &&& 31).toUInt32).toInt32))])) (fun t kt => XS.iushr X0.here hx rfl (hb hby at_3) rfl kt) ?_
  refine own_go (g' := (mkF m 6 #[.val (.int p1), .val (.int p2), .val (.int p3), .val (.int p4), .val (.int p5), .val (.int p6), .unset, .unset, .unset, .unset, .unset, .unset, .unset, .unset, .unset] [(.int (6 : Int32)), (.int ((p1.toUInt32 >>> ((24 : Int32) &&& 31).toUInt32).toInt32))])) (fun t kt => XS.bipush X0.here hx rfl (hb hby at_4) kt) ?_
  refine own_go (g' := (mkF m 7 #[.val (.int p1), .val (.int p2), .val (.int p3), .val (.int p4), .val (.int p5), .val (.int p6), .unset, .unset, .unset, .unset, .unset, .unset, .unset, .unset, .unset] [(.int (((p1.toUInt32 >>> ((24 : Int32) &&& 31).toUInt32).toInt32) % (6 : Int32)))])) (fun t kt => iremM X0 hx rfl (hb hby at_6) rfl (by decide) kt) ?_
  refine own_go (g' := (mkF m 8 #[.val (.int p1), .val (.int p2), .val (.int p3), .val (.int p4), .val (.int p5), .val (.int p6), .unset, .unset, .unset, .unset, .unset, .unset, .unset, .unset, .unset] [(.int (1 : Int32)), (.int (((p1.toUInt32 >>> ((24 : Int32) &&& 31).toUInt32).toInt32) % (6 : Int32)))])) (fun t kt => XS.iconst X0.here hx rfl (hb hby at_7) kt) ?_
  refine own_go (g' := (mkF m 9 #[.val (.int p1), .val (.int p2), .val (.int p3), .val (.int p4), .val (.int p5), .val (.int p6), .unset, .unset, .unset, .unset, .unset, .unset, .unset, .unset, .unset] [(.int ((((p1.toUInt32 >>> ((24 : Int32) &&& 31).toUInt32).toInt32) % (6 : Int32)) + (1 : Int32)))])) (fun t kt => XS.iadd X0.here hx rfl (hb hby at_8) rfl kt) ?_
  refine own_go (g' := (mkF m 11 #[.val (.int p1), .val (.int p2), .val (.int p3), .val (.int p4), .val (.int p5), .val (.int p6), .val (.int ((((p1.toUInt32 >>> ((24 : Int32) &&& 31).toUInt32).toInt32) % (6 : Int32)) + (1 : Int32))), .unset, .unset, .unset, .unset, .unset, .unset, .unset, .unset] [])) (fun t kt => XS.istore X0.here hx rfl (hb hby at_9) rfl (l' := #[.val (.int p1), .val (.int p2), .val (.int p3), .val (.int p4), .val (.int p5), .val (.int p6), .val (.int ((((p1.toUInt32 >>> ((24 : Int32) &&& 31).toUInt32).toInt32) % (6 : Int32)) + (1 : Int32))), .unset, .unset, .unset, .unset, .unset, .unset, .unset, .unset]) rfl kt) ?_
  refine own_let (P := fun y1 => OEnds _ _ _ _ _ _ T0 (mkF m 11 #[.val (.int p1), .val (.int p2), .val (.int p3), .val (.int p4), .val (.int p5), .val (.int p6), .val (.int y1), .unset, .unset, .unset, .unset, .unset, .unset, .unset, .unset] [])) ((((p1.toUInt32 >>> ((24 : Int32) &&& 31).toUInt32).toInt32) % (6 : Int32)) + (1 : Int32)) (fun y1 hv_y1 => ?_)
  rcases own_six hv_y1 with rfl | rfl | rfl | rfl | rfl | rfl
  · refine own_go (g' := (mkF m 12 #[.val (.int p1), .val (.int p2), .val (.int p3), .val (.int p4), .val (.int p5), .val (.int p6), .val (.int (1 : Int32)), .unset, .unset, .unset, .unset, .unset, .unset, .unset, .unset] [(.int p1)])) (fun t kt => XS.iloadN X0.here hx rfl (hb hby at_11) rfl kt) ?_
    refine own_callS X0 hx hZ (W := 0) (argsL := [(.int p1)]) (rest := []) hown (hw _ (List.mem_of_getElem? (i := 0) rfl)) (hw _ (List.mem_of_getElem? (i := 1) rfl)) (hw _ (List.mem_of_getElem? (i := 2) rfl)) (hw _ (List.mem_of_getElem? (i := 3) rfl)) (by decide) (own_namechar l Z a0 hw p1 h0 n0 (Nat.le_trans Z0 K0.1)) (by decide) (by decide) (g := (mkF m 12 #[.val (.int p1), .val (.int p2), .val (.int p3), .val (.int p4), .val (.int p5), .val (.int p6), .val (.int (1 : Int32)), .unset, .unset, .unset, .unset, .unset, .unset, .unset, .unset] [(.int p1)])) rfl (by rw [hml]; rfl) (lenOf own_pd0 rfl) rfl (by show 2 * 0 + _ ≤ _; exact Nat.le_of_eq rfl) (hb hby at_12) e0 N0 (by decide) (by decide) (fun v2 T2 L2 X2 N2 hq2 => ?_)
    obtain ⟨c2, rfl, hc2, e2⟩ := hq2
    show OEnds _ _ _ _ _ _ T2 (mkF m 15 #[.val (.int p1), .val (.int p2), .val (.int p3), .val (.int p4), .val (.int p5), .val (.int p6), .val (.int (1 : Int32)), .unset, .unset, .unset, .unset, .unset, .unset, .unset, .unset] [(.int c2)])
    refine own_go (g' := (mkF m 17 #[.val (.int p1), .val (.int p2), .val (.int p3), .val (.int p4), .val (.int p5), .val (.int p6), .val (.int (1 : Int32)), .val (.int c2), .unset, .unset, .unset, .unset, .unset, .unset, .unset] [])) (fun t kt => XS.istore X2.here hx rfl (hb hby at_15) rfl (l' := #[.val (.int p1), .val (.int p2), .val (.int p3), .val (.int p4), .val (.int p5), .val (.int p6), .val (.int (1 : Int32)), .val (.int c2), .unset, .unset, .unset, .unset, .unset, .unset, .unset]) rfl kt) ?_
    refine own_go (g' := (mkF m 18 #[.val (.int p1), .val (.int p2), .val (.int p3), .val (.int p4), .val (.int p5), .val (.int p6), .val (.int (1 : Int32)), .val (.int c2), .unset, .unset, .unset, .unset, .unset, .unset, .unset] [(.int p2)])) (fun t kt => XS.iloadN X2.here hx rfl (hb hby at_17) rfl kt) ?_
    refine own_go (g' := (mkF m 19 #[.val (.int p1), .val (.int p2), .val (.int p3), .val (.int p4), .val (.int p5), .val (.int p6), .val (.int (1 : Int32)), .val (.int c2), .unset, .unset, .unset, .unset, .unset, .unset, .unset] [(.int (1 : Int32)), (.int p2)])) (fun t kt => XS.iconst X2.here hx rfl (hb hby at_18) kt) ?_
    refine own_go (g' := (mkF m 21 #[.val (.int p1), .val (.int p2), .val (.int p3), .val (.int p4), .val (.int p5), .val (.int p6), .val (.int (1 : Int32)), .val (.int c2), .unset, .unset, .unset, .unset, .unset, .unset, .unset] [(.int (1 : Int32)), (.int (1 : Int32)), (.int p2)])) (fun t kt => XS.iload X2.here hx rfl (hb hby at_19) rfl kt) ?_
    refine own_go (g' := (mkF m 23 #[.val (.int p1), .val (.int p2), .val (.int p3), .val (.int p4), .val (.int p5), .val (.int p6), .val (.int (1 : Int32)), .val (.int c2), .unset, .unset, .unset, .unset, .unset, .unset, .unset] [(.int c2), (.int (1 : Int32)), (.int (1 : Int32)), (.int p2)])) (fun t kt => XS.iload X2.here hx rfl (hb hby at_21) rfl kt) ?_
    refine own_callS X2 hx hZ (W := 0) (argsL := [(.int p2), (.int (1 : Int32)), (.int (1 : Int32)), (.int c2)]) (rest := []) hown (hw _ (List.mem_of_getElem? (i := 4) rfl)) (hw _ (List.mem_of_getElem? (i := 5) rfl)) (hw _ (List.mem_of_getElem? (i := 2) rfl)) (hw _ (List.mem_of_getElem? (i := 6) rfl)) (by decide) (own_pickm l Z a0 hw p2 (1 : Int32) (1 : Int32) c2 h0 n0 (Nat.le_trans Z0 K0.1)) (by decide) (by decide) (g := (mkF m 23 #[.val (.int p1), .val (.int p2), .val (.int p3), .val (.int p4), .val (.int p5), .val (.int p6), .val (.int (1 : Int32)), .val (.int c2), .unset, .unset, .unset, .unset, .unset, .unset, .unset] [(.int c2), (.int (1 : Int32)), (.int (1 : Int32)), (.int p2)])) rfl (by rw [hml]; rfl) (lenOf own_pd5 rfl) rfl (by show 2 * 0 + _ ≤ _; exact Nat.le_of_eq rfl) (hb hby at_23) e2 N2 (by decide) (by decide) (fun v3 T3 L3 X3 N3 hq3 => ?_)
    obtain ⟨c3, rfl, hc3, e3⟩ := hq3
    replace hc3 : own_isn c3 = 1 := hc3.resolve_right (fun q => absurd q.2.1 (by decide))
    show OEnds _ _ _ _ _ _ T3 (mkF m 26 #[.val (.int p1), .val (.int p2), .val (.int p3), .val (.int p4), .val (.int p5), .val (.int p6), .val (.int (1 : Int32)), .val (.int c2), .unset, .unset, .unset, .unset, .unset, .unset, .unset] [(.int c3)])
    refine own_go (g' := (mkF m 28 #[.val (.int p1), .val (.int p2), .val (.int p3), .val (.int p4), .val (.int p5), .val (.int p6), .val (.int (1 : Int32)), .val (.int c2), .val (.int c3), .unset, .unset, .unset, .unset, .unset, .unset] [])) (fun t kt => XS.istore X3.here hx rfl (hb hby at_26) rfl (l' := #[.val (.int p1), .val (.int p2), .val (.int p3), .val (.int p4), .val (.int p5), .val (.int p6), .val (.int (1 : Int32)), .val (.int c2), .val (.int c3), .unset, .unset, .unset, .unset, .unset, .unset]) rfl kt) ?_
    refine own_go (g' := (mkF m 29 #[.val (.int p1), .val (.int p2), .val (.int p3), .val (.int p4), .val (.int p5), .val (.int p6), .val (.int (1 : Int32)), .val (.int c2), .val (.int c3), .unset, .unset, .unset, .unset, .unset, .unset] [(.int p3)])) (fun t kt => XS.iloadN X3.here hx rfl (hb hby at_28) rfl kt) ?_
    refine own_go (g' := (mkF m 30 #[.val (.int p1), .val (.int p2), .val (.int p3), .val (.int p4), .val (.int p5), .val (.int p6), .val (.int (1 : Int32)), .val (.int c2), .val (.int c3), .unset, .unset, .unset, .unset, .unset, .unset] [(.int (2 : Int32)), (.int p3)])) (fun t kt => XS.iconst X3.here hx rfl (hb hby at_29) kt) ?_
    refine own_go (g' := (mkF m 32 #[.val (.int p1), .val (.int p2), .val (.int p3), .val (.int p4), .val (.int p5), .val (.int p6), .val (.int (1 : Int32)), .val (.int c2), .val (.int c3), .unset, .unset, .unset, .unset, .unset, .unset] [(.int (1 : Int32)), (.int (2 : Int32)), (.int p3)])) (fun t kt => XS.iload X3.here hx rfl (hb hby at_30) rfl kt) ?_
    refine own_go (g' := (mkF m 34 #[.val (.int p1), .val (.int p2), .val (.int p3), .val (.int p4), .val (.int p5), .val (.int p6), .val (.int (1 : Int32)), .val (.int c2), .val (.int c3), .unset, .unset, .unset, .unset, .unset, .unset] [(.int c3), (.int (1 : Int32)), (.int (2 : Int32)), (.int p3)])) (fun t kt => XS.iload X3.here hx rfl (hb hby at_32) rfl kt) ?_
    refine own_callS X3 hx hZ (W := 0) (argsL := [(.int p3), (.int (2 : Int32)), (.int (1 : Int32)), (.int c3)]) (rest := []) hown (hw _ (List.mem_of_getElem? (i := 4) rfl)) (hw _ (List.mem_of_getElem? (i := 5) rfl)) (hw _ (List.mem_of_getElem? (i := 2) rfl)) (hw _ (List.mem_of_getElem? (i := 6) rfl)) (by decide) (own_pickm l Z a0 hw p3 (2 : Int32) (1 : Int32) c3 h0 n0 (Nat.le_trans Z0 K0.1)) (by decide) (by decide) (g := (mkF m 34 #[.val (.int p1), .val (.int p2), .val (.int p3), .val (.int p4), .val (.int p5), .val (.int p6), .val (.int (1 : Int32)), .val (.int c2), .val (.int c3), .unset, .unset, .unset, .unset, .unset, .unset] [(.int c3), (.int (1 : Int32)), (.int (2 : Int32)), (.int p3)])) rfl (by rw [hml]; rfl) (lenOf own_pd5 rfl) rfl (by show 2 * 0 + _ ≤ _; exact Nat.le_of_eq rfl) (hb hby at_34) e3 N3 (by decide) (by decide) (fun v4 T4 L4 X4 N4 hq4 => ?_)
    obtain ⟨c4, rfl, hc4, e4⟩ := hq4
    replace hc4 : own_isn c4 = 1 := hc4.resolve_right (fun q => absurd q.2.1 (by decide))
    show OEnds _ _ _ _ _ _ T4 (mkF m 37 #[.val (.int p1), .val (.int p2), .val (.int p3), .val (.int p4), .val (.int p5), .val (.int p6), .val (.int (1 : Int32)), .val (.int c2), .val (.int c3), .unset, .unset, .unset, .unset, .unset, .unset] [(.int c4)])
    refine own_go (g' := (mkF m 39 #[.val (.int p1), .val (.int p2), .val (.int p3), .val (.int p4), .val (.int p5), .val (.int p6), .val (.int (1 : Int32)), .val (.int c2), .val (.int c3), .val (.int c4), .unset, .unset, .unset, .unset, .unset] [])) (fun t kt => XS.istore X4.here hx rfl (hb hby at_37) rfl (l' := #[.val (.int p1), .val (.int p2), .val (.int p3), .val (.int p4), .val (.int p5), .val (.int p6), .val (.int (1 : Int32)), .val (.int c2), .val (.int c3), .val (.int c4), .unset, .unset, .unset, .unset, .unset]) rfl kt) ?_
    refine own_go (g' := (mkF m 40 #[.val (.int p1), .val (.int p2), .val (.int p3), .val (.int p4), .val (.int p5), .val (.int p6), .val (.int (1 : Int32)), .val (.int c2), .val (.int c3), .val (.int c4), .unset, .unset, .unset, .unset, .unset] [(.int p4)])) (fun t kt => XS.iloadN X4.here hx rfl (hb hby at_39) rfl kt) ?_
    refine own_go (g' := (mkF m 41 #[.val (.int p1), .val (.int p2), .val (.int p3), .val (.int p4), .val (.int p5), .val (.int p6), .val (.int (1 : Int32)), .val (.int c2), .val (.int c3), .val (.int c4), .unset, .unset, .unset, .unset, .unset] [(.int (3 : Int32)), (.int p4)])) (fun t kt => XS.iconst X4.here hx rfl (hb hby at_40) kt) ?_
    refine own_go (g' := (mkF m 43 #[.val (.int p1), .val (.int p2), .val (.int p3), .val (.int p4), .val (.int p5), .val (.int p6), .val (.int (1 : Int32)), .val (.int c2), .val (.int c3), .val (.int c4), .unset, .unset, .unset, .unset, .unset] [(.int (1 : Int32)), (.int (3 : Int32)), (.int p4)])) (fun t kt => XS.iload X4.here hx rfl (hb hby at_41) rfl kt) ?_
    refine own_go (g' := (mkF m 45 #[.val (.int p1), .val (.int p2), .val (.int p3), .val (.int p4), .val (.int p5), .val (.int p6), .val (.int (1 : Int32)), .val (.int c2), .val (.int c3), .val (.int c4), .unset, .unset, .unset, .unset, .unset] [(.int c4), (.int (1 : Int32)), (.int (3 : Int32)), (.int p4)])) (fun t kt => XS.iload X4.here hx rfl (hb hby at_43) rfl kt) ?_
    refine own_callS X4 hx hZ (W := 0) (argsL := [(.int p4), (.int (3 : Int32)), (.int (1 : Int32)), (.int c4)]) (rest := []) hown (hw _ (List.mem_of_getElem? (i := 4) rfl)) (hw _ (List.mem_of_getElem? (i := 5) rfl)) (hw _ (List.mem_of_getElem? (i := 2) rfl)) (hw _ (List.mem_of_getElem? (i := 6) rfl)) (by decide) (own_pickm l Z a0 hw p4 (3 : Int32) (1 : Int32) c4 h0 n0 (Nat.le_trans Z0 K0.1)) (by decide) (by decide) (g := (mkF m 45 #[.val (.int p1), .val (.int p2), .val (.int p3), .val (.int p4), .val (.int p5), .val (.int p6), .val (.int (1 : Int32)), .val (.int c2), .val (.int c3), .val (.int c4), .unset, .unset, .unset, .unset, .unset] [(.int c4), (.int (1 : Int32)), (.int (3 : Int32)), (.int p4)])) rfl (by rw [hml]; rfl) (lenOf own_pd5 rfl) rfl (by show 2 * 0 + _ ≤ _; exact Nat.le_of_eq rfl) (hb hby at_45) e4 N4 (by decide) (by decide) (fun v5 T5 L5 X5 N5 hq5 => ?_)
    obtain ⟨c5, rfl, hc5, e5⟩ := hq5
    replace hc5 : own_isn c5 = 1 := hc5.resolve_right (fun q => absurd q.2.1 (by decide))
    show OEnds _ _ _ _ _ _ T5 (mkF m 48 #[.val (.int p1), .val (.int p2), .val (.int p3), .val (.int p4), .val (.int p5), .val (.int p6), .val (.int (1 : Int32)), .val (.int c2), .val (.int c3), .val (.int c4), .unset, .unset, .unset, .unset, .unset] [(.int c5)])
    refine own_go (g' := (mkF m 50 #[.val (.int p1), .val (.int p2), .val (.int p3), .val (.int p4), .val (.int p5), .val (.int p6), .val (.int (1 : Int32)), .val (.int c2), .val (.int c3), .val (.int c4), .val (.int c5), .unset, .unset, .unset, .unset] [])) (fun t kt => XS.istore X5.here hx rfl (hb hby at_48) rfl (l' := #[.val (.int p1), .val (.int p2), .val (.int p3), .val (.int p4), .val (.int p5), .val (.int p6), .val (.int (1 : Int32)), .val (.int c2), .val (.int c3), .val (.int c4), .val (.int c5), .unset, .unset, .unset, .unset]) rfl kt) ?_
    refine own_go (g' := (mkF m 52 #[.val (.int p1), .val (.int p2), .val (.int p3), .val (.int p4), .val (.int p5), .val (.int p6), .val (.int (1 : Int32)), .val (.int c2), .val (.int c3), .val (.int c4), .val (.int c5), .unset, .unset, .unset, .unset] [(.int p5)])) (fun t kt => XS.iload X5.here hx rfl (hb hby at_50) rfl kt) ?_
    refine own_go (g' := (mkF m 53 #[.val (.int p1), .val (.int p2), .val (.int p3), .val (.int p4), .val (.int p5), .val (.int p6), .val (.int (1 : Int32)), .val (.int c2), .val (.int c3), .val (.int c4), .val (.int c5), .unset, .unset, .unset, .unset] [(.int (4 : Int32)), (.int p5)])) (fun t kt => XS.iconst X5.here hx rfl (hb hby at_52) kt) ?_
    refine own_go (g' := (mkF m 55 #[.val (.int p1), .val (.int p2), .val (.int p3), .val (.int p4), .val (.int p5), .val (.int p6), .val (.int (1 : Int32)), .val (.int c2), .val (.int c3), .val (.int c4), .val (.int c5), .unset, .unset, .unset, .unset] [(.int (1 : Int32)), (.int (4 : Int32)), (.int p5)])) (fun t kt => XS.iload X5.here hx rfl (hb hby at_53) rfl kt) ?_
    refine own_go (g' := (mkF m 57 #[.val (.int p1), .val (.int p2), .val (.int p3), .val (.int p4), .val (.int p5), .val (.int p6), .val (.int (1 : Int32)), .val (.int c2), .val (.int c3), .val (.int c4), .val (.int c5), .unset, .unset, .unset, .unset] [(.int c5), (.int (1 : Int32)), (.int (4 : Int32)), (.int p5)])) (fun t kt => XS.iload X5.here hx rfl (hb hby at_55) rfl kt) ?_
    refine own_callS X5 hx hZ (W := 0) (argsL := [(.int p5), (.int (4 : Int32)), (.int (1 : Int32)), (.int c5)]) (rest := []) hown (hw _ (List.mem_of_getElem? (i := 4) rfl)) (hw _ (List.mem_of_getElem? (i := 5) rfl)) (hw _ (List.mem_of_getElem? (i := 2) rfl)) (hw _ (List.mem_of_getElem? (i := 6) rfl)) (by decide) (own_pickm l Z a0 hw p5 (4 : Int32) (1 : Int32) c5 h0 n0 (Nat.le_trans Z0 K0.1)) (by decide) (by decide) (g := (mkF m 57 #[.val (.int p1), .val (.int p2), .val (.int p3), .val (.int p4), .val (.int p5), .val (.int p6), .val (.int (1 : Int32)), .val (.int c2), .val (.int c3), .val (.int c4), .val (.int c5), .unset, .unset, .unset, .unset] [(.int c5), (.int (1 : Int32)), (.int (4 : Int32)), (.int p5)])) rfl (by rw [hml]; rfl) (lenOf own_pd5 rfl) rfl (by show 2 * 0 + _ ≤ _; exact Nat.le_of_eq rfl) (hb hby at_57) e5 N5 (by decide) (by decide) (fun v6 T6 L6 X6 N6 hq6 => ?_)
    obtain ⟨c6, rfl, hc6, e6⟩ := hq6
    replace hc6 : own_isn c6 = 1 := hc6.resolve_right (fun q => absurd q.2.1 (by decide))
    show OEnds _ _ _ _ _ _ T6 (mkF m 60 #[.val (.int p1), .val (.int p2), .val (.int p3), .val (.int p4), .val (.int p5), .val (.int p6), .val (.int (1 : Int32)), .val (.int c2), .val (.int c3), .val (.int c4), .val (.int c5), .unset, .unset, .unset, .unset] [(.int c6)])
    refine own_go (g' := (mkF m 62 #[.val (.int p1), .val (.int p2), .val (.int p3), .val (.int p4), .val (.int p5), .val (.int p6), .val (.int (1 : Int32)), .val (.int c2), .val (.int c3), .val (.int c4), .val (.int c5), .val (.int c6), .unset, .unset, .unset] [])) (fun t kt => XS.istore X6.here hx rfl (hb hby at_60) rfl (l' := #[.val (.int p1), .val (.int p2), .val (.int p3), .val (.int p4), .val (.int p5), .val (.int p6), .val (.int (1 : Int32)), .val (.int c2), .val (.int c3), .val (.int c4), .val (.int c5), .val (.int c6), .unset, .unset, .unset]) rfl kt) ?_
    refine own_go (g' := (mkF m 64 #[.val (.int p1), .val (.int p2), .val (.int p3), .val (.int p4), .val (.int p5), .val (.int p6), .val (.int (1 : Int32)), .val (.int c2), .val (.int c3), .val (.int c4), .val (.int c5), .val (.int c6), .unset, .unset, .unset] [(.int p6)])) (fun t kt => XS.iload X6.here hx rfl (hb hby at_62) rfl kt) ?_
    refine own_go (g' := (mkF m 65 #[.val (.int p1), .val (.int p2), .val (.int p3), .val (.int p4), .val (.int p5), .val (.int p6), .val (.int (1 : Int32)), .val (.int c2), .val (.int c3), .val (.int c4), .val (.int c5), .val (.int c6), .unset, .unset, .unset] [(.int (5 : Int32)), (.int p6)])) (fun t kt => XS.iconst X6.here hx rfl (hb hby at_64) kt) ?_
    refine own_go (g' := (mkF m 67 #[.val (.int p1), .val (.int p2), .val (.int p3), .val (.int p4), .val (.int p5), .val (.int p6), .val (.int (1 : Int32)), .val (.int c2), .val (.int c3), .val (.int c4), .val (.int c5), .val (.int c6), .unset, .unset, .unset] [(.int (1 : Int32)), (.int (5 : Int32)), (.int p6)])) (fun t kt => XS.iload X6.here hx rfl (hb hby at_65) rfl kt) ?_
    refine own_go (g' := (mkF m 69 #[.val (.int p1), .val (.int p2), .val (.int p3), .val (.int p4), .val (.int p5), .val (.int p6), .val (.int (1 : Int32)), .val (.int c2), .val (.int c3), .val (.int c4), .val (.int c5), .val (.int c6), .unset, .unset, .unset] [(.int c6), (.int (1 : Int32)), (.int (5 : Int32)), (.int p6)])) (fun t kt => XS.iload X6.here hx rfl (hb hby at_67) rfl kt) ?_
    refine own_callS X6 hx hZ (W := 0) (argsL := [(.int p6), (.int (5 : Int32)), (.int (1 : Int32)), (.int c6)]) (rest := []) hown (hw _ (List.mem_of_getElem? (i := 4) rfl)) (hw _ (List.mem_of_getElem? (i := 5) rfl)) (hw _ (List.mem_of_getElem? (i := 2) rfl)) (hw _ (List.mem_of_getElem? (i := 6) rfl)) (by decide) (own_pickm l Z a0 hw p6 (5 : Int32) (1 : Int32) c6 h0 n0 (Nat.le_trans Z0 K0.1)) (by decide) (by decide) (g := (mkF m 69 #[.val (.int p1), .val (.int p2), .val (.int p3), .val (.int p4), .val (.int p5), .val (.int p6), .val (.int (1 : Int32)), .val (.int c2), .val (.int c3), .val (.int c4), .val (.int c5), .val (.int c6), .unset, .unset, .unset] [(.int c6), (.int (1 : Int32)), (.int (5 : Int32)), (.int p6)])) rfl (by rw [hml]; rfl) (lenOf own_pd5 rfl) rfl (by show 2 * 0 + _ ≤ _; exact Nat.le_of_eq rfl) (hb hby at_69) e6 N6 (by decide) (by decide) (fun v7 T7 L7 X7 N7 hq7 => ?_)
    obtain ⟨c7, rfl, hc7, e7⟩ := hq7
    replace hc7 : own_isn c7 = 1 := hc7.resolve_right (fun q => absurd q.2.1 (by decide))
    show OEnds _ _ _ _ _ _ T7 (mkF m 72 #[.val (.int p1), .val (.int p2), .val (.int p3), .val (.int p4), .val (.int p5), .val (.int p6), .val (.int (1 : Int32)), .val (.int c2), .val (.int c3), .val (.int c4), .val (.int c5), .val (.int c6), .unset, .unset, .unset] [(.int c7)])
    refine own_go (g' := (mkF m 74 #[.val (.int p1), .val (.int p2), .val (.int p3), .val (.int p4), .val (.int p5), .val (.int p6), .val (.int (1 : Int32)), .val (.int c2), .val (.int c3), .val (.int c4), .val (.int c5), .val (.int c6), .val (.int c7), .unset, .unset] [])) (fun t kt => XS.istore X7.here hx rfl (hb hby at_72) rfl (l' := #[.val (.int p1), .val (.int p2), .val (.int p3), .val (.int p4), .val (.int p5), .val (.int p6), .val (.int (1 : Int32)), .val (.int c2), .val (.int c3), .val (.int c4), .val (.int c5), .val (.int c6), .val (.int c7), .unset, .unset]) rfl kt) ?_
    refine own_go (g' := (mkF m 76 #[.val (.int p1), .val (.int p2), .val (.int p3), .val (.int p4), .val (.int p5), .val (.int p6), .val (.int (1 : Int32)), .val (.int c2), .val (.int c3), .val (.int c4), .val (.int c5), .val (.int c6), .val (.int c7), .unset, .unset] [(.int c2)])) (fun t kt => XS.iload X7.here hx rfl (hb hby at_74) rfl kt) ?_
    refine own_go (g' := (mkF m 78 #[.val (.int p1), .val (.int p2), .val (.int p3), .val (.int p4), .val (.int p5), .val (.int p6), .val (.int (1 : Int32)), .val (.int c2), .val (.int c3), .val (.int c4), .val (.int c5), .val (.int c6), .val (.int c7), .unset, .unset] [(.int c3), (.int c2)])) (fun t kt => XS.iload X7.here hx rfl (hb hby at_76) rfl kt) ?_
    refine own_go (g' := (mkF m 80 #[.val (.int p1), .val (.int p2), .val (.int p3), .val (.int p4), .val (.int p5), .val (.int p6), .val (.int (1 : Int32)), .val (.int c2), .val (.int c3), .val (.int c4), .val (.int c5), .val (.int c6), .val (.int c7), .unset, .unset] [(.int c4), (.int c3), (.int c2)])) (fun t kt => XS.iload X7.here hx rfl (hb hby at_78) rfl kt) ?_
    refine own_go (g' := (mkF m 82 #[.val (.int p1), .val (.int p2), .val (.int p3), .val (.int p4), .val (.int p5), .val (.int p6), .val (.int (1 : Int32)), .val (.int c2), .val (.int c3), .val (.int c4), .val (.int c5), .val (.int c6), .val (.int c7), .unset, .unset] [(.int c5), (.int c4), (.int c3), (.int c2)])) (fun t kt => XS.iload X7.here hx rfl (hb hby at_80) rfl kt) ?_
    refine own_go (g' := (mkF m 84 #[.val (.int p1), .val (.int p2), .val (.int p3), .val (.int p4), .val (.int p5), .val (.int p6), .val (.int (1 : Int32)), .val (.int c2), .val (.int c3), .val (.int c4), .val (.int c5), .val (.int c6), .val (.int c7), .unset, .unset] [(.int c6), (.int c5), (.int c4), (.int c3), (.int c2)])) (fun t kt => XS.iload X7.here hx rfl (hb hby at_82) rfl kt) ?_
    refine own_go (g' := (mkF m 86 #[.val (.int p1), .val (.int p2), .val (.int p3), .val (.int p4), .val (.int p5), .val (.int p6), .val (.int (1 : Int32)), .val (.int c2), .val (.int c3), .val (.int c4), .val (.int c5), .val (.int c6), .val (.int c7), .unset, .unset] [(.int c7), (.int c6), (.int c5), (.int c4), (.int c3), (.int c2)])) (fun t kt => XS.iload X7.here hx rfl (hb hby at_84) rfl kt) ?_
    refine own_go (g' := (mkF m 88 #[.val (.int p1), .val (.int p2), .val (.int p3), .val (.int p4), .val (.int p5), .val (.int p6), .val (.int (1 : Int32)), .val (.int c2), .val (.int c3), .val (.int c4), .val (.int c5), .val (.int c6), .val (.int c7), .unset, .unset] [(.int (1 : Int32)), (.int c7), (.int c6), (.int c5), (.int c4), (.int c3), (.int c2)])) (fun t kt => XS.iload X7.here hx rfl (hb hby at_86) rfl kt) ?_
    refine own_callS X7 hx hZ (W := 0) (argsL := [(.int c2), (.int c3), (.int c4), (.int c5), (.int c6), (.int c7), (.int (1 : Int32))]) (rest := []) hown (hw _ (List.mem_of_getElem? (i := 7) rfl)) (hw _ (List.mem_of_getElem? (i := 8) rfl)) (hw _ (List.mem_of_getElem? (i := 2) rfl)) (hw _ (List.mem_of_getElem? (i := 9) rfl)) (by decide) (own_build1 l Z a0 hw c2 c3 c4 c5 c6 c7 cs h0 n0 (Nat.le_trans Z0 K0.1) S_c hcs (own_rngc (Or.inl hc2))) (by decide) (by decide) (g := (mkF m 88 #[.val (.int p1), .val (.int p2), .val (.int p3), .val (.int p4), .val (.int p5), .val (.int p6), .val (.int (1 : Int32)), .val (.int c2), .val (.int c3), .val (.int c4), .val (.int c5), .val (.int c6), .val (.int c7), .unset, .unset] [(.int (1 : Int32)), (.int c7), (.int c6), (.int c5), (.int c4), (.int c3), (.int c2)])) rfl (by rw [hml]; rfl) (lenOf own_pd6 rfl) rfl (by show 2 * 0 + _ ≤ _; exact Nat.le_of_eq rfl) (hb hby at_88) e7 N7 (by decide) (by decide) (fun v8 T8 L8 X8 N8 hq8 => ?_)
    obtain ⟨b8, t8, k8, rfl, Kc8, A8, G8, F8, V8⟩ := hq8
    have K8 := K0.trans Kc8 all0
    have S_c_h8 := S_c.ext (own_kext K8)
    have S_f_h8 := S_f.ext (own_kext K8)
    have hp8 : ∀ c ∈ ([c2] : List Int32), ¬ c < 0 ∧ ¬ (255 : Int32) < c := (own_alS (own_rngc (Or.inl hc2)).1 own_al0)
    have hcd8 := StrChars.Road.codOf (cs := ([c2] : List Int32)) (n := 1) rfl (fun c hc => (hp8 c hc).2)
    have hbd8 := own_up _ hp8
    show OEnds _ _ _ _ _ _ T8 (mkF m 91 #[.val (.int p1), .val (.int p2), .val (.int p3), .val (.int p4), .val (.int p5), .val (.int p6), .val (.int (1 : Int32)), .val (.int c2), .val (.int c3), .val (.int c4), .val (.int c5), .val (.int c6), .val (.int c7), .unset, .unset] [(.ref b8)])
    refine own_go (g' := (mkF m 93 #[.val (.int p1), .val (.int p2), .val (.int p3), .val (.int p4), .val (.int p5), .val (.int p6), .val (.int (1 : Int32)), .val (.int c2), .val (.int c3), .val (.int c4), .val (.int c5), .val (.int c6), .val (.int c7), .val (.ref b8), .unset] [])) (fun t kt => XS.astore X8.here hx rfl (hb hby at_91) rfl rfl (l' := #[.val (.int p1), .val (.int p2), .val (.int p3), .val (.int p4), .val (.int p5), .val (.int p6), .val (.int (1 : Int32)), .val (.int c2), .val (.int c3), .val (.int c4), .val (.int c5), .val (.int c6), .val (.int c7), .val (.ref b8), .unset]) rfl kt) ?_
    refine own_go (g' := (mkF m 95 #[.val (.int p1), .val (.int p2), .val (.int p3), .val (.int p4), .val (.int p5), .val (.int p6), .val (.int (1 : Int32)), .val (.int c2), .val (.int c3), .val (.int c4), .val (.int c5), .val (.int c6), .val (.int c7), .val (.ref b8), .unset] [(.ref b8)])) (fun t kt => XS.aload X8.here hx rfl (hb hby at_93) rfl rfl kt) ?_
    refine own_callS X8 hx hZ (W := 0) (argsL := [(.ref b8)]) (rest := []) hown (hw _ (List.mem_of_getElem? (i := 40) rfl)) (hw _ (List.mem_of_getElem? (i := 41) rfl)) (hw _ (List.mem_of_getElem? (i := 42) rfl)) (hw _ (List.mem_of_getElem? (i := 43) rfl)) (by decide) (own_req1 l Z a0 hw b8 t8 k8 c2 cs sv hsv T8.heap n0 (Nat.le_trans Z0 K8.1) A8 G8 F8 V8 S_c_h8 S_f_h8 hcs hcd8 hbd8 hc2) (by decide) (by decide) (g := (mkF m 95 #[.val (.int p1), .val (.int p2), .val (.int p3), .val (.int p4), .val (.int p5), .val (.int p6), .val (.int (1 : Int32)), .val (.int c2), .val (.int c3), .val (.int c4), .val (.int c5), .val (.int c6), .val (.int c7), .val (.ref b8), .unset] [(.ref b8)])) rfl (by rw [hml]; rfl) (lenOf own_pd7 rfl) rfl (by show 2 * 0 + _ ≤ _; exact Nat.le_of_eq rfl) (hb hby at_95) rfl N8 (by decide) (by decide) (fun v9 T9 L9 X9 N9 hq9 => ?_)
    obtain ⟨rfl, e9⟩ := hq9
    show OEnds _ _ _ _ _ _ T9 (mkF m 98 #[.val (.int p1), .val (.int p2), .val (.int p3), .val (.int p4), .val (.int p5), .val (.int p6), .val (.int (1 : Int32)), .val (.int c2), .val (.int c3), .val (.int c4), .val (.int c5), .val (.int c6), .val (.int c7), .val (.ref b8), .unset] [(.ref b8)])
    refine own_go (g' := (mkF m 100 #[.val (.int p1), .val (.int p2), .val (.int p3), .val (.int p4), .val (.int p5), .val (.int p6), .val (.int (1 : Int32)), .val (.int c2), .val (.int c3), .val (.int c4), .val (.int c5), .val (.int c6), .val (.int c7), .val (.ref b8), .val (.ref b8)] [])) (fun t kt => XS.astore X9.here hx rfl (hb hby at_98) rfl rfl (l' := #[.val (.int p1), .val (.int p2), .val (.int p3), .val (.int p4), .val (.int p5), .val (.int p6), .val (.int (1 : Int32)), .val (.int c2), .val (.int c3), .val (.int c4), .val (.int c5), .val (.int c6), .val (.int c7), .val (.ref b8), .val (.ref b8)]) rfl kt) ?_
    refine own_go (g' := (mkF m 102 #[.val (.int p1), .val (.int p2), .val (.int p3), .val (.int p4), .val (.int p5), .val (.int p6), .val (.int (1 : Int32)), .val (.int c2), .val (.int c3), .val (.int c4), .val (.int c5), .val (.int c6), .val (.int c7), .val (.ref b8), .val (.ref b8)] [(.ref b8)])) (fun t kt => XS.aload X9.here hx rfl (hb hby at_100) rfl rfl kt) ?_
    refine own_go (g' := (mkF m 104 #[.val (.int p1), .val (.int p2), .val (.int p3), .val (.int p4), .val (.int p5), .val (.int p6), .val (.int (1 : Int32)), .val (.int c2), .val (.int c3), .val (.int c4), .val (.int c5), .val (.int c6), .val (.int c7), .val (.ref b8), .val (.ref b8)] [(.ref b8), (.ref b8)])) (fun t kt => XS.aload X9.here hx rfl (hb hby at_102) rfl rfl kt) ?_
    refine own_go (g' := (mkF m 107 #[.val (.int p1), .val (.int p2), .val (.int p3), .val (.int p4), .val (.int p5), .val (.int p6), .val (.int (1 : Int32)), .val (.int c2), .val (.int c3), .val (.int c4), .val (.int c5), .val (.int c6), .val (.int c7), .val (.ref b8), .val (.ref b8)] [])) (fun t kt => Jvm.RoadKit.acmp (g := (mkF m 104 #[.val (.int p1), .val (.int p2), .val (.int p3), .val (.int p4), .val (.int p5), .val (.int p6), .val (.int (1 : Int32)), .val (.int c2), .val (.int c3), .val (.int c4), .val (.int c5), .val (.int c6), .val (.int c7), .val (.ref b8), .val (.ref b8)] [(.ref b8), (.ref b8)])) X9 hx rfl rfl rfl (pc0 := 104) (pc' := 107) (same := true) rfl (hb hby at_104) rfl (decide_eq_true rfl) (by decide) (by decide) kt) ?_
    refine own_go (g' := (mkF m 109 #[.val (.int p1), .val (.int p2), .val (.int p3), .val (.int p4), .val (.int p5), .val (.int p6), .val (.int (1 : Int32)), .val (.int c2), .val (.int c3), .val (.int c4), .val (.int c5), .val (.int c6), .val (.int c7), .val (.ref b8), .val (.ref b8)] [(.ref b8)])) (fun t kt => XS.aload X9.here hx rfl (hb hby at_107) rfl rfl kt) ?_
    refine own_callVB X9 hx hZ (a := b8) (W := 0) (argsL := []) (rest := []) (c1 := 0) (s1 := 0) (Qc := fun v h' L => (v = some (.int (Int32.ofNat (List.length ([c2] : List Int32))))) ∧ L = [] ∧ h' = T8.heap) hown (hw _ (List.mem_of_getElem? (i := 84) rfl)) (hw _ (List.mem_of_getElem? (i := 50) rfl)) (hw _ (List.mem_of_getElem? (i := 52) rfl)) (hw _ (List.mem_of_getElem? (i := 51) rfl)) (by decide) (StrChars.Road.lenW (W := 0) hZ (fun d hd => hw d (own_wl d hd)) (kI := 4) (hw _ (List.mem_of_getElem? (i := 11) rfl)) A8 F8 G8 V8 hcd8 hbd8 S_c_h8 hcs (Nat.le_of_ble_eq_true rfl) (by decide) (by decide)) A8 (g := (mkF m 109 #[.val (.int p1), .val (.int p2), .val (.int p3), .val (.int p4), .val (.int p5), .val (.int p6), .val (.int (1 : Int32)), .val (.int c2), .val (.int c3), .val (.int c4), .val (.int c5), .val (.int c6), .val (.int c7), .val (.ref b8), .val (.ref b8)] [(.ref b8)])) rfl (by rw [hml]; rfl) (lenOf own_pd3 rfl) rfl (by show 2 * 0 + _ ≤ _; exact Nat.le_of_eq rfl) (hb hby at_109) e9 (by decide) (by decide) (fun v10 T10 L10 X10 hq10 => ?_)
    obtain ⟨rfl, rfl, e10⟩ := hq10
    have N10 := Fr.app N9 (Fr.nil n0)
    show OEnds _ _ _ _ _ _ T10 (mkF m 112 #[.val (.int p1), .val (.int p2), .val (.int p3), .val (.int p4), .val (.int p5), .val (.int p6), .val (.int (1 : Int32)), .val (.int c2), .val (.int c3), .val (.int c4), .val (.int c5), .val (.int c6), .val (.int c7), .val (.ref b8), .val (.ref b8)] [(.int (1 : Int32))])
    refine own_go (g' := (mkF m 114 #[.val (.int p1), .val (.int p2), .val (.int p3), .val (.int p4), .val (.int p5), .val (.int p6), .val (.int (1 : Int32)), .val (.int c2), .val (.int c3), .val (.int c4), .val (.int c5), .val (.int c6), .val (.int c7), .val (.ref b8), .val (.ref b8)] [(.int (1 : Int32)), (.int (1 : Int32))])) (fun t kt => XS.iload X10.here hx rfl (hb hby at_112) rfl kt) ?_
    refine own_go (g' := (mkF m 117 #[.val (.int p1), .val (.int p2), .val (.int p3), .val (.int p4), .val (.int p5), .val (.int p6), .val (.int (1 : Int32)), .val (.int c2), .val (.int c3), .val (.int c4), .val (.int c5), .val (.int c6), .val (.int c7), .val (.ref b8), .val (.ref b8)] [])) (fun t kt => XS.icmpNo X10.here hx rfl (hb hby at_114) rfl (teq ((by decide) : (1 : Int32) = (1 : Int32))).2 kt) ?_
    refine own_go (g' := (mkF m 118 #[.val (.int p1), .val (.int p2), .val (.int p3), .val (.int p4), .val (.int p5), .val (.int p6), .val (.int (1 : Int32)), .val (.int c2), .val (.int c3), .val (.int c4), .val (.int c5), .val (.int c6), .val (.int c7), .val (.ref b8), .val (.ref b8)] [(.int (1 : Int32))])) (fun t kt => XS.iconst X10.here hx rfl (hb hby at_117) kt) ?_
    refine own_go (g' := (mkF m 122 #[.val (.int p1), .val (.int p2), .val (.int p3), .val (.int p4), .val (.int p5), .val (.int p6), .val (.int (1 : Int32)), .val (.int c2), .val (.int c3), .val (.int c4), .val (.int c5), .val (.int c6), .val (.int c7), .val (.ref b8), .val (.ref b8)] [(.int (1 : Int32))])) (fun t kt => XS.goto X10.here hx rfl (pc0 := 118) (pc' := 122) rfl (hb hby at_118) (by decide) (by decide) kt) ?_
    exact own_retN X10 hx hlk (t := .boolean) (z' := (1 : Int32)) hret (by simp) (hb hby at_122) rfl e10 N10 (by decide) (by decide) (rfl)
  · refine own_go (g' := (mkF m 12 #[.val (.int p1), .val (.int p2), .val (.int p3), .val (.int p4), .val (.int p5), .val (.int p6), .val (.int (2 : Int32)), .unset, .unset, .unset, .unset, .unset, .unset, .unset, .unset] [(.int p1)])) (fun t kt => XS.iloadN X0.here hx rfl (hb hby at_11) rfl kt) ?_
    refine own_callS X0 hx hZ (W := 0) (argsL := [(.int p1)]) (rest := []) hown (hw _ (List.mem_of_getElem? (i := 0) rfl)) (hw _ (List.mem_of_getElem? (i := 1) rfl)) (hw _ (List.mem_of_getElem? (i := 2) rfl)) (hw _ (List.mem_of_getElem? (i := 3) rfl)) (by decide) (own_namechar l Z a0 hw p1 h0 n0 (Nat.le_trans Z0 K0.1)) (by decide) (by decide) (g := (mkF m 12 #[.val (.int p1), .val (.int p2), .val (.int p3), .val (.int p4), .val (.int p5), .val (.int p6), .val (.int (2 : Int32)), .unset, .unset, .unset, .unset, .unset, .unset, .unset, .unset] [(.int p1)])) rfl (by rw [hml]; rfl) (lenOf own_pd0 rfl) rfl (by show 2 * 0 + _ ≤ _; exact Nat.le_of_eq rfl) (hb hby at_12) e0 N0 (by decide) (by decide) (fun v11 T11 L11 X11 N11 hq11 => ?_)
    obtain ⟨c11, rfl, hc11, e11⟩ := hq11
    show OEnds _ _ _ _ _ _ T11 (mkF m 15 #[.val (.int p1), .val (.int p2), .val (.int p3), .val (.int p4), .val (.int p5), .val (.int p6), .val (.int (2 : Int32)), .unset, .unset, .unset, .unset, .unset, .unset, .unset, .unset] [(.int c11)])
    refine own_go (g' := (mkF m 17 #[.val (.int p1), .val (.int p2), .val (.int p3), .val (.int p4), .val (.int p5), .val (.int p6), .val (.int (2 : Int32)), .val (.int c11), .unset, .unset, .unset, .unset, .unset, .unset, .unset] [])) (fun t kt => XS.istore X11.here hx rfl (hb hby at_15) rfl (l' := #[.val (.int p1), .val (.int p2), .val (.int p3), .val (.int p4), .val (.int p5), .val (.int p6), .val (.int (2 : Int32)), .val (.int c11), .unset, .unset, .unset, .unset, .unset, .unset, .unset]) rfl kt) ?_
    refine own_go (g' := (mkF m 18 #[.val (.int p1), .val (.int p2), .val (.int p3), .val (.int p4), .val (.int p5), .val (.int p6), .val (.int (2 : Int32)), .val (.int c11), .unset, .unset, .unset, .unset, .unset, .unset, .unset] [(.int p2)])) (fun t kt => XS.iloadN X11.here hx rfl (hb hby at_17) rfl kt) ?_
    refine own_go (g' := (mkF m 19 #[.val (.int p1), .val (.int p2), .val (.int p3), .val (.int p4), .val (.int p5), .val (.int p6), .val (.int (2 : Int32)), .val (.int c11), .unset, .unset, .unset, .unset, .unset, .unset, .unset] [(.int (1 : Int32)), (.int p2)])) (fun t kt => XS.iconst X11.here hx rfl (hb hby at_18) kt) ?_
    refine own_go (g' := (mkF m 21 #[.val (.int p1), .val (.int p2), .val (.int p3), .val (.int p4), .val (.int p5), .val (.int p6), .val (.int (2 : Int32)), .val (.int c11), .unset, .unset, .unset, .unset, .unset, .unset, .unset] [(.int (2 : Int32)), (.int (1 : Int32)), (.int p2)])) (fun t kt => XS.iload X11.here hx rfl (hb hby at_19) rfl kt) ?_
    refine own_go (g' := (mkF m 23 #[.val (.int p1), .val (.int p2), .val (.int p3), .val (.int p4), .val (.int p5), .val (.int p6), .val (.int (2 : Int32)), .val (.int c11), .unset, .unset, .unset, .unset, .unset, .unset, .unset] [(.int c11), (.int (2 : Int32)), (.int (1 : Int32)), (.int p2)])) (fun t kt => XS.iload X11.here hx rfl (hb hby at_21) rfl kt) ?_
    refine own_callS X11 hx hZ (W := 0) (argsL := [(.int p2), (.int (1 : Int32)), (.int (2 : Int32)), (.int c11)]) (rest := []) hown (hw _ (List.mem_of_getElem? (i := 4) rfl)) (hw _ (List.mem_of_getElem? (i := 5) rfl)) (hw _ (List.mem_of_getElem? (i := 2) rfl)) (hw _ (List.mem_of_getElem? (i := 6) rfl)) (by decide) (own_pickm l Z a0 hw p2 (1 : Int32) (2 : Int32) c11 h0 n0 (Nat.le_trans Z0 K0.1)) (by decide) (by decide) (g := (mkF m 23 #[.val (.int p1), .val (.int p2), .val (.int p3), .val (.int p4), .val (.int p5), .val (.int p6), .val (.int (2 : Int32)), .val (.int c11), .unset, .unset, .unset, .unset, .unset, .unset, .unset] [(.int c11), (.int (2 : Int32)), (.int (1 : Int32)), (.int p2)])) rfl (by rw [hml]; rfl) (lenOf own_pd5 rfl) rfl (by show 2 * 0 + _ ≤ _; exact Nat.le_of_eq rfl) (hb hby at_23) e11 N11 (by decide) (by decide) (fun v12 T12 L12 X12 N12 hq12 => ?_)
    obtain ⟨c12, rfl, hc12, e12⟩ := hq12
    replace hc12 : own_isn c12 = 1 := hc12.resolve_right (fun q => absurd q.2.1 (by decide))
    show OEnds _ _ _ _ _ _ T12 (mkF m 26 #[.val (.int p1), .val (.int p2), .val (.int p3), .val (.int p4), .val (.int p5), .val (.int p6), .val (.int (2 : Int32)), .val (.int c11), .unset, .unset, .unset, .unset, .unset, .unset, .unset] [(.int c12)])
    refine own_go (g' := (mkF m 28 #[.val (.int p1), .val (.int p2), .val (.int p3), .val (.int p4), .val (.int p5), .val (.int p6), .val (.int (2 : Int32)), .val (.int c11), .val (.int c12), .unset, .unset, .unset, .unset, .unset, .unset] [])) (fun t kt => XS.istore X12.here hx rfl (hb hby at_26) rfl (l' := #[.val (.int p1), .val (.int p2), .val (.int p3), .val (.int p4), .val (.int p5), .val (.int p6), .val (.int (2 : Int32)), .val (.int c11), .val (.int c12), .unset, .unset, .unset, .unset, .unset, .unset]) rfl kt) ?_
    refine own_go (g' := (mkF m 29 #[.val (.int p1), .val (.int p2), .val (.int p3), .val (.int p4), .val (.int p5), .val (.int p6), .val (.int (2 : Int32)), .val (.int c11), .val (.int c12), .unset, .unset, .unset, .unset, .unset, .unset] [(.int p3)])) (fun t kt => XS.iloadN X12.here hx rfl (hb hby at_28) rfl kt) ?_
    refine own_go (g' := (mkF m 30 #[.val (.int p1), .val (.int p2), .val (.int p3), .val (.int p4), .val (.int p5), .val (.int p6), .val (.int (2 : Int32)), .val (.int c11), .val (.int c12), .unset, .unset, .unset, .unset, .unset, .unset] [(.int (2 : Int32)), (.int p3)])) (fun t kt => XS.iconst X12.here hx rfl (hb hby at_29) kt) ?_
    refine own_go (g' := (mkF m 32 #[.val (.int p1), .val (.int p2), .val (.int p3), .val (.int p4), .val (.int p5), .val (.int p6), .val (.int (2 : Int32)), .val (.int c11), .val (.int c12), .unset, .unset, .unset, .unset, .unset, .unset] [(.int (2 : Int32)), (.int (2 : Int32)), (.int p3)])) (fun t kt => XS.iload X12.here hx rfl (hb hby at_30) rfl kt) ?_
    refine own_go (g' := (mkF m 34 #[.val (.int p1), .val (.int p2), .val (.int p3), .val (.int p4), .val (.int p5), .val (.int p6), .val (.int (2 : Int32)), .val (.int c11), .val (.int c12), .unset, .unset, .unset, .unset, .unset, .unset] [(.int c12), (.int (2 : Int32)), (.int (2 : Int32)), (.int p3)])) (fun t kt => XS.iload X12.here hx rfl (hb hby at_32) rfl kt) ?_
    refine own_callS X12 hx hZ (W := 0) (argsL := [(.int p3), (.int (2 : Int32)), (.int (2 : Int32)), (.int c12)]) (rest := []) hown (hw _ (List.mem_of_getElem? (i := 4) rfl)) (hw _ (List.mem_of_getElem? (i := 5) rfl)) (hw _ (List.mem_of_getElem? (i := 2) rfl)) (hw _ (List.mem_of_getElem? (i := 6) rfl)) (by decide) (own_pickm l Z a0 hw p3 (2 : Int32) (2 : Int32) c12 h0 n0 (Nat.le_trans Z0 K0.1)) (by decide) (by decide) (g := (mkF m 34 #[.val (.int p1), .val (.int p2), .val (.int p3), .val (.int p4), .val (.int p5), .val (.int p6), .val (.int (2 : Int32)), .val (.int c11), .val (.int c12), .unset, .unset, .unset, .unset, .unset, .unset] [(.int c12), (.int (2 : Int32)), (.int (2 : Int32)), (.int p3)])) rfl (by rw [hml]; rfl) (lenOf own_pd5 rfl) rfl (by show 2 * 0 + _ ≤ _; exact Nat.le_of_eq rfl) (hb hby at_34) e12 N12 (by decide) (by decide) (fun v13 T13 L13 X13 N13 hq13 => ?_)
    obtain ⟨c13, rfl, hc13, e13⟩ := hq13
    replace hc13 : own_isn c13 = 1 := hc13.resolve_right (fun q => absurd q.2.1 (by decide))
    show OEnds _ _ _ _ _ _ T13 (mkF m 37 #[.val (.int p1), .val (.int p2), .val (.int p3), .val (.int p4), .val (.int p5), .val (.int p6), .val (.int (2 : Int32)), .val (.int c11), .val (.int c12), .unset, .unset, .unset, .unset, .unset, .unset] [(.int c13)])
    refine own_go (g' := (mkF m 39 #[.val (.int p1), .val (.int p2), .val (.int p3), .val (.int p4), .val (.int p5), .val (.int p6), .val (.int (2 : Int32)), .val (.int c11), .val (.int c12), .val (.int c13), .unset, .unset, .unset, .unset, .unset] [])) (fun t kt => XS.istore X13.here hx rfl (hb hby at_37) rfl (l' := #[.val (.int p1), .val (.int p2), .val (.int p3), .val (.int p4), .val (.int p5), .val (.int p6), .val (.int (2 : Int32)), .val (.int c11), .val (.int c12), .val (.int c13), .unset, .unset, .unset, .unset, .unset]) rfl kt) ?_
    refine own_go (g' := (mkF m 40 #[.val (.int p1), .val (.int p2), .val (.int p3), .val (.int p4), .val (.int p5), .val (.int p6), .val (.int (2 : Int32)), .val (.int c11), .val (.int c12), .val (.int c13), .unset, .unset, .unset, .unset, .unset] [(.int p4)])) (fun t kt => XS.iloadN X13.here hx rfl (hb hby at_39) rfl kt) ?_
    refine own_go (g' := (mkF m 41 #[.val (.int p1), .val (.int p2), .val (.int p3), .val (.int p4), .val (.int p5), .val (.int p6), .val (.int (2 : Int32)), .val (.int c11), .val (.int c12), .val (.int c13), .unset, .unset, .unset, .unset, .unset] [(.int (3 : Int32)), (.int p4)])) (fun t kt => XS.iconst X13.here hx rfl (hb hby at_40) kt) ?_
    refine own_go (g' := (mkF m 43 #[.val (.int p1), .val (.int p2), .val (.int p3), .val (.int p4), .val (.int p5), .val (.int p6), .val (.int (2 : Int32)), .val (.int c11), .val (.int c12), .val (.int c13), .unset, .unset, .unset, .unset, .unset] [(.int (2 : Int32)), (.int (3 : Int32)), (.int p4)])) (fun t kt => XS.iload X13.here hx rfl (hb hby at_41) rfl kt) ?_
    refine own_go (g' := (mkF m 45 #[.val (.int p1), .val (.int p2), .val (.int p3), .val (.int p4), .val (.int p5), .val (.int p6), .val (.int (2 : Int32)), .val (.int c11), .val (.int c12), .val (.int c13), .unset, .unset, .unset, .unset, .unset] [(.int c13), (.int (2 : Int32)), (.int (3 : Int32)), (.int p4)])) (fun t kt => XS.iload X13.here hx rfl (hb hby at_43) rfl kt) ?_
    refine own_callS X13 hx hZ (W := 0) (argsL := [(.int p4), (.int (3 : Int32)), (.int (2 : Int32)), (.int c13)]) (rest := []) hown (hw _ (List.mem_of_getElem? (i := 4) rfl)) (hw _ (List.mem_of_getElem? (i := 5) rfl)) (hw _ (List.mem_of_getElem? (i := 2) rfl)) (hw _ (List.mem_of_getElem? (i := 6) rfl)) (by decide) (own_pickm l Z a0 hw p4 (3 : Int32) (2 : Int32) c13 h0 n0 (Nat.le_trans Z0 K0.1)) (by decide) (by decide) (g := (mkF m 45 #[.val (.int p1), .val (.int p2), .val (.int p3), .val (.int p4), .val (.int p5), .val (.int p6), .val (.int (2 : Int32)), .val (.int c11), .val (.int c12), .val (.int c13), .unset, .unset, .unset, .unset, .unset] [(.int c13), (.int (2 : Int32)), (.int (3 : Int32)), (.int p4)])) rfl (by rw [hml]; rfl) (lenOf own_pd5 rfl) rfl (by show 2 * 0 + _ ≤ _; exact Nat.le_of_eq rfl) (hb hby at_45) e13 N13 (by decide) (by decide) (fun v14 T14 L14 X14 N14 hq14 => ?_)
    obtain ⟨c14, rfl, hc14, e14⟩ := hq14
    replace hc14 : own_isn c14 = 1 := hc14.resolve_right (fun q => absurd q.2.1 (by decide))
    show OEnds _ _ _ _ _ _ T14 (mkF m 48 #[.val (.int p1), .val (.int p2), .val (.int p3), .val (.int p4), .val (.int p5), .val (.int p6), .val (.int (2 : Int32)), .val (.int c11), .val (.int c12), .val (.int c13), .unset, .unset, .unset, .unset, .unset] [(.int c14)])
    refine own_go (g' := (mkF m 50 #[.val (.int p1), .val (.int p2), .val (.int p3), .val (.int p4), .val (.int p5), .val (.int p6), .val (.int (2 : Int32)), .val (.int c11), .val (.int c12), .val (.int c13), .val (.int c14), .unset, .unset, .unset, .unset] [])) (fun t kt => XS.istore X14.here hx rfl (hb hby at_48) rfl (l' := #[.val (.int p1), .val (.int p2), .val (.int p3), .val (.int p4), .val (.int p5), .val (.int p6), .val (.int (2 : Int32)), .val (.int c11), .val (.int c12), .val (.int c13), .val (.int c14), .unset, .unset, .unset, .unset]) rfl kt) ?_
    refine own_go (g' := (mkF m 52 #[.val (.int p1), .val (.int p2), .val (.int p3), .val (.int p4), .val (.int p5), .val (.int p6), .val (.int (2 : Int32)), .val (.int c11), .val (.int c12), .val (.int c13), .val (.int c14), .unset, .unset, .unset, .unset] [(.int p5)])) (fun t kt => XS.iload X14.here hx rfl (hb hby at_50) rfl kt) ?_
    refine own_go (g' := (mkF m 53 #[.val (.int p1), .val (.int p2), .val (.int p3), .val (.int p4), .val (.int p5), .val (.int p6), .val (.int (2 : Int32)), .val (.int c11), .val (.int c12), .val (.int c13), .val (.int c14), .unset, .unset, .unset, .unset] [(.int (4 : Int32)), (.int p5)])) (fun t kt => XS.iconst X14.here hx rfl (hb hby at_52) kt) ?_
    refine own_go (g' := (mkF m 55 #[.val (.int p1), .val (.int p2), .val (.int p3), .val (.int p4), .val (.int p5), .val (.int p6), .val (.int (2 : Int32)), .val (.int c11), .val (.int c12), .val (.int c13), .val (.int c14), .unset, .unset, .unset, .unset] [(.int (2 : Int32)), (.int (4 : Int32)), (.int p5)])) (fun t kt => XS.iload X14.here hx rfl (hb hby at_53) rfl kt) ?_
    refine own_go (g' := (mkF m 57 #[.val (.int p1), .val (.int p2), .val (.int p3), .val (.int p4), .val (.int p5), .val (.int p6), .val (.int (2 : Int32)), .val (.int c11), .val (.int c12), .val (.int c13), .val (.int c14), .unset, .unset, .unset, .unset] [(.int c14), (.int (2 : Int32)), (.int (4 : Int32)), (.int p5)])) (fun t kt => XS.iload X14.here hx rfl (hb hby at_55) rfl kt) ?_
    refine own_callS X14 hx hZ (W := 0) (argsL := [(.int p5), (.int (4 : Int32)), (.int (2 : Int32)), (.int c14)]) (rest := []) hown (hw _ (List.mem_of_getElem? (i := 4) rfl)) (hw _ (List.mem_of_getElem? (i := 5) rfl)) (hw _ (List.mem_of_getElem? (i := 2) rfl)) (hw _ (List.mem_of_getElem? (i := 6) rfl)) (by decide) (own_pickm l Z a0 hw p5 (4 : Int32) (2 : Int32) c14 h0 n0 (Nat.le_trans Z0 K0.1)) (by decide) (by decide) (g := (mkF m 57 #[.val (.int p1), .val (.int p2), .val (.int p3), .val (.int p4), .val (.int p5), .val (.int p6), .val (.int (2 : Int32)), .val (.int c11), .val (.int c12), .val (.int c13), .val (.int c14), .unset, .unset, .unset, .unset] [(.int c14), (.int (2 : Int32)), (.int (4 : Int32)), (.int p5)])) rfl (by rw [hml]; rfl) (lenOf own_pd5 rfl) rfl (by show 2 * 0 + _ ≤ _; exact Nat.le_of_eq rfl) (hb hby at_57) e14 N14 (by decide) (by decide) (fun v15 T15 L15 X15 N15 hq15 => ?_)
    obtain ⟨c15, rfl, hc15, e15⟩ := hq15
    replace hc15 : own_isn c15 = 1 := hc15.resolve_right (fun q => absurd q.2.1 (by decide))
    show OEnds _ _ _ _ _ _ T15 (mkF m 60 #[.val (.int p1), .val (.int p2), .val (.int p3), .val (.int p4), .val (.int p5), .val (.int p6), .val (.int (2 : Int32)), .val (.int c11), .val (.int c12), .val (.int c13), .val (.int c14), .unset, .unset, .unset, .unset] [(.int c15)])
    refine own_go (g' := (mkF m 62 #[.val (.int p1), .val (.int p2), .val (.int p3), .val (.int p4), .val (.int p5), .val (.int p6), .val (.int (2 : Int32)), .val (.int c11), .val (.int c12), .val (.int c13), .val (.int c14), .val (.int c15), .unset, .unset, .unset] [])) (fun t kt => XS.istore X15.here hx rfl (hb hby at_60) rfl (l' := #[.val (.int p1), .val (.int p2), .val (.int p3), .val (.int p4), .val (.int p5), .val (.int p6), .val (.int (2 : Int32)), .val (.int c11), .val (.int c12), .val (.int c13), .val (.int c14), .val (.int c15), .unset, .unset, .unset]) rfl kt) ?_
    refine own_go (g' := (mkF m 64 #[.val (.int p1), .val (.int p2), .val (.int p3), .val (.int p4), .val (.int p5), .val (.int p6), .val (.int (2 : Int32)), .val (.int c11), .val (.int c12), .val (.int c13), .val (.int c14), .val (.int c15), .unset, .unset, .unset] [(.int p6)])) (fun t kt => XS.iload X15.here hx rfl (hb hby at_62) rfl kt) ?_
    refine own_go (g' := (mkF m 65 #[.val (.int p1), .val (.int p2), .val (.int p3), .val (.int p4), .val (.int p5), .val (.int p6), .val (.int (2 : Int32)), .val (.int c11), .val (.int c12), .val (.int c13), .val (.int c14), .val (.int c15), .unset, .unset, .unset] [(.int (5 : Int32)), (.int p6)])) (fun t kt => XS.iconst X15.here hx rfl (hb hby at_64) kt) ?_
    refine own_go (g' := (mkF m 67 #[.val (.int p1), .val (.int p2), .val (.int p3), .val (.int p4), .val (.int p5), .val (.int p6), .val (.int (2 : Int32)), .val (.int c11), .val (.int c12), .val (.int c13), .val (.int c14), .val (.int c15), .unset, .unset, .unset] [(.int (2 : Int32)), (.int (5 : Int32)), (.int p6)])) (fun t kt => XS.iload X15.here hx rfl (hb hby at_65) rfl kt) ?_
    refine own_go (g' := (mkF m 69 #[.val (.int p1), .val (.int p2), .val (.int p3), .val (.int p4), .val (.int p5), .val (.int p6), .val (.int (2 : Int32)), .val (.int c11), .val (.int c12), .val (.int c13), .val (.int c14), .val (.int c15), .unset, .unset, .unset] [(.int c15), (.int (2 : Int32)), (.int (5 : Int32)), (.int p6)])) (fun t kt => XS.iload X15.here hx rfl (hb hby at_67) rfl kt) ?_
    refine own_callS X15 hx hZ (W := 0) (argsL := [(.int p6), (.int (5 : Int32)), (.int (2 : Int32)), (.int c15)]) (rest := []) hown (hw _ (List.mem_of_getElem? (i := 4) rfl)) (hw _ (List.mem_of_getElem? (i := 5) rfl)) (hw _ (List.mem_of_getElem? (i := 2) rfl)) (hw _ (List.mem_of_getElem? (i := 6) rfl)) (by decide) (own_pickm l Z a0 hw p6 (5 : Int32) (2 : Int32) c15 h0 n0 (Nat.le_trans Z0 K0.1)) (by decide) (by decide) (g := (mkF m 69 #[.val (.int p1), .val (.int p2), .val (.int p3), .val (.int p4), .val (.int p5), .val (.int p6), .val (.int (2 : Int32)), .val (.int c11), .val (.int c12), .val (.int c13), .val (.int c14), .val (.int c15), .unset, .unset, .unset] [(.int c15), (.int (2 : Int32)), (.int (5 : Int32)), (.int p6)])) rfl (by rw [hml]; rfl) (lenOf own_pd5 rfl) rfl (by show 2 * 0 + _ ≤ _; exact Nat.le_of_eq rfl) (hb hby at_69) e15 N15 (by decide) (by decide) (fun v16 T16 L16 X16 N16 hq16 => ?_)
    obtain ⟨c16, rfl, hc16, e16⟩ := hq16
    replace hc16 : own_isn c16 = 1 := hc16.resolve_right (fun q => absurd q.2.1 (by decide))
    show OEnds _ _ _ _ _ _ T16 (mkF m 72 #[.val (.int p1), .val (.int p2), .val (.int p3), .val (.int p4), .val (.int p5), .val (.int p6), .val (.int (2 : Int32)), .val (.int c11), .val (.int c12), .val (.int c13), .val (.int c14), .val (.int c15), .unset, .unset, .unset] [(.int c16)])
    refine own_go (g' := (mkF m 74 #[.val (.int p1), .val (.int p2), .val (.int p3), .val (.int p4), .val (.int p5), .val (.int p6), .val (.int (2 : Int32)), .val (.int c11), .val (.int c12), .val (.int c13), .val (.int c14), .val (.int c15), .val (.int c16), .unset, .unset] [])) (fun t kt => XS.istore X16.here hx rfl (hb hby at_72) rfl (l' := #[.val (.int p1), .val (.int p2), .val (.int p3), .val (.int p4), .val (.int p5), .val (.int p6), .val (.int (2 : Int32)), .val (.int c11), .val (.int c12), .val (.int c13), .val (.int c14), .val (.int c15), .val (.int c16), .unset, .unset]) rfl kt) ?_
    refine own_go (g' := (mkF m 76 #[.val (.int p1), .val (.int p2), .val (.int p3), .val (.int p4), .val (.int p5), .val (.int p6), .val (.int (2 : Int32)), .val (.int c11), .val (.int c12), .val (.int c13), .val (.int c14), .val (.int c15), .val (.int c16), .unset, .unset] [(.int c11)])) (fun t kt => XS.iload X16.here hx rfl (hb hby at_74) rfl kt) ?_
    refine own_go (g' := (mkF m 78 #[.val (.int p1), .val (.int p2), .val (.int p3), .val (.int p4), .val (.int p5), .val (.int p6), .val (.int (2 : Int32)), .val (.int c11), .val (.int c12), .val (.int c13), .val (.int c14), .val (.int c15), .val (.int c16), .unset, .unset] [(.int c12), (.int c11)])) (fun t kt => XS.iload X16.here hx rfl (hb hby at_76) rfl kt) ?_
    refine own_go (g' := (mkF m 80 #[.val (.int p1), .val (.int p2), .val (.int p3), .val (.int p4), .val (.int p5), .val (.int p6), .val (.int (2 : Int32)), .val (.int c11), .val (.int c12), .val (.int c13), .val (.int c14), .val (.int c15), .val (.int c16), .unset, .unset] [(.int c13), (.int c12), (.int c11)])) (fun t kt => XS.iload X16.here hx rfl (hb hby at_78) rfl kt) ?_
    refine own_go (g' := (mkF m 82 #[.val (.int p1), .val (.int p2), .val (.int p3), .val (.int p4), .val (.int p5), .val (.int p6), .val (.int (2 : Int32)), .val (.int c11), .val (.int c12), .val (.int c13), .val (.int c14), .val (.int c15), .val (.int c16), .unset, .unset] [(.int c14), (.int c13), (.int c12), (.int c11)])) (fun t kt => XS.iload X16.here hx rfl (hb hby at_80) rfl kt) ?_
    refine own_go (g' := (mkF m 84 #[.val (.int p1), .val (.int p2), .val (.int p3), .val (.int p4), .val (.int p5), .val (.int p6), .val (.int (2 : Int32)), .val (.int c11), .val (.int c12), .val (.int c13), .val (.int c14), .val (.int c15), .val (.int c16), .unset, .unset] [(.int c15), (.int c14), (.int c13), (.int c12), (.int c11)])) (fun t kt => XS.iload X16.here hx rfl (hb hby at_82) rfl kt) ?_
    refine own_go (g' := (mkF m 86 #[.val (.int p1), .val (.int p2), .val (.int p3), .val (.int p4), .val (.int p5), .val (.int p6), .val (.int (2 : Int32)), .val (.int c11), .val (.int c12), .val (.int c13), .val (.int c14), .val (.int c15), .val (.int c16), .unset, .unset] [(.int c16), (.int c15), (.int c14), (.int c13), (.int c12), (.int c11)])) (fun t kt => XS.iload X16.here hx rfl (hb hby at_84) rfl kt) ?_
    refine own_go (g' := (mkF m 88 #[.val (.int p1), .val (.int p2), .val (.int p3), .val (.int p4), .val (.int p5), .val (.int p6), .val (.int (2 : Int32)), .val (.int c11), .val (.int c12), .val (.int c13), .val (.int c14), .val (.int c15), .val (.int c16), .unset, .unset] [(.int (2 : Int32)), (.int c16), (.int c15), (.int c14), (.int c13), (.int c12), (.int c11)])) (fun t kt => XS.iload X16.here hx rfl (hb hby at_86) rfl kt) ?_
    refine own_callS X16 hx hZ (W := 0) (argsL := [(.int c11), (.int c12), (.int c13), (.int c14), (.int c15), (.int c16), (.int (2 : Int32))]) (rest := []) hown (hw _ (List.mem_of_getElem? (i := 7) rfl)) (hw _ (List.mem_of_getElem? (i := 8) rfl)) (hw _ (List.mem_of_getElem? (i := 2) rfl)) (hw _ (List.mem_of_getElem? (i := 9) rfl)) (by decide) (own_build2 l Z a0 hw c11 c12 c13 c14 c15 c16 cs h0 n0 (Nat.le_trans Z0 K0.1) S_c hcs (own_rngc (Or.inl hc11)) (own_rngc (Or.inl hc12))) (by decide) (by decide) (g := (mkF m 88 #[.val (.int p1), .val (.int p2), .val (.int p3), .val (.int p4), .val (.int p5), .val (.int p6), .val (.int (2 : Int32)), .val (.int c11), .val (.int c12), .val (.int c13), .val (.int c14), .val (.int c15), .val (.int c16), .unset, .unset] [(.int (2 : Int32)), (.int c16), (.int c15), (.int c14), (.int c13), (.int c12), (.int c11)])) rfl (by rw [hml]; rfl) (lenOf own_pd6 rfl) rfl (by show 2 * 0 + _ ≤ _; exact Nat.le_of_eq rfl) (hb hby at_88) e16 N16 (by decide) (by decide) (fun v17 T17 L17 X17 N17 hq17 => ?_)
    obtain ⟨b17, t17, k17, rfl, Kc17, A17, G17, F17, V17⟩ := hq17
    have K17 := K0.trans Kc17 all0
    have S_c_h17 := S_c.ext (own_kext K17)
    have S_f_h17 := S_f.ext (own_kext K17)
    have hp17 : ∀ c ∈ ([c11, c12] : List Int32), ¬ c < 0 ∧ ¬ (255 : Int32) < c := (own_alS (own_rngc (Or.inl hc11)).1 (own_alS (own_rngc (Or.inl hc12)).1 own_al0))
    have hcd17 := StrChars.Road.codOf (cs := ([c11, c12] : List Int32)) (n := 2) rfl (fun c hc => (hp17 c hc).2)
    have hbd17 := own_up _ hp17
    show OEnds _ _ _ _ _ _ T17 (mkF m 91 #[.val (.int p1), .val (.int p2), .val (.int p3), .val (.int p4), .val (.int p5), .val (.int p6), .val (.int (2 : Int32)), .val (.int c11), .val (.int c12), .val (.int c13), .val (.int c14), .val (.int c15), .val (.int c16), .unset, .unset] [(.ref b17)])
    refine own_go (g' := (mkF m 93 #[.val (.int p1), .val (.int p2), .val (.int p3), .val (.int p4), .val (.int p5), .val (.int p6), .val (.int (2 : Int32)), .val (.int c11), .val (.int c12), .val (.int c13), .val (.int c14), .val (.int c15), .val (.int c16), .val (.ref b17), .unset] [])) (fun t kt => XS.astore X17.here hx rfl (hb hby at_91) rfl rfl (l' := #[.val (.int p1), .val (.int p2), .val (.int p3), .val (.int p4), .val (.int p5), .val (.int p6), .val (.int (2 : Int32)), .val (.int c11), .val (.int c12), .val (.int c13), .val (.int c14), .val (.int c15), .val (.int c16), .val (.ref b17), .unset]) rfl kt) ?_
    refine own_go (g' := (mkF m 95 #[.val (.int p1), .val (.int p2), .val (.int p3), .val (.int p4), .val (.int p5), .val (.int p6), .val (.int (2 : Int32)), .val (.int c11), .val (.int c12), .val (.int c13), .val (.int c14), .val (.int c15), .val (.int c16), .val (.ref b17), .unset] [(.ref b17)])) (fun t kt => XS.aload X17.here hx rfl (hb hby at_93) rfl rfl kt) ?_
    refine own_callS X17 hx hZ (W := 0) (argsL := [(.ref b17)]) (rest := []) hown (hw _ (List.mem_of_getElem? (i := 40) rfl)) (hw _ (List.mem_of_getElem? (i := 41) rfl)) (hw _ (List.mem_of_getElem? (i := 42) rfl)) (hw _ (List.mem_of_getElem? (i := 43) rfl)) (by decide) (own_req2 l Z a0 hw b17 t17 k17 c11 c12 cs sv hsv T17.heap n0 (Nat.le_trans Z0 K17.1) A17 G17 F17 V17 S_c_h17 S_f_h17 hcs hcd17 hbd17 hc11 hc12) (by decide) (by decide) (g := (mkF m 95 #[.val (.int p1), .val (.int p2), .val (.int p3), .val (.int p4), .val (.int p5), .val (.int p6), .val (.int (2 : Int32)), .val (.int c11), .val (.int c12), .val (.int c13), .val (.int c14), .val (.int c15), .val (.int c16), .val (.ref b17), .unset] [(.ref b17)])) rfl (by rw [hml]; rfl) (lenOf own_pd7 rfl) rfl (by show 2 * 0 + _ ≤ _; exact Nat.le_of_eq rfl) (hb hby at_95) rfl N17 (by decide) (by decide) (fun v18 T18 L18 X18 N18 hq18 => ?_)
    obtain ⟨rfl, e18⟩ := hq18
    show OEnds _ _ _ _ _ _ T18 (mkF m 98 #[.val (.int p1), .val (.int p2), .val (.int p3), .val (.int p4), .val (.int p5), .val (.int p6), .val (.int (2 : Int32)), .val (.int c11), .val (.int c12), .val (.int c13), .val (.int c14), .val (.int c15), .val (.int c16), .val (.ref b17), .unset] [(.ref b17)])
    refine own_go (g' := (mkF m 100 #[.val (.int p1), .val (.int p2), .val (.int p3), .val (.int p4), .val (.int p5), .val (.int p6), .val (.int (2 : Int32)), .val (.int c11), .val (.int c12), .val (.int c13), .val (.int c14), .val (.int c15), .val (.int c16), .val (.ref b17), .val (.ref b17)] [])) (fun t kt => XS.astore X18.here hx rfl (hb hby at_98) rfl rfl (l' := #[.val (.int p1), .val (.int p2), .val (.int p3), .val (.int p4), .val (.int p5), .val (.int p6), .val (.int (2 : Int32)), .val (.int c11), .val (.int c12), .val (.int c13), .val (.int c14), .val (.int c15), .val (.int c16), .val (.ref b17), .val (.ref b17)]) rfl kt) ?_
    refine own_go (g' := (mkF m 102 #[.val (.int p1), .val (.int p2), .val (.int p3), .val (.int p4), .val (.int p5), .val (.int p6), .val (.int (2 : Int32)), .val (.int c11), .val (.int c12), .val (.int c13), .val (.int c14), .val (.int c15), .val (.int c16), .val (.ref b17), .val (.ref b17)] [(.ref b17)])) (fun t kt => XS.aload X18.here hx rfl (hb hby at_100) rfl rfl kt) ?_
    refine own_go (g' := (mkF m 104 #[.val (.int p1), .val (.int p2), .val (.int p3), .val (.int p4), .val (.int p5), .val (.int p6), .val (.int (2 : Int32)), .val (.int c11), .val (.int c12), .val (.int c13), .val (.int c14), .val (.int c15), .val (.int c16), .val (.ref b17), .val (.ref b17)] [(.ref b17), (.ref b17)])) (fun t kt => XS.aload X18.here hx rfl (hb hby at_102) rfl rfl kt) ?_
    refine own_go (g' := (mkF m 107 #[.val (.int p1), .val (.int p2), .val (.int p3), .val (.int p4), .val (.int p5), .val (.int p6), .val (.int (2 : Int32)), .val (.int c11), .val (.int c12), .val (.int c13), .val (.int c14), .val (.int c15), .val (.int c16), .val (.ref b17), .val (.ref b17)] [])) (fun t kt => Jvm.RoadKit.acmp (g := (mkF m 104 #[.val (.int p1), .val (.int p2), .val (.int p3), .val (.int p4), .val (.int p5), .val (.int p6), .val (.int (2 : Int32)), .val (.int c11), .val (.int c12), .val (.int c13), .val (.int c14), .val (.int c15), .val (.int c16), .val (.ref b17), .val (.ref b17)] [(.ref b17), (.ref b17)])) X18 hx rfl rfl rfl (pc0 := 104) (pc' := 107) (same := true) rfl (hb hby at_104) rfl (decide_eq_true rfl) (by decide) (by decide) kt) ?_
    refine own_go (g' := (mkF m 109 #[.val (.int p1), .val (.int p2), .val (.int p3), .val (.int p4), .val (.int p5), .val (.int p6), .val (.int (2 : Int32)), .val (.int c11), .val (.int c12), .val (.int c13), .val (.int c14), .val (.int c15), .val (.int c16), .val (.ref b17), .val (.ref b17)] [(.ref b17)])) (fun t kt => XS.aload X18.here hx rfl (hb hby at_107) rfl rfl kt) ?_
    refine own_callVB X18 hx hZ (a := b17) (W := 0) (argsL := []) (rest := []) (c1 := 0) (s1 := 0) (Qc := fun v h' L => (v = some (.int (Int32.ofNat (List.length ([c11, c12] : List Int32))))) ∧ L = [] ∧ h' = T17.heap) hown (hw _ (List.mem_of_getElem? (i := 84) rfl)) (hw _ (List.mem_of_getElem? (i := 50) rfl)) (hw _ (List.mem_of_getElem? (i := 52) rfl)) (hw _ (List.mem_of_getElem? (i := 51) rfl)) (by decide) (StrChars.Road.lenW (W := 0) hZ (fun d hd => hw d (own_wl d hd)) (kI := 4) (hw _ (List.mem_of_getElem? (i := 11) rfl)) A17 F17 G17 V17 hcd17 hbd17 S_c_h17 hcs (Nat.le_of_ble_eq_true rfl) (by decide) (by decide)) A17 (g := (mkF m 109 #[.val (.int p1), .val (.int p2), .val (.int p3), .val (.int p4), .val (.int p5), .val (.int p6), .val (.int (2 : Int32)), .val (.int c11), .val (.int c12), .val (.int c13), .val (.int c14), .val (.int c15), .val (.int c16), .val (.ref b17), .val (.ref b17)] [(.ref b17)])) rfl (by rw [hml]; rfl) (lenOf own_pd3 rfl) rfl (by show 2 * 0 + _ ≤ _; exact Nat.le_of_eq rfl) (hb hby at_109) e18 (by decide) (by decide) (fun v19 T19 L19 X19 hq19 => ?_)
    obtain ⟨rfl, rfl, e19⟩ := hq19
    have N19 := Fr.app N18 (Fr.nil n0)
    show OEnds _ _ _ _ _ _ T19 (mkF m 112 #[.val (.int p1), .val (.int p2), .val (.int p3), .val (.int p4), .val (.int p5), .val (.int p6), .val (.int (2 : Int32)), .val (.int c11), .val (.int c12), .val (.int c13), .val (.int c14), .val (.int c15), .val (.int c16), .val (.ref b17), .val (.ref b17)] [(.int (2 : Int32))])
    refine own_go (g' := (mkF m 114 #[.val (.int p1), .val (.int p2), .val (.int p3), .val (.int p4), .val (.int p5), .val (.int p6), .val (.int (2 : Int32)), .val (.int c11), .val (.int c12), .val (.int c13), .val (.int c14), .val (.int c15), .val (.int c16), .val (.ref b17), .val (.ref b17)] [(.int (2 : Int32)), (.int (2 : Int32))])) (fun t kt => XS.iload X19.here hx rfl (hb hby at_112) rfl kt) ?_
    refine own_go (g' := (mkF m 117 #[.val (.int p1), .val (.int p2), .val (.int p3), .val (.int p4), .val (.int p5), .val (.int p6), .val (.int (2 : Int32)), .val (.int c11), .val (.int c12), .val (.int c13), .val (.int c14), .val (.int c15), .val (.int c16), .val (.ref b17), .val (.ref b17)] [])) (fun t kt => XS.icmpNo X19.here hx rfl (hb hby at_114) rfl (teq ((by decide) : (2 : Int32) = (2 : Int32))).2 kt) ?_
    refine own_go (g' := (mkF m 118 #[.val (.int p1), .val (.int p2), .val (.int p3), .val (.int p4), .val (.int p5), .val (.int p6), .val (.int (2 : Int32)), .val (.int c11), .val (.int c12), .val (.int c13), .val (.int c14), .val (.int c15), .val (.int c16), .val (.ref b17), .val (.ref b17)] [(.int (1 : Int32))])) (fun t kt => XS.iconst X19.here hx rfl (hb hby at_117) kt) ?_
    refine own_go (g' := (mkF m 122 #[.val (.int p1), .val (.int p2), .val (.int p3), .val (.int p4), .val (.int p5), .val (.int p6), .val (.int (2 : Int32)), .val (.int c11), .val (.int c12), .val (.int c13), .val (.int c14), .val (.int c15), .val (.int c16), .val (.ref b17), .val (.ref b17)] [(.int (1 : Int32))])) (fun t kt => XS.goto X19.here hx rfl (pc0 := 118) (pc' := 122) rfl (hb hby at_118) (by decide) (by decide) kt) ?_
    exact own_retN X19 hx hlk (t := .boolean) (z' := (1 : Int32)) hret (by simp) (hb hby at_122) rfl e19 N19 (by decide) (by decide) (rfl)
  · refine own_go (g' := (mkF m 12 #[.val (.int p1), .val (.int p2), .val (.int p3), .val (.int p4), .val (.int p5), .val (.int p6), .val (.int (3 : Int32)), .unset, .unset, .unset, .unset, .unset, .unset, .unset, .unset] [(.int p1)])) (fun t kt => XS.iloadN X0.here hx rfl (hb hby at_11) rfl kt) ?_
    refine own_callS X0 hx hZ (W := 0) (argsL := [(.int p1)]) (rest := []) hown (hw _ (List.mem_of_getElem? (i := 0) rfl)) (hw _ (List.mem_of_getElem? (i := 1) rfl)) (hw _ (List.mem_of_getElem? (i := 2) rfl)) (hw _ (List.mem_of_getElem? (i := 3) rfl)) (by decide) (own_namechar l Z a0 hw p1 h0 n0 (Nat.le_trans Z0 K0.1)) (by decide) (by decide) (g := (mkF m 12 #[.val (.int p1), .val (.int p2), .val (.int p3), .val (.int p4), .val (.int p5), .val (.int p6), .val (.int (3 : Int32)), .unset, .unset, .unset, .unset, .unset, .unset, .unset, .unset] [(.int p1)])) rfl (by rw [hml]; rfl) (lenOf own_pd0 rfl) rfl (by show 2 * 0 + _ ≤ _; exact Nat.le_of_eq rfl) (hb hby at_12) e0 N0 (by decide) (by decide) (fun v20 T20 L20 X20 N20 hq20 => ?_)
    obtain ⟨c20, rfl, hc20, e20⟩ := hq20
    show OEnds _ _ _ _ _ _ T20 (mkF m 15 #[.val (.int p1), .val (.int p2), .val (.int p3), .val (.int p4), .val (.int p5), .val (.int p6), .val (.int (3 : Int32)), .unset, .unset, .unset, .unset, .unset, .unset, .unset, .unset] [(.int c20)])
    refine own_go (g' := (mkF m 17 #[.val (.int p1), .val (.int p2), .val (.int p3), .val (.int p4), .val (.int p5), .val (.int p6), .val (.int (3 : Int32)), .val (.int c20), .unset, .unset, .unset, .unset, .unset, .unset, .unset] [])) (fun t kt => XS.istore X20.here hx rfl (hb hby at_15) rfl (l' := #[.val (.int p1), .val (.int p2), .val (.int p3), .val (.int p4), .val (.int p5), .val (.int p6), .val (.int (3 : Int32)), .val (.int c20), .unset, .unset, .unset, .unset, .unset, .unset, .unset]) rfl kt) ?_
    refine own_go (g' := (mkF m 18 #[.val (.int p1), .val (.int p2), .val (.int p3), .val (.int p4), .val (.int p5), .val (.int p6), .val (.int (3 : Int32)), .val (.int c20), .unset, .unset, .unset, .unset, .unset, .unset, .unset] [(.int p2)])) (fun t kt => XS.iloadN X20.here hx rfl (hb hby at_17) rfl kt) ?_
    refine own_go (g' := (mkF m 19 #[.val (.int p1), .val (.int p2), .val (.int p3), .val (.int p4), .val (.int p5), .val (.int p6), .val (.int (3 : Int32)), .val (.int c20), .unset, .unset, .unset, .unset, .unset, .unset, .unset] [(.int (1 : Int32)), (.int p2)])) (fun t kt => XS.iconst X20.here hx rfl (hb hby at_18) kt) ?_
    refine own_go (g' := (mkF m 21 #[.val (.int p1), .val (.int p2), .val (.int p3), .val (.int p4), .val (.int p5), .val (.int p6), .val (.int (3 : Int32)), .val (.int c20), .unset, .unset, .unset, .unset, .unset, .unset, .unset] [(.int (3 : Int32)), (.int (1 : Int32)), (.int p2)])) (fun t kt => XS.iload X20.here hx rfl (hb hby at_19) rfl kt) ?_
    refine own_go (g' := (mkF m 23 #[.val (.int p1), .val (.int p2), .val (.int p3), .val (.int p4), .val (.int p5), .val (.int p6), .val (.int (3 : Int32)), .val (.int c20), .unset, .unset, .unset, .unset, .unset, .unset, .unset] [(.int c20), (.int (3 : Int32)), (.int (1 : Int32)), (.int p2)])) (fun t kt => XS.iload X20.here hx rfl (hb hby at_21) rfl kt) ?_
    refine own_callS X20 hx hZ (W := 0) (argsL := [(.int p2), (.int (1 : Int32)), (.int (3 : Int32)), (.int c20)]) (rest := []) hown (hw _ (List.mem_of_getElem? (i := 4) rfl)) (hw _ (List.mem_of_getElem? (i := 5) rfl)) (hw _ (List.mem_of_getElem? (i := 2) rfl)) (hw _ (List.mem_of_getElem? (i := 6) rfl)) (by decide) (own_pickm l Z a0 hw p2 (1 : Int32) (3 : Int32) c20 h0 n0 (Nat.le_trans Z0 K0.1)) (by decide) (by decide) (g := (mkF m 23 #[.val (.int p1), .val (.int p2), .val (.int p3), .val (.int p4), .val (.int p5), .val (.int p6), .val (.int (3 : Int32)), .val (.int c20), .unset, .unset, .unset, .unset, .unset, .unset, .unset] [(.int c20), (.int (3 : Int32)), (.int (1 : Int32)), (.int p2)])) rfl (by rw [hml]; rfl) (lenOf own_pd5 rfl) rfl (by show 2 * 0 + _ ≤ _; exact Nat.le_of_eq rfl) (hb hby at_23) e20 N20 (by decide) (by decide) (fun v21 T21 L21 X21 N21 hq21 => ?_)
    obtain ⟨c21, rfl, hc21, e21⟩ := hq21
    replace hc21 : own_isn c21 = 1 ∨ (c21 = 47 ∧ ¬ c20 = 47) := hc21.imp id (fun q => ⟨q.1, q.2.2⟩)
    show OEnds _ _ _ _ _ _ T21 (mkF m 26 #[.val (.int p1), .val (.int p2), .val (.int p3), .val (.int p4), .val (.int p5), .val (.int p6), .val (.int (3 : Int32)), .val (.int c20), .unset, .unset, .unset, .unset, .unset, .unset, .unset] [(.int c21)])
    refine own_go (g' := (mkF m 28 #[.val (.int p1), .val (.int p2), .val (.int p3), .val (.int p4), .val (.int p5), .val (.int p6), .val (.int (3 : Int32)), .val (.int c20), .val (.int c21), .unset, .unset, .unset, .unset, .unset, .unset] [])) (fun t kt => XS.istore X21.here hx rfl (hb hby at_26) rfl (l' := #[.val (.int p1), .val (.int p2), .val (.int p3), .val (.int p4), .val (.int p5), .val (.int p6), .val (.int (3 : Int32)), .val (.int c20), .val (.int c21), .unset, .unset, .unset, .unset, .unset, .unset]) rfl kt) ?_
    refine own_go (g' := (mkF m 29 #[.val (.int p1), .val (.int p2), .val (.int p3), .val (.int p4), .val (.int p5), .val (.int p6), .val (.int (3 : Int32)), .val (.int c20), .val (.int c21), .unset, .unset, .unset, .unset, .unset, .unset] [(.int p3)])) (fun t kt => XS.iloadN X21.here hx rfl (hb hby at_28) rfl kt) ?_
    refine own_go (g' := (mkF m 30 #[.val (.int p1), .val (.int p2), .val (.int p3), .val (.int p4), .val (.int p5), .val (.int p6), .val (.int (3 : Int32)), .val (.int c20), .val (.int c21), .unset, .unset, .unset, .unset, .unset, .unset] [(.int (2 : Int32)), (.int p3)])) (fun t kt => XS.iconst X21.here hx rfl (hb hby at_29) kt) ?_
    refine own_go (g' := (mkF m 32 #[.val (.int p1), .val (.int p2), .val (.int p3), .val (.int p4), .val (.int p5), .val (.int p6), .val (.int (3 : Int32)), .val (.int c20), .val (.int c21), .unset, .unset, .unset, .unset, .unset, .unset] [(.int (3 : Int32)), (.int (2 : Int32)), (.int p3)])) (fun t kt => XS.iload X21.here hx rfl (hb hby at_30) rfl kt) ?_
    refine own_go (g' := (mkF m 34 #[.val (.int p1), .val (.int p2), .val (.int p3), .val (.int p4), .val (.int p5), .val (.int p6), .val (.int (3 : Int32)), .val (.int c20), .val (.int c21), .unset, .unset, .unset, .unset, .unset, .unset] [(.int c21), (.int (3 : Int32)), (.int (2 : Int32)), (.int p3)])) (fun t kt => XS.iload X21.here hx rfl (hb hby at_32) rfl kt) ?_
    refine own_callS X21 hx hZ (W := 0) (argsL := [(.int p3), (.int (2 : Int32)), (.int (3 : Int32)), (.int c21)]) (rest := []) hown (hw _ (List.mem_of_getElem? (i := 4) rfl)) (hw _ (List.mem_of_getElem? (i := 5) rfl)) (hw _ (List.mem_of_getElem? (i := 2) rfl)) (hw _ (List.mem_of_getElem? (i := 6) rfl)) (by decide) (own_pickm l Z a0 hw p3 (2 : Int32) (3 : Int32) c21 h0 n0 (Nat.le_trans Z0 K0.1)) (by decide) (by decide) (g := (mkF m 34 #[.val (.int p1), .val (.int p2), .val (.int p3), .val (.int p4), .val (.int p5), .val (.int p6), .val (.int (3 : Int32)), .val (.int c20), .val (.int c21), .unset, .unset, .unset, .unset, .unset, .unset] [(.int c21), (.int (3 : Int32)), (.int (2 : Int32)), (.int p3)])) rfl (by rw [hml]; rfl) (lenOf own_pd5 rfl) rfl (by show 2 * 0 + _ ≤ _; exact Nat.le_of_eq rfl) (hb hby at_34) e21 N21 (by decide) (by decide) (fun v22 T22 L22 X22 N22 hq22 => ?_)
    obtain ⟨c22, rfl, hc22, e22⟩ := hq22
    replace hc22 : own_isn c22 = 1 := hc22.resolve_right (fun q => absurd q.2.1 (by decide))
    show OEnds _ _ _ _ _ _ T22 (mkF m 37 #[.val (.int p1), .val (.int p2), .val (.int p3), .val (.int p4), .val (.int p5), .val (.int p6), .val (.int (3 : Int32)), .val (.int c20), .val (.int c21), .unset, .unset, .unset, .unset, .unset, .unset] [(.int c22)])
    refine own_go (g' := (mkF m 39 #[.val (.int p1), .val (.int p2), .val (.int p3), .val (.int p4), .val (.int p5), .val (.int p6), .val (.int (3 : Int32)), .val (.int c20), .val (.int c21), .val (.int c22), .unset, .unset, .unset, .unset, .unset] [])) (fun t kt => XS.istore X22.here hx rfl (hb hby at_37) rfl (l' := #[.val (.int p1), .val (.int p2), .val (.int p3), .val (.int p4), .val (.int p5), .val (.int p6), .val (.int (3 : Int32)), .val (.int c20), .val (.int c21), .val (.int c22), .unset, .unset, .unset, .unset, .unset]) rfl kt) ?_
    refine own_go (g' := (mkF m 40 #[.val (.int p1), .val (.int p2), .val (.int p3), .val (.int p4), .val (.int p5), .val (.int p6), .val (.int (3 : Int32)), .val (.int c20), .val (.int c21), .val (.int c22), .unset, .unset, .unset, .unset, .unset] [(.int p4)])) (fun t kt => XS.iloadN X22.here hx rfl (hb hby at_39) rfl kt) ?_
    refine own_go (g' := (mkF m 41 #[.val (.int p1), .val (.int p2), .val (.int p3), .val (.int p4), .val (.int p5), .val (.int p6), .val (.int (3 : Int32)), .val (.int c20), .val (.int c21), .val (.int c22), .unset, .unset, .unset, .unset, .unset] [(.int (3 : Int32)), (.int p4)])) (fun t kt => XS.iconst X22.here hx rfl (hb hby at_40) kt) ?_
    refine own_go (g' := (mkF m 43 #[.val (.int p1), .val (.int p2), .val (.int p3), .val (.int p4), .val (.int p5), .val (.int p6), .val (.int (3 : Int32)), .val (.int c20), .val (.int c21), .val (.int c22), .unset, .unset, .unset, .unset, .unset] [(.int (3 : Int32)), (.int (3 : Int32)), (.int p4)])) (fun t kt => XS.iload X22.here hx rfl (hb hby at_41) rfl kt) ?_
    refine own_go (g' := (mkF m 45 #[.val (.int p1), .val (.int p2), .val (.int p3), .val (.int p4), .val (.int p5), .val (.int p6), .val (.int (3 : Int32)), .val (.int c20), .val (.int c21), .val (.int c22), .unset, .unset, .unset, .unset, .unset] [(.int c22), (.int (3 : Int32)), (.int (3 : Int32)), (.int p4)])) (fun t kt => XS.iload X22.here hx rfl (hb hby at_43) rfl kt) ?_
    refine own_callS X22 hx hZ (W := 0) (argsL := [(.int p4), (.int (3 : Int32)), (.int (3 : Int32)), (.int c22)]) (rest := []) hown (hw _ (List.mem_of_getElem? (i := 4) rfl)) (hw _ (List.mem_of_getElem? (i := 5) rfl)) (hw _ (List.mem_of_getElem? (i := 2) rfl)) (hw _ (List.mem_of_getElem? (i := 6) rfl)) (by decide) (own_pickm l Z a0 hw p4 (3 : Int32) (3 : Int32) c22 h0 n0 (Nat.le_trans Z0 K0.1)) (by decide) (by decide) (g := (mkF m 45 #[.val (.int p1), .val (.int p2), .val (.int p3), .val (.int p4), .val (.int p5), .val (.int p6), .val (.int (3 : Int32)), .val (.int c20), .val (.int c21), .val (.int c22), .unset, .unset, .unset, .unset, .unset] [(.int c22), (.int (3 : Int32)), (.int (3 : Int32)), (.int p4)])) rfl (by rw [hml]; rfl) (lenOf own_pd5 rfl) rfl (by show 2 * 0 + _ ≤ _; exact Nat.le_of_eq rfl) (hb hby at_45) e22 N22 (by decide) (by decide) (fun v23 T23 L23 X23 N23 hq23 => ?_)
    obtain ⟨c23, rfl, hc23, e23⟩ := hq23
    replace hc23 : own_isn c23 = 1 := hc23.resolve_right (fun q => absurd q.2.1 (by decide))
    show OEnds _ _ _ _ _ _ T23 (mkF m 48 #[.val (.int p1), .val (.int p2), .val (.int p3), .val (.int p4), .val (.int p5), .val (.int p6), .val (.int (3 : Int32)), .val (.int c20), .val (.int c21), .val (.int c22), .unset, .unset, .unset, .unset, .unset] [(.int c23)])
    refine own_go (g' := (mkF m 50 #[.val (.int p1), .val (.int p2), .val (.int p3), .val (.int p4), .val (.int p5), .val (.int p6), .val (.int (3 : Int32)), .val (.int c20), .val (.int c21), .val (.int c22), .val (.int c23), .unset, .unset, .unset, .unset] [])) (fun t kt => XS.istore X23.here hx rfl (hb hby at_48) rfl (l' := #[.val (.int p1), .val (.int p2), .val (.int p3), .val (.int p4), .val (.int p5), .val (.int p6), .val (.int (3 : Int32)), .val (.int c20), .val (.int c21), .val (.int c22), .val (.int c23), .unset, .unset, .unset, .unset]) rfl kt) ?_
    refine own_go (g' := (mkF m 52 #[.val (.int p1), .val (.int p2), .val (.int p3), .val (.int p4), .val (.int p5), .val (.int p6), .val (.int (3 : Int32)), .val (.int c20), .val (.int c21), .val (.int c22), .val (.int c23), .unset, .unset, .unset, .unset] [(.int p5)])) (fun t kt => XS.iload X23.here hx rfl (hb hby at_50) rfl kt) ?_
    refine own_go (g' := (mkF m 53 #[.val (.int p1), .val (.int p2), .val (.int p3), .val (.int p4), .val (.int p5), .val (.int p6), .val (.int (3 : Int32)), .val (.int c20), .val (.int c21), .val (.int c22), .val (.int c23), .unset, .unset, .unset, .unset] [(.int (4 : Int32)), (.int p5)])) (fun t kt => XS.iconst X23.here hx rfl (hb hby at_52) kt) ?_
    refine own_go (g' := (mkF m 55 #[.val (.int p1), .val (.int p2), .val (.int p3), .val (.int p4), .val (.int p5), .val (.int p6), .val (.int (3 : Int32)), .val (.int c20), .val (.int c21), .val (.int c22), .val (.int c23), .unset, .unset, .unset, .unset] [(.int (3 : Int32)), (.int (4 : Int32)), (.int p5)])) (fun t kt => XS.iload X23.here hx rfl (hb hby at_53) rfl kt) ?_
    refine own_go (g' := (mkF m 57 #[.val (.int p1), .val (.int p2), .val (.int p3), .val (.int p4), .val (.int p5), .val (.int p6), .val (.int (3 : Int32)), .val (.int c20), .val (.int c21), .val (.int c22), .val (.int c23), .unset, .unset, .unset, .unset] [(.int c23), (.int (3 : Int32)), (.int (4 : Int32)), (.int p5)])) (fun t kt => XS.iload X23.here hx rfl (hb hby at_55) rfl kt) ?_
    refine own_callS X23 hx hZ (W := 0) (argsL := [(.int p5), (.int (4 : Int32)), (.int (3 : Int32)), (.int c23)]) (rest := []) hown (hw _ (List.mem_of_getElem? (i := 4) rfl)) (hw _ (List.mem_of_getElem? (i := 5) rfl)) (hw _ (List.mem_of_getElem? (i := 2) rfl)) (hw _ (List.mem_of_getElem? (i := 6) rfl)) (by decide) (own_pickm l Z a0 hw p5 (4 : Int32) (3 : Int32) c23 h0 n0 (Nat.le_trans Z0 K0.1)) (by decide) (by decide) (g := (mkF m 57 #[.val (.int p1), .val (.int p2), .val (.int p3), .val (.int p4), .val (.int p5), .val (.int p6), .val (.int (3 : Int32)), .val (.int c20), .val (.int c21), .val (.int c22), .val (.int c23), .unset, .unset, .unset, .unset] [(.int c23), (.int (3 : Int32)), (.int (4 : Int32)), (.int p5)])) rfl (by rw [hml]; rfl) (lenOf own_pd5 rfl) rfl (by show 2 * 0 + _ ≤ _; exact Nat.le_of_eq rfl) (hb hby at_57) e23 N23 (by decide) (by decide) (fun v24 T24 L24 X24 N24 hq24 => ?_)
    obtain ⟨c24, rfl, hc24, e24⟩ := hq24
    replace hc24 : own_isn c24 = 1 := hc24.resolve_right (fun q => absurd q.2.1 (by decide))
    show OEnds _ _ _ _ _ _ T24 (mkF m 60 #[.val (.int p1), .val (.int p2), .val (.int p3), .val (.int p4), .val (.int p5), .val (.int p6), .val (.int (3 : Int32)), .val (.int c20), .val (.int c21), .val (.int c22), .val (.int c23), .unset, .unset, .unset, .unset] [(.int c24)])
    refine own_go (g' := (mkF m 62 #[.val (.int p1), .val (.int p2), .val (.int p3), .val (.int p4), .val (.int p5), .val (.int p6), .val (.int (3 : Int32)), .val (.int c20), .val (.int c21), .val (.int c22), .val (.int c23), .val (.int c24), .unset, .unset, .unset] [])) (fun t kt => XS.istore X24.here hx rfl (hb hby at_60) rfl (l' := #[.val (.int p1), .val (.int p2), .val (.int p3), .val (.int p4), .val (.int p5), .val (.int p6), .val (.int (3 : Int32)), .val (.int c20), .val (.int c21), .val (.int c22), .val (.int c23), .val (.int c24), .unset, .unset, .unset]) rfl kt) ?_
    refine own_go (g' := (mkF m 64 #[.val (.int p1), .val (.int p2), .val (.int p3), .val (.int p4), .val (.int p5), .val (.int p6), .val (.int (3 : Int32)), .val (.int c20), .val (.int c21), .val (.int c22), .val (.int c23), .val (.int c24), .unset, .unset, .unset] [(.int p6)])) (fun t kt => XS.iload X24.here hx rfl (hb hby at_62) rfl kt) ?_
    refine own_go (g' := (mkF m 65 #[.val (.int p1), .val (.int p2), .val (.int p3), .val (.int p4), .val (.int p5), .val (.int p6), .val (.int (3 : Int32)), .val (.int c20), .val (.int c21), .val (.int c22), .val (.int c23), .val (.int c24), .unset, .unset, .unset] [(.int (5 : Int32)), (.int p6)])) (fun t kt => XS.iconst X24.here hx rfl (hb hby at_64) kt) ?_
    refine own_go (g' := (mkF m 67 #[.val (.int p1), .val (.int p2), .val (.int p3), .val (.int p4), .val (.int p5), .val (.int p6), .val (.int (3 : Int32)), .val (.int c20), .val (.int c21), .val (.int c22), .val (.int c23), .val (.int c24), .unset, .unset, .unset] [(.int (3 : Int32)), (.int (5 : Int32)), (.int p6)])) (fun t kt => XS.iload X24.here hx rfl (hb hby at_65) rfl kt) ?_
    refine own_go (g' := (mkF m 69 #[.val (.int p1), .val (.int p2), .val (.int p3), .val (.int p4), .val (.int p5), .val (.int p6), .val (.int (3 : Int32)), .val (.int c20), .val (.int c21), .val (.int c22), .val (.int c23), .val (.int c24), .unset, .unset, .unset] [(.int c24), (.int (3 : Int32)), (.int (5 : Int32)), (.int p6)])) (fun t kt => XS.iload X24.here hx rfl (hb hby at_67) rfl kt) ?_
    refine own_callS X24 hx hZ (W := 0) (argsL := [(.int p6), (.int (5 : Int32)), (.int (3 : Int32)), (.int c24)]) (rest := []) hown (hw _ (List.mem_of_getElem? (i := 4) rfl)) (hw _ (List.mem_of_getElem? (i := 5) rfl)) (hw _ (List.mem_of_getElem? (i := 2) rfl)) (hw _ (List.mem_of_getElem? (i := 6) rfl)) (by decide) (own_pickm l Z a0 hw p6 (5 : Int32) (3 : Int32) c24 h0 n0 (Nat.le_trans Z0 K0.1)) (by decide) (by decide) (g := (mkF m 69 #[.val (.int p1), .val (.int p2), .val (.int p3), .val (.int p4), .val (.int p5), .val (.int p6), .val (.int (3 : Int32)), .val (.int c20), .val (.int c21), .val (.int c22), .val (.int c23), .val (.int c24), .unset, .unset, .unset] [(.int c24), (.int (3 : Int32)), (.int (5 : Int32)), (.int p6)])) rfl (by rw [hml]; rfl) (lenOf own_pd5 rfl) rfl (by show 2 * 0 + _ ≤ _; exact Nat.le_of_eq rfl) (hb hby at_69) e24 N24 (by decide) (by decide) (fun v25 T25 L25 X25 N25 hq25 => ?_)
    obtain ⟨c25, rfl, hc25, e25⟩ := hq25
    replace hc25 : own_isn c25 = 1 := hc25.resolve_right (fun q => absurd q.2.1 (by decide))
    show OEnds _ _ _ _ _ _ T25 (mkF m 72 #[.val (.int p1), .val (.int p2), .val (.int p3), .val (.int p4), .val (.int p5), .val (.int p6), .val (.int (3 : Int32)), .val (.int c20), .val (.int c21), .val (.int c22), .val (.int c23), .val (.int c24), .unset, .unset, .unset] [(.int c25)])
    refine own_go (g' := (mkF m 74 #[.val (.int p1), .val (.int p2), .val (.int p3), .val (.int p4), .val (.int p5), .val (.int p6), .val (.int (3 : Int32)), .val (.int c20), .val (.int c21), .val (.int c22), .val (.int c23), .val (.int c24), .val (.int c25), .unset, .unset] [])) (fun t kt => XS.istore X25.here hx rfl (hb hby at_72) rfl (l' := #[.val (.int p1), .val (.int p2), .val (.int p3), .val (.int p4), .val (.int p5), .val (.int p6), .val (.int (3 : Int32)), .val (.int c20), .val (.int c21), .val (.int c22), .val (.int c23), .val (.int c24), .val (.int c25), .unset, .unset]) rfl kt) ?_
    refine own_go (g' := (mkF m 76 #[.val (.int p1), .val (.int p2), .val (.int p3), .val (.int p4), .val (.int p5), .val (.int p6), .val (.int (3 : Int32)), .val (.int c20), .val (.int c21), .val (.int c22), .val (.int c23), .val (.int c24), .val (.int c25), .unset, .unset] [(.int c20)])) (fun t kt => XS.iload X25.here hx rfl (hb hby at_74) rfl kt) ?_
    refine own_go (g' := (mkF m 78 #[.val (.int p1), .val (.int p2), .val (.int p3), .val (.int p4), .val (.int p5), .val (.int p6), .val (.int (3 : Int32)), .val (.int c20), .val (.int c21), .val (.int c22), .val (.int c23), .val (.int c24), .val (.int c25), .unset, .unset] [(.int c21), (.int c20)])) (fun t kt => XS.iload X25.here hx rfl (hb hby at_76) rfl kt) ?_
    refine own_go (g' := (mkF m 80 #[.val (.int p1), .val (.int p2), .val (.int p3), .val (.int p4), .val (.int p5), .val (.int p6), .val (.int (3 : Int32)), .val (.int c20), .val (.int c21), .val (.int c22), .val (.int c23), .val (.int c24), .val (.int c25), .unset, .unset] [(.int c22), (.int c21), (.int c20)])) (fun t kt => XS.iload X25.here hx rfl (hb hby at_78) rfl kt) ?_
    refine own_go (g' := (mkF m 82 #[.val (.int p1), .val (.int p2), .val (.int p3), .val (.int p4), .val (.int p5), .val (.int p6), .val (.int (3 : Int32)), .val (.int c20), .val (.int c21), .val (.int c22), .val (.int c23), .val (.int c24), .val (.int c25), .unset, .unset] [(.int c23), (.int c22), (.int c21), (.int c20)])) (fun t kt => XS.iload X25.here hx rfl (hb hby at_80) rfl kt) ?_
    refine own_go (g' := (mkF m 84 #[.val (.int p1), .val (.int p2), .val (.int p3), .val (.int p4), .val (.int p5), .val (.int p6), .val (.int (3 : Int32)), .val (.int c20), .val (.int c21), .val (.int c22), .val (.int c23), .val (.int c24), .val (.int c25), .unset, .unset] [(.int c24), (.int c23), (.int c22), (.int c21), (.int c20)])) (fun t kt => XS.iload X25.here hx rfl (hb hby at_82) rfl kt) ?_
    refine own_go (g' := (mkF m 86 #[.val (.int p1), .val (.int p2), .val (.int p3), .val (.int p4), .val (.int p5), .val (.int p6), .val (.int (3 : Int32)), .val (.int c20), .val (.int c21), .val (.int c22), .val (.int c23), .val (.int c24), .val (.int c25), .unset, .unset] [(.int c25), (.int c24), (.int c23), (.int c22), (.int c21), (.int c20)])) (fun t kt => XS.iload X25.here hx rfl (hb hby at_84) rfl kt) ?_
    refine own_go (g' := (mkF m 88 #[.val (.int p1), .val (.int p2), .val (.int p3), .val (.int p4), .val (.int p5), .val (.int p6), .val (.int (3 : Int32)), .val (.int c20), .val (.int c21), .val (.int c22), .val (.int c23), .val (.int c24), .val (.int c25), .unset, .unset] [(.int (3 : Int32)), (.int c25), (.int c24), (.int c23), (.int c22), (.int c21), (.int c20)])) (fun t kt => XS.iload X25.here hx rfl (hb hby at_86) rfl kt) ?_
    refine own_callS X25 hx hZ (W := 0) (argsL := [(.int c20), (.int c21), (.int c22), (.int c23), (.int c24), (.int c25), (.int (3 : Int32))]) (rest := []) hown (hw _ (List.mem_of_getElem? (i := 7) rfl)) (hw _ (List.mem_of_getElem? (i := 8) rfl)) (hw _ (List.mem_of_getElem? (i := 2) rfl)) (hw _ (List.mem_of_getElem? (i := 9) rfl)) (by decide) (own_build3 l Z a0 hw c20 c21 c22 c23 c24 c25 cs h0 n0 (Nat.le_trans Z0 K0.1) S_c hcs (own_rngc (Or.inl hc20)) (own_rngc (hc21.imp id And.left)) (own_rngc (Or.inl hc22))) (by decide) (by decide) (g := (mkF m 88 #[.val (.int p1), .val (.int p2), .val (.int p3), .val (.int p4), .val (.int p5), .val (.int p6), .val (.int (3 : Int32)), .val (.int c20), .val (.int c21), .val (.int c22), .val (.int c23), .val (.int c24), .val (.int c25), .unset, .unset] [(.int (3 : Int32)), (.int c25), (.int c24), (.int c23), (.int c22), (.int c21), (.int c20)])) rfl (by rw [hml]; rfl) (lenOf own_pd6 rfl) rfl (by show 2 * 0 + _ ≤ _; exact Nat.le_of_eq rfl) (hb hby at_88) e25 N25 (by decide) (by decide) (fun v26 T26 L26 X26 N26 hq26 => ?_)
    obtain ⟨b26, t26, k26, rfl, Kc26, A26, G26, F26, V26⟩ := hq26
    have K26 := K0.trans Kc26 all0
    have S_c_h26 := S_c.ext (own_kext K26)
    have S_f_h26 := S_f.ext (own_kext K26)
    have hp26 : ∀ c ∈ ([c20, c21, c22] : List Int32), ¬ c < 0 ∧ ¬ (255 : Int32) < c := (own_alS (own_rngc (Or.inl hc20)).1 (own_alS (own_rngc (hc21.imp id And.left)).1 (own_alS (own_rngc (Or.inl hc22)).1 own_al0)))
    have hcd26 := StrChars.Road.codOf (cs := ([c20, c21, c22] : List Int32)) (n := 3) rfl (fun c hc => (hp26 c hc).2)
    have hbd26 := own_up _ hp26
    show OEnds _ _ _ _ _ _ T26 (mkF m 91 #[.val (.int p1), .val (.int p2), .val (.int p3), .val (.int p4), .val (.int p5), .val (.int p6), .val (.int (3 : Int32)), .val (.int c20), .val (.int c21), .val (.int c22), .val (.int c23), .val (.int c24), .val (.int c25), .unset, .unset] [(.ref b26)])
    refine own_go (g' := (mkF m 93 #[.val (.int p1), .val (.int p2), .val (.int p3), .val (.int p4), .val (.int p5), .val (.int p6), .val (.int (3 : Int32)), .val (.int c20), .val (.int c21), .val (.int c22), .val (.int c23), .val (.int c24), .val (.int c25), .val (.ref b26), .unset] [])) (fun t kt => XS.astore X26.here hx rfl (hb hby at_91) rfl rfl (l' := #[.val (.int p1), .val (.int p2), .val (.int p3), .val (.int p4), .val (.int p5), .val (.int p6), .val (.int (3 : Int32)), .val (.int c20), .val (.int c21), .val (.int c22), .val (.int c23), .val (.int c24), .val (.int c25), .val (.ref b26), .unset]) rfl kt) ?_
    refine own_go (g' := (mkF m 95 #[.val (.int p1), .val (.int p2), .val (.int p3), .val (.int p4), .val (.int p5), .val (.int p6), .val (.int (3 : Int32)), .val (.int c20), .val (.int c21), .val (.int c22), .val (.int c23), .val (.int c24), .val (.int c25), .val (.ref b26), .unset] [(.ref b26)])) (fun t kt => XS.aload X26.here hx rfl (hb hby at_93) rfl rfl kt) ?_
    refine own_callS X26 hx hZ (W := 0) (argsL := [(.ref b26)]) (rest := []) hown (hw _ (List.mem_of_getElem? (i := 40) rfl)) (hw _ (List.mem_of_getElem? (i := 41) rfl)) (hw _ (List.mem_of_getElem? (i := 42) rfl)) (hw _ (List.mem_of_getElem? (i := 43) rfl)) (by decide) (own_req3 l Z a0 hw b26 t26 k26 c20 c21 c22 cs sv hsv T26.heap n0 (Nat.le_trans Z0 K26.1) A26 G26 F26 V26 S_c_h26 S_f_h26 hcs hcd26 hbd26 hc20 hc21 hc22) (by decide) (by decide) (g := (mkF m 95 #[.val (.int p1), .val (.int p2), .val (.int p3), .val (.int p4), .val (.int p5), .val (.int p6), .val (.int (3 : Int32)), .val (.int c20), .val (.int c21), .val (.int c22), .val (.int c23), .val (.int c24), .val (.int c25), .val (.ref b26), .unset] [(.ref b26)])) rfl (by rw [hml]; rfl) (lenOf own_pd7 rfl) rfl (by show 2 * 0 + _ ≤ _; exact Nat.le_of_eq rfl) (hb hby at_95) rfl N26 (by decide) (by decide) (fun v27 T27 L27 X27 N27 hq27 => ?_)
    obtain ⟨rfl, e27⟩ := hq27
    show OEnds _ _ _ _ _ _ T27 (mkF m 98 #[.val (.int p1), .val (.int p2), .val (.int p3), .val (.int p4), .val (.int p5), .val (.int p6), .val (.int (3 : Int32)), .val (.int c20), .val (.int c21), .val (.int c22), .val (.int c23), .val (.int c24), .val (.int c25), .val (.ref b26), .unset] [(.ref b26)])
    refine own_go (g' := (mkF m 100 #[.val (.int p1), .val (.int p2), .val (.int p3), .val (.int p4), .val (.int p5), .val (.int p6), .val (.int (3 : Int32)), .val (.int c20), .val (.int c21), .val (.int c22), .val (.int c23), .val (.int c24), .val (.int c25), .val (.ref b26), .val (.ref b26)] [])) (fun t kt => XS.astore X27.here hx rfl (hb hby at_98) rfl rfl (l' := #[.val (.int p1), .val (.int p2), .val (.int p3), .val (.int p4), .val (.int p5), .val (.int p6), .val (.int (3 : Int32)), .val (.int c20), .val (.int c21), .val (.int c22), .val (.int c23), .val (.int c24), .val (.int c25), .val (.ref b26), .val (.ref b26)]) rfl kt) ?_
    refine own_go (g' := (mkF m 102 #[.val (.int p1), .val (.int p2), .val (.int p3), .val (.int p4), .val (.int p5), .val (.int p6), .val (.int (3 : Int32)), .val (.int c20), .val (.int c21), .val (.int c22), .val (.int c23), .val (.int c24), .val (.int c25), .val (.ref b26), .val (.ref b26)] [(.ref b26)])) (fun t kt => XS.aload X27.here hx rfl (hb hby at_100) rfl rfl kt) ?_
    refine own_go (g' := (mkF m 104 #[.val (.int p1), .val (.int p2), .val (.int p3), .val (.int p4), .val (.int p5), .val (.int p6), .val (.int (3 : Int32)), .val (.int c20), .val (.int c21), .val (.int c22), .val (.int c23), .val (.int c24), .val (.int c25), .val (.ref b26), .val (.ref b26)] [(.ref b26), (.ref b26)])) (fun t kt => XS.aload X27.here hx rfl (hb hby at_102) rfl rfl kt) ?_
    refine own_go (g' := (mkF m 107 #[.val (.int p1), .val (.int p2), .val (.int p3), .val (.int p4), .val (.int p5), .val (.int p6), .val (.int (3 : Int32)), .val (.int c20), .val (.int c21), .val (.int c22), .val (.int c23), .val (.int c24), .val (.int c25), .val (.ref b26), .val (.ref b26)] [])) (fun t kt => Jvm.RoadKit.acmp (g := (mkF m 104 #[.val (.int p1), .val (.int p2), .val (.int p3), .val (.int p4), .val (.int p5), .val (.int p6), .val (.int (3 : Int32)), .val (.int c20), .val (.int c21), .val (.int c22), .val (.int c23), .val (.int c24), .val (.int c25), .val (.ref b26), .val (.ref b26)] [(.ref b26), (.ref b26)])) X27 hx rfl rfl rfl (pc0 := 104) (pc' := 107) (same := true) rfl (hb hby at_104) rfl (decide_eq_true rfl) (by decide) (by decide) kt) ?_
    refine own_go (g' := (mkF m 109 #[.val (.int p1), .val (.int p2), .val (.int p3), .val (.int p4), .val (.int p5), .val (.int p6), .val (.int (3 : Int32)), .val (.int c20), .val (.int c21), .val (.int c22), .val (.int c23), .val (.int c24), .val (.int c25), .val (.ref b26), .val (.ref b26)] [(.ref b26)])) (fun t kt => XS.aload X27.here hx rfl (hb hby at_107) rfl rfl kt) ?_
    refine own_callVB X27 hx hZ (a := b26) (W := 0) (argsL := []) (rest := []) (c1 := 0) (s1 := 0) (Qc := fun v h' L => (v = some (.int (Int32.ofNat (List.length ([c20, c21, c22] : List Int32))))) ∧ L = [] ∧ h' = T26.heap) hown (hw _ (List.mem_of_getElem? (i := 84) rfl)) (hw _ (List.mem_of_getElem? (i := 50) rfl)) (hw _ (List.mem_of_getElem? (i := 52) rfl)) (hw _ (List.mem_of_getElem? (i := 51) rfl)) (by decide) (StrChars.Road.lenW (W := 0) hZ (fun d hd => hw d (own_wl d hd)) (kI := 4) (hw _ (List.mem_of_getElem? (i := 11) rfl)) A26 F26 G26 V26 hcd26 hbd26 S_c_h26 hcs (Nat.le_of_ble_eq_true rfl) (by decide) (by decide)) A26 (g := (mkF m 109 #[.val (.int p1), .val (.int p2), .val (.int p3), .val (.int p4), .val (.int p5), .val (.int p6), .val (.int (3 : Int32)), .val (.int c20), .val (.int c21), .val (.int c22), .val (.int c23), .val (.int c24), .val (.int c25), .val (.ref b26), .val (.ref b26)] [(.ref b26)])) rfl (by rw [hml]; rfl) (lenOf own_pd3 rfl) rfl (by show 2 * 0 + _ ≤ _; exact Nat.le_of_eq rfl) (hb hby at_109) e27 (by decide) (by decide) (fun v28 T28 L28 X28 hq28 => ?_)
    obtain ⟨rfl, rfl, e28⟩ := hq28
    have N28 := Fr.app N27 (Fr.nil n0)
    show OEnds _ _ _ _ _ _ T28 (mkF m 112 #[.val (.int p1), .val (.int p2), .val (.int p3), .val (.int p4), .val (.int p5), .val (.int p6), .val (.int (3 : Int32)), .val (.int c20), .val (.int c21), .val (.int c22), .val (.int c23), .val (.int c24), .val (.int c25), .val (.ref b26), .val (.ref b26)] [(.int (3 : Int32))])
    refine own_go (g' := (mkF m 114 #[.val (.int p1), .val (.int p2), .val (.int p3), .val (.int p4), .val (.int p5), .val (.int p6), .val (.int (3 : Int32)), .val (.int c20), .val (.int c21), .val (.int c22), .val (.int c23), .val (.int c24), .val (.int c25), .val (.ref b26), .val (.ref b26)] [(.int (3 : Int32)), (.int (3 : Int32))])) (fun t kt => XS.iload X28.here hx rfl (hb hby at_112) rfl kt) ?_
    refine own_go (g' := (mkF m 117 #[.val (.int p1), .val (.int p2), .val (.int p3), .val (.int p4), .val (.int p5), .val (.int p6), .val (.int (3 : Int32)), .val (.int c20), .val (.int c21), .val (.int c22), .val (.int c23), .val (.int c24), .val (.int c25), .val (.ref b26), .val (.ref b26)] [])) (fun t kt => XS.icmpNo X28.here hx rfl (hb hby at_114) rfl (teq ((by decide) : (3 : Int32) = (3 : Int32))).2 kt) ?_
    refine own_go (g' := (mkF m 118 #[.val (.int p1), .val (.int p2), .val (.int p3), .val (.int p4), .val (.int p5), .val (.int p6), .val (.int (3 : Int32)), .val (.int c20), .val (.int c21), .val (.int c22), .val (.int c23), .val (.int c24), .val (.int c25), .val (.ref b26), .val (.ref b26)] [(.int (1 : Int32))])) (fun t kt => XS.iconst X28.here hx rfl (hb hby at_117) kt) ?_
    refine own_go (g' := (mkF m 122 #[.val (.int p1), .val (.int p2), .val (.int p3), .val (.int p4), .val (.int p5), .val (.int p6), .val (.int (3 : Int32)), .val (.int c20), .val (.int c21), .val (.int c22), .val (.int c23), .val (.int c24), .val (.int c25), .val (.ref b26), .val (.ref b26)] [(.int (1 : Int32))])) (fun t kt => XS.goto X28.here hx rfl (pc0 := 118) (pc' := 122) rfl (hb hby at_118) (by decide) (by decide) kt) ?_
    exact own_retN X28 hx hlk (t := .boolean) (z' := (1 : Int32)) hret (by simp) (hb hby at_122) rfl e28 N28 (by decide) (by decide) (rfl)
  · refine own_go (g' := (mkF m 12 #[.val (.int p1), .val (.int p2), .val (.int p3), .val (.int p4), .val (.int p5), .val (.int p6), .val (.int (4 : Int32)), .unset, .unset, .unset, .unset, .unset, .unset, .unset, .unset] [(.int p1)])) (fun t kt => XS.iloadN X0.here hx rfl (hb hby at_11) rfl kt) ?_
    refine own_callS X0 hx hZ (W := 0) (argsL := [(.int p1)]) (rest := []) hown (hw _ (List.mem_of_getElem? (i := 0) rfl)) (hw _ (List.mem_of_getElem? (i := 1) rfl)) (hw _ (List.mem_of_getElem? (i := 2) rfl)) (hw _ (List.mem_of_getElem? (i := 3) rfl)) (by decide) (own_namechar l Z a0 hw p1 h0 n0 (Nat.le_trans Z0 K0.1)) (by decide) (by decide) (g := (mkF m 12 #[.val (.int p1), .val (.int p2), .val (.int p3), .val (.int p4), .val (.int p5), .val (.int p6), .val (.int (4 : Int32)), .unset, .unset, .unset, .unset, .unset, .unset, .unset, .unset] [(.int p1)])) rfl (by rw [hml]; rfl) (lenOf own_pd0 rfl) rfl (by show 2 * 0 + _ ≤ _; exact Nat.le_of_eq rfl) (hb hby at_12) e0 N0 (by decide) (by decide) (fun v29 T29 L29 X29 N29 hq29 => ?_)
    obtain ⟨c29, rfl, hc29, e29⟩ := hq29
    show OEnds _ _ _ _ _ _ T29 (mkF m 15 #[.val (.int p1), .val (.int p2), .val (.int p3), .val (.int p4), .val (.int p5), .val (.int p6), .val (.int (4 : Int32)), .unset, .unset, .unset, .unset, .unset, .unset, .unset, .unset] [(.int c29)])
    refine own_go (g' := (mkF m 17 #[.val (.int p1), .val (.int p2), .val (.int p3), .val (.int p4), .val (.int p5), .val (.int p6), .val (.int (4 : Int32)), .val (.int c29), .unset, .unset, .unset, .unset, .unset, .unset, .unset] [])) (fun t kt => XS.istore X29.here hx rfl (hb hby at_15) rfl (l' := #[.val (.int p1), .val (.int p2), .val (.int p3), .val (.int p4), .val (.int p5), .val (.int p6), .val (.int (4 : Int32)), .val (.int c29), .unset, .unset, .unset, .unset, .unset, .unset, .unset]) rfl kt) ?_
    refine own_go (g' := (mkF m 18 #[.val (.int p1), .val (.int p2), .val (.int p3), .val (.int p4), .val (.int p5), .val (.int p6), .val (.int (4 : Int32)), .val (.int c29), .unset, .unset, .unset, .unset, .unset, .unset, .unset] [(.int p2)])) (fun t kt => XS.iloadN X29.here hx rfl (hb hby at_17) rfl kt) ?_
    refine own_go (g' := (mkF m 19 #[.val (.int p1), .val (.int p2), .val (.int p3), .val (.int p4), .val (.int p5), .val (.int p6), .val (.int (4 : Int32)), .val (.int c29), .unset, .unset, .unset, .unset, .unset, .unset, .unset] [(.int (1 : Int32)), (.int p2)])) (fun t kt => XS.iconst X29.here hx rfl (hb hby at_18) kt) ?_
    refine own_go (g' := (mkF m 21 #[.val (.int p1), .val (.int p2), .val (.int p3), .val (.int p4), .val (.int p5), .val (.int p6), .val (.int (4 : Int32)), .val (.int c29), .unset, .unset, .unset, .unset, .unset, .unset, .unset] [(.int (4 : Int32)), (.int (1 : Int32)), (.int p2)])) (fun t kt => XS.iload X29.here hx rfl (hb hby at_19) rfl kt) ?_
    refine own_go (g' := (mkF m 23 #[.val (.int p1), .val (.int p2), .val (.int p3), .val (.int p4), .val (.int p5), .val (.int p6), .val (.int (4 : Int32)), .val (.int c29), .unset, .unset, .unset, .unset, .unset, .unset, .unset] [(.int c29), (.int (4 : Int32)), (.int (1 : Int32)), (.int p2)])) (fun t kt => XS.iload X29.here hx rfl (hb hby at_21) rfl kt) ?_
    refine own_callS X29 hx hZ (W := 0) (argsL := [(.int p2), (.int (1 : Int32)), (.int (4 : Int32)), (.int c29)]) (rest := []) hown (hw _ (List.mem_of_getElem? (i := 4) rfl)) (hw _ (List.mem_of_getElem? (i := 5) rfl)) (hw _ (List.mem_of_getElem? (i := 2) rfl)) (hw _ (List.mem_of_getElem? (i := 6) rfl)) (by decide) (own_pickm l Z a0 hw p2 (1 : Int32) (4 : Int32) c29 h0 n0 (Nat.le_trans Z0 K0.1)) (by decide) (by decide) (g := (mkF m 23 #[.val (.int p1), .val (.int p2), .val (.int p3), .val (.int p4), .val (.int p5), .val (.int p6), .val (.int (4 : Int32)), .val (.int c29), .unset, .unset, .unset, .unset, .unset, .unset, .unset] [(.int c29), (.int (4 : Int32)), (.int (1 : Int32)), (.int p2)])) rfl (by rw [hml]; rfl) (lenOf own_pd5 rfl) rfl (by show 2 * 0 + _ ≤ _; exact Nat.le_of_eq rfl) (hb hby at_23) e29 N29 (by decide) (by decide) (fun v30 T30 L30 X30 N30 hq30 => ?_)
    obtain ⟨c30, rfl, hc30, e30⟩ := hq30
    replace hc30 : own_isn c30 = 1 ∨ (c30 = 47 ∧ ¬ c29 = 47) := hc30.imp id (fun q => ⟨q.1, q.2.2⟩)
    show OEnds _ _ _ _ _ _ T30 (mkF m 26 #[.val (.int p1), .val (.int p2), .val (.int p3), .val (.int p4), .val (.int p5), .val (.int p6), .val (.int (4 : Int32)), .val (.int c29), .unset, .unset, .unset, .unset, .unset, .unset, .unset] [(.int c30)])
    refine own_go (g' := (mkF m 28 #[.val (.int p1), .val (.int p2), .val (.int p3), .val (.int p4), .val (.int p5), .val (.int p6), .val (.int (4 : Int32)), .val (.int c29), .val (.int c30), .unset, .unset, .unset, .unset, .unset, .unset] [])) (fun t kt => XS.istore X30.here hx rfl (hb hby at_26) rfl (l' := #[.val (.int p1), .val (.int p2), .val (.int p3), .val (.int p4), .val (.int p5), .val (.int p6), .val (.int (4 : Int32)), .val (.int c29), .val (.int c30), .unset, .unset, .unset, .unset, .unset, .unset]) rfl kt) ?_
    refine own_go (g' := (mkF m 29 #[.val (.int p1), .val (.int p2), .val (.int p3), .val (.int p4), .val (.int p5), .val (.int p6), .val (.int (4 : Int32)), .val (.int c29), .val (.int c30), .unset, .unset, .unset, .unset, .unset, .unset] [(.int p3)])) (fun t kt => XS.iloadN X30.here hx rfl (hb hby at_28) rfl kt) ?_
    refine own_go (g' := (mkF m 30 #[.val (.int p1), .val (.int p2), .val (.int p3), .val (.int p4), .val (.int p5), .val (.int p6), .val (.int (4 : Int32)), .val (.int c29), .val (.int c30), .unset, .unset, .unset, .unset, .unset, .unset] [(.int (2 : Int32)), (.int p3)])) (fun t kt => XS.iconst X30.here hx rfl (hb hby at_29) kt) ?_
    refine own_go (g' := (mkF m 32 #[.val (.int p1), .val (.int p2), .val (.int p3), .val (.int p4), .val (.int p5), .val (.int p6), .val (.int (4 : Int32)), .val (.int c29), .val (.int c30), .unset, .unset, .unset, .unset, .unset, .unset] [(.int (4 : Int32)), (.int (2 : Int32)), (.int p3)])) (fun t kt => XS.iload X30.here hx rfl (hb hby at_30) rfl kt) ?_
    refine own_go (g' := (mkF m 34 #[.val (.int p1), .val (.int p2), .val (.int p3), .val (.int p4), .val (.int p5), .val (.int p6), .val (.int (4 : Int32)), .val (.int c29), .val (.int c30), .unset, .unset, .unset, .unset, .unset, .unset] [(.int c30), (.int (4 : Int32)), (.int (2 : Int32)), (.int p3)])) (fun t kt => XS.iload X30.here hx rfl (hb hby at_32) rfl kt) ?_
    refine own_callS X30 hx hZ (W := 0) (argsL := [(.int p3), (.int (2 : Int32)), (.int (4 : Int32)), (.int c30)]) (rest := []) hown (hw _ (List.mem_of_getElem? (i := 4) rfl)) (hw _ (List.mem_of_getElem? (i := 5) rfl)) (hw _ (List.mem_of_getElem? (i := 2) rfl)) (hw _ (List.mem_of_getElem? (i := 6) rfl)) (by decide) (own_pickm l Z a0 hw p3 (2 : Int32) (4 : Int32) c30 h0 n0 (Nat.le_trans Z0 K0.1)) (by decide) (by decide) (g := (mkF m 34 #[.val (.int p1), .val (.int p2), .val (.int p3), .val (.int p4), .val (.int p5), .val (.int p6), .val (.int (4 : Int32)), .val (.int c29), .val (.int c30), .unset, .unset, .unset, .unset, .unset, .unset] [(.int c30), (.int (4 : Int32)), (.int (2 : Int32)), (.int p3)])) rfl (by rw [hml]; rfl) (lenOf own_pd5 rfl) rfl (by show 2 * 0 + _ ≤ _; exact Nat.le_of_eq rfl) (hb hby at_34) e30 N30 (by decide) (by decide) (fun v31 T31 L31 X31 N31 hq31 => ?_)
    obtain ⟨c31, rfl, hc31, e31⟩ := hq31
    replace hc31 : own_isn c31 = 1 ∨ (c31 = 47 ∧ ¬ c30 = 47) := hc31.imp id (fun q => ⟨q.1, q.2.2⟩)
    show OEnds _ _ _ _ _ _ T31 (mkF m 37 #[.val (.int p1), .val (.int p2), .val (.int p3), .val (.int p4), .val (.int p5), .val (.int p6), .val (.int (4 : Int32)), .val (.int c29), .val (.int c30), .unset, .unset, .unset, .unset, .unset, .unset] [(.int c31)])
    refine own_go (g' := (mkF m 39 #[.val (.int p1), .val (.int p2), .val (.int p3), .val (.int p4), .val (.int p5), .val (.int p6), .val (.int (4 : Int32)), .val (.int c29), .val (.int c30), .val (.int c31), .unset, .unset, .unset, .unset, .unset] [])) (fun t kt => XS.istore X31.here hx rfl (hb hby at_37) rfl (l' := #[.val (.int p1), .val (.int p2), .val (.int p3), .val (.int p4), .val (.int p5), .val (.int p6), .val (.int (4 : Int32)), .val (.int c29), .val (.int c30), .val (.int c31), .unset, .unset, .unset, .unset, .unset]) rfl kt) ?_
    refine own_go (g' := (mkF m 40 #[.val (.int p1), .val (.int p2), .val (.int p3), .val (.int p4), .val (.int p5), .val (.int p6), .val (.int (4 : Int32)), .val (.int c29), .val (.int c30), .val (.int c31), .unset, .unset, .unset, .unset, .unset] [(.int p4)])) (fun t kt => XS.iloadN X31.here hx rfl (hb hby at_39) rfl kt) ?_
    refine own_go (g' := (mkF m 41 #[.val (.int p1), .val (.int p2), .val (.int p3), .val (.int p4), .val (.int p5), .val (.int p6), .val (.int (4 : Int32)), .val (.int c29), .val (.int c30), .val (.int c31), .unset, .unset, .unset, .unset, .unset] [(.int (3 : Int32)), (.int p4)])) (fun t kt => XS.iconst X31.here hx rfl (hb hby at_40) kt) ?_
    refine own_go (g' := (mkF m 43 #[.val (.int p1), .val (.int p2), .val (.int p3), .val (.int p4), .val (.int p5), .val (.int p6), .val (.int (4 : Int32)), .val (.int c29), .val (.int c30), .val (.int c31), .unset, .unset, .unset, .unset, .unset] [(.int (4 : Int32)), (.int (3 : Int32)), (.int p4)])) (fun t kt => XS.iload X31.here hx rfl (hb hby at_41) rfl kt) ?_
    refine own_go (g' := (mkF m 45 #[.val (.int p1), .val (.int p2), .val (.int p3), .val (.int p4), .val (.int p5), .val (.int p6), .val (.int (4 : Int32)), .val (.int c29), .val (.int c30), .val (.int c31), .unset, .unset, .unset, .unset, .unset] [(.int c31), (.int (4 : Int32)), (.int (3 : Int32)), (.int p4)])) (fun t kt => XS.iload X31.here hx rfl (hb hby at_43) rfl kt) ?_
    refine own_callS X31 hx hZ (W := 0) (argsL := [(.int p4), (.int (3 : Int32)), (.int (4 : Int32)), (.int c31)]) (rest := []) hown (hw _ (List.mem_of_getElem? (i := 4) rfl)) (hw _ (List.mem_of_getElem? (i := 5) rfl)) (hw _ (List.mem_of_getElem? (i := 2) rfl)) (hw _ (List.mem_of_getElem? (i := 6) rfl)) (by decide) (own_pickm l Z a0 hw p4 (3 : Int32) (4 : Int32) c31 h0 n0 (Nat.le_trans Z0 K0.1)) (by decide) (by decide) (g := (mkF m 45 #[.val (.int p1), .val (.int p2), .val (.int p3), .val (.int p4), .val (.int p5), .val (.int p6), .val (.int (4 : Int32)), .val (.int c29), .val (.int c30), .val (.int c31), .unset, .unset, .unset, .unset, .unset] [(.int c31), (.int (4 : Int32)), (.int (3 : Int32)), (.int p4)])) rfl (by rw [hml]; rfl) (lenOf own_pd5 rfl) rfl (by show 2 * 0 + _ ≤ _; exact Nat.le_of_eq rfl) (hb hby at_45) e31 N31 (by decide) (by decide) (fun v32 T32 L32 X32 N32 hq32 => ?_)
    obtain ⟨c32, rfl, hc32, e32⟩ := hq32
    replace hc32 : own_isn c32 = 1 := hc32.resolve_right (fun q => absurd q.2.1 (by decide))
    show OEnds _ _ _ _ _ _ T32 (mkF m 48 #[.val (.int p1), .val (.int p2), .val (.int p3), .val (.int p4), .val (.int p5), .val (.int p6), .val (.int (4 : Int32)), .val (.int c29), .val (.int c30), .val (.int c31), .unset, .unset, .unset, .unset, .unset] [(.int c32)])
    refine own_go (g' := (mkF m 50 #[.val (.int p1), .val (.int p2), .val (.int p3), .val (.int p4), .val (.int p5), .val (.int p6), .val (.int (4 : Int32)), .val (.int c29), .val (.int c30), .val (.int c31), .val (.int c32), .unset, .unset, .unset, .unset] [])) (fun t kt => XS.istore X32.here hx rfl (hb hby at_48) rfl (l' := #[.val (.int p1), .val (.int p2), .val (.int p3), .val (.int p4), .val (.int p5), .val (.int p6), .val (.int (4 : Int32)), .val (.int c29), .val (.int c30), .val (.int c31), .val (.int c32), .unset, .unset, .unset, .unset]) rfl kt) ?_
    refine own_go (g' := (mkF m 52 #[.val (.int p1), .val (.int p2), .val (.int p3), .val (.int p4), .val (.int p5), .val (.int p6), .val (.int (4 : Int32)), .val (.int c29), .val (.int c30), .val (.int c31), .val (.int c32), .unset, .unset, .unset, .unset] [(.int p5)])) (fun t kt => XS.iload X32.here hx rfl (hb hby at_50) rfl kt) ?_
    refine own_go (g' := (mkF m 53 #[.val (.int p1), .val (.int p2), .val (.int p3), .val (.int p4), .val (.int p5), .val (.int p6), .val (.int (4 : Int32)), .val (.int c29), .val (.int c30), .val (.int c31), .val (.int c32), .unset, .unset, .unset, .unset] [(.int (4 : Int32)), (.int p5)])) (fun t kt => XS.iconst X32.here hx rfl (hb hby at_52) kt) ?_
    refine own_go (g' := (mkF m 55 #[.val (.int p1), .val (.int p2), .val (.int p3), .val (.int p4), .val (.int p5), .val (.int p6), .val (.int (4 : Int32)), .val (.int c29), .val (.int c30), .val (.int c31), .val (.int c32), .unset, .unset, .unset, .unset] [(.int (4 : Int32)), (.int (4 : Int32)), (.int p5)])) (fun t kt => XS.iload X32.here hx rfl (hb hby at_53) rfl kt) ?_
    refine own_go (g' := (mkF m 57 #[.val (.int p1), .val (.int p2), .val (.int p3), .val (.int p4), .val (.int p5), .val (.int p6), .val (.int (4 : Int32)), .val (.int c29), .val (.int c30), .val (.int c31), .val (.int c32), .unset, .unset, .unset, .unset] [(.int c32), (.int (4 : Int32)), (.int (4 : Int32)), (.int p5)])) (fun t kt => XS.iload X32.here hx rfl (hb hby at_55) rfl kt) ?_
    refine own_callS X32 hx hZ (W := 0) (argsL := [(.int p5), (.int (4 : Int32)), (.int (4 : Int32)), (.int c32)]) (rest := []) hown (hw _ (List.mem_of_getElem? (i := 4) rfl)) (hw _ (List.mem_of_getElem? (i := 5) rfl)) (hw _ (List.mem_of_getElem? (i := 2) rfl)) (hw _ (List.mem_of_getElem? (i := 6) rfl)) (by decide) (own_pickm l Z a0 hw p5 (4 : Int32) (4 : Int32) c32 h0 n0 (Nat.le_trans Z0 K0.1)) (by decide) (by decide) (g := (mkF m 57 #[.val (.int p1), .val (.int p2), .val (.int p3), .val (.int p4), .val (.int p5), .val (.int p6), .val (.int (4 : Int32)), .val (.int c29), .val (.int c30), .val (.int c31), .val (.int c32), .unset, .unset, .unset, .unset] [(.int c32), (.int (4 : Int32)), (.int (4 : Int32)), (.int p5)])) rfl (by rw [hml]; rfl) (lenOf own_pd5 rfl) rfl (by show 2 * 0 + _ ≤ _; exact Nat.le_of_eq rfl) (hb hby at_57) e32 N32 (by decide) (by decide) (fun v33 T33 L33 X33 N33 hq33 => ?_)
    obtain ⟨c33, rfl, hc33, e33⟩ := hq33
    replace hc33 : own_isn c33 = 1 := hc33.resolve_right (fun q => absurd q.2.1 (by decide))
    show OEnds _ _ _ _ _ _ T33 (mkF m 60 #[.val (.int p1), .val (.int p2), .val (.int p3), .val (.int p4), .val (.int p5), .val (.int p6), .val (.int (4 : Int32)), .val (.int c29), .val (.int c30), .val (.int c31), .val (.int c32), .unset, .unset, .unset, .unset] [(.int c33)])
    refine own_go (g' := (mkF m 62 #[.val (.int p1), .val (.int p2), .val (.int p3), .val (.int p4), .val (.int p5), .val (.int p6), .val (.int (4 : Int32)), .val (.int c29), .val (.int c30), .val (.int c31), .val (.int c32), .val (.int c33), .unset, .unset, .unset] [])) (fun t kt => XS.istore X33.here hx rfl (hb hby at_60) rfl (l' := #[.val (.int p1), .val (.int p2), .val (.int p3), .val (.int p4), .val (.int p5), .val (.int p6), .val (.int (4 : Int32)), .val (.int c29), .val (.int c30), .val (.int c31), .val (.int c32), .val (.int c33), .unset, .unset, .unset]) rfl kt) ?_
    refine own_go (g' := (mkF m 64 #[.val (.int p1), .val (.int p2), .val (.int p3), .val (.int p4), .val (.int p5), .val (.int p6), .val (.int (4 : Int32)), .val (.int c29), .val (.int c30), .val (.int c31), .val (.int c32), .val (.int c33), .unset, .unset, .unset] [(.int p6)])) (fun t kt => XS.iload X33.here hx rfl (hb hby at_62) rfl kt) ?_
    refine own_go (g' := (mkF m 65 #[.val (.int p1), .val (.int p2), .val (.int p3), .val (.int p4), .val (.int p5), .val (.int p6), .val (.int (4 : Int32)), .val (.int c29), .val (.int c30), .val (.int c31), .val (.int c32), .val (.int c33), .unset, .unset, .unset] [(.int (5 : Int32)), (.int p6)])) (fun t kt => XS.iconst X33.here hx rfl (hb hby at_64) kt) ?_
    refine own_go (g' := (mkF m 67 #[.val (.int p1), .val (.int p2), .val (.int p3), .val (.int p4), .val (.int p5), .val (.int p6), .val (.int (4 : Int32)), .val (.int c29), .val (.int c30), .val (.int c31), .val (.int c32), .val (.int c33), .unset, .unset, .unset] [(.int (4 : Int32)), (.int (5 : Int32)), (.int p6)])) (fun t kt => XS.iload X33.here hx rfl (hb hby at_65) rfl kt) ?_
    refine own_go (g' := (mkF m 69 #[.val (.int p1), .val (.int p2), .val (.int p3), .val (.int p4), .val (.int p5), .val (.int p6), .val (.int (4 : Int32)), .val (.int c29), .val (.int c30), .val (.int c31), .val (.int c32), .val (.int c33), .unset, .unset, .unset] [(.int c33), (.int (4 : Int32)), (.int (5 : Int32)), (.int p6)])) (fun t kt => XS.iload X33.here hx rfl (hb hby at_67) rfl kt) ?_
    refine own_callS X33 hx hZ (W := 0) (argsL := [(.int p6), (.int (5 : Int32)), (.int (4 : Int32)), (.int c33)]) (rest := []) hown (hw _ (List.mem_of_getElem? (i := 4) rfl)) (hw _ (List.mem_of_getElem? (i := 5) rfl)) (hw _ (List.mem_of_getElem? (i := 2) rfl)) (hw _ (List.mem_of_getElem? (i := 6) rfl)) (by decide) (own_pickm l Z a0 hw p6 (5 : Int32) (4 : Int32) c33 h0 n0 (Nat.le_trans Z0 K0.1)) (by decide) (by decide) (g := (mkF m 69 #[.val (.int p1), .val (.int p2), .val (.int p3), .val (.int p4), .val (.int p5), .val (.int p6), .val (.int (4 : Int32)), .val (.int c29), .val (.int c30), .val (.int c31), .val (.int c32), .val (.int c33), .unset, .unset, .unset] [(.int c33), (.int (4 : Int32)), (.int (5 : Int32)), (.int p6)])) rfl (by rw [hml]; rfl) (lenOf own_pd5 rfl) rfl (by show 2 * 0 + _ ≤ _; exact Nat.le_of_eq rfl) (hb hby at_69) e33 N33 (by decide) (by decide) (fun v34 T34 L34 X34 N34 hq34 => ?_)
    obtain ⟨c34, rfl, hc34, e34⟩ := hq34
    replace hc34 : own_isn c34 = 1 := hc34.resolve_right (fun q => absurd q.2.1 (by decide))
    show OEnds _ _ _ _ _ _ T34 (mkF m 72 #[.val (.int p1), .val (.int p2), .val (.int p3), .val (.int p4), .val (.int p5), .val (.int p6), .val (.int (4 : Int32)), .val (.int c29), .val (.int c30), .val (.int c31), .val (.int c32), .val (.int c33), .unset, .unset, .unset] [(.int c34)])
    refine own_go (g' := (mkF m 74 #[.val (.int p1), .val (.int p2), .val (.int p3), .val (.int p4), .val (.int p5), .val (.int p6), .val (.int (4 : Int32)), .val (.int c29), .val (.int c30), .val (.int c31), .val (.int c32), .val (.int c33), .val (.int c34), .unset, .unset] [])) (fun t kt => XS.istore X34.here hx rfl (hb hby at_72) rfl (l' := #[.val (.int p1), .val (.int p2), .val (.int p3), .val (.int p4), .val (.int p5), .val (.int p6), .val (.int (4 : Int32)), .val (.int c29), .val (.int c30), .val (.int c31), .val (.int c32), .val (.int c33), .val (.int c34), .unset, .unset]) rfl kt) ?_
    refine own_go (g' := (mkF m 76 #[.val (.int p1), .val (.int p2), .val (.int p3), .val (.int p4), .val (.int p5), .val (.int p6), .val (.int (4 : Int32)), .val (.int c29), .val (.int c30), .val (.int c31), .val (.int c32), .val (.int c33), .val (.int c34), .unset, .unset] [(.int c29)])) (fun t kt => XS.iload X34.here hx rfl (hb hby at_74) rfl kt) ?_
    refine own_go (g' := (mkF m 78 #[.val (.int p1), .val (.int p2), .val (.int p3), .val (.int p4), .val (.int p5), .val (.int p6), .val (.int (4 : Int32)), .val (.int c29), .val (.int c30), .val (.int c31), .val (.int c32), .val (.int c33), .val (.int c34), .unset, .unset] [(.int c30), (.int c29)])) (fun t kt => XS.iload X34.here hx rfl (hb hby at_76) rfl kt) ?_
    refine own_go (g' := (mkF m 80 #[.val (.int p1), .val (.int p2), .val (.int p3), .val (.int p4), .val (.int p5), .val (.int p6), .val (.int (4 : Int32)), .val (.int c29), .val (.int c30), .val (.int c31), .val (.int c32), .val (.int c33), .val (.int c34), .unset, .unset] [(.int c31), (.int c30), (.int c29)])) (fun t kt => XS.iload X34.here hx rfl (hb hby at_78) rfl kt) ?_
    refine own_go (g' := (mkF m 82 #[.val (.int p1), .val (.int p2), .val (.int p3), .val (.int p4), .val (.int p5), .val (.int p6), .val (.int (4 : Int32)), .val (.int c29), .val (.int c30), .val (.int c31), .val (.int c32), .val (.int c33), .val (.int c34), .unset, .unset] [(.int c32), (.int c31), (.int c30), (.int c29)])) (fun t kt => XS.iload X34.here hx rfl (hb hby at_80) rfl kt) ?_
    refine own_go (g' := (mkF m 84 #[.val (.int p1), .val (.int p2), .val (.int p3), .val (.int p4), .val (.int p5), .val (.int p6), .val (.int (4 : Int32)), .val (.int c29), .val (.int c30), .val (.int c31), .val (.int c32), .val (.int c33), .val (.int c34), .unset, .unset] [(.int c33), (.int c32), (.int c31), (.int c30), (.int c29)])) (fun t kt => XS.iload X34.here hx rfl (hb hby at_82) rfl kt) ?_
    refine own_go (g' := (mkF m 86 #[.val (.int p1), .val (.int p2), .val (.int p3), .val (.int p4), .val (.int p5), .val (.int p6), .val (.int (4 : Int32)), .val (.int c29), .val (.int c30), .val (.int c31), .val (.int c32), .val (.int c33), .val (.int c34), .unset, .unset] [(.int c34), (.int c33), (.int c32), (.int c31), (.int c30), (.int c29)])) (fun t kt => XS.iload X34.here hx rfl (hb hby at_84) rfl kt) ?_
    refine own_go (g' := (mkF m 88 #[.val (.int p1), .val (.int p2), .val (.int p3), .val (.int p4), .val (.int p5), .val (.int p6), .val (.int (4 : Int32)), .val (.int c29), .val (.int c30), .val (.int c31), .val (.int c32), .val (.int c33), .val (.int c34), .unset, .unset] [(.int (4 : Int32)), (.int c34), (.int c33), (.int c32), (.int c31), (.int c30), (.int c29)])) (fun t kt => XS.iload X34.here hx rfl (hb hby at_86) rfl kt) ?_
    refine own_callS X34 hx hZ (W := 0) (argsL := [(.int c29), (.int c30), (.int c31), (.int c32), (.int c33), (.int c34), (.int (4 : Int32))]) (rest := []) hown (hw _ (List.mem_of_getElem? (i := 7) rfl)) (hw _ (List.mem_of_getElem? (i := 8) rfl)) (hw _ (List.mem_of_getElem? (i := 2) rfl)) (hw _ (List.mem_of_getElem? (i := 9) rfl)) (by decide) (own_build4 l Z a0 hw c29 c30 c31 c32 c33 c34 cs h0 n0 (Nat.le_trans Z0 K0.1) S_c hcs (own_rngc (Or.inl hc29)) (own_rngc (hc30.imp id And.left)) (own_rngc (hc31.imp id And.left)) (own_rngc (Or.inl hc32))) (by decide) (by decide) (g := (mkF m 88 #[.val (.int p1), .val (.int p2), .val (.int p3), .val (.int p4), .val (.int p5), .val (.int p6), .val (.int (4 : Int32)), .val (.int c29), .val (.int c30), .val (.int c31), .val (.int c32), .val (.int c33), .val (.int c34), .unset, .unset] [(.int (4 : Int32)), (.int c34), (.int c33), (.int c32), (.int c31), (.int c30), (.int c29)])) rfl (by rw [hml]; rfl) (lenOf own_pd6 rfl) rfl (by show 2 * 0 + _ ≤ _; exact Nat.le_of_eq rfl) (hb hby at_88) e34 N34 (by decide) (by decide) (fun v35 T35 L35 X35 N35 hq35 => ?_)
    obtain ⟨b35, t35, k35, rfl, Kc35, A35, G35, F35, V35⟩ := hq35
    have K35 := K0.trans Kc35 all0
    have S_c_h35 := S_c.ext (own_kext K35)
    have S_f_h35 := S_f.ext (own_kext K35)
    have hp35 : ∀ c ∈ ([c29, c30, c31, c32] : List Int32), ¬ c < 0 ∧ ¬ (255 : Int32) < c := (own_alS (own_rngc (Or.inl hc29)).1 (own_alS (own_rngc (hc30.imp id And.left)).1 (own_alS (own_rngc (hc31.imp id And.left)).1 (own_alS (own_rngc (Or.inl hc32)).1 own_al0))))
    have hcd35 := StrChars.Road.codOf (cs := ([c29, c30, c31, c32] : List Int32)) (n := 4) rfl (fun c hc => (hp35 c hc).2)
    have hbd35 := own_up _ hp35
    show OEnds _ _ _ _ _ _ T35 (mkF m 91 #[.val (.int p1), .val (.int p2), .val (.int p3), .val (.int p4), .val (.int p5), .val (.int p6), .val (.int (4 : Int32)), .val (.int c29), .val (.int c30), .val (.int c31), .val (.int c32), .val (.int c33), .val (.int c34), .unset, .unset] [(.ref b35)])
    refine own_go (g' := (mkF m 93 #[.val (.int p1), .val (.int p2), .val (.int p3), .val (.int p4), .val (.int p5), .val (.int p6), .val (.int (4 : Int32)), .val (.int c29), .val (.int c30), .val (.int c31), .val (.int c32), .val (.int c33), .val (.int c34), .val (.ref b35), .unset] [])) (fun t kt => XS.astore X35.here hx rfl (hb hby at_91) rfl rfl (l' := #[.val (.int p1), .val (.int p2), .val (.int p3), .val (.int p4), .val (.int p5), .val (.int p6), .val (.int (4 : Int32)), .val (.int c29), .val (.int c30), .val (.int c31), .val (.int c32), .val (.int c33), .val (.int c34), .val (.ref b35), .unset]) rfl kt) ?_
    refine own_go (g' := (mkF m 95 #[.val (.int p1), .val (.int p2), .val (.int p3), .val (.int p4), .val (.int p5), .val (.int p6), .val (.int (4 : Int32)), .val (.int c29), .val (.int c30), .val (.int c31), .val (.int c32), .val (.int c33), .val (.int c34), .val (.ref b35), .unset] [(.ref b35)])) (fun t kt => XS.aload X35.here hx rfl (hb hby at_93) rfl rfl kt) ?_
    refine own_callS X35 hx hZ (W := 0) (argsL := [(.ref b35)]) (rest := []) hown (hw _ (List.mem_of_getElem? (i := 40) rfl)) (hw _ (List.mem_of_getElem? (i := 41) rfl)) (hw _ (List.mem_of_getElem? (i := 42) rfl)) (hw _ (List.mem_of_getElem? (i := 43) rfl)) (by decide) (own_req4 l Z a0 hw b35 t35 k35 c29 c30 c31 c32 cs sv hsv T35.heap n0 (Nat.le_trans Z0 K35.1) A35 G35 F35 V35 S_c_h35 S_f_h35 hcs hcd35 hbd35 hc29 hc30 hc31 hc32) (by decide) (by decide) (g := (mkF m 95 #[.val (.int p1), .val (.int p2), .val (.int p3), .val (.int p4), .val (.int p5), .val (.int p6), .val (.int (4 : Int32)), .val (.int c29), .val (.int c30), .val (.int c31), .val (.int c32), .val (.int c33), .val (.int c34), .val (.ref b35), .unset] [(.ref b35)])) rfl (by rw [hml]; rfl) (lenOf own_pd7 rfl) rfl (by show 2 * 0 + _ ≤ _; exact Nat.le_of_eq rfl) (hb hby at_95) rfl N35 (by decide) (by decide) (fun v36 T36 L36 X36 N36 hq36 => ?_)
    obtain ⟨rfl, e36⟩ := hq36
    show OEnds _ _ _ _ _ _ T36 (mkF m 98 #[.val (.int p1), .val (.int p2), .val (.int p3), .val (.int p4), .val (.int p5), .val (.int p6), .val (.int (4 : Int32)), .val (.int c29), .val (.int c30), .val (.int c31), .val (.int c32), .val (.int c33), .val (.int c34), .val (.ref b35), .unset] [(.ref b35)])
    refine own_go (g' := (mkF m 100 #[.val (.int p1), .val (.int p2), .val (.int p3), .val (.int p4), .val (.int p5), .val (.int p6), .val (.int (4 : Int32)), .val (.int c29), .val (.int c30), .val (.int c31), .val (.int c32), .val (.int c33), .val (.int c34), .val (.ref b35), .val (.ref b35)] [])) (fun t kt => XS.astore X36.here hx rfl (hb hby at_98) rfl rfl (l' := #[.val (.int p1), .val (.int p2), .val (.int p3), .val (.int p4), .val (.int p5), .val (.int p6), .val (.int (4 : Int32)), .val (.int c29), .val (.int c30), .val (.int c31), .val (.int c32), .val (.int c33), .val (.int c34), .val (.ref b35), .val (.ref b35)]) rfl kt) ?_
    refine own_go (g' := (mkF m 102 #[.val (.int p1), .val (.int p2), .val (.int p3), .val (.int p4), .val (.int p5), .val (.int p6), .val (.int (4 : Int32)), .val (.int c29), .val (.int c30), .val (.int c31), .val (.int c32), .val (.int c33), .val (.int c34), .val (.ref b35), .val (.ref b35)] [(.ref b35)])) (fun t kt => XS.aload X36.here hx rfl (hb hby at_100) rfl rfl kt) ?_
    refine own_go (g' := (mkF m 104 #[.val (.int p1), .val (.int p2), .val (.int p3), .val (.int p4), .val (.int p5), .val (.int p6), .val (.int (4 : Int32)), .val (.int c29), .val (.int c30), .val (.int c31), .val (.int c32), .val (.int c33), .val (.int c34), .val (.ref b35), .val (.ref b35)] [(.ref b35), (.ref b35)])) (fun t kt => XS.aload X36.here hx rfl (hb hby at_102) rfl rfl kt) ?_
    refine own_go (g' := (mkF m 107 #[.val (.int p1), .val (.int p2), .val (.int p3), .val (.int p4), .val (.int p5), .val (.int p6), .val (.int (4 : Int32)), .val (.int c29), .val (.int c30), .val (.int c31), .val (.int c32), .val (.int c33), .val (.int c34), .val (.ref b35), .val (.ref b35)] [])) (fun t kt => Jvm.RoadKit.acmp (g := (mkF m 104 #[.val (.int p1), .val (.int p2), .val (.int p3), .val (.int p4), .val (.int p5), .val (.int p6), .val (.int (4 : Int32)), .val (.int c29), .val (.int c30), .val (.int c31), .val (.int c32), .val (.int c33), .val (.int c34), .val (.ref b35), .val (.ref b35)] [(.ref b35), (.ref b35)])) X36 hx rfl rfl rfl (pc0 := 104) (pc' := 107) (same := true) rfl (hb hby at_104) rfl (decide_eq_true rfl) (by decide) (by decide) kt) ?_
    refine own_go (g' := (mkF m 109 #[.val (.int p1), .val (.int p2), .val (.int p3), .val (.int p4), .val (.int p5), .val (.int p6), .val (.int (4 : Int32)), .val (.int c29), .val (.int c30), .val (.int c31), .val (.int c32), .val (.int c33), .val (.int c34), .val (.ref b35), .val (.ref b35)] [(.ref b35)])) (fun t kt => XS.aload X36.here hx rfl (hb hby at_107) rfl rfl kt) ?_
    refine own_callVB X36 hx hZ (a := b35) (W := 0) (argsL := []) (rest := []) (c1 := 0) (s1 := 0) (Qc := fun v h' L => (v = some (.int (Int32.ofNat (List.length ([c29, c30, c31, c32] : List Int32))))) ∧ L = [] ∧ h' = T35.heap) hown (hw _ (List.mem_of_getElem? (i := 84) rfl)) (hw _ (List.mem_of_getElem? (i := 50) rfl)) (hw _ (List.mem_of_getElem? (i := 52) rfl)) (hw _ (List.mem_of_getElem? (i := 51) rfl)) (by decide) (StrChars.Road.lenW (W := 0) hZ (fun d hd => hw d (own_wl d hd)) (kI := 4) (hw _ (List.mem_of_getElem? (i := 11) rfl)) A35 F35 G35 V35 hcd35 hbd35 S_c_h35 hcs (Nat.le_of_ble_eq_true rfl) (by decide) (by decide)) A35 (g := (mkF m 109 #[.val (.int p1), .val (.int p2), .val (.int p3), .val (.int p4), .val (.int p5), .val (.int p6), .val (.int (4 : Int32)), .val (.int c29), .val (.int c30), .val (.int c31), .val (.int c32), .val (.int c33), .val (.int c34), .val (.ref b35), .val (.ref b35)] [(.ref b35)])) rfl (by rw [hml]; rfl) (lenOf own_pd3 rfl) rfl (by show 2 * 0 + _ ≤ _; exact Nat.le_of_eq rfl) (hb hby at_109) e36 (by decide) (by decide) (fun v37 T37 L37 X37 hq37 => ?_)
    obtain ⟨rfl, rfl, e37⟩ := hq37
    have N37 := Fr.app N36 (Fr.nil n0)
    show OEnds _ _ _ _ _ _ T37 (mkF m 112 #[.val (.int p1), .val (.int p2), .val (.int p3), .val (.int p4), .val (.int p5), .val (.int p6), .val (.int (4 : Int32)), .val (.int c29), .val (.int c30), .val (.int c31), .val (.int c32), .val (.int c33), .val (.int c34), .val (.ref b35), .val (.ref b35)] [(.int (4 : Int32))])
    refine own_go (g' := (mkF m 114 #[.val (.int p1), .val (.int p2), .val (.int p3), .val (.int p4), .val (.int p5), .val (.int p6), .val (.int (4 : Int32)), .val (.int c29), .val (.int c30), .val (.int c31), .val (.int c32), .val (.int c33), .val (.int c34), .val (.ref b35), .val (.ref b35)] [(.int (4 : Int32)), (.int (4 : Int32))])) (fun t kt => XS.iload X37.here hx rfl (hb hby at_112) rfl kt) ?_
    refine own_go (g' := (mkF m 117 #[.val (.int p1), .val (.int p2), .val (.int p3), .val (.int p4), .val (.int p5), .val (.int p6), .val (.int (4 : Int32)), .val (.int c29), .val (.int c30), .val (.int c31), .val (.int c32), .val (.int c33), .val (.int c34), .val (.ref b35), .val (.ref b35)] [])) (fun t kt => XS.icmpNo X37.here hx rfl (hb hby at_114) rfl (teq ((by decide) : (4 : Int32) = (4 : Int32))).2 kt) ?_
    refine own_go (g' := (mkF m 118 #[.val (.int p1), .val (.int p2), .val (.int p3), .val (.int p4), .val (.int p5), .val (.int p6), .val (.int (4 : Int32)), .val (.int c29), .val (.int c30), .val (.int c31), .val (.int c32), .val (.int c33), .val (.int c34), .val (.ref b35), .val (.ref b35)] [(.int (1 : Int32))])) (fun t kt => XS.iconst X37.here hx rfl (hb hby at_117) kt) ?_
    refine own_go (g' := (mkF m 122 #[.val (.int p1), .val (.int p2), .val (.int p3), .val (.int p4), .val (.int p5), .val (.int p6), .val (.int (4 : Int32)), .val (.int c29), .val (.int c30), .val (.int c31), .val (.int c32), .val (.int c33), .val (.int c34), .val (.ref b35), .val (.ref b35)] [(.int (1 : Int32))])) (fun t kt => XS.goto X37.here hx rfl (pc0 := 118) (pc' := 122) rfl (hb hby at_118) (by decide) (by decide) kt) ?_
    exact own_retN X37 hx hlk (t := .boolean) (z' := (1 : Int32)) hret (by simp) (hb hby at_122) rfl e37 N37 (by decide) (by decide) (rfl)
  · refine own_go (g' := (mkF m 12 #[.val (.int p1), .val (.int p2), .val (.int p3), .val (.int p4), .val (.int p5), .val (.int p6), .val (.int (5 : Int32)), .unset, .unset, .unset, .unset, .unset, .unset, .unset, .unset] [(.int p1)])) (fun t kt => XS.iloadN X0.here hx rfl (hb hby at_11) rfl kt) ?_
    refine own_callS X0 hx hZ (W := 0) (argsL := [(.int p1)]) (rest := []) hown (hw _ (List.mem_of_getElem? (i := 0) rfl)) (hw _ (List.mem_of_getElem? (i := 1) rfl)) (hw _ (List.mem_of_getElem? (i := 2) rfl)) (hw _ (List.mem_of_getElem? (i := 3) rfl)) (by decide) (own_namechar l Z a0 hw p1 h0 n0 (Nat.le_trans Z0 K0.1)) (by decide) (by decide) (g := (mkF m 12 #[.val (.int p1), .val (.int p2), .val (.int p3), .val (.int p4), .val (.int p5), .val (.int p6), .val (.int (5 : Int32)), .unset, .unset, .unset, .unset, .unset, .unset, .unset, .unset] [(.int p1)])) rfl (by rw [hml]; rfl) (lenOf own_pd0 rfl) rfl (by show 2 * 0 + _ ≤ _; exact Nat.le_of_eq rfl) (hb hby at_12) e0 N0 (by decide) (by decide) (fun v38 T38 L38 X38 N38 hq38 => ?_)
    obtain ⟨c38, rfl, hc38, e38⟩ := hq38
    show OEnds _ _ _ _ _ _ T38 (mkF m 15 #[.val (.int p1), .val (.int p2), .val (.int p3), .val (.int p4), .val (.int p5), .val (.int p6), .val (.int (5 : Int32)), .unset, .unset, .unset, .unset, .unset, .unset, .unset, .unset] [(.int c38)])
    refine own_go (g' := (mkF m 17 #[.val (.int p1), .val (.int p2), .val (.int p3), .val (.int p4), .val (.int p5), .val (.int p6), .val (.int (5 : Int32)), .val (.int c38), .unset, .unset, .unset, .unset, .unset, .unset, .unset] [])) (fun t kt => XS.istore X38.here hx rfl (hb hby at_15) rfl (l' := #[.val (.int p1), .val (.int p2), .val (.int p3), .val (.int p4), .val (.int p5), .val (.int p6), .val (.int (5 : Int32)), .val (.int c38), .unset, .unset, .unset, .unset, .unset, .unset, .unset]) rfl kt) ?_
    refine own_go (g' := (mkF m 18 #[.val (.int p1), .val (.int p2), .val (.int p3), .val (.int p4), .val (.int p5), .val (.int p6), .val (.int (5 : Int32)), .val (.int c38), .unset, .unset, .unset, .unset, .unset, .unset, .unset] [(.int p2)])) (fun t kt => XS.iloadN X38.here hx rfl (hb hby at_17) rfl kt) ?_
    refine own_go (g' := (mkF m 19 #[.val (.int p1), .val (.int p2), .val (.int p3), .val (.int p4), .val (.int p5), .val (.int p6), .val (.int (5 : Int32)), .val (.int c38), .unset, .unset, .unset, .unset, .unset, .unset, .unset] [(.int (1 : Int32)), (.int p2)])) (fun t kt => XS.iconst X38.here hx rfl (hb hby at_18) kt) ?_
    refine own_go (g' := (mkF m 21 #[.val (.int p1), .val (.int p2), .val (.int p3), .val (.int p4), .val (.int p5), .val (.int p6), .val (.int (5 : Int32)), .val (.int c38), .unset, .unset, .unset, .unset, .unset, .unset, .unset] [(.int (5 : Int32)), (.int (1 : Int32)), (.int p2)])) (fun t kt => XS.iload X38.here hx rfl (hb hby at_19) rfl kt) ?_
    refine own_go (g' := (mkF m 23 #[.val (.int p1), .val (.int p2), .val (.int p3), .val (.int p4), .val (.int p5), .val (.int p6), .val (.int (5 : Int32)), .val (.int c38), .unset, .unset, .unset, .unset, .unset, .unset, .unset] [(.int c38), (.int (5 : Int32)), (.int (1 : Int32)), (.int p2)])) (fun t kt => XS.iload X38.here hx rfl (hb hby at_21) rfl kt) ?_
    refine own_callS X38 hx hZ (W := 0) (argsL := [(.int p2), (.int (1 : Int32)), (.int (5 : Int32)), (.int c38)]) (rest := []) hown (hw _ (List.mem_of_getElem? (i := 4) rfl)) (hw _ (List.mem_of_getElem? (i := 5) rfl)) (hw _ (List.mem_of_getElem? (i := 2) rfl)) (hw _ (List.mem_of_getElem? (i := 6) rfl)) (by decide) (own_pickm l Z a0 hw p2 (1 : Int32) (5 : Int32) c38 h0 n0 (Nat.le_trans Z0 K0.1)) (by decide) (by decide) (g := (mkF m 23 #[.val (.int p1), .val (.int p2), .val (.int p3), .val (.int p4), .val (.int p5), .val (.int p6), .val (.int (5 : Int32)), .val (.int c38), .unset, .unset, .unset, .unset, .unset, .unset, .unset] [(.int c38), (.int (5 : Int32)), (.int (1 : Int32)), (.int p2)])) rfl (by rw [hml]; rfl) (lenOf own_pd5 rfl) rfl (by show 2 * 0 + _ ≤ _; exact Nat.le_of_eq rfl) (hb hby at_23) e38 N38 (by decide) (by decide) (fun v39 T39 L39 X39 N39 hq39 => ?_)
    obtain ⟨c39, rfl, hc39, e39⟩ := hq39
    replace hc39 : own_isn c39 = 1 ∨ (c39 = 47 ∧ ¬ c38 = 47) := hc39.imp id (fun q => ⟨q.1, q.2.2⟩)
    show OEnds _ _ _ _ _ _ T39 (mkF m 26 #[.val (.int p1), .val (.int p2), .val (.int p3), .val (.int p4), .val (.int p5), .val (.int p6), .val (.int (5 : Int32)), .val (.int c38), .unset, .unset, .unset, .unset, .unset, .unset, .unset] [(.int c39)])
    refine own_go (g' := (mkF m 28 #[.val (.int p1), .val (.int p2), .val (.int p3), .val (.int p4), .val (.int p5), .val (.int p6), .val (.int (5 : Int32)), .val (.int c38), .val (.int c39), .unset, .unset, .unset, .unset, .unset, .unset] [])) (fun t kt => XS.istore X39.here hx rfl (hb hby at_26) rfl (l' := #[.val (.int p1), .val (.int p2), .val (.int p3), .val (.int p4), .val (.int p5), .val (.int p6), .val (.int (5 : Int32)), .val (.int c38), .val (.int c39), .unset, .unset, .unset, .unset, .unset, .unset]) rfl kt) ?_
    refine own_go (g' := (mkF m 29 #[.val (.int p1), .val (.int p2), .val (.int p3), .val (.int p4), .val (.int p5), .val (.int p6), .val (.int (5 : Int32)), .val (.int c38), .val (.int c39), .unset, .unset, .unset, .unset, .unset, .unset] [(.int p3)])) (fun t kt => XS.iloadN X39.here hx rfl (hb hby at_28) rfl kt) ?_
    refine own_go (g' := (mkF m 30 #[.val (.int p1), .val (.int p2), .val (.int p3), .val (.int p4), .val (.int p5), .val (.int p6), .val (.int (5 : Int32)), .val (.int c38), .val (.int c39), .unset, .unset, .unset, .unset, .unset, .unset] [(.int (2 : Int32)), (.int p3)])) (fun t kt => XS.iconst X39.here hx rfl (hb hby at_29) kt) ?_
    refine own_go (g' := (mkF m 32 #[.val (.int p1), .val (.int p2), .val (.int p3), .val (.int p4), .val (.int p5), .val (.int p6), .val (.int (5 : Int32)), .val (.int c38), .val (.int c39), .unset, .unset, .unset, .unset, .unset, .unset] [(.int (5 : Int32)), (.int (2 : Int32)), (.int p3)])) (fun t kt => XS.iload X39.here hx rfl (hb hby at_30) rfl kt) ?_
    refine own_go (g' := (mkF m 34 #[.val (.int p1), .val (.int p2), .val (.int p3), .val (.int p4), .val (.int p5), .val (.int p6), .val (.int (5 : Int32)), .val (.int c38), .val (.int c39), .unset, .unset, .unset, .unset, .unset, .unset] [(.int c39), (.int (5 : Int32)), (.int (2 : Int32)), (.int p3)])) (fun t kt => XS.iload X39.here hx rfl (hb hby at_32) rfl kt) ?_
    refine own_callS X39 hx hZ (W := 0) (argsL := [(.int p3), (.int (2 : Int32)), (.int (5 : Int32)), (.int c39)]) (rest := []) hown (hw _ (List.mem_of_getElem? (i := 4) rfl)) (hw _ (List.mem_of_getElem? (i := 5) rfl)) (hw _ (List.mem_of_getElem? (i := 2) rfl)) (hw _ (List.mem_of_getElem? (i := 6) rfl)) (by decide) (own_pickm l Z a0 hw p3 (2 : Int32) (5 : Int32) c39 h0 n0 (Nat.le_trans Z0 K0.1)) (by decide) (by decide) (g := (mkF m 34 #[.val (.int p1), .val (.int p2), .val (.int p3), .val (.int p4), .val (.int p5), .val (.int p6), .val (.int (5 : Int32)), .val (.int c38), .val (.int c39), .unset, .unset, .unset, .unset, .unset, .unset] [(.int c39), (.int (5 : Int32)), (.int (2 : Int32)), (.int p3)])) rfl (by rw [hml]; rfl) (lenOf own_pd5 rfl) rfl (by show 2 * 0 + _ ≤ _; exact Nat.le_of_eq rfl) (hb hby at_34) e39 N39 (by decide) (by decide) (fun v40 T40 L40 X40 N40 hq40 => ?_)
    obtain ⟨c40, rfl, hc40, e40⟩ := hq40
    replace hc40 : own_isn c40 = 1 ∨ (c40 = 47 ∧ ¬ c39 = 47) := hc40.imp id (fun q => ⟨q.1, q.2.2⟩)
    show OEnds _ _ _ _ _ _ T40 (mkF m 37 #[.val (.int p1), .val (.int p2), .val (.int p3), .val (.int p4), .val (.int p5), .val (.int p6), .val (.int (5 : Int32)), .val (.int c38), .val (.int c39), .unset, .unset, .unset, .unset, .unset, .unset] [(.int c40)])
    refine own_go (g' := (mkF m 39 #[.val (.int p1), .val (.int p2), .val (.int p3), .val (.int p4), .val (.int p5), .val (.int p6), .val (.int (5 : Int32)), .val (.int c38), .val (.int c39), .val (.int c40), .unset, .unset, .unset, .unset, .unset] [])) (fun t kt => XS.istore X40.here hx rfl (hb hby at_37) rfl (l' := #[.val (.int p1), .val (.int p2), .val (.int p3), .val (.int p4), .val (.int p5), .val (.int p6), .val (.int (5 : Int32)), .val (.int c38), .val (.int c39), .val (.int c40), .unset, .unset, .unset, .unset, .unset]) rfl kt) ?_
    refine own_go (g' := (mkF m 40 #[.val (.int p1), .val (.int p2), .val (.int p3), .val (.int p4), .val (.int p5), .val (.int p6), .val (.int (5 : Int32)), .val (.int c38), .val (.int c39), .val (.int c40), .unset, .unset, .unset, .unset, .unset] [(.int p4)])) (fun t kt => XS.iloadN X40.here hx rfl (hb hby at_39) rfl kt) ?_
    refine own_go (g' := (mkF m 41 #[.val (.int p1), .val (.int p2), .val (.int p3), .val (.int p4), .val (.int p5), .val (.int p6), .val (.int (5 : Int32)), .val (.int c38), .val (.int c39), .val (.int c40), .unset, .unset, .unset, .unset, .unset] [(.int (3 : Int32)), (.int p4)])) (fun t kt => XS.iconst X40.here hx rfl (hb hby at_40) kt) ?_
    refine own_go (g' := (mkF m 43 #[.val (.int p1), .val (.int p2), .val (.int p3), .val (.int p4), .val (.int p5), .val (.int p6), .val (.int (5 : Int32)), .val (.int c38), .val (.int c39), .val (.int c40), .unset, .unset, .unset, .unset, .unset] [(.int (5 : Int32)), (.int (3 : Int32)), (.int p4)])) (fun t kt => XS.iload X40.here hx rfl (hb hby at_41) rfl kt) ?_
    refine own_go (g' := (mkF m 45 #[.val (.int p1), .val (.int p2), .val (.int p3), .val (.int p4), .val (.int p5), .val (.int p6), .val (.int (5 : Int32)), .val (.int c38), .val (.int c39), .val (.int c40), .unset, .unset, .unset, .unset, .unset] [(.int c40), (.int (5 : Int32)), (.int (3 : Int32)), (.int p4)])) (fun t kt => XS.iload X40.here hx rfl (hb hby at_43) rfl kt) ?_
    refine own_callS X40 hx hZ (W := 0) (argsL := [(.int p4), (.int (3 : Int32)), (.int (5 : Int32)), (.int c40)]) (rest := []) hown (hw _ (List.mem_of_getElem? (i := 4) rfl)) (hw _ (List.mem_of_getElem? (i := 5) rfl)) (hw _ (List.mem_of_getElem? (i := 2) rfl)) (hw _ (List.mem_of_getElem? (i := 6) rfl)) (by decide) (own_pickm l Z a0 hw p4 (3 : Int32) (5 : Int32) c40 h0 n0 (Nat.le_trans Z0 K0.1)) (by decide) (by decide) (g := (mkF m 45 #[.val (.int p1), .val (.int p2), .val (.int p3), .val (.int p4), .val (.int p5), .val (.int p6), .val (.int (5 : Int32)), .val (.int c38), .val (.int c39), .val (.int c40), .unset, .unset, .unset, .unset, .unset] [(.int c40), (.int (5 : Int32)), (.int (3 : Int32)), (.int p4)])) rfl (by rw [hml]; rfl) (lenOf own_pd5 rfl) rfl (by show 2 * 0 + _ ≤ _; exact Nat.le_of_eq rfl) (hb hby at_45) e40 N40 (by decide) (by decide) (fun v41 T41 L41 X41 N41 hq41 => ?_)
    obtain ⟨c41, rfl, hc41, e41⟩ := hq41
    replace hc41 : own_isn c41 = 1 ∨ (c41 = 47 ∧ ¬ c40 = 47) := hc41.imp id (fun q => ⟨q.1, q.2.2⟩)
    show OEnds _ _ _ _ _ _ T41 (mkF m 48 #[.val (.int p1), .val (.int p2), .val (.int p3), .val (.int p4), .val (.int p5), .val (.int p6), .val (.int (5 : Int32)), .val (.int c38), .val (.int c39), .val (.int c40), .unset, .unset, .unset, .unset, .unset] [(.int c41)])
    refine own_go (g' := (mkF m 50 #[.val (.int p1), .val (.int p2), .val (.int p3), .val (.int p4), .val (.int p5), .val (.int p6), .val (.int (5 : Int32)), .val (.int c38), .val (.int c39), .val (.int c40), .val (.int c41), .unset, .unset, .unset, .unset] [])) (fun t kt => XS.istore X41.here hx rfl (hb hby at_48) rfl (l' := #[.val (.int p1), .val (.int p2), .val (.int p3), .val (.int p4), .val (.int p5), .val (.int p6), .val (.int (5 : Int32)), .val (.int c38), .val (.int c39), .val (.int c40), .val (.int c41), .unset, .unset, .unset, .unset]) rfl kt) ?_
    refine own_go (g' := (mkF m 52 #[.val (.int p1), .val (.int p2), .val (.int p3), .val (.int p4), .val (.int p5), .val (.int p6), .val (.int (5 : Int32)), .val (.int c38), .val (.int c39), .val (.int c40), .val (.int c41), .unset, .unset, .unset, .unset] [(.int p5)])) (fun t kt => XS.iload X41.here hx rfl (hb hby at_50) rfl kt) ?_
    refine own_go (g' := (mkF m 53 #[.val (.int p1), .val (.int p2), .val (.int p3), .val (.int p4), .val (.int p5), .val (.int p6), .val (.int (5 : Int32)), .val (.int c38), .val (.int c39), .val (.int c40), .val (.int c41), .unset, .unset, .unset, .unset] [(.int (4 : Int32)), (.int p5)])) (fun t kt => XS.iconst X41.here hx rfl (hb hby at_52) kt) ?_
    refine own_go (g' := (mkF m 55 #[.val (.int p1), .val (.int p2), .val (.int p3), .val (.int p4), .val (.int p5), .val (.int p6), .val (.int (5 : Int32)), .val (.int c38), .val (.int c39), .val (.int c40), .val (.int c41), .unset, .unset, .unset, .unset] [(.int (5 : Int32)), (.int (4 : Int32)), (.int p5)])) (fun t kt => XS.iload X41.here hx rfl (hb hby at_53) rfl kt) ?_
    refine own_go (g' := (mkF m 57 #[.val (.int p1), .val (.int p2), .val (.int p3), .val (.int p4), .val (.int p5), .val (.int p6), .val (.int (5 : Int32)), .val (.int c38), .val (.int c39), .val (.int c40), .val (.int c41), .unset, .unset, .unset, .unset] [(.int c41), (.int (5 : Int32)), (.int (4 : Int32)), (.int p5)])) (fun t kt => XS.iload X41.here hx rfl (hb hby at_55) rfl kt) ?_
    refine own_callS X41 hx hZ (W := 0) (argsL := [(.int p5), (.int (4 : Int32)), (.int (5 : Int32)), (.int c41)]) (rest := []) hown (hw _ (List.mem_of_getElem? (i := 4) rfl)) (hw _ (List.mem_of_getElem? (i := 5) rfl)) (hw _ (List.mem_of_getElem? (i := 2) rfl)) (hw _ (List.mem_of_getElem? (i := 6) rfl)) (by decide) (own_pickm l Z a0 hw p5 (4 : Int32) (5 : Int32) c41 h0 n0 (Nat.le_trans Z0 K0.1)) (by decide) (by decide) (g := (mkF m 57 #[.val (.int p1), .val (.int p2), .val (.int p3), .val (.int p4), .val (.int p5), .val (.int p6), .val (.int (5 : Int32)), .val (.int c38), .val (.int c39), .val (.int c40), .val (.int c41), .unset, .unset, .unset, .unset] [(.int c41), (.int (5 : Int32)), (.int (4 : Int32)), (.int p5)])) rfl (by rw [hml]; rfl) (lenOf own_pd5 rfl) rfl (by show 2 * 0 + _ ≤ _; exact Nat.le_of_eq rfl) (hb hby at_57) e41 N41 (by decide) (by decide) (fun v42 T42 L42 X42 N42 hq42 => ?_)
    obtain ⟨c42, rfl, hc42, e42⟩ := hq42
    replace hc42 : own_isn c42 = 1 := hc42.resolve_right (fun q => absurd q.2.1 (by decide))
    show OEnds _ _ _ _ _ _ T42 (mkF m 60 #[.val (.int p1), .val (.int p2), .val (.int p3), .val (.int p4), .val (.int p5), .val (.int p6), .val (.int (5 : Int32)), .val (.int c38), .val (.int c39), .val (.int c40), .val (.int c41), .unset, .unset, .unset, .unset] [(.int c42)])
    refine own_go (g' := (mkF m 62 #[.val (.int p1), .val (.int p2), .val (.int p3), .val (.int p4), .val (.int p5), .val (.int p6), .val (.int (5 : Int32)), .val (.int c38), .val (.int c39), .val (.int c40), .val (.int c41), .val (.int c42), .unset, .unset, .unset] [])) (fun t kt => XS.istore X42.here hx rfl (hb hby at_60) rfl (l' := #[.val (.int p1), .val (.int p2), .val (.int p3), .val (.int p4), .val (.int p5), .val (.int p6), .val (.int (5 : Int32)), .val (.int c38), .val (.int c39), .val (.int c40), .val (.int c41), .val (.int c42), .unset, .unset, .unset]) rfl kt) ?_
    refine own_go (g' := (mkF m 64 #[.val (.int p1), .val (.int p2), .val (.int p3), .val (.int p4), .val (.int p5), .val (.int p6), .val (.int (5 : Int32)), .val (.int c38), .val (.int c39), .val (.int c40), .val (.int c41), .val (.int c42), .unset, .unset, .unset] [(.int p6)])) (fun t kt => XS.iload X42.here hx rfl (hb hby at_62) rfl kt) ?_
    refine own_go (g' := (mkF m 65 #[.val (.int p1), .val (.int p2), .val (.int p3), .val (.int p4), .val (.int p5), .val (.int p6), .val (.int (5 : Int32)), .val (.int c38), .val (.int c39), .val (.int c40), .val (.int c41), .val (.int c42), .unset, .unset, .unset] [(.int (5 : Int32)), (.int p6)])) (fun t kt => XS.iconst X42.here hx rfl (hb hby at_64) kt) ?_
    refine own_go (g' := (mkF m 67 #[.val (.int p1), .val (.int p2), .val (.int p3), .val (.int p4), .val (.int p5), .val (.int p6), .val (.int (5 : Int32)), .val (.int c38), .val (.int c39), .val (.int c40), .val (.int c41), .val (.int c42), .unset, .unset, .unset] [(.int (5 : Int32)), (.int (5 : Int32)), (.int p6)])) (fun t kt => XS.iload X42.here hx rfl (hb hby at_65) rfl kt) ?_
    refine own_go (g' := (mkF m 69 #[.val (.int p1), .val (.int p2), .val (.int p3), .val (.int p4), .val (.int p5), .val (.int p6), .val (.int (5 : Int32)), .val (.int c38), .val (.int c39), .val (.int c40), .val (.int c41), .val (.int c42), .unset, .unset, .unset] [(.int c42), (.int (5 : Int32)), (.int (5 : Int32)), (.int p6)])) (fun t kt => XS.iload X42.here hx rfl (hb hby at_67) rfl kt) ?_
    refine own_callS X42 hx hZ (W := 0) (argsL := [(.int p6), (.int (5 : Int32)), (.int (5 : Int32)), (.int c42)]) (rest := []) hown (hw _ (List.mem_of_getElem? (i := 4) rfl)) (hw _ (List.mem_of_getElem? (i := 5) rfl)) (hw _ (List.mem_of_getElem? (i := 2) rfl)) (hw _ (List.mem_of_getElem? (i := 6) rfl)) (by decide) (own_pickm l Z a0 hw p6 (5 : Int32) (5 : Int32) c42 h0 n0 (Nat.le_trans Z0 K0.1)) (by decide) (by decide) (g := (mkF m 69 #[.val (.int p1), .val (.int p2), .val (.int p3), .val (.int p4), .val (.int p5), .val (.int p6), .val (.int (5 : Int32)), .val (.int c38), .val (.int c39), .val (.int c40), .val (.int c41), .val (.int c42), .unset, .unset, .unset] [(.int c42), (.int (5 : Int32)), (.int (5 : Int32)), (.int p6)])) rfl (by rw [hml]; rfl) (lenOf own_pd5 rfl) rfl (by show 2 * 0 + _ ≤ _; exact Nat.le_of_eq rfl) (hb hby at_69) e42 N42 (by decide) (by decide) (fun v43 T43 L43 X43 N43 hq43 => ?_)
    obtain ⟨c43, rfl, hc43, e43⟩ := hq43
    replace hc43 : own_isn c43 = 1 := hc43.resolve_right (fun q => absurd q.2.1 (by decide))
    show OEnds _ _ _ _ _ _ T43 (mkF m 72 #[.val (.int p1), .val (.int p2), .val (.int p3), .val (.int p4), .val (.int p5), .val (.int p6), .val (.int (5 : Int32)), .val (.int c38), .val (.int c39), .val (.int c40), .val (.int c41), .val (.int c42), .unset, .unset, .unset] [(.int c43)])
    refine own_go (g' := (mkF m 74 #[.val (.int p1), .val (.int p2), .val (.int p3), .val (.int p4), .val (.int p5), .val (.int p6), .val (.int (5 : Int32)), .val (.int c38), .val (.int c39), .val (.int c40), .val (.int c41), .val (.int c42), .val (.int c43), .unset, .unset] [])) (fun t kt => XS.istore X43.here hx rfl (hb hby at_72) rfl (l' := #[.val (.int p1), .val (.int p2), .val (.int p3), .val (.int p4), .val (.int p5), .val (.int p6), .val (.int (5 : Int32)), .val (.int c38), .val (.int c39), .val (.int c40), .val (.int c41), .val (.int c42), .val (.int c43), .unset, .unset]) rfl kt) ?_
    refine own_go (g' := (mkF m 76 #[.val (.int p1), .val (.int p2), .val (.int p3), .val (.int p4), .val (.int p5), .val (.int p6), .val (.int (5 : Int32)), .val (.int c38), .val (.int c39), .val (.int c40), .val (.int c41), .val (.int c42), .val (.int c43), .unset, .unset] [(.int c38)])) (fun t kt => XS.iload X43.here hx rfl (hb hby at_74) rfl kt) ?_
    refine own_go (g' := (mkF m 78 #[.val (.int p1), .val (.int p2), .val (.int p3), .val (.int p4), .val (.int p5), .val (.int p6), .val (.int (5 : Int32)), .val (.int c38), .val (.int c39), .val (.int c40), .val (.int c41), .val (.int c42), .val (.int c43), .unset, .unset] [(.int c39), (.int c38)])) (fun t kt => XS.iload X43.here hx rfl (hb hby at_76) rfl kt) ?_
    refine own_go (g' := (mkF m 80 #[.val (.int p1), .val (.int p2), .val (.int p3), .val (.int p4), .val (.int p5), .val (.int p6), .val (.int (5 : Int32)), .val (.int c38), .val (.int c39), .val (.int c40), .val (.int c41), .val (.int c42), .val (.int c43), .unset, .unset] [(.int c40), (.int c39), (.int c38)])) (fun t kt => XS.iload X43.here hx rfl (hb hby at_78) rfl kt) ?_
    refine own_go (g' := (mkF m 82 #[.val (.int p1), .val (.int p2), .val (.int p3), .val (.int p4), .val (.int p5), .val (.int p6), .val (.int (5 : Int32)), .val (.int c38), .val (.int c39), .val (.int c40), .val (.int c41), .val (.int c42), .val (.int c43), .unset, .unset] [(.int c41), (.int c40), (.int c39), (.int c38)])) (fun t kt => XS.iload X43.here hx rfl (hb hby at_80) rfl kt) ?_
    refine own_go (g' := (mkF m 84 #[.val (.int p1), .val (.int p2), .val (.int p3), .val (.int p4), .val (.int p5), .val (.int p6), .val (.int (5 : Int32)), .val (.int c38), .val (.int c39), .val (.int c40), .val (.int c41), .val (.int c42), .val (.int c43), .unset, .unset] [(.int c42), (.int c41), (.int c40), (.int c39), (.int c38)])) (fun t kt => XS.iload X43.here hx rfl (hb hby at_82) rfl kt) ?_
    refine own_go (g' := (mkF m 86 #[.val (.int p1), .val (.int p2), .val (.int p3), .val (.int p4), .val (.int p5), .val (.int p6), .val (.int (5 : Int32)), .val (.int c38), .val (.int c39), .val (.int c40), .val (.int c41), .val (.int c42), .val (.int c43), .unset, .unset] [(.int c43), (.int c42), (.int c41), (.int c40), (.int c39), (.int c38)])) (fun t kt => XS.iload X43.here hx rfl (hb hby at_84) rfl kt) ?_
    refine own_go (g' := (mkF m 88 #[.val (.int p1), .val (.int p2), .val (.int p3), .val (.int p4), .val (.int p5), .val (.int p6), .val (.int (5 : Int32)), .val (.int c38), .val (.int c39), .val (.int c40), .val (.int c41), .val (.int c42), .val (.int c43), .unset, .unset] [(.int (5 : Int32)), (.int c43), (.int c42), (.int c41), (.int c40), (.int c39), (.int c38)])) (fun t kt => XS.iload X43.here hx rfl (hb hby at_86) rfl kt) ?_
    refine own_callS X43 hx hZ (W := 0) (argsL := [(.int c38), (.int c39), (.int c40), (.int c41), (.int c42), (.int c43), (.int (5 : Int32))]) (rest := []) hown (hw _ (List.mem_of_getElem? (i := 7) rfl)) (hw _ (List.mem_of_getElem? (i := 8) rfl)) (hw _ (List.mem_of_getElem? (i := 2) rfl)) (hw _ (List.mem_of_getElem? (i := 9) rfl)) (by decide) (own_build5 l Z a0 hw c38 c39 c40 c41 c42 c43 cs h0 n0 (Nat.le_trans Z0 K0.1) S_c hcs (own_rngc (Or.inl hc38)) (own_rngc (hc39.imp id And.left)) (own_rngc (hc40.imp id And.left)) (own_rngc (hc41.imp id And.left)) (own_rngc (Or.inl hc42))) (by decide) (by decide) (g := (mkF m 88 #[.val (.int p1), .val (.int p2), .val (.int p3), .val (.int p4), .val (.int p5), .val (.int p6), .val (.int (5 : Int32)), .val (.int c38), .val (.int c39), .val (.int c40), .val (.int c41), .val (.int c42), .val (.int c43), .unset, .unset] [(.int (5 : Int32)), (.int c43), (.int c42), (.int c41), (.int c40), (.int c39), (.int c38)])) rfl (by rw [hml]; rfl) (lenOf own_pd6 rfl) rfl (by show 2 * 0 + _ ≤ _; exact Nat.le_of_eq rfl) (hb hby at_88) e43 N43 (by decide) (by decide) (fun v44 T44 L44 X44 N44 hq44 => ?_)
    obtain ⟨b44, t44, k44, rfl, Kc44, A44, G44, F44, V44⟩ := hq44
    have K44 := K0.trans Kc44 all0
    have S_c_h44 := S_c.ext (own_kext K44)
    have S_f_h44 := S_f.ext (own_kext K44)
    have hp44 : ∀ c ∈ ([c38, c39, c40, c41, c42] : List Int32), ¬ c < 0 ∧ ¬ (255 : Int32) < c := (own_alS (own_rngc (Or.inl hc38)).1 (own_alS (own_rngc (hc39.imp id And.left)).1 (own_alS (own_rngc (hc40.imp id And.left)).1 (own_alS (own_rngc (hc41.imp id And.left)).1 (own_alS (own_rngc (Or.inl hc42)).1 own_al0)))))
    have hcd44 := StrChars.Road.codOf (cs := ([c38, c39, c40, c41, c42] : List Int32)) (n := 5) rfl (fun c hc => (hp44 c hc).2)
    have hbd44 := own_up _ hp44
    show OEnds _ _ _ _ _ _ T44 (mkF m 91 #[.val (.int p1), .val (.int p2), .val (.int p3), .val (.int p4), .val (.int p5), .val (.int p6), .val (.int (5 : Int32)), .val (.int c38), .val (.int c39), .val (.int c40), .val (.int c41), .val (.int c42), .val (.int c43), .unset, .unset] [(.ref b44)])
    refine own_go (g' := (mkF m 93 #[.val (.int p1), .val (.int p2), .val (.int p3), .val (.int p4), .val (.int p5), .val (.int p6), .val (.int (5 : Int32)), .val (.int c38), .val (.int c39), .val (.int c40), .val (.int c41), .val (.int c42), .val (.int c43), .val (.ref b44), .unset] [])) (fun t kt => XS.astore X44.here hx rfl (hb hby at_91) rfl rfl (l' := #[.val (.int p1), .val (.int p2), .val (.int p3), .val (.int p4), .val (.int p5), .val (.int p6), .val (.int (5 : Int32)), .val (.int c38), .val (.int c39), .val (.int c40), .val (.int c41), .val (.int c42), .val (.int c43), .val (.ref b44), .unset]) rfl kt) ?_
    refine own_go (g' := (mkF m 95 #[.val (.int p1), .val (.int p2), .val (.int p3), .val (.int p4), .val (.int p5), .val (.int p6), .val (.int (5 : Int32)), .val (.int c38), .val (.int c39), .val (.int c40), .val (.int c41), .val (.int c42), .val (.int c43), .val (.ref b44), .unset] [(.ref b44)])) (fun t kt => XS.aload X44.here hx rfl (hb hby at_93) rfl rfl kt) ?_
    refine own_callS X44 hx hZ (W := 0) (argsL := [(.ref b44)]) (rest := []) hown (hw _ (List.mem_of_getElem? (i := 40) rfl)) (hw _ (List.mem_of_getElem? (i := 41) rfl)) (hw _ (List.mem_of_getElem? (i := 42) rfl)) (hw _ (List.mem_of_getElem? (i := 43) rfl)) (by decide) (own_req5 l Z a0 hw b44 t44 k44 c38 c39 c40 c41 c42 cs sv hsv T44.heap n0 (Nat.le_trans Z0 K44.1) A44 G44 F44 V44 S_c_h44 S_f_h44 hcs hcd44 hbd44 hc38 hc39 hc40 hc41 hc42) (by decide) (by decide) (g := (mkF m 95 #[.val (.int p1), .val (.int p2), .val (.int p3), .val (.int p4), .val (.int p5), .val (.int p6), .val (.int (5 : Int32)), .val (.int c38), .val (.int c39), .val (.int c40), .val (.int c41), .val (.int c42), .val (.int c43), .val (.ref b44), .unset] [(.ref b44)])) rfl (by rw [hml]; rfl) (lenOf own_pd7 rfl) rfl (by show 2 * 0 + _ ≤ _; exact Nat.le_of_eq rfl) (hb hby at_95) rfl N44 (by decide) (by decide) (fun v45 T45 L45 X45 N45 hq45 => ?_)
    obtain ⟨rfl, e45⟩ := hq45
    show OEnds _ _ _ _ _ _ T45 (mkF m 98 #[.val (.int p1), .val (.int p2), .val (.int p3), .val (.int p4), .val (.int p5), .val (.int p6), .val (.int (5 : Int32)), .val (.int c38), .val (.int c39), .val (.int c40), .val (.int c41), .val (.int c42), .val (.int c43), .val (.ref b44), .unset] [(.ref b44)])
    refine own_go (g' := (mkF m 100 #[.val (.int p1), .val (.int p2), .val (.int p3), .val (.int p4), .val (.int p5), .val (.int p6), .val (.int (5 : Int32)), .val (.int c38), .val (.int c39), .val (.int c40), .val (.int c41), .val (.int c42), .val (.int c43), .val (.ref b44), .val (.ref b44)] [])) (fun t kt => XS.astore X45.here hx rfl (hb hby at_98) rfl rfl (l' := #[.val (.int p1), .val (.int p2), .val (.int p3), .val (.int p4), .val (.int p5), .val (.int p6), .val (.int (5 : Int32)), .val (.int c38), .val (.int c39), .val (.int c40), .val (.int c41), .val (.int c42), .val (.int c43), .val (.ref b44), .val (.ref b44)]) rfl kt) ?_
    refine own_go (g' := (mkF m 102 #[.val (.int p1), .val (.int p2), .val (.int p3), .val (.int p4), .val (.int p5), .val (.int p6), .val (.int (5 : Int32)), .val (.int c38), .val (.int c39), .val (.int c40), .val (.int c41), .val (.int c42), .val (.int c43), .val (.ref b44), .val (.ref b44)] [(.ref b44)])) (fun t kt => XS.aload X45.here hx rfl (hb hby at_100) rfl rfl kt) ?_
    refine own_go (g' := (mkF m 104 #[.val (.int p1), .val (.int p2), .val (.int p3), .val (.int p4), .val (.int p5), .val (.int p6), .val (.int (5 : Int32)), .val (.int c38), .val (.int c39), .val (.int c40), .val (.int c41), .val (.int c42), .val (.int c43), .val (.ref b44), .val (.ref b44)] [(.ref b44), (.ref b44)])) (fun t kt => XS.aload X45.here hx rfl (hb hby at_102) rfl rfl kt) ?_
    refine own_go (g' := (mkF m 107 #[.val (.int p1), .val (.int p2), .val (.int p3), .val (.int p4), .val (.int p5), .val (.int p6), .val (.int (5 : Int32)), .val (.int c38), .val (.int c39), .val (.int c40), .val (.int c41), .val (.int c42), .val (.int c43), .val (.ref b44), .val (.ref b44)] [])) (fun t kt => Jvm.RoadKit.acmp (g := (mkF m 104 #[.val (.int p1), .val (.int p2), .val (.int p3), .val (.int p4), .val (.int p5), .val (.int p6), .val (.int (5 : Int32)), .val (.int c38), .val (.int c39), .val (.int c40), .val (.int c41), .val (.int c42), .val (.int c43), .val (.ref b44), .val (.ref b44)] [(.ref b44), (.ref b44)])) X45 hx rfl rfl rfl (pc0 := 104) (pc' := 107) (same := true) rfl (hb hby at_104) rfl (decide_eq_true rfl) (by decide) (by decide) kt) ?_
    refine own_go (g' := (mkF m 109 #[.val (.int p1), .val (.int p2), .val (.int p3), .val (.int p4), .val (.int p5), .val (.int p6), .val (.int (5 : Int32)), .val (.int c38), .val (.int c39), .val (.int c40), .val (.int c41), .val (.int c42), .val (.int c43), .val (.ref b44), .val (.ref b44)] [(.ref b44)])) (fun t kt => XS.aload X45.here hx rfl (hb hby at_107) rfl rfl kt) ?_
    refine own_callVB X45 hx hZ (a := b44) (W := 0) (argsL := []) (rest := []) (c1 := 0) (s1 := 0) (Qc := fun v h' L => (v = some (.int (Int32.ofNat (List.length ([c38, c39, c40, c41, c42] : List Int32))))) ∧ L = [] ∧ h' = T44.heap) hown (hw _ (List.mem_of_getElem? (i := 84) rfl)) (hw _ (List.mem_of_getElem? (i := 50) rfl)) (hw _ (List.mem_of_getElem? (i := 52) rfl)) (hw _ (List.mem_of_getElem? (i := 51) rfl)) (by decide) (StrChars.Road.lenW (W := 0) hZ (fun d hd => hw d (own_wl d hd)) (kI := 4) (hw _ (List.mem_of_getElem? (i := 11) rfl)) A44 F44 G44 V44 hcd44 hbd44 S_c_h44 hcs (Nat.le_of_ble_eq_true rfl) (by decide) (by decide)) A44 (g := (mkF m 109 #[.val (.int p1), .val (.int p2), .val (.int p3), .val (.int p4), .val (.int p5), .val (.int p6), .val (.int (5 : Int32)), .val (.int c38), .val (.int c39), .val (.int c40), .val (.int c41), .val (.int c42), .val (.int c43), .val (.ref b44), .val (.ref b44)] [(.ref b44)])) rfl (by rw [hml]; rfl) (lenOf own_pd3 rfl) rfl (by show 2 * 0 + _ ≤ _; exact Nat.le_of_eq rfl) (hb hby at_109) e45 (by decide) (by decide) (fun v46 T46 L46 X46 hq46 => ?_)
    obtain ⟨rfl, rfl, e46⟩ := hq46
    have N46 := Fr.app N45 (Fr.nil n0)
    show OEnds _ _ _ _ _ _ T46 (mkF m 112 #[.val (.int p1), .val (.int p2), .val (.int p3), .val (.int p4), .val (.int p5), .val (.int p6), .val (.int (5 : Int32)), .val (.int c38), .val (.int c39), .val (.int c40), .val (.int c41), .val (.int c42), .val (.int c43), .val (.ref b44), .val (.ref b44)] [(.int (5 : Int32))])
    refine own_go (g' := (mkF m 114 #[.val (.int p1), .val (.int p2), .val (.int p3), .val (.int p4), .val (.int p5), .val (.int p6), .val (.int (5 : Int32)), .val (.int c38), .val (.int c39), .val (.int c40), .val (.int c41), .val (.int c42), .val (.int c43), .val (.ref b44), .val (.ref b44)] [(.int (5 : Int32)), (.int (5 : Int32))])) (fun t kt => XS.iload X46.here hx rfl (hb hby at_112) rfl kt) ?_
    refine own_go (g' := (mkF m 117 #[.val (.int p1), .val (.int p2), .val (.int p3), .val (.int p4), .val (.int p5), .val (.int p6), .val (.int (5 : Int32)), .val (.int c38), .val (.int c39), .val (.int c40), .val (.int c41), .val (.int c42), .val (.int c43), .val (.ref b44), .val (.ref b44)] [])) (fun t kt => XS.icmpNo X46.here hx rfl (hb hby at_114) rfl (teq ((by decide) : (5 : Int32) = (5 : Int32))).2 kt) ?_
    refine own_go (g' := (mkF m 118 #[.val (.int p1), .val (.int p2), .val (.int p3), .val (.int p4), .val (.int p5), .val (.int p6), .val (.int (5 : Int32)), .val (.int c38), .val (.int c39), .val (.int c40), .val (.int c41), .val (.int c42), .val (.int c43), .val (.ref b44), .val (.ref b44)] [(.int (1 : Int32))])) (fun t kt => XS.iconst X46.here hx rfl (hb hby at_117) kt) ?_
    refine own_go (g' := (mkF m 122 #[.val (.int p1), .val (.int p2), .val (.int p3), .val (.int p4), .val (.int p5), .val (.int p6), .val (.int (5 : Int32)), .val (.int c38), .val (.int c39), .val (.int c40), .val (.int c41), .val (.int c42), .val (.int c43), .val (.ref b44), .val (.ref b44)] [(.int (1 : Int32))])) (fun t kt => XS.goto X46.here hx rfl (pc0 := 118) (pc' := 122) rfl (hb hby at_118) (by decide) (by decide) kt) ?_
    exact own_retN X46 hx hlk (t := .boolean) (z' := (1 : Int32)) hret (by simp) (hb hby at_122) rfl e46 N46 (by decide) (by decide) (rfl)
  · refine own_go (g' := (mkF m 12 #[.val (.int p1), .val (.int p2), .val (.int p3), .val (.int p4), .val (.int p5), .val (.int p6), .val (.int (6 : Int32)), .unset, .unset, .unset, .unset, .unset, .unset, .unset, .unset] [(.int p1)])) (fun t kt => XS.iloadN X0.here hx rfl (hb hby at_11) rfl kt) ?_
    refine own_callS X0 hx hZ (W := 0) (argsL := [(.int p1)]) (rest := []) hown (hw _ (List.mem_of_getElem? (i := 0) rfl)) (hw _ (List.mem_of_getElem? (i := 1) rfl)) (hw _ (List.mem_of_getElem? (i := 2) rfl)) (hw _ (List.mem_of_getElem? (i := 3) rfl)) (by decide) (own_namechar l Z a0 hw p1 h0 n0 (Nat.le_trans Z0 K0.1)) (by decide) (by decide) (g := (mkF m 12 #[.val (.int p1), .val (.int p2), .val (.int p3), .val (.int p4), .val (.int p5), .val (.int p6), .val (.int (6 : Int32)), .unset, .unset, .unset, .unset, .unset, .unset, .unset, .unset] [(.int p1)])) rfl (by rw [hml]; rfl) (lenOf own_pd0 rfl) rfl (by show 2 * 0 + _ ≤ _; exact Nat.le_of_eq rfl) (hb hby at_12) e0 N0 (by decide) (by decide) (fun v47 T47 L47 X47 N47 hq47 => ?_)
    obtain ⟨c47, rfl, hc47, e47⟩ := hq47
    show OEnds _ _ _ _ _ _ T47 (mkF m 15 #[.val (.int p1), .val (.int p2), .val (.int p3), .val (.int p4), .val (.int p5), .val (.int p6), .val (.int (6 : Int32)), .unset, .unset, .unset, .unset, .unset, .unset, .unset, .unset] [(.int c47)])
    refine own_go (g' := (mkF m 17 #[.val (.int p1), .val (.int p2), .val (.int p3), .val (.int p4), .val (.int p5), .val (.int p6), .val (.int (6 : Int32)), .val (.int c47), .unset, .unset, .unset, .unset, .unset, .unset, .unset] [])) (fun t kt => XS.istore X47.here hx rfl (hb hby at_15) rfl (l' := #[.val (.int p1), .val (.int p2), .val (.int p3), .val (.int p4), .val (.int p5), .val (.int p6), .val (.int (6 : Int32)), .val (.int c47), .unset, .unset, .unset, .unset, .unset, .unset, .unset]) rfl kt) ?_
    refine own_go (g' := (mkF m 18 #[.val (.int p1), .val (.int p2), .val (.int p3), .val (.int p4), .val (.int p5), .val (.int p6), .val (.int (6 : Int32)), .val (.int c47), .unset, .unset, .unset, .unset, .unset, .unset, .unset] [(.int p2)])) (fun t kt => XS.iloadN X47.here hx rfl (hb hby at_17) rfl kt) ?_
    refine own_go (g' := (mkF m 19 #[.val (.int p1), .val (.int p2), .val (.int p3), .val (.int p4), .val (.int p5), .val (.int p6), .val (.int (6 : Int32)), .val (.int c47), .unset, .unset, .unset, .unset, .unset, .unset, .unset] [(.int (1 : Int32)), (.int p2)])) (fun t kt => XS.iconst X47.here hx rfl (hb hby at_18) kt) ?_
    refine own_go (g' := (mkF m 21 #[.val (.int p1), .val (.int p2), .val (.int p3), .val (.int p4), .val (.int p5), .val (.int p6), .val (.int (6 : Int32)), .val (.int c47), .unset, .unset, .unset, .unset, .unset, .unset, .unset] [(.int (6 : Int32)), (.int (1 : Int32)), (.int p2)])) (fun t kt => XS.iload X47.here hx rfl (hb hby at_19) rfl kt) ?_
    refine own_go (g' := (mkF m 23 #[.val (.int p1), .val (.int p2), .val (.int p3), .val (.int p4), .val (.int p5), .val (.int p6), .val (.int (6 : Int32)), .val (.int c47), .unset, .unset, .unset, .unset, .unset, .unset, .unset] [(.int c47), (.int (6 : Int32)), (.int (1 : Int32)), (.int p2)])) (fun t kt => XS.iload X47.here hx rfl (hb hby at_21) rfl kt) ?_
    refine own_callS X47 hx hZ (W := 0) (argsL := [(.int p2), (.int (1 : Int32)), (.int (6 : Int32)), (.int c47)]) (rest := []) hown (hw _ (List.mem_of_getElem? (i := 4) rfl)) (hw _ (List.mem_of_getElem? (i := 5) rfl)) (hw _ (List.mem_of_getElem? (i := 2) rfl)) (hw _ (List.mem_of_getElem? (i := 6) rfl)) (by decide) (own_pickm l Z a0 hw p2 (1 : Int32) (6 : Int32) c47 h0 n0 (Nat.le_trans Z0 K0.1)) (by decide) (by decide) (g := (mkF m 23 #[.val (.int p1), .val (.int p2), .val (.int p3), .val (.int p4), .val (.int p5), .val (.int p6), .val (.int (6 : Int32)), .val (.int c47), .unset, .unset, .unset, .unset, .unset, .unset, .unset] [(.int c47), (.int (6 : Int32)), (.int (1 : Int32)), (.int p2)])) rfl (by rw [hml]; rfl) (lenOf own_pd5 rfl) rfl (by show 2 * 0 + _ ≤ _; exact Nat.le_of_eq rfl) (hb hby at_23) e47 N47 (by decide) (by decide) (fun v48 T48 L48 X48 N48 hq48 => ?_)
    obtain ⟨c48, rfl, hc48, e48⟩ := hq48
    replace hc48 : own_isn c48 = 1 ∨ (c48 = 47 ∧ ¬ c47 = 47) := hc48.imp id (fun q => ⟨q.1, q.2.2⟩)
    show OEnds _ _ _ _ _ _ T48 (mkF m 26 #[.val (.int p1), .val (.int p2), .val (.int p3), .val (.int p4), .val (.int p5), .val (.int p6), .val (.int (6 : Int32)), .val (.int c47), .unset, .unset, .unset, .unset, .unset, .unset, .unset] [(.int c48)])
    refine own_go (g' := (mkF m 28 #[.val (.int p1), .val (.int p2), .val (.int p3), .val (.int p4), .val (.int p5), .val (.int p6), .val (.int (6 : Int32)), .val (.int c47), .val (.int c48), .unset, .unset, .unset, .unset, .unset, .unset] [])) (fun t kt => XS.istore X48.here hx rfl (hb hby at_26) rfl (l' := #[.val (.int p1), .val (.int p2), .val (.int p3), .val (.int p4), .val (.int p5), .val (.int p6), .val (.int (6 : Int32)), .val (.int c47), .val (.int c48), .unset, .unset, .unset, .unset, .unset, .unset]) rfl kt) ?_
    refine own_go (g' := (mkF m 29 #[.val (.int p1), .val (.int p2), .val (.int p3), .val (.int p4), .val (.int p5), .val (.int p6), .val (.int (6 : Int32)), .val (.int c47), .val (.int c48), .unset, .unset, .unset, .unset, .unset, .unset] [(.int p3)])) (fun t kt => XS.iloadN X48.here hx rfl (hb hby at_28) rfl kt) ?_
    refine own_go (g' := (mkF m 30 #[.val (.int p1), .val (.int p2), .val (.int p3), .val (.int p4), .val (.int p5), .val (.int p6), .val (.int (6 : Int32)), .val (.int c47), .val (.int c48), .unset, .unset, .unset, .unset, .unset, .unset] [(.int (2 : Int32)), (.int p3)])) (fun t kt => XS.iconst X48.here hx rfl (hb hby at_29) kt) ?_
    refine own_go (g' := (mkF m 32 #[.val (.int p1), .val (.int p2), .val (.int p3), .val (.int p4), .val (.int p5), .val (.int p6), .val (.int (6 : Int32)), .val (.int c47), .val (.int c48), .unset, .unset, .unset, .unset, .unset, .unset] [(.int (6 : Int32)), (.int (2 : Int32)), (.int p3)])) (fun t kt => XS.iload X48.here hx rfl (hb hby at_30) rfl kt) ?_
    refine own_go (g' := (mkF m 34 #[.val (.int p1), .val (.int p2), .val (.int p3), .val (.int p4), .val (.int p5), .val (.int p6), .val (.int (6 : Int32)), .val (.int c47), .val (.int c48), .unset, .unset, .unset, .unset, .unset, .unset] [(.int c48), (.int (6 : Int32)), (.int (2 : Int32)), (.int p3)])) (fun t kt => XS.iload X48.here hx rfl (hb hby at_32) rfl kt) ?_
    refine own_callS X48 hx hZ (W := 0) (argsL := [(.int p3), (.int (2 : Int32)), (.int (6 : Int32)), (.int c48)]) (rest := []) hown (hw _ (List.mem_of_getElem? (i := 4) rfl)) (hw _ (List.mem_of_getElem? (i := 5) rfl)) (hw _ (List.mem_of_getElem? (i := 2) rfl)) (hw _ (List.mem_of_getElem? (i := 6) rfl)) (by decide) (own_pickm l Z a0 hw p3 (2 : Int32) (6 : Int32) c48 h0 n0 (Nat.le_trans Z0 K0.1)) (by decide) (by decide) (g := (mkF m 34 #[.val (.int p1), .val (.int p2), .val (.int p3), .val (.int p4), .val (.int p5), .val (.int p6), .val (.int (6 : Int32)), .val (.int c47), .val (.int c48), .unset, .unset, .unset, .unset, .unset, .unset] [(.int c48), (.int (6 : Int32)), (.int (2 : Int32)), (.int p3)])) rfl (by rw [hml]; rfl) (lenOf own_pd5 rfl) rfl (by show 2 * 0 + _ ≤ _; exact Nat.le_of_eq rfl) (hb hby at_34) e48 N48 (by decide) (by decide) (fun v49 T49 L49 X49 N49 hq49 => ?_)
    obtain ⟨c49, rfl, hc49, e49⟩ := hq49
    replace hc49 : own_isn c49 = 1 ∨ (c49 = 47 ∧ ¬ c48 = 47) := hc49.imp id (fun q => ⟨q.1, q.2.2⟩)
    show OEnds _ _ _ _ _ _ T49 (mkF m 37 #[.val (.int p1), .val (.int p2), .val (.int p3), .val (.int p4), .val (.int p5), .val (.int p6), .val (.int (6 : Int32)), .val (.int c47), .val (.int c48), .unset, .unset, .unset, .unset, .unset, .unset] [(.int c49)])
    refine own_go (g' := (mkF m 39 #[.val (.int p1), .val (.int p2), .val (.int p3), .val (.int p4), .val (.int p5), .val (.int p6), .val (.int (6 : Int32)), .val (.int c47), .val (.int c48), .val (.int c49), .unset, .unset, .unset, .unset, .unset] [])) (fun t kt => XS.istore X49.here hx rfl (hb hby at_37) rfl (l' := #[.val (.int p1), .val (.int p2), .val (.int p3), .val (.int p4), .val (.int p5), .val (.int p6), .val (.int (6 : Int32)), .val (.int c47), .val (.int c48), .val (.int c49), .unset, .unset, .unset, .unset, .unset]) rfl kt) ?_
    refine own_go (g' := (mkF m 40 #[.val (.int p1), .val (.int p2), .val (.int p3), .val (.int p4), .val (.int p5), .val (.int p6), .val (.int (6 : Int32)), .val (.int c47), .val (.int c48), .val (.int c49), .unset, .unset, .unset, .unset, .unset] [(.int p4)])) (fun t kt => XS.iloadN X49.here hx rfl (hb hby at_39) rfl kt) ?_
    refine own_go (g' := (mkF m 41 #[.val (.int p1), .val (.int p2), .val (.int p3), .val (.int p4), .val (.int p5), .val (.int p6), .val (.int (6 : Int32)), .val (.int c47), .val (.int c48), .val (.int c49), .unset, .unset, .unset, .unset, .unset] [(.int (3 : Int32)), (.int p4)])) (fun t kt => XS.iconst X49.here hx rfl (hb hby at_40) kt) ?_
    refine own_go (g' := (mkF m 43 #[.val (.int p1), .val (.int p2), .val (.int p3), .val (.int p4), .val (.int p5), .val (.int p6), .val (.int (6 : Int32)), .val (.int c47), .val (.int c48), .val (.int c49), .unset, .unset, .unset, .unset, .unset] [(.int (6 : Int32)), (.int (3 : Int32)), (.int p4)])) (fun t kt => XS.iload X49.here hx rfl (hb hby at_41) rfl kt) ?_
    refine own_go (g' := (mkF m 45 #[.val (.int p1), .val (.int p2), .val (.int p3), .val (.int p4), .val (.int p5), .val (.int p6), .val (.int (6 : Int32)), .val (.int c47), .val (.int c48), .val (.int c49), .unset, .unset, .unset, .unset, .unset] [(.int c49), (.int (6 : Int32)), (.int (3 : Int32)), (.int p4)])) (fun t kt => XS.iload X49.here hx rfl (hb hby at_43) rfl kt) ?_
    refine own_callS X49 hx hZ (W := 0) (argsL := [(.int p4), (.int (3 : Int32)), (.int (6 : Int32)), (.int c49)]) (rest := []) hown (hw _ (List.mem_of_getElem? (i := 4) rfl)) (hw _ (List.mem_of_getElem? (i := 5) rfl)) (hw _ (List.mem_of_getElem? (i := 2) rfl)) (hw _ (List.mem_of_getElem? (i := 6) rfl)) (by decide) (own_pickm l Z a0 hw p4 (3 : Int32) (6 : Int32) c49 h0 n0 (Nat.le_trans Z0 K0.1)) (by decide) (by decide) (g := (mkF m 45 #[.val (.int p1), .val (.int p2), .val (.int p3), .val (.int p4), .val (.int p5), .val (.int p6), .val (.int (6 : Int32)), .val (.int c47), .val (.int c48), .val (.int c49), .unset, .unset, .unset, .unset, .unset] [(.int c49), (.int (6 : Int32)), (.int (3 : Int32)), (.int p4)])) rfl (by rw [hml]; rfl) (lenOf own_pd5 rfl) rfl (by show 2 * 0 + _ ≤ _; exact Nat.le_of_eq rfl) (hb hby at_45) e49 N49 (by decide) (by decide) (fun v50 T50 L50 X50 N50 hq50 => ?_)
    obtain ⟨c50, rfl, hc50, e50⟩ := hq50
    replace hc50 : own_isn c50 = 1 ∨ (c50 = 47 ∧ ¬ c49 = 47) := hc50.imp id (fun q => ⟨q.1, q.2.2⟩)
    show OEnds _ _ _ _ _ _ T50 (mkF m 48 #[.val (.int p1), .val (.int p2), .val (.int p3), .val (.int p4), .val (.int p5), .val (.int p6), .val (.int (6 : Int32)), .val (.int c47), .val (.int c48), .val (.int c49), .unset, .unset, .unset, .unset, .unset] [(.int c50)])
    refine own_go (g' := (mkF m 50 #[.val (.int p1), .val (.int p2), .val (.int p3), .val (.int p4), .val (.int p5), .val (.int p6), .val (.int (6 : Int32)), .val (.int c47), .val (.int c48), .val (.int c49), .val (.int c50), .unset, .unset, .unset, .unset] [])) (fun t kt => XS.istore X50.here hx rfl (hb hby at_48) rfl (l' := #[.val (.int p1), .val (.int p2), .val (.int p3), .val (.int p4), .val (.int p5), .val (.int p6), .val (.int (6 : Int32)), .val (.int c47), .val (.int c48), .val (.int c49), .val (.int c50), .unset, .unset, .unset, .unset]) rfl kt) ?_
    refine own_go (g' := (mkF m 52 #[.val (.int p1), .val (.int p2), .val (.int p3), .val (.int p4), .val (.int p5), .val (.int p6), .val (.int (6 : Int32)), .val (.int c47), .val (.int c48), .val (.int c49), .val (.int c50), .unset, .unset, .unset, .unset] [(.int p5)])) (fun t kt => XS.iload X50.here hx rfl (hb hby at_50) rfl kt) ?_
    refine own_go (g' := (mkF m 53 #[.val (.int p1), .val (.int p2), .val (.int p3), .val (.int p4), .val (.int p5), .val (.int p6), .val (.int (6 : Int32)), .val (.int c47), .val (.int c48), .val (.int c49), .val (.int c50), .unset, .unset, .unset, .unset] [(.int (4 : Int32)), (.int p5)])) (fun t kt => XS.iconst X50.here hx rfl (hb hby at_52) kt) ?_
    refine own_go (g' := (mkF m 55 #[.val (.int p1), .val (.int p2), .val (.int p3), .val (.int p4), .val (.int p5), .val (.int p6), .val (.int (6 : Int32)), .val (.int c47), .val (.int c48), .val (.int c49), .val (.int c50), .unset, .unset, .unset, .unset] [(.int (6 : Int32)), (.int (4 : Int32)), (.int p5)])) (fun t kt => XS.iload X50.here hx rfl (hb hby at_53) rfl kt) ?_
    refine own_go (g' := (mkF m 57 #[.val (.int p1), .val (.int p2), .val (.int p3), .val (.int p4), .val (.int p5), .val (.int p6), .val (.int (6 : Int32)), .val (.int c47), .val (.int c48), .val (.int c49), .val (.int c50), .unset, .unset, .unset, .unset] [(.int c50), (.int (6 : Int32)), (.int (4 : Int32)), (.int p5)])) (fun t kt => XS.iload X50.here hx rfl (hb hby at_55) rfl kt) ?_
    refine own_callS X50 hx hZ (W := 0) (argsL := [(.int p5), (.int (4 : Int32)), (.int (6 : Int32)), (.int c50)]) (rest := []) hown (hw _ (List.mem_of_getElem? (i := 4) rfl)) (hw _ (List.mem_of_getElem? (i := 5) rfl)) (hw _ (List.mem_of_getElem? (i := 2) rfl)) (hw _ (List.mem_of_getElem? (i := 6) rfl)) (by decide) (own_pickm l Z a0 hw p5 (4 : Int32) (6 : Int32) c50 h0 n0 (Nat.le_trans Z0 K0.1)) (by decide) (by decide) (g := (mkF m 57 #[.val (.int p1), .val (.int p2), .val (.int p3), .val (.int p4), .val (.int p5), .val (.int p6), .val (.int (6 : Int32)), .val (.int c47), .val (.int c48), .val (.int c49), .val (.int c50), .unset, .unset, .unset, .unset] [(.int c50), (.int (6 : Int32)), (.int (4 : Int32)), (.int p5)])) rfl (by rw [hml]; rfl) (lenOf own_pd5 rfl) rfl (by show 2 * 0 + _ ≤ _; exact Nat.le_of_eq rfl) (hb hby at_57) e50 N50 (by decide) (by decide) (fun v51 T51 L51 X51 N51 hq51 => ?_)
    obtain ⟨c51, rfl, hc51, e51⟩ := hq51
    replace hc51 : own_isn c51 = 1 ∨ (c51 = 47 ∧ ¬ c50 = 47) := hc51.imp id (fun q => ⟨q.1, q.2.2⟩)
    show OEnds _ _ _ _ _ _ T51 (mkF m 60 #[.val (.int p1), .val (.int p2), .val (.int p3), .val (.int p4), .val (.int p5), .val (.int p6), .val (.int (6 : Int32)), .val (.int c47), .val (.int c48), .val (.int c49), .val (.int c50), .unset, .unset, .unset, .unset] [(.int c51)])
    refine own_go (g' := (mkF m 62 #[.val (.int p1), .val (.int p2), .val (.int p3), .val (.int p4), .val (.int p5), .val (.int p6), .val (.int (6 : Int32)), .val (.int c47), .val (.int c48), .val (.int c49), .val (.int c50), .val (.int c51), .unset, .unset, .unset] [])) (fun t kt => XS.istore X51.here hx rfl (hb hby at_60) rfl (l' := #[.val (.int p1), .val (.int p2), .val (.int p3), .val (.int p4), .val (.int p5), .val (.int p6), .val (.int (6 : Int32)), .val (.int c47), .val (.int c48), .val (.int c49), .val (.int c50), .val (.int c51), .unset, .unset, .unset]) rfl kt) ?_
    refine own_go (g' := (mkF m 64 #[.val (.int p1), .val (.int p2), .val (.int p3), .val (.int p4), .val (.int p5), .val (.int p6), .val (.int (6 : Int32)), .val (.int c47), .val (.int c48), .val (.int c49), .val (.int c50), .val (.int c51), .unset, .unset, .unset] [(.int p6)])) (fun t kt => XS.iload X51.here hx rfl (hb hby at_62) rfl kt) ?_
    refine own_go (g' := (mkF m 65 #[.val (.int p1), .val (.int p2), .val (.int p3), .val (.int p4), .val (.int p5), .val (.int p6), .val (.int (6 : Int32)), .val (.int c47), .val (.int c48), .val (.int c49), .val (.int c50), .val (.int c51), .unset, .unset, .unset] [(.int (5 : Int32)), (.int p6)])) (fun t kt => XS.iconst X51.here hx rfl (hb hby at_64) kt) ?_
    refine own_go (g' := (mkF m 67 #[.val (.int p1), .val (.int p2), .val (.int p3), .val (.int p4), .val (.int p5), .val (.int p6), .val (.int (6 : Int32)), .val (.int c47), .val (.int c48), .val (.int c49), .val (.int c50), .val (.int c51), .unset, .unset, .unset] [(.int (6 : Int32)), (.int (5 : Int32)), (.int p6)])) (fun t kt => XS.iload X51.here hx rfl (hb hby at_65) rfl kt) ?_
    refine own_go (g' := (mkF m 69 #[.val (.int p1), .val (.int p2), .val (.int p3), .val (.int p4), .val (.int p5), .val (.int p6), .val (.int (6 : Int32)), .val (.int c47), .val (.int c48), .val (.int c49), .val (.int c50), .val (.int c51), .unset, .unset, .unset] [(.int c51), (.int (6 : Int32)), (.int (5 : Int32)), (.int p6)])) (fun t kt => XS.iload X51.here hx rfl (hb hby at_67) rfl kt) ?_
    refine own_callS X51 hx hZ (W := 0) (argsL := [(.int p6), (.int (5 : Int32)), (.int (6 : Int32)), (.int c51)]) (rest := []) hown (hw _ (List.mem_of_getElem? (i := 4) rfl)) (hw _ (List.mem_of_getElem? (i := 5) rfl)) (hw _ (List.mem_of_getElem? (i := 2) rfl)) (hw _ (List.mem_of_getElem? (i := 6) rfl)) (by decide) (own_pickm l Z a0 hw p6 (5 : Int32) (6 : Int32) c51 h0 n0 (Nat.le_trans Z0 K0.1)) (by decide) (by decide) (g := (mkF m 69 #[.val (.int p1), .val (.int p2), .val (.int p3), .val (.int p4), .val (.int p5), .val (.int p6), .val (.int (6 : Int32)), .val (.int c47), .val (.int c48), .val (.int c49), .val (.int c50), .val (.int c51), .unset, .unset, .unset] [(.int c51), (.int (6 : Int32)), (.int (5 : Int32)), (.int p6)])) rfl (by rw [hml]; rfl) (lenOf own_pd5 rfl) rfl (by show 2 * 0 + _ ≤ _; exact Nat.le_of_eq rfl) (hb hby at_69) e51 N51 (by decide) (by decide) (fun v52 T52 L52 X52 N52 hq52 => ?_)
    obtain ⟨c52, rfl, hc52, e52⟩ := hq52
    replace hc52 : own_isn c52 = 1 := hc52.resolve_right (fun q => absurd q.2.1 (by decide))
    show OEnds _ _ _ _ _ _ T52 (mkF m 72 #[.val (.int p1), .val (.int p2), .val (.int p3), .val (.int p4), .val (.int p5), .val (.int p6), .val (.int (6 : Int32)), .val (.int c47), .val (.int c48), .val (.int c49), .val (.int c50), .val (.int c51), .unset, .unset, .unset] [(.int c52)])
    refine own_go (g' := (mkF m 74 #[.val (.int p1), .val (.int p2), .val (.int p3), .val (.int p4), .val (.int p5), .val (.int p6), .val (.int (6 : Int32)), .val (.int c47), .val (.int c48), .val (.int c49), .val (.int c50), .val (.int c51), .val (.int c52), .unset, .unset] [])) (fun t kt => XS.istore X52.here hx rfl (hb hby at_72) rfl (l' := #[.val (.int p1), .val (.int p2), .val (.int p3), .val (.int p4), .val (.int p5), .val (.int p6), .val (.int (6 : Int32)), .val (.int c47), .val (.int c48), .val (.int c49), .val (.int c50), .val (.int c51), .val (.int c52), .unset, .unset]) rfl kt) ?_
    refine own_go (g' := (mkF m 76 #[.val (.int p1), .val (.int p2), .val (.int p3), .val (.int p4), .val (.int p5), .val (.int p6), .val (.int (6 : Int32)), .val (.int c47), .val (.int c48), .val (.int c49), .val (.int c50), .val (.int c51), .val (.int c52), .unset, .unset] [(.int c47)])) (fun t kt => XS.iload X52.here hx rfl (hb hby at_74) rfl kt) ?_
    refine own_go (g' := (mkF m 78 #[.val (.int p1), .val (.int p2), .val (.int p3), .val (.int p4), .val (.int p5), .val (.int p6), .val (.int (6 : Int32)), .val (.int c47), .val (.int c48), .val (.int c49), .val (.int c50), .val (.int c51), .val (.int c52), .unset, .unset] [(.int c48), (.int c47)])) (fun t kt => XS.iload X52.here hx rfl (hb hby at_76) rfl kt) ?_
    refine own_go (g' := (mkF m 80 #[.val (.int p1), .val (.int p2), .val (.int p3), .val (.int p4), .val (.int p5), .val (.int p6), .val (.int (6 : Int32)), .val (.int c47), .val (.int c48), .val (.int c49), .val (.int c50), .val (.int c51), .val (.int c52), .unset, .unset] [(.int c49), (.int c48), (.int c47)])) (fun t kt => XS.iload X52.here hx rfl (hb hby at_78) rfl kt) ?_
    refine own_go (g' := (mkF m 82 #[.val (.int p1), .val (.int p2), .val (.int p3), .val (.int p4), .val (.int p5), .val (.int p6), .val (.int (6 : Int32)), .val (.int c47), .val (.int c48), .val (.int c49), .val (.int c50), .val (.int c51), .val (.int c52), .unset, .unset] [(.int c50), (.int c49), (.int c48), (.int c47)])) (fun t kt => XS.iload X52.here hx rfl (hb hby at_80) rfl kt) ?_
    refine own_go (g' := (mkF m 84 #[.val (.int p1), .val (.int p2), .val (.int p3), .val (.int p4), .val (.int p5), .val (.int p6), .val (.int (6 : Int32)), .val (.int c47), .val (.int c48), .val (.int c49), .val (.int c50), .val (.int c51), .val (.int c52), .unset, .unset] [(.int c51), (.int c50), (.int c49), (.int c48), (.int c47)])) (fun t kt => XS.iload X52.here hx rfl (hb hby at_82) rfl kt) ?_
    refine own_go (g' := (mkF m 86 #[.val (.int p1), .val (.int p2), .val (.int p3), .val (.int p4), .val (.int p5), .val (.int p6), .val (.int (6 : Int32)), .val (.int c47), .val (.int c48), .val (.int c49), .val (.int c50), .val (.int c51), .val (.int c52), .unset, .unset] [(.int c52), (.int c51), (.int c50), (.int c49), (.int c48), (.int c47)])) (fun t kt => XS.iload X52.here hx rfl (hb hby at_84) rfl kt) ?_
    refine own_go (g' := (mkF m 88 #[.val (.int p1), .val (.int p2), .val (.int p3), .val (.int p4), .val (.int p5), .val (.int p6), .val (.int (6 : Int32)), .val (.int c47), .val (.int c48), .val (.int c49), .val (.int c50), .val (.int c51), .val (.int c52), .unset, .unset] [(.int (6 : Int32)), (.int c52), (.int c51), (.int c50), (.int c49), (.int c48), (.int c47)])) (fun t kt => XS.iload X52.here hx rfl (hb hby at_86) rfl kt) ?_
    refine own_callS X52 hx hZ (W := 0) (argsL := [(.int c47), (.int c48), (.int c49), (.int c50), (.int c51), (.int c52), (.int (6 : Int32))]) (rest := []) hown (hw _ (List.mem_of_getElem? (i := 7) rfl)) (hw _ (List.mem_of_getElem? (i := 8) rfl)) (hw _ (List.mem_of_getElem? (i := 2) rfl)) (hw _ (List.mem_of_getElem? (i := 9) rfl)) (by decide) (own_build6 l Z a0 hw c47 c48 c49 c50 c51 c52 cs h0 n0 (Nat.le_trans Z0 K0.1) S_c hcs (own_rngc (Or.inl hc47)) (own_rngc (hc48.imp id And.left)) (own_rngc (hc49.imp id And.left)) (own_rngc (hc50.imp id And.left)) (own_rngc (hc51.imp id And.left)) (own_rngc (Or.inl hc52))) (by decide) (by decide) (g := (mkF m 88 #[.val (.int p1), .val (.int p2), .val (.int p3), .val (.int p4), .val (.int p5), .val (.int p6), .val (.int (6 : Int32)), .val (.int c47), .val (.int c48), .val (.int c49), .val (.int c50), .val (.int c51), .val (.int c52), .unset, .unset] [(.int (6 : Int32)), (.int c52), (.int c51), (.int c50), (.int c49), (.int c48), (.int c47)])) rfl (by rw [hml]; rfl) (lenOf own_pd6 rfl) rfl (by show 2 * 0 + _ ≤ _; exact Nat.le_of_eq rfl) (hb hby at_88) e52 N52 (by decide) (by decide) (fun v53 T53 L53 X53 N53 hq53 => ?_)
    obtain ⟨b53, t53, k53, rfl, Kc53, A53, G53, F53, V53⟩ := hq53
    have K53 := K0.trans Kc53 all0
    have S_c_h53 := S_c.ext (own_kext K53)
    have S_f_h53 := S_f.ext (own_kext K53)
    have hp53 : ∀ c ∈ ([c47, c48, c49, c50, c51, c52] : List Int32), ¬ c < 0 ∧ ¬ (255 : Int32) < c := (own_alS (own_rngc (Or.inl hc47)).1 (own_alS (own_rngc (hc48.imp id And.left)).1 (own_alS (own_rngc (hc49.imp id And.left)).1 (own_alS (own_rngc (hc50.imp id And.left)).1 (own_alS (own_rngc (hc51.imp id And.left)).1 (own_alS (own_rngc (Or.inl hc52)).1 own_al0))))))
    have hcd53 := StrChars.Road.codOf (cs := ([c47, c48, c49, c50, c51, c52] : List Int32)) (n := 6) rfl (fun c hc => (hp53 c hc).2)
    have hbd53 := own_up _ hp53
    show OEnds _ _ _ _ _ _ T53 (mkF m 91 #[.val (.int p1), .val (.int p2), .val (.int p3), .val (.int p4), .val (.int p5), .val (.int p6), .val (.int (6 : Int32)), .val (.int c47), .val (.int c48), .val (.int c49), .val (.int c50), .val (.int c51), .val (.int c52), .unset, .unset] [(.ref b53)])
    refine own_go (g' := (mkF m 93 #[.val (.int p1), .val (.int p2), .val (.int p3), .val (.int p4), .val (.int p5), .val (.int p6), .val (.int (6 : Int32)), .val (.int c47), .val (.int c48), .val (.int c49), .val (.int c50), .val (.int c51), .val (.int c52), .val (.ref b53), .unset] [])) (fun t kt => XS.astore X53.here hx rfl (hb hby at_91) rfl rfl (l' := #[.val (.int p1), .val (.int p2), .val (.int p3), .val (.int p4), .val (.int p5), .val (.int p6), .val (.int (6 : Int32)), .val (.int c47), .val (.int c48), .val (.int c49), .val (.int c50), .val (.int c51), .val (.int c52), .val (.ref b53), .unset]) rfl kt) ?_
    refine own_go (g' := (mkF m 95 #[.val (.int p1), .val (.int p2), .val (.int p3), .val (.int p4), .val (.int p5), .val (.int p6), .val (.int (6 : Int32)), .val (.int c47), .val (.int c48), .val (.int c49), .val (.int c50), .val (.int c51), .val (.int c52), .val (.ref b53), .unset] [(.ref b53)])) (fun t kt => XS.aload X53.here hx rfl (hb hby at_93) rfl rfl kt) ?_
    refine own_callS X53 hx hZ (W := 0) (argsL := [(.ref b53)]) (rest := []) hown (hw _ (List.mem_of_getElem? (i := 40) rfl)) (hw _ (List.mem_of_getElem? (i := 41) rfl)) (hw _ (List.mem_of_getElem? (i := 42) rfl)) (hw _ (List.mem_of_getElem? (i := 43) rfl)) (by decide) (own_req6 l Z a0 hw b53 t53 k53 c47 c48 c49 c50 c51 c52 cs sv hsv T53.heap n0 (Nat.le_trans Z0 K53.1) A53 G53 F53 V53 S_c_h53 S_f_h53 hcs hcd53 hbd53 hc47 hc48 hc49 hc50 hc51 hc52) (by decide) (by decide) (g := (mkF m 95 #[.val (.int p1), .val (.int p2), .val (.int p3), .val (.int p4), .val (.int p5), .val (.int p6), .val (.int (6 : Int32)), .val (.int c47), .val (.int c48), .val (.int c49), .val (.int c50), .val (.int c51), .val (.int c52), .val (.ref b53), .unset] [(.ref b53)])) rfl (by rw [hml]; rfl) (lenOf own_pd7 rfl) rfl (by show 2 * 0 + _ ≤ _; exact Nat.le_of_eq rfl) (hb hby at_95) rfl N53 (by decide) (by decide) (fun v54 T54 L54 X54 N54 hq54 => ?_)
    obtain ⟨rfl, e54⟩ := hq54
    show OEnds _ _ _ _ _ _ T54 (mkF m 98 #[.val (.int p1), .val (.int p2), .val (.int p3), .val (.int p4), .val (.int p5), .val (.int p6), .val (.int (6 : Int32)), .val (.int c47), .val (.int c48), .val (.int c49), .val (.int c50), .val (.int c51), .val (.int c52), .val (.ref b53), .unset] [(.ref b53)])
    refine own_go (g' := (mkF m 100 #[.val (.int p1), .val (.int p2), .val (.int p3), .val (.int p4), .val (.int p5), .val (.int p6), .val (.int (6 : Int32)), .val (.int c47), .val (.int c48), .val (.int c49), .val (.int c50), .val (.int c51), .val (.int c52), .val (.ref b53), .val (.ref b53)] [])) (fun t kt => XS.astore X54.here hx rfl (hb hby at_98) rfl rfl (l' := #[.val (.int p1), .val (.int p2), .val (.int p3), .val (.int p4), .val (.int p5), .val (.int p6), .val (.int (6 : Int32)), .val (.int c47), .val (.int c48), .val (.int c49), .val (.int c50), .val (.int c51), .val (.int c52), .val (.ref b53), .val (.ref b53)]) rfl kt) ?_
    refine own_go (g' := (mkF m 102 #[.val (.int p1), .val (.int p2), .val (.int p3), .val (.int p4), .val (.int p5), .val (.int p6), .val (.int (6 : Int32)), .val (.int c47), .val (.int c48), .val (.int c49), .val (.int c50), .val (.int c51), .val (.int c52), .val (.ref b53), .val (.ref b53)] [(.ref b53)])) (fun t kt => XS.aload X54.here hx rfl (hb hby at_100) rfl rfl kt) ?_
    refine own_go (g' := (mkF m 104 #[.val (.int p1), .val (.int p2), .val (.int p3), .val (.int p4), .val (.int p5), .val (.int p6), .val (.int (6 : Int32)), .val (.int c47), .val (.int c48), .val (.int c49), .val (.int c50), .val (.int c51), .val (.int c52), .val (.ref b53), .val (.ref b53)] [(.ref b53), (.ref b53)])) (fun t kt => XS.aload X54.here hx rfl (hb hby at_102) rfl rfl kt) ?_
    refine own_go (g' := (mkF m 107 #[.val (.int p1), .val (.int p2), .val (.int p3), .val (.int p4), .val (.int p5), .val (.int p6), .val (.int (6 : Int32)), .val (.int c47), .val (.int c48), .val (.int c49), .val (.int c50), .val (.int c51), .val (.int c52), .val (.ref b53), .val (.ref b53)] [])) (fun t kt => Jvm.RoadKit.acmp (g := (mkF m 104 #[.val (.int p1), .val (.int p2), .val (.int p3), .val (.int p4), .val (.int p5), .val (.int p6), .val (.int (6 : Int32)), .val (.int c47), .val (.int c48), .val (.int c49), .val (.int c50), .val (.int c51), .val (.int c52), .val (.ref b53), .val (.ref b53)] [(.ref b53), (.ref b53)])) X54 hx rfl rfl rfl (pc0 := 104) (pc' := 107) (same := true) rfl (hb hby at_104) rfl (decide_eq_true rfl) (by decide) (by decide) kt) ?_
    refine own_go (g' := (mkF m 109 #[.val (.int p1), .val (.int p2), .val (.int p3), .val (.int p4), .val (.int p5), .val (.int p6), .val (.int (6 : Int32)), .val (.int c47), .val (.int c48), .val (.int c49), .val (.int c50), .val (.int c51), .val (.int c52), .val (.ref b53), .val (.ref b53)] [(.ref b53)])) (fun t kt => XS.aload X54.here hx rfl (hb hby at_107) rfl rfl kt) ?_
    refine own_callVB X54 hx hZ (a := b53) (W := 0) (argsL := []) (rest := []) (c1 := 0) (s1 := 0) (Qc := fun v h' L => (v = some (.int (Int32.ofNat (List.length ([c47, c48, c49, c50, c51, c52] : List Int32))))) ∧ L = [] ∧ h' = T53.heap) hown (hw _ (List.mem_of_getElem? (i := 84) rfl)) (hw _ (List.mem_of_getElem? (i := 50) rfl)) (hw _ (List.mem_of_getElem? (i := 52) rfl)) (hw _ (List.mem_of_getElem? (i := 51) rfl)) (by decide) (StrChars.Road.lenW (W := 0) hZ (fun d hd => hw d (own_wl d hd)) (kI := 4) (hw _ (List.mem_of_getElem? (i := 11) rfl)) A53 F53 G53 V53 hcd53 hbd53 S_c_h53 hcs (Nat.le_of_ble_eq_true rfl) (by decide) (by decide)) A53 (g := (mkF m 109 #[.val (.int p1), .val (.int p2), .val (.int p3), .val (.int p4), .val (.int p5), .val (.int p6), .val (.int (6 : Int32)), .val (.int c47), .val (.int c48), .val (.int c49), .val (.int c50), .val (.int c51), .val (.int c52), .val (.ref b53), .val (.ref b53)] [(.ref b53)])) rfl (by rw [hml]; rfl) (lenOf own_pd3 rfl) rfl (by show 2 * 0 + _ ≤ _; exact Nat.le_of_eq rfl) (hb hby at_109) e54 (by decide) (by decide) (fun v55 T55 L55 X55 hq55 => ?_)
    obtain ⟨rfl, rfl, e55⟩ := hq55
    have N55 := Fr.app N54 (Fr.nil n0)
    show OEnds _ _ _ _ _ _ T55 (mkF m 112 #[.val (.int p1), .val (.int p2), .val (.int p3), .val (.int p4), .val (.int p5), .val (.int p6), .val (.int (6 : Int32)), .val (.int c47), .val (.int c48), .val (.int c49), .val (.int c50), .val (.int c51), .val (.int c52), .val (.ref b53), .val (.ref b53)] [(.int (6 : Int32))])
    refine own_go (g' := (mkF m 114 #[.val (.int p1), .val (.int p2), .val (.int p3), .val (.int p4), .val (.int p5), .val (.int p6), .val (.int (6 : Int32)), .val (.int c47), .val (.int c48), .val (.int c49), .val (.int c50), .val (.int c51), .val (.int c52), .val (.ref b53), .val (.ref b53)] [(.int (6 : Int32)), (.int (6 : Int32))])) (fun t kt => XS.iload X55.here hx rfl (hb hby at_112) rfl kt) ?_
    refine own_go (g' := (mkF m 117 #[.val (.int p1), .val (.int p2), .val (.int p3), .val (.int p4), .val (.int p5), .val (.int p6), .val (.int (6 : Int32)), .val (.int c47), .val (.int c48), .val (.int c49), .val (.int c50), .val (.int c51), .val (.int c52), .val (.ref b53), .val (.ref b53)] [])) (fun t kt => XS.icmpNo X55.here hx rfl (hb hby at_114) rfl (teq ((by decide) : (6 : Int32) = (6 : Int32))).2 kt) ?_
    refine own_go (g' := (mkF m 118 #[.val (.int p1), .val (.int p2), .val (.int p3), .val (.int p4), .val (.int p5), .val (.int p6), .val (.int (6 : Int32)), .val (.int c47), .val (.int c48), .val (.int c49), .val (.int c50), .val (.int c51), .val (.int c52), .val (.ref b53), .val (.ref b53)] [(.int (1 : Int32))])) (fun t kt => XS.iconst X55.here hx rfl (hb hby at_117) kt) ?_
    refine own_go (g' := (mkF m 122 #[.val (.int p1), .val (.int p2), .val (.int p3), .val (.int p4), .val (.int p5), .val (.int p6), .val (.int (6 : Int32)), .val (.int c47), .val (.int c48), .val (.int c49), .val (.int c50), .val (.int c51), .val (.int c52), .val (.ref b53), .val (.ref b53)] [(.int (1 : Int32))])) (fun t kt => XS.goto X55.here hx rfl (pc0 := 118) (pc' := 122) rfl (hb hby at_118) (by decide) (by decide) kt) ?_
    exact own_retN X55 hx hlk (t := .boolean) (z' := (1 : Int32)) hret (by simp) (hb hby at_122) rfl e55 N55 (by decide) (by decide) (rfl)
theorem own_cs0 {args : Array Value} {s : State} (e : (Term.static "java/lang/String" "COMPACT_STRINGS" "Z").eval args s none [] s = some (.int 0)) (h : Jvm.Lit.compactW.before args s = true) : False := by
  have q : (Jvm.Cond.eq (Term.static "java/lang/String" "COMPACT_STRINGS" "Z") (Term.int 0)).value args s none s [] = some true := eq_i e (Term.int_eval 0) rfl
  have h2 := Cond.before_iff.mp h
  simp only [Jvm.Lit.compactW, Cond.value] at h2
  simp only [Cond.value] at q
  rw [q] at h2
  simp at h2
theorem own_refv {t : Term} {args : Array Value} {s : State} (h : (Jvm.Cond.isRef t).value args s none s [] = some true) : ∃ v, t.eval args s none [] s = some v ∧ v.isRef = true := by
  simp only [Cond.value] at h
  cases q : t.eval args s none [] s with
  | none => rw [q] at h; simp at h
  | some v => exact ⟨v, rfl, by rw [q] at h; cases v <;> simp_all [Value.isRef]⟩
set_option maxRecDepth 65536 in
set_option maxHeartbeats 40000000 in
theorem comes_1 {Post : Tables → Env → Array Value → State → Outcome → State → Prop} (hpost : ∀ tb e args s v u, (limb_1_1.after args s (.returned v) u = true ∧ limb_1_2.after args s (.returned v) u = true ∧ True) → FrameEnd s (.returned v) u (Jvm.fieldLocs frame_1_writes args s ++ Jvm.arrayLocs frame_1_arrays args s ++ Jvm.staticLocs frame_1_statics s) 16 128 → Post tb e args s (.returned v) u) :
    ArmFor flags0 classFile x code maxLocals ret World_1 tables_1 room_1 Calls_1 rest_1 Pre_1 Post := by
  intro l hfl _ _ p e ha hc hk s m args below hf hA hF happ hP
  obtain ⟨hcalls, hrest, hpre⟩ := hP
  obtain ⟨-, -, -, hnamed, -, -, -, hat⟩ := (Spec.applies_iff hf).mp happ
  obtain ⟨hg, hn⟩ := and_e (Cond.before_iff.mp (show (Jvm.Cond.and given_1 narrow_1).before args s = true from hpre))
  obtain ⟨g0, r0⟩ := and_e hg
  obtain ⟨k0, r1⟩ := and_e r0
  obtain ⟨k1, r2⟩ := and_e r1
  obtain ⟨k2, r3⟩ := and_e r2
  obtain ⟨k3, r4⟩ := and_e r3
  obtain ⟨k4, k5⟩ := and_e r4
  obtain ⟨w0, w1, w2, w3, w4, w5, rfl⟩ : ∃ w0 w1 w2 w3 w4 w5 : Value, args = #[w0, w1, w2, w3, w4, w5] := by
    have hs : args.size = 6 := by simpa [Cond.value, given_1] using g0
    obtain ⟨L⟩ := args
    match L, hs with
    | [w0, w1, w2, w3, w4, w5], _ => exact ⟨w0, w1, w2, w3, w4, w5, rfl⟩
  have hw := fun d (hd : d ∈ tables_1) => atoms_spec (ws := Jvm.Cond.code x code maxLocals ret :: tables_1) hat d (List.mem_cons_of_mem _ hd)
  have hfit : Fit s := fun {y c} hc i hi => by
    obtain ⟨ha, rfl⟩ := Array.getElem?_eq_some_iff.mp hc
    have q := List.all_eq_true.mp ((Array.all_eq_true_iff_forall_mem.mp hF) _ (Array.getElem_mem ha)) i (List.mem_range.mpr hi)
    simpa [Array.getElem?_eq_getElem hi] using q
  obtain ⟨hsets, hown0⟩ := atoms_of _ (rest_1_c_eq ▸ (show rest_1_c.before _ s = true from hrest))
  have hr0 := Cond.before_iff.mp hown0
  obtain ⟨i0, ei0⟩ := is_v k0
  obtain rfl : w0 = (.int i0) := Option.some.inj ei0
  obtain ⟨i1, ei1⟩ := is_v k1
  obtain rfl : w1 = (.int i1) := Option.some.inj ei1
  obtain ⟨i2, ei2⟩ := is_v k2
  obtain rfl : w2 = (.int i2) := Option.some.inj ei2
  obtain ⟨i3, ei3⟩ := is_v k3
  obtain rfl : w3 = (.int i3) := Option.some.inj ei3
  obtain ⟨i4, ei4⟩ := is_v k4
  obtain rfl : w4 = (.int i4) := Option.some.inj ei4
  obtain ⟨i5, ei5⟩ := is_v k5
  obtain rfl : w5 = (.int i5) := Option.some.inj ei5
  obtain ⟨cs, ecs⟩ := is_v (Cond.before_iff.mp (hsets _ (List.mem_of_getElem? (i := 1) rfl)))
  have S_c := Sta.start ecs (Or.inl (hsets _ (List.mem_of_getElem? (i := 0) rfl)))
  have hcs : ¬ cs = 0 := fun q => by
    subst q
    exact own_cs0 ecs (hsets _ (List.mem_of_getElem? (i := 2) rfl))
  obtain ⟨sv, esv, hsv⟩ := own_refv (Cond.before_iff.mp (hsets _ (List.mem_of_getElem? (i := 8) rfl)))
  have S_f := Sta.start esv (Or.inl (hsets _ (List.mem_of_getElem? (i := 7) rfl)))
  obtain ⟨n, o, h1, h2, h3, _, L, rfl, ⟨N, rfl⟩, hq⟩ := own_law l s _ hw i0 i1 i2 i3 i4 i5 cs sv hsv s.heap s.heap.size (Nat.le_refl _) S_c S_f hcs tables_1 p e ha hc hk s m _ below hf ((Spec.applies_iff_loose hf).mp happ).1 ⟨rfl, State.Warmed39.refl s, rfl⟩ trivial
  refine ⟨n, _, h1, h2, h3, hpost _ _ _ _ _ _ ⟨Cond.after_iff.mpr rfl, Cond.after_iff.mpr (eq_i res_at (Term.int_eval (1)) rfl), trivial⟩ ⟨hq.1, hq.2.1, (hq.2.2.sift fun y hy => Or.inr (N y hy)).mono (by decide) (by decide)⟩⟩
theorem main_1_1 : Claimed_1_1 := comes_1 fun _ _ _ _ _ _ h hF => ⟨h.1, hF⟩
theorem main_1_2 : Claimed_1_2 := comes_1 fun _ _ _ _ _ _ h hF => ⟨h.2.1, hF⟩
end Jvm.Pilot.@@N@@
namespace Jvm.Pilot.@@N@@
open Jvm Jvm.ClassFile Sem Op Lib Jvm.Free Jvm.Stand Jvm.Pilot.@@N@@.Jvm.D
/-! MADE BY PROGRAM (witnessworld.py) out of the Statement's table words and the real class files: 20 classes; the members and pool entries that the words name. The judged class is class 1, her method 4. -/
namespace start1
open Jvm.ClassFile
def u (s : String) : CpInfo := .utf8 (stringToUtf16 s)
/-- a pool by its gaps: so many unusable entries, then the entry; so many at the end -/
def gap : Nat → List CpInfo → List CpInfo
  | 0, r => r
  | n + 1, r => .unusable :: gap n r
def poolList (es : List (Nat × CpInfo)) (last : Nat) : List CpInfo := es.foldr (fun e r => gap e.1 (e.2 :: r)) (gap last [])
def pool (es : List (Nat × CpInfo)) (last : Nat) : Array CpInfo := ⟨poolList es last⟩
def fileOf (pool : Array CpInfo) (this : Nat) (attrs : Array Attribute := #[]) (ms : Array MethodInfo := #[]) (fl : Nat := 33) (sup : Nat := 0) (ifs : Array Nat := #[]) (fds : Array FieldInfo := #[]) : ClassFile where
  minorVersion := 0
  majorVersion := 65
  constantPool := pool
  accessFlags := fl
  thisClass := this
  superClass := sup
  interfaces := ifs
  fields := fds
  methods := ms
  attributes := attrs
def plain (name : String) (sup : Option ClassId) : Class where
  name := name
  kind := .ordinary
  loader := none
  accessFlags := 33
  super := sup
  interfaces := #[]
  cf := none
  fields := #[]
  methods := #[]
  instanceTypes := #[]
  staticTypes := #[]
  resolved := #[]
  callSites := []
  init := .initialized
  statics := none
  mirror := none

def pool0 : Array CpInfo := pool [(5, u "<init>"), (0, u "()V"), (1, .class_ 10), (1, u "java/lang/Object")] 113

def k0c0 : Code := { maxStack := 0, maxLocals := 1, code := object_method_1_code, exceptionTable := #[], attributes := #[] }
def k0m0 : Method := { name := "<init>", desc := "()V", sig := { parameters := [], returnType := none }, accessFlags := 1, code := some k0c0 }
/-- java/lang/Object -/
def k0 : Class := { plain "java/lang/Object" none with
  accessFlags := 33
  interfaces := #[]
  cf := some (fileOf pool0 8 #[] #[{ accessFlags := 1, nameIndex := 5, descriptorIndex := 6, attributes := #[] }] 33 0 #[] #[])
  fields := #[]
  methods := #[k0m0]
  instanceTypes := #[]
  staticTypes := #[]
  resolved := Array.replicate 124 none
  statics := none }

def pool1 : Array CpInfo := pool [(2, .class_ 4), (1, u "java/lang/Object"), (0, u "<init>"), (0, u "()V"), (0, .methodref 8 9), (0, .class_ 10), (0, .nameAndType 11 12), (0, u "com/example/nutex/nutex/LockNamesRequireValidPinLaw"), (0, u "nameChar"), (0, u "(I)C"), (0, .class_ 14), (0, u "java/lang/String"), (0, .methodref 13 16), (0, .nameAndType 5 17), (0, u "([C)V"), (0, .methodref 8 19), (0, .nameAndType 20 21), (0, u "pick"), (0, u "(IIIC)C"), (0, .methodref 8 23), (0, .nameAndType 24 25), (0, u "build"), (0, u "(CCCCCCI)Ljava/lang/String;"), (0, .methodref 27 28), (0, .class_ 29), (0, .nameAndType 30 31), (0, u "com/example/nutex/nutex/LockNames"), (0, u "requireValid"), (0, u "(Ljava/lang/String;)Ljava/lang/String;"), (0, .methodref 13 33), (0, .nameAndType 34 35), (0, u "length"), (0, u "()I"), (3, u "law"), (0, u "(IIIIII)Z")] 2

def k1m0 : Method := { name := "<init>", desc := "()V", sig := { parameters := [], returnType := none }, accessFlags := 2, code := none }
def k1c1 : Code := { maxStack := 3, maxLocals := 2, code := method_2_code, exceptionTable := #[], attributes := #[] }
def k1m1 : Method := { name := "nameChar", desc := "(I)C", sig := { parameters := [.int], returnType := some .char }, accessFlags := 10, code := some k1c1 }
def k1c2 : Code := { maxStack := 3, maxLocals := 4, code := method_3_code, exceptionTable := #[], attributes := #[] }
def k1m2 : Method := { name := "pick", desc := "(IIIC)C", sig := { parameters := [.int, .int, .int, .char], returnType := some .char }, accessFlags := 10, code := some k1c2 }
def k1c3 : Code := { maxStack := 6, maxLocals := 7, code := method_4_code, exceptionTable := #[], attributes := #[] }
def k1m3 : Method := { name := "build", desc := "(CCCCCCI)Ljava/lang/String;", sig := { parameters := [.char, .char, .char, .char, .char, .char, .int], returnType := some (.object "java/lang/String") }, accessFlags := 10, code := some k1c3 }
def k1c4 : Code := { maxStack := 7, maxLocals := 15, code := code, exceptionTable := #[], attributes := #[] }
def k1m4 : Method := { name := "law", desc := "(IIIIII)Z", sig := { parameters := [.int, .int, .int, .int, .int, .int], returnType := some .boolean }, accessFlags := 9, code := some k1c4 }
/-- com/example/nutex/nutex/LockNamesRequireValidPinLaw -/
def k1 : Class := { plain "com/example/nutex/nutex/LockNamesRequireValidPinLaw" (some 0) with
  accessFlags := 49
  interfaces := #[]
  cf := some (fileOf pool1 8 #[] #[{ accessFlags := 2, nameIndex := 5, descriptorIndex := 6, attributes := #[] }, { accessFlags := 10, nameIndex := 11, descriptorIndex := 12, attributes := #[] }, { accessFlags := 10, nameIndex := 20, descriptorIndex := 21, attributes := #[] }, { accessFlags := 10, nameIndex := 24, descriptorIndex := 25, attributes := #[] }, { accessFlags := 9, nameIndex := 39, descriptorIndex := 40, attributes := #[] }] 49 2 #[] #[])
  fields := #[]
  methods := #[k1m0, k1m1, k1m2, k1m3, k1m4]
  instanceTypes := #[]
  staticTypes := #[]
  resolved := Array.replicate 43 none
  statics := none }

def pool2 : Array CpInfo := pool [(1, .class_ 2), (0, u "java/io/Serializable"), (0, .class_ 4), (0, u "java/lang/Object")] 2

/-- java/io/Serializable -/
def k2 : Class := { plain "java/io/Serializable" (some 0) with
  accessFlags := 1537
  interfaces := #[]
  cf := some (fileOf pool2 1 #[] #[] 1537 3 #[] #[])
  fields := #[]
  methods := #[]
  instanceTypes := #[]
  staticTypes := #[]
  resolved := Array.replicate 7 none
  statics := none }

def pool3 : Array CpInfo := pool [(1, .class_ 2), (0, u "java/lang/Comparable"), (0, .class_ 4), (0, u "java/lang/Object")] 7

/-- java/lang/Comparable -/
def k3 : Class := { plain "java/lang/Comparable" (some 0) with
  accessFlags := 1537
  interfaces := #[]
  cf := some (fileOf pool3 1 #[] #[] 1537 3 #[] #[])
  fields := #[]
  methods := #[]
  instanceTypes := #[]
  staticTypes := #[]
  resolved := Array.replicate 12 none
  statics := none }

def pool4 : Array CpInfo := pool [(2, .class_ 4), (1, u "java/lang/CharSequence"), (42, .class_ 48), (0, u "java/lang/CharSequence$1CodePointIterator"), (10, .class_ 60), (0, u "java/lang/CharSequence$1CharIterator"), (5, .class_ 67), (0, u "java/lang/Object")] 63

/-- java/lang/CharSequence -/
def k4 : Class := { plain "java/lang/CharSequence" (some 0) with
  accessFlags := 1537
  interfaces := #[]
  cf := some (fileOf pool4 2 #[.nestMembers #[47, 59]] #[] 1537 66 #[] #[])
  fields := #[]
  methods := #[]
  instanceTypes := #[]
  staticTypes := #[]
  resolved := Array.replicate 131 none
  statics := none }

def pool5 : Array CpInfo := pool [(1, .class_ 2), (0, u "java/lang/constant/Constable"), (0, .class_ 4), (0, u "java/lang/Object")] 6

/-- java/lang/constant/Constable -/
def k5 : Class := { plain "java/lang/constant/Constable" (some 0) with
  accessFlags := 1537
  interfaces := #[]
  cf := some (fileOf pool5 1 #[] #[] 1537 3 #[] #[])
  fields := #[]
  methods := #[]
  instanceTypes := #[]
  staticTypes := #[]
  resolved := Array.replicate 11 none
  statics := none }

def pool6 : Array CpInfo := pool [(1, .class_ 2), (0, u "java/lang/constant/ConstantDesc"), (0, .class_ 4), (0, u "java/lang/Object")] 32

/-- java/lang/constant/ConstantDesc -/
def k6 : Class := { plain "java/lang/constant/ConstantDesc" (some 0) with
  accessFlags := 1537
  interfaces := #[]
  cf := some (fileOf pool6 1 #[] #[] 1537 3 #[] #[])
  fields := #[]
  methods := #[]
  instanceTypes := #[]
  staticTypes := #[]
  resolved := Array.replicate 37 none
  statics := none }

def pool7 : Array CpInfo := pool [(1, .methodref 2 3), (0, .class_ 4), (0, .nameAndType 5 6), (0, u "java/lang/Object"), (0, u "<init>"), (0, u "()V"), (2, .fieldref 10 11), (0, .class_ 12), (0, .nameAndType 13 14), (0, u "java/lang/String"), (0, u "value"), (0, u "[B"), (0, .fieldref 10 16), (0, .nameAndType 17 18), (0, u "coder"), (0, u "B"), (2, u "hash"), (0, u "I"), (2, u "hashIsZero"), (0, u "Z"), (0, .methodref 10 28), (0, .nameAndType 5 29), (0, u "([CIILjava/lang/Void;)V"), (8, .fieldref 10 39), (0, .nameAndType 40 26), (0, u "COMPACT_STRINGS"), (1, .class_ 44), (1, u "java/lang/StringUTF16"), (0, u "compress"), (1, .methodref 42 48), (0, .nameAndType 49 50), (0, u "coderFromArrayLen"), (0, u "([BI)B"), (56, .class_ 109), (1, u "java/lang/StringLatin1"), (32, u "()Z"), (34, .methodref 42 178), (0, .nameAndType 45 179), (0, u "([CII)[B"), (154, u "()I"), (0, .methodref 10 336), (0, .nameAndType 17 337), (0, u "()B"), (25, u "([BI)C"), (27, u "(II)V"), (35, u "(I)C"), (64, .methodref 10 493), (0, .nameAndType 494 142), (0, u "isLatin1"), (0, .methodref 107 496), (0, .nameAndType 497 363), (0, u "charAt"), (3, u "checkIndex"), (5, u "length"), (67, .class_ 576), (0, u "java/lang/CharSequence"), (22, u "CASE_INSENSITIVE_ORDER"), (0, u "Ljava/util/Comparator;"), (91, u "isEmpty"), (317, u "([C)V"), (42, .fieldref 1054 1055), (0, .class_ 1056), (0, .nameAndType 1057 1058), (0, u "jdk/internal/util/Preconditions"), (0, u "SIOOBE_FORMATTER"), (0, u "Ljava/util/function/BiFunction;"), (0, .methodref 1054 1060), (0, .nameAndType 501 1061), (0, u "(IILjava/util/function/BiFunction;)I"), (39, u "serialPersistentFields"), (0, u "[Ljava/io/ObjectStreamField;"), (0, .class_ 1104), (0, u "java/lang/String$CaseInsensitiveComparator"), (1, .class_ 1107), (0, u "java/io/Serializable"), (0, .class_ 1109), (0, u "java/lang/Comparable"), (0, .class_ 1111), (0, u "java/lang/constant/Constable"), (0, .class_ 1113), (0, u "java/lang/constant/ConstantDesc"), (2, u "serialVersionUID"), (0, u "J"), (3, u "REPL"), (0, u "C"), (2, u "LATIN1"), (1, u "UTF16")] 323

def k7m0 : Method := { name := "<init>", desc := "()V", sig := { parameters := [], returnType := none }, accessFlags := 1, code := none }
def k7c1 : Code := { maxStack := 5, maxLocals := 2, code := jdk_42_method_3_code, exceptionTable := #[], attributes := #[] }
def k7m1 : Method := { name := "<init>", desc := "([C)V", sig := { parameters := [(.array .char)], returnType := none }, accessFlags := 1, code := some k7c1 }
def k7c2 : Code := { maxStack := 2, maxLocals := 1, code := jdk_42_method_54_code, exceptionTable := #[], attributes := #[] }
def k7m2 : Method := { name := "length", desc := "()I", sig := { parameters := [], returnType := some .int }, accessFlags := 1, code := some k7c2 }
def k7c3 : Code := { maxStack := 1, maxLocals := 1, code := jdk_42_method_55_code, exceptionTable := #[], attributes := #[] }
def k7m3 : Method := { name := "isEmpty", desc := "()Z", sig := { parameters := [], returnType := some .boolean }, accessFlags := 1, code := some k7c3 }
def k7c4 : Code := { maxStack := 2, maxLocals := 2, code := jdk_42_method_56_code, exceptionTable := #[], attributes := #[] }
def k7m4 : Method := { name := "charAt", desc := "(I)C", sig := { parameters := [.int], returnType := some .char }, accessFlags := 1, code := some k7c4 }
def k7c5 : Code := { maxStack := 4, maxLocals := 6, code := jdk_42_method_149_code, exceptionTable := #[], attributes := #[] }
def k7m5 : Method := { name := "<init>", desc := "([CIILjava/lang/Void;)V", sig := { parameters := [(.array .char), .int, .int, (.object "java/lang/Void")], returnType := none }, accessFlags := 2, code := some k7c5 }
def k7c6 : Code := { maxStack := 1, maxLocals := 1, code := jdk_42_method_152_code, exceptionTable := #[], attributes := #[] }
def k7m6 : Method := { name := "coder", desc := "()B", sig := { parameters := [], returnType := some .byte }, accessFlags := 0, code := some k7c6 }
def k7c7 : Code := { maxStack := 1, maxLocals := 1, code := jdk_42_method_154_code, exceptionTable := #[], attributes := #[] }
def k7m7 : Method := { name := "isLatin1", desc := "()Z", sig := { parameters := [], returnType := some .boolean }, accessFlags := 0, code := some k7c7 }
def k7c8 : Code := { maxStack := 3, maxLocals := 2, code := jdk_42_method_155_code, exceptionTable := #[], attributes := #[] }
def k7m8 : Method := { name := "checkIndex", desc := "(II)V", sig := { parameters := [.int, .int], returnType := none }, accessFlags := 8, code := some k7c8 }
/-- java/lang/String -/
def k7 : Class := { plain "java/lang/String" (some 0) with
  accessFlags := 49
  interfaces := #[2, 3, 4, 5, 6]
  cf := some (fileOf pool7 10 #[.nestMembers #[1103]] #[{ accessFlags := 1, nameIndex := 5, descriptorIndex := 6, attributes := #[] }, { accessFlags := 1, nameIndex := 5, descriptorIndex := 1010, attributes := #[] }, { accessFlags := 1, nameIndex := 507, descriptorIndex := 334, attributes := #[] }, { accessFlags := 1, nameIndex := 692, descriptorIndex := 142, attributes := #[] }, { accessFlags := 1, nameIndex := 497, descriptorIndex := 427, attributes := #[] }, { accessFlags := 2, nameIndex := 5, descriptorIndex := 29, attributes := #[] }, { accessFlags := 0, nameIndex := 17, descriptorIndex := 337, attributes := #[] }, { accessFlags := 0, nameIndex := 494, descriptorIndex := 142, attributes := #[] }, { accessFlags := 8, nameIndex := 501, descriptorIndex := 391, attributes := #[] }] 49 2 #[1106, 1108, 575, 1110, 1112] #[{ accessFlags := 18, nameIndex := 13, descriptorIndex := 14, attributes := #[] }, { accessFlags := 18, nameIndex := 17, descriptorIndex := 18, attributes := #[] }, { accessFlags := 2, nameIndex := 21, descriptorIndex := 22, attributes := #[] }, { accessFlags := 2, nameIndex := 25, descriptorIndex := 26, attributes := #[] }, { accessFlags := 26, nameIndex := 1116, descriptorIndex := 1117, attributes := #[] }, { accessFlags := 24, nameIndex := 40, descriptorIndex := 26, attributes := #[] }, { accessFlags := 26, nameIndex := 1101, descriptorIndex := 1102, attributes := #[] }, { accessFlags := 26, nameIndex := 1121, descriptorIndex := 1122, attributes := #[] }, { accessFlags := 25, nameIndex := 599, descriptorIndex := 600, attributes := #[] }, { accessFlags := 24, nameIndex := 1125, descriptorIndex := 18, attributes := #[] }, { accessFlags := 24, nameIndex := 1127, descriptorIndex := 18, attributes := #[] }])
  fields := #[{ name := "value", type := (.array .byte), accessFlags := 18, slot := 0, constantValue := 0 }, { name := "coder", type := .byte, accessFlags := 18, slot := 1, constantValue := 0 }, { name := "hash", type := .int, accessFlags := 2, slot := 2, constantValue := 0 }, { name := "hashIsZero", type := .boolean, accessFlags := 2, slot := 3, constantValue := 0 }, { name := "serialVersionUID", type := .long, accessFlags := 26, slot := 0, constantValue := 0 }, { name := "COMPACT_STRINGS", type := .boolean, accessFlags := 24, slot := 1, constantValue := 0 }, { name := "serialPersistentFields", type := (.array (.object "java/io/ObjectStreamField")), accessFlags := 26, slot := 2, constantValue := 0 }, { name := "REPL", type := .char, accessFlags := 26, slot := 3, constantValue := 0 }, { name := "CASE_INSENSITIVE_ORDER", type := (.object "java/util/Comparator"), accessFlags := 25, slot := 4, constantValue := 0 }, { name := "LATIN1", type := .byte, accessFlags := 24, slot := 5, constantValue := 0 }, { name := "UTF16", type := .byte, accessFlags := 24, slot := 6, constantValue := 0 }]
  methods := #[k7m0, k7m1, k7m2, k7m3, k7m4, k7m5, k7m6, k7m7, k7m8]
  instanceTypes := #[(.array .byte), .byte, .int, .boolean]
  staticTypes := #[.long, .boolean, (.array (.object "java/io/ObjectStreamField")), .char, (.object "java/util/Comparator"), .byte, .byte]
  resolved := Array.replicate 1451 none
  statics := some 0 }

def pool8 : Array CpInfo := pool [(6, .class_ 8), (1, u "java/lang/Object"), (0, u "<init>"), (0, u "()V"), (1, .class_ 14), (1, u "java/lang/StringUTF16"), (31, u "$assertionsDisabled"), (0, u "Z"), (13, u "HI_BYTE_SHIFT"), (0, u "I"), (2, u "LO_BYTE_SHIFT"), (49, .methodref 12 116), (0, .nameAndType 117 118), (0, u "compress"), (0, u "([CI[BII)I"), (3, u "([CII)[B"), (138, u "coderFromArrayLen"), (0, u "([BI)B"), (106, .class_ 371), (1, u "java/lang/StringUTF16$LinesSpliterator"), (58, u "MAX_LENGTH"), (196, .class_ 628), (0, u "java/lang/StringUTF16$CodePointsSpliterator"), (0, .class_ 630), (0, u "java/lang/StringUTF16$CharsSpliterator")] 4

def k8m0 : Method := { name := "<init>", desc := "()V", sig := { parameters := [], returnType := none }, accessFlags := 0, code := none }
def k8c1 : Code := { maxStack := 2, maxLocals := 2, code := jdk_52_method_15_code, exceptionTable := #[], attributes := #[] }
def k8m1 : Method := { name := "coderFromArrayLen", desc := "([BI)B", sig := { parameters := [(.array .byte), .int], returnType := some .byte }, accessFlags := 8, code := some k8c1 }
def k8c2 : Code := { maxStack := 5, maxLocals := 6, code := jdk_52_method_16_code, exceptionTable := #[], attributes := #[] }
def k8m2 : Method := { name := "compress", desc := "([CII)[B", sig := { parameters := [(.array .char), .int, .int], returnType := some (.array .byte) }, accessFlags := 9, code := some k8c2 }
def k8c3 : Code := { maxStack := 3, maxLocals := 7, code := jdk_52_method_21_code, exceptionTable := #[], attributes := #[] }
def k8m3 : Method := { name := "compress", desc := "([CI[BII)I", sig := { parameters := [(.array .char), .int, (.array .byte), .int, .int], returnType := some .int }, accessFlags := 9, code := some k8c3 }
/-- java/lang/StringUTF16 -/
def k8 : Class := { plain "java/lang/StringUTF16" (some 0) with
  accessFlags := 48
  interfaces := #[]
  cf := some (fileOf pool8 12 #[.nestMembers #[627, 629, 369]] #[{ accessFlags := 0, nameIndex := 9, descriptorIndex := 10, attributes := #[] }, { accessFlags := 8, nameIndex := 261, descriptorIndex := 262, attributes := #[] }, { accessFlags := 9, nameIndex := 117, descriptorIndex := 122, attributes := #[] }, { accessFlags := 9, nameIndex := 117, descriptorIndex := 118, attributes := #[] }] 48 6 #[] #[{ accessFlags := 26, nameIndex := 61, descriptorIndex := 62, attributes := #[] }, { accessFlags := 26, nameIndex := 65, descriptorIndex := 62, attributes := #[] }, { accessFlags := 24, nameIndex := 430, descriptorIndex := 62, attributes := #[] }, { accessFlags := 4120, nameIndex := 46, descriptorIndex := 47, attributes := #[] }])
  fields := #[{ name := "HI_BYTE_SHIFT", type := .int, accessFlags := 26, slot := 0, constantValue := 0 }, { name := "LO_BYTE_SHIFT", type := .int, accessFlags := 26, slot := 1, constantValue := 0 }, { name := "MAX_LENGTH", type := .int, accessFlags := 24, slot := 2, constantValue := 0 }, { name := "$assertionsDisabled", type := .boolean, accessFlags := 4120, slot := 3, constantValue := 0 }]
  methods := #[k8m0, k8m1, k8m2, k8m3]
  instanceTypes := #[]
  staticTypes := #[.int, .int, .int, .boolean]
  resolved := Array.replicate 635 none
  statics := none }

def pool9 : Array CpInfo := pool [(2, .class_ 4), (1, u "java/lang/Object"), (0, u "<init>"), (0, u "()V"), (7, .methodref 15 16), (0, .class_ 17), (0, .nameAndType 18 19), (0, u "java/lang/String"), (0, u "isEmpty"), (0, u "()Z"), (0, .methodref 15 21), (0, .nameAndType 22 23), (0, u "length"), (0, u "()I"), (0, .class_ 25), (0, u "com/example/nutex/nutex/LockNames"), (4, .methodref 15 31), (0, .nameAndType 32 33), (0, u "charAt"), (0, u "(I)C"), (3, .methodref 24 38), (0, .nameAndType 39 40), (0, u "isNameCharacter"), (0, u "(C)Z"), (12, u "MAX_LENGTH"), (0, u "I"), (2, u "SEPARATOR"), (0, u "C"), (3, u "requireValid"), (0, u "(Ljava/lang/String;)Ljava/lang/String;")] 20

def k9m0 : Method := { name := "<init>", desc := "()V", sig := { parameters := [], returnType := none }, accessFlags := 2, code := none }
def k9c1 : Code := { maxStack := 7, maxLocals := 5, code := prog_12_method_2_code, exceptionTable := #[], attributes := #[] }
def k9m1 : Method := { name := "requireValid", desc := "(Ljava/lang/String;)Ljava/lang/String;", sig := { parameters := [(.object "java/lang/String")], returnType := some (.object "java/lang/String") }, accessFlags := 8, code := some k9c1 }
def k9c2 : Code := { maxStack := 2, maxLocals := 1, code := prog_12_method_3_code, exceptionTable := #[], attributes := #[] }
def k9m2 : Method := { name := "isNameCharacter", desc := "(C)Z", sig := { parameters := [.char], returnType := some .boolean }, accessFlags := 10, code := some k9c2 }
/-- com/example/nutex/nutex/LockNames -/
def k9 : Class := { plain "com/example/nutex/nutex/LockNames" (some 0) with
  accessFlags := 32
  interfaces := #[]
  cf := some (fileOf pool9 24 #[] #[{ accessFlags := 2, nameIndex := 5, descriptorIndex := 6, attributes := #[] }, { accessFlags := 8, nameIndex := 62, descriptorIndex := 63, attributes := #[] }, { accessFlags := 10, nameIndex := 39, descriptorIndex := 40, attributes := #[] }] 32 2 #[] #[{ accessFlags := 26, nameIndex := 53, descriptorIndex := 54, attributes := #[] }, { accessFlags := 26, nameIndex := 57, descriptorIndex := 58, attributes := #[] }])
  fields := #[{ name := "MAX_LENGTH", type := .int, accessFlags := 26, slot := 0, constantValue := 0 }, { name := "SEPARATOR", type := .char, accessFlags := 26, slot := 1, constantValue := 0 }]
  methods := #[k9m0, k9m1, k9m2]
  instanceTypes := #[]
  staticTypes := #[.int, .char]
  resolved := Array.replicate 84 none
  statics := none }

def pool10 : Array CpInfo := pool [(1, .class_ 2), (0, u "java/lang/String"), (1, .class_ 6), (1, u "java/lang/Object"), (0, u "<init>"), (0, u "()V"), (0, .methodref 1 10), (0, .nameAndType 11 12), (0, u "checkIndex"), (0, u "(II)V"), (1, .class_ 16), (1, u "java/lang/StringLatin1"), (36, u "([BI)C"), (67, u "$assertionsDisabled"), (0, u "Z"), (98, .class_ 223), (1, u "java/lang/StringLatin1$LinesSpliterator"), (28, u "charAt"), (137, .class_ 391), (0, u "java/lang/StringLatin1$CharsSpliterator")] 3

def k10m0 : Method := { name := "<init>", desc := "()V", sig := { parameters := [], returnType := none }, accessFlags := 0, code := none }
def k10c1 : Code := { maxStack := 2, maxLocals := 2, code := jdk_43_method_2_code, exceptionTable := #[], attributes := #[] }
def k10m1 : Method := { name := "charAt", desc := "([BI)C", sig := { parameters := [(.array .byte), .int], returnType := some .char }, accessFlags := 9, code := some k10c1 }
/-- java/lang/StringLatin1 -/
def k10 : Class := { plain "java/lang/StringLatin1" (some 0) with
  accessFlags := 48
  interfaces := #[]
  cf := some (fileOf pool10 14 #[.nestMembers #[390, 221]] #[{ accessFlags := 0, nameIndex := 7, descriptorIndex := 8, attributes := #[] }, { accessFlags := 9, nameIndex := 252, descriptorIndex := 53, attributes := #[] }] 48 4 #[] #[{ accessFlags := 4120, nameIndex := 121, descriptorIndex := 122, attributes := #[] }])
  fields := #[{ name := "$assertionsDisabled", type := .boolean, accessFlags := 4120, slot := 0, constantValue := 0 }]
  methods := #[k10m0, k10m1]
  instanceTypes := #[]
  staticTypes := #[.boolean]
  resolved := Array.replicate 395 none
  statics := none }

def pool11 : Array CpInfo := pool [(2, .class_ 4), (1, u "java/lang/Object"), (0, u "<init>"), (0, u "()V"), (17, .class_ 26), (1, u "jdk/internal/util/Preconditions"), (6, u "checkIndex"), (21, .class_ 56), (0, u "jdk/internal/util/Preconditions$4"), (57, .class_ 115), (0, u "jdk/internal/util/Preconditions$1"), (7, u "SIOOBE_FORMATTER"), (0, u "Ljava/util/function/BiFunction;"), (0, .class_ 126), (0, u "jdk/internal/util/Preconditions$2"), (3, u "AIOOBE_FORMATTER"), (0, .class_ 132), (0, u "jdk/internal/util/Preconditions$3"), (3, u "IOOBE_FORMATTER"), (41, u "(IILjava/util/function/BiFunction;)I")] 15

def k11m0 : Method := { name := "<init>", desc := "()V", sig := { parameters := [], returnType := none }, accessFlags := 1, code := none }
def k11c1 : Code := { maxStack := 3, maxLocals := 3, code := jdk_41_method_11_code, exceptionTable := #[], attributes := #[] }
def k11m1 : Method := { name := "checkIndex", desc := "(IILjava/util/function/BiFunction;)I", sig := { parameters := [.int, .int, (.object "java/util/function/BiFunction")], returnType := some .int }, accessFlags := 9, code := some k11c1 }
/-- jdk/internal/util/Preconditions -/
def k11 : Class := { plain "jdk/internal/util/Preconditions" (some 0) with
  accessFlags := 33
  interfaces := #[]
  cf := some (fileOf pool11 24 #[.nestMembers #[55, 131, 125, 114]] #[{ accessFlags := 1, nameIndex := 5, descriptorIndex := 6, attributes := #[] }, { accessFlags := 9, nameIndex := 33, descriptorIndex := 178, attributes := #[] }] 33 2 #[] #[{ accessFlags := 25, nameIndex := 123, descriptorIndex := 124, attributes := #[] }, { accessFlags := 25, nameIndex := 130, descriptorIndex := 124, attributes := #[] }, { accessFlags := 25, nameIndex := 136, descriptorIndex := 124, attributes := #[] }])
  fields := #[{ name := "SIOOBE_FORMATTER", type := (.object "java/util/function/BiFunction"), accessFlags := 25, slot := 0, constantValue := 0 }, { name := "AIOOBE_FORMATTER", type := (.object "java/util/function/BiFunction"), accessFlags := 25, slot := 1, constantValue := 0 }, { name := "IOOBE_FORMATTER", type := (.object "java/util/function/BiFunction"), accessFlags := 25, slot := 2, constantValue := 0 }]
  methods := #[k11m0, k11m1]
  instanceTypes := #[]
  staticTypes := #[(.object "java/util/function/BiFunction"), (.object "java/util/function/BiFunction"), (.object "java/util/function/BiFunction")]
  resolved := Array.replicate 194 none
  statics := some 1 }

def pool12 : Array CpInfo := pool [(9, u "<init>"), (6, .class_ 18), (1, u "java/lang/Object"), (0, u "()V"), (1, .class_ 23), (1, u "jdk/internal/util/ArraysSupport"), (0, u "LOG2_ARRAY_LONG_INDEX_SCALE"), (0, u "I"), (2, u "U"), (0, u "Ljdk/internal/misc/Unsafe;"), (8, u "BIG_ENDIAN"), (0, u "Z"), (8, u "LOG2_BYTE_BIT_SIZE"), (4, u "LOG2_ARRAY_INT_INDEX_SCALE"), (54, u "JLA"), (0, u "Ljdk/internal/access/JavaLangAccess;"), (11, u "LOG2_ARRAY_BOOLEAN_INDEX_SCALE"), (9, u "LOG2_ARRAY_BYTE_INDEX_SCALE"), (5, u "LOG2_ARRAY_CHAR_INDEX_SCALE"), (5, u "LOG2_ARRAY_SHORT_INDEX_SCALE"), (18, u "LOG2_ARRAY_FLOAT_INDEX_SCALE"), (24, u "LOG2_ARRAY_DOUBLE_INDEX_SCALE"), (89, u "T_BOOLEAN"), (2, u "T_CHAR"), (1, u "T_FLOAT"), (1, u "T_DOUBLE"), (1, u "T_BYTE"), (1, u "T_SHORT"), (1, u "T_INT"), (1, u "T_LONG"), (1, u "SOFT_MAX_ARRAY_LENGTH")] 83

def k12m0 : Method := { name := "<init>", desc := "()V", sig := { parameters := [], returnType := none }, accessFlags := 2, code := none }
/-- jdk/internal/util/ArraysSupport -/
def k12 : Class := { plain "jdk/internal/util/ArraysSupport" (some 0) with
  accessFlags := 33
  interfaces := #[]
  cf := some (fileOf pool12 21 #[] #[{ accessFlags := 2, nameIndex := 9, descriptorIndex := 19, attributes := #[] }] 33 16 #[] #[{ accessFlags := 24, nameIndex := 28, descriptorIndex := 29, attributes := #[] }, { accessFlags := 26, nameIndex := 38, descriptorIndex := 39, attributes := #[] }, { accessFlags := 25, nameIndex := 121, descriptorIndex := 25, attributes := #[] }, { accessFlags := 25, nameIndex := 131, descriptorIndex := 25, attributes := #[] }, { accessFlags := 25, nameIndex := 137, descriptorIndex := 25, attributes := #[] }, { accessFlags := 25, nameIndex := 143, descriptorIndex := 25, attributes := #[] }, { accessFlags := 25, nameIndex := 53, descriptorIndex := 25, attributes := #[] }, { accessFlags := 25, nameIndex := 24, descriptorIndex := 25, attributes := #[] }, { accessFlags := 25, nameIndex := 162, descriptorIndex := 25, attributes := #[] }, { accessFlags := 25, nameIndex := 187, descriptorIndex := 25, attributes := #[] }, { accessFlags := 26, nameIndex := 48, descriptorIndex := 25, attributes := #[] }, { accessFlags := 25, nameIndex := 277, descriptorIndex := 25, attributes := #[] }, { accessFlags := 25, nameIndex := 280, descriptorIndex := 25, attributes := #[] }, { accessFlags := 25, nameIndex := 282, descriptorIndex := 25, attributes := #[] }, { accessFlags := 25, nameIndex := 284, descriptorIndex := 25, attributes := #[] }, { accessFlags := 25, nameIndex := 286, descriptorIndex := 25, attributes := #[] }, { accessFlags := 25, nameIndex := 288, descriptorIndex := 25, attributes := #[] }, { accessFlags := 25, nameIndex := 290, descriptorIndex := 25, attributes := #[] }, { accessFlags := 25, nameIndex := 292, descriptorIndex := 25, attributes := #[] }, { accessFlags := 26, nameIndex := 108, descriptorIndex := 109, attributes := #[] }, { accessFlags := 25, nameIndex := 294, descriptorIndex := 25, attributes := #[] }])
  fields := #[{ name := "U", type := (.object "jdk/internal/misc/Unsafe"), accessFlags := 24, slot := 0, constantValue := 0 }, { name := "BIG_ENDIAN", type := .boolean, accessFlags := 26, slot := 1, constantValue := 0 }, { name := "LOG2_ARRAY_BOOLEAN_INDEX_SCALE", type := .int, accessFlags := 25, slot := 2, constantValue := 0 }, { name := "LOG2_ARRAY_BYTE_INDEX_SCALE", type := .int, accessFlags := 25, slot := 3, constantValue := 0 }, { name := "LOG2_ARRAY_CHAR_INDEX_SCALE", type := .int, accessFlags := 25, slot := 4, constantValue := 0 }, { name := "LOG2_ARRAY_SHORT_INDEX_SCALE", type := .int, accessFlags := 25, slot := 5, constantValue := 0 }, { name := "LOG2_ARRAY_INT_INDEX_SCALE", type := .int, accessFlags := 25, slot := 6, constantValue := 0 }, { name := "LOG2_ARRAY_LONG_INDEX_SCALE", type := .int, accessFlags := 25, slot := 7, constantValue := 0 }, { name := "LOG2_ARRAY_FLOAT_INDEX_SCALE", type := .int, accessFlags := 25, slot := 8, constantValue := 0 }, { name := "LOG2_ARRAY_DOUBLE_INDEX_SCALE", type := .int, accessFlags := 25, slot := 9, constantValue := 0 }, { name := "LOG2_BYTE_BIT_SIZE", type := .int, accessFlags := 26, slot := 10, constantValue := 0 }, { name := "T_BOOLEAN", type := .int, accessFlags := 25, slot := 11, constantValue := 0 }, { name := "T_CHAR", type := .int, accessFlags := 25, slot := 12, constantValue := 0 }, { name := "T_FLOAT", type := .int, accessFlags := 25, slot := 13, constantValue := 0 }, { name := "T_DOUBLE", type := .int, accessFlags := 25, slot := 14, constantValue := 0 }, { name := "T_BYTE", type := .int, accessFlags := 25, slot := 15, constantValue := 0 }, { name := "T_SHORT", type := .int, accessFlags := 25, slot := 16, constantValue := 0 }, { name := "T_INT", type := .int, accessFlags := 25, slot := 17, constantValue := 0 }, { name := "T_LONG", type := .int, accessFlags := 25, slot := 18, constantValue := 0 }, { name := "JLA", type := (.object "jdk/internal/access/JavaLangAccess"), accessFlags := 26, slot := 19, constantValue := 0 }, { name := "SOFT_MAX_ARRAY_LENGTH", type := .int, accessFlags := 25, slot := 20, constantValue := 0 }]
  methods := #[k12m0]
  instanceTypes := #[]
  staticTypes := #[(.object "jdk/internal/misc/Unsafe"), .boolean, .int, .int, .int, .int, .int, .int, .int, .int, .int, .int, .int, .int, .int, .int, .int, .int, .int, (.object "jdk/internal/access/JavaLangAccess"), .int]
  resolved := Array.replicate 378 none
  statics := none }

def pool13 : Array CpInfo := pool [(1, u "java/lang/Cloneable"), (0, .class_ 1), (0, u "java/lang/Object"), (0, .class_ 3)] 3

/-- java/lang/Cloneable -/
def k13 : Class := { plain "java/lang/Cloneable" (some 0) with
  accessFlags := 1537
  interfaces := #[]
  cf := some (fileOf pool13 2 #[] #[] 1537 4 #[] #[])
  fields := #[]
  methods := #[]
  instanceTypes := #[]
  staticTypes := #[]
  resolved := Array.replicate 8 none
  statics := none }

/-- the primitive byte -/
def k14 : Class := { plain "byte" none with kind := .primitive 'B', accessFlags := 0x411 }
/-- [B -/
def k15 : Class := { plain "[B" (some 0) with kind := .array 14 .byte, interfaces := #[13, 2], accessFlags := 1041 }

/-- the primitive char -/
def k16 : Class := { plain "char" none with kind := .primitive 'C', accessFlags := 0x411 }
/-- [C -/
def k17 : Class := { plain "[C" (some 0) with kind := .array 16 .char, interfaces := #[13, 2], accessFlags := 1041 }

/-- the primitive int -/
def k18 : Class := { plain "int" none with kind := .primitive 'I', accessFlags := 0x411 }
/-- [I -/
def k19 : Class := { plain "[I" (some 0) with kind := .array 18 .int, interfaces := #[13, 2], accessFlags := 1041 }

def heap : Heap := #[{ cls := 7, slots := #[.long 0, .int 1, .null, .int 0, .null, .int 0, .int 0], vm := .statics 7 },
  { cls := 11, slots := #[.null, .null, .null], vm := .statics 11 }]
def classes : Array Class := #[k0, k1, k2, k3, k4, k5, k6, k7, k8, k9, k10, k11, k12, k13, k14, k15, k16, k17, k18, k19]
def interned : List (Array UInt16 × Addr) := []
def slotsUsed : Nat := 10
def theMethod : MethodId := ⟨1, 4⟩
def args0 : Array Value := #[.int 5, .int 7, .int 9, .int 3, .int 4, .int 8]
def aboutOver (below : List Frame) : State where
  vm := { classes := classes, interned := interned.toArray }
  heap := heap
  slotsUsed := slotsUsed
  threads := #[{ frames := .invoking theMethod args0 :: below }]
def below0 : List Frame := [.native { method := ⟨0, 0⟩, args := #[] }]
def about1 : State := aboutOver below0
def p0 : Program := .bare "" "" ""
def e0 : Env := launch0.env 0 0 0
theorem w_frames : about1.frames = Frame.invoking theMethod args0 :: below0 := rfl
set_option maxRecDepth 65536 in
theorem w_args : argsFit about1.vm theMethod args0 = true := by decide +kernel
set_option maxRecDepth 65536 in
theorem w_heap : heapFits about1 = true := by decide +kernel
set_option maxRecDepth 65536 in
theorem w_runnable : about1.curStatus? = some .runnable := by decide +kernel
set_option maxRecDepth 65536 in
theorem w_alone : about1.alone = true := by decide +kernel
set_option maxRecDepth 65536 in
theorem w_named : about1.methodNamed? x = some theMethod := by decide +kernel
set_option maxRecDepth 65536 in
theorem w_hears : about1.hears theMethod below0 = true := by decide +kernel
set_option maxRecDepth 65536 in
theorem w_ripe : about1.ripe theMethod args0 below0 = true := by decide +kernel
theorem w_running : about1.status = .running := rfl
set_option maxRecDepth 65536 in
theorem w_room : about1.hasRoom e0.platform room_1 = true :=
  launch0.hasRoom_least _ room_1 (by decide +kernel) (by decide +kernel) (by decide +kernel) (by decide +kernel) (by decide +kernel) (by decide +kernel)
theorem allAtoms_all (ts : List Jvm.Cond) (a : Array Jvm.Value) (st : Jvm.State) : (allAtoms ts).before a st = ts.all (fun c => c.before a st) := by
  induction ts with
  | nil => rfl
  | cons c t ih =>
    show (Jvm.Cond.and c (allAtoms t)).before a st = _
    rw [Jvm.Cond.before_and, ih, List.all_cons]
def words1 : List Jvm.Cond := Jvm.Cond.code x code maxLocals ret :: tables_1
/-- a 'code' word, met by the world's own term for the bytes: nothing is compared byte by byte -/
theorem code_word {y : MethodName} {bytes : ByteArray} {mx : Nat} {rt : Option FieldType} {a : Array Value} {s : State} {m : MethodId} {meth : Method} {c : Code} (h1 : s.methodNamed? y = some m) (h2 : s.vm.method? m = some meth) (h3 : meth.code = some c) (h4 : c.code = bytes)
    (h5 : (c.maxLocals == mx && c.exceptionTable.isEmpty && decide (c.maxStack ≤ mostOperands) && decide (meth.sig.returnType = rt) && !meth.locks && decide (parseMethodDescriptor y.desc = some meth.sig)) = true) : (Jvm.Cond.code y bytes mx rt).before a s = true := by
  simp only [Bool.and_eq_true, beq_iff_eq, Bool.not_eq_true', decide_eq_true_eq] at h5
  obtain ⟨⟨⟨⟨⟨g1, g2⟩, g3⟩, g4⟩, g5⟩, g6⟩ := h5
  simp [Cond.before, Cond.holds, Cond.value, h1, h2, h3, h4, g1, g2, g3, g4, g5, g6]
def isCode : Jvm.Cond → Bool
  | .code _ _ _ _ => true
  | _ => false
theorem all_split {L : List Jvm.Cond} {P : Jvm.Cond → Bool} (h1 : L.all (fun c => isCode c || P c) = true) (h2 : ∀ c ∈ L.filter isCode, P c = true) : L.all P = true := by
  refine List.all_eq_true.mpr fun c hc => ?_
  have h := List.all_eq_true.mp h1 c hc
  rcases Bool.eq_false_or_eq_true (isCode c) with hi | hi
  · exact h2 c (List.mem_filter.mpr ⟨hc, hi⟩)
  · simpa [hi] using h
set_option maxRecDepth 65536 in
theorem w_c0 : (Jvm.Cond.code x code maxLocals ret).before args0 about1 = true := code_word (m := ⟨1, 4⟩) (meth := k1m4) (c := k1c4) (by decide +kernel) rfl rfl rfl (by decide +kernel)
set_option maxRecDepth 65536 in
theorem w_c1 : (Jvm.Cond.code ({ cls := "com/example/nutex/nutex/LockNamesRequireValidPinLaw", name := "nameChar", desc := "(I)C" } : Jvm.MethodName) method_2_code (2 : Nat) (Option.some Jvm.ClassFile.FieldType.char)).before args0 about1 = true := code_word (m := ⟨1, 1⟩) (meth := k1m1) (c := k1c1) (by decide +kernel) rfl rfl rfl (by decide +kernel)
set_option maxRecDepth 65536 in
theorem w_c2 : (Jvm.Cond.code ({ cls := "com/example/nutex/nutex/LockNamesRequireValidPinLaw", name := "pick", desc := "(IIIC)C" } : Jvm.MethodName) method_3_code (4 : Nat) (Option.some Jvm.ClassFile.FieldType.char)).before args0 about1 = true := code_word (m := ⟨1, 2⟩) (meth := k1m2) (c := k1c2) (by decide +kernel) rfl rfl rfl (by decide +kernel)
set_option maxRecDepth 65536 in
theorem w_c3 : (Jvm.Cond.code ({ cls := "com/example/nutex/nutex/LockNamesRequireValidPinLaw", name := "build", desc := "(CCCCCCI)Ljava/lang/String;" } : Jvm.MethodName) method_4_code (7 : Nat) (Option.some (Jvm.ClassFile.FieldType.object "java/lang/String"))).before args0 about1 = true := code_word (m := ⟨1, 3⟩) (meth := k1m3) (c := k1c3) (by decide +kernel) rfl rfl rfl (by decide +kernel)
set_option maxRecDepth 65536 in
theorem w_c4 : (Jvm.Cond.code ({ cls := "java/lang/String", name := "<init>", desc := "([C)V" } : Jvm.MethodName) jdk_42_method_3_code (2 : Nat) (Option.none : Option Jvm.ClassFile.FieldType)).before args0 about1 = true := code_word (m := ⟨7, 1⟩) (meth := k7m1) (c := k7c1) (by decide +kernel) rfl rfl rfl (by decide +kernel)
set_option maxRecDepth 65536 in
theorem w_c5 : (Jvm.Cond.code ({ cls := "java/lang/String", name := "<init>", desc := "([CIILjava/lang/Void;)V" } : Jvm.MethodName) jdk_42_method_149_code (6 : Nat) (Option.none : Option Jvm.ClassFile.FieldType)).before args0 about1 = true := code_word (m := ⟨7, 5⟩) (meth := k7m5) (c := k7c5) (by decide +kernel) rfl rfl rfl (by decide +kernel)
set_option maxRecDepth 65536 in
theorem w_c6 : (Jvm.Cond.code ({ cls := "java/lang/Object", name := "<init>", desc := "()V" } : Jvm.MethodName) object_method_1_code (1 : Nat) (Option.none : Option Jvm.ClassFile.FieldType)).before args0 about1 = true := code_word (m := ⟨0, 0⟩) (meth := k0m0) (c := k0c0) (by decide +kernel) rfl rfl rfl (by decide +kernel)
set_option maxRecDepth 65536 in
theorem w_c7 : (Jvm.Cond.code ({ cls := "java/lang/StringUTF16", name := "compress", desc := "([CII)[B" } : Jvm.MethodName) jdk_52_method_16_code (6 : Nat) (Option.some (Jvm.ClassFile.FieldType.array Jvm.ClassFile.FieldType.byte))).before args0 about1 = true := code_word (m := ⟨8, 2⟩) (meth := k8m2) (c := k8c2) (by decide +kernel) rfl rfl rfl (by decide +kernel)
set_option maxRecDepth 65536 in
theorem w_c8 : (Jvm.Cond.code ({ cls := "java/lang/StringUTF16", name := "compress", desc := "([CI[BII)I" } : Jvm.MethodName) jdk_52_method_21_code (7 : Nat) (Option.some Jvm.ClassFile.FieldType.int)).before args0 about1 = true := code_word (m := ⟨8, 3⟩) (meth := k8m3) (c := k8c3) (by decide +kernel) rfl rfl rfl (by decide +kernel)
set_option maxRecDepth 65536 in
theorem w_c9 : (Jvm.Cond.code ({ cls := "java/lang/StringUTF16", name := "coderFromArrayLen", desc := "([BI)B" } : Jvm.MethodName) jdk_52_method_15_code (2 : Nat) (Option.some Jvm.ClassFile.FieldType.byte)).before args0 about1 = true := code_word (m := ⟨8, 1⟩) (meth := k8m1) (c := k8c1) (by decide +kernel) rfl rfl rfl (by decide +kernel)
set_option maxRecDepth 65536 in
theorem w_c10 : (Jvm.Cond.code ({ cls := "com/example/nutex/nutex/LockNames", name := "requireValid", desc := "(Ljava/lang/String;)Ljava/lang/String;" } : Jvm.MethodName) prog_12_method_2_code (5 : Nat) (Option.some (Jvm.ClassFile.FieldType.object "java/lang/String"))).before args0 about1 = true := code_word (m := ⟨9, 1⟩) (meth := k9m1) (c := k9c1) (by decide +kernel) rfl rfl rfl (by decide +kernel)
set_option maxRecDepth 65536 in
theorem w_c11 : (Jvm.Cond.code ({ cls := "java/lang/String", name := "isEmpty", desc := "()Z" } : Jvm.MethodName) jdk_42_method_55_code (1 : Nat) (Option.some Jvm.ClassFile.FieldType.boolean)).before args0 about1 = true := code_word (m := ⟨7, 3⟩) (meth := k7m3) (c := k7c3) (by decide +kernel) rfl rfl rfl (by decide +kernel)
set_option maxRecDepth 65536 in
theorem w_c12 : (Jvm.Cond.code ({ cls := "java/lang/String", name := "length", desc := "()I" } : Jvm.MethodName) jdk_42_method_54_code (1 : Nat) (Option.some Jvm.ClassFile.FieldType.int)).before args0 about1 = true := code_word (m := ⟨7, 2⟩) (meth := k7m2) (c := k7c2) (by decide +kernel) rfl rfl rfl (by decide +kernel)
set_option maxRecDepth 65536 in
theorem w_c13 : (Jvm.Cond.code ({ cls := "java/lang/String", name := "coder", desc := "()B" } : Jvm.MethodName) jdk_42_method_152_code (1 : Nat) (Option.some Jvm.ClassFile.FieldType.byte)).before args0 about1 = true := code_word (m := ⟨7, 6⟩) (meth := k7m6) (c := k7c6) (by decide +kernel) rfl rfl rfl (by decide +kernel)
set_option maxRecDepth 65536 in
theorem w_c14 : (Jvm.Cond.code ({ cls := "java/lang/String", name := "charAt", desc := "(I)C" } : Jvm.MethodName) jdk_42_method_56_code (2 : Nat) (Option.some Jvm.ClassFile.FieldType.char)).before args0 about1 = true := code_word (m := ⟨7, 4⟩) (meth := k7m4) (c := k7c4) (by decide +kernel) rfl rfl rfl (by decide +kernel)
set_option maxRecDepth 65536 in
theorem w_c15 : (Jvm.Cond.code ({ cls := "java/lang/String", name := "isLatin1", desc := "()Z" } : Jvm.MethodName) jdk_42_method_154_code (1 : Nat) (Option.some Jvm.ClassFile.FieldType.boolean)).before args0 about1 = true := code_word (m := ⟨7, 7⟩) (meth := k7m7) (c := k7c7) (by decide +kernel) rfl rfl rfl (by decide +kernel)
set_option maxRecDepth 65536 in
theorem w_c16 : (Jvm.Cond.code ({ cls := "java/lang/StringLatin1", name := "charAt", desc := "([BI)C" } : Jvm.MethodName) jdk_43_method_2_code (2 : Nat) (Option.some Jvm.ClassFile.FieldType.char)).before args0 about1 = true := code_word (m := ⟨10, 1⟩) (meth := k10m1) (c := k10c1) (by decide +kernel) rfl rfl rfl (by decide +kernel)
set_option maxRecDepth 65536 in
theorem w_c17 : (Jvm.Cond.code ({ cls := "java/lang/String", name := "checkIndex", desc := "(II)V" } : Jvm.MethodName) jdk_42_method_155_code (2 : Nat) (Option.none : Option Jvm.ClassFile.FieldType)).before args0 about1 = true := code_word (m := ⟨7, 8⟩) (meth := k7m8) (c := k7c8) (by decide +kernel) rfl rfl rfl (by decide +kernel)
set_option maxRecDepth 65536 in
theorem w_c18 : (Jvm.Cond.code ({ cls := "jdk/internal/util/Preconditions", name := "checkIndex", desc := "(IILjava/util/function/BiFunction;)I" } : Jvm.MethodName) jdk_41_method_11_code (3 : Nat) (Option.some Jvm.ClassFile.FieldType.int)).before args0 about1 = true := code_word (m := ⟨11, 1⟩) (meth := k11m1) (c := k11c1) (by decide +kernel) rfl rfl rfl (by decide +kernel)
set_option maxRecDepth 65536 in
theorem w_c19 : (Jvm.Cond.code ({ cls := "com/example/nutex/nutex/LockNames", name := "isNameCharacter", desc := "(C)Z" } : Jvm.MethodName) prog_12_method_3_code (1 : Nat) (Option.some Jvm.ClassFile.FieldType.boolean)).before args0 about1 = true := code_word (m := ⟨9, 2⟩) (meth := k9m2) (c := k9c2) (by decide +kernel) rfl rfl rfl (by decide +kernel)
def codes1 : List Jvm.Cond := [Jvm.Cond.code x code maxLocals ret, Jvm.Cond.code ({ cls := "com/example/nutex/nutex/LockNamesRequireValidPinLaw", name := "nameChar", desc := "(I)C" } : Jvm.MethodName) method_2_code (2 : Nat) (Option.some Jvm.ClassFile.FieldType.char), Jvm.Cond.code ({ cls := "com/example/nutex/nutex/LockNamesRequireValidPinLaw", name := "pick", desc := "(IIIC)C" } : Jvm.MethodName) method_3_code (4 : Nat) (Option.some Jvm.ClassFile.FieldType.char), Jvm.Cond.code ({ cls := "com/example/nutex/nutex/LockNamesRequireValidPinLaw", name := "build", desc := "(CCCCCCI)Ljava/lang/String;" } : Jvm.MethodName) method_4_code (7 : Nat) (Option.some (Jvm.ClassFile.FieldType.object "java/lang/String")), Jvm.Cond.code ({ cls := "java/lang/String", name := "<init>", desc := "([C)V" } : Jvm.MethodName) jdk_42_method_3_code (2 : Nat) (Option.none : Option Jvm.ClassFile.FieldType), Jvm.Cond.code ({ cls := "java/lang/String", name := "<init>", desc := "([CIILjava/lang/Void;)V" } : Jvm.MethodName) jdk_42_method_149_code (6 : Nat) (Option.none : Option Jvm.ClassFile.FieldType), Jvm.Cond.code ({ cls := "java/lang/Object", name := "<init>", desc := "()V" } : Jvm.MethodName) object_method_1_code (1 : Nat) (Option.none : Option Jvm.ClassFile.FieldType), Jvm.Cond.code ({ cls := "java/lang/StringUTF16", name := "compress", desc := "([CII)[B" } : Jvm.MethodName) jdk_52_method_16_code (6 : Nat) (Option.some (Jvm.ClassFile.FieldType.array Jvm.ClassFile.FieldType.byte)), Jvm.Cond.code ({ cls := "java/lang/StringUTF16", name := "compress", desc := "([CI[BII)I" } : Jvm.MethodName) jdk_52_method_21_code (7 : Nat) (Option.some Jvm.ClassFile.FieldType.int), Jvm.Cond.code ({ cls := "java/lang/StringUTF16", name := "coderFromArrayLen", desc := "([BI)B" } : Jvm.MethodName) jdk_52_method_15_code (2 : Nat) (Option.some Jvm.ClassFile.FieldType.byte), Jvm.Cond.code ({ cls := "com/example/nutex/nutex/LockNames", name := "requireValid", desc := "(Ljava/lang/String;)Ljava/lang/String;" } : Jvm.MethodName) prog_12_method_2_code (5 : Nat) (Option.some (Jvm.ClassFile.FieldType.object "java/lang/String")), Jvm.Cond.code ({ cls := "java/lang/String", name := "isEmpty", desc := "()Z" } : Jvm.MethodName) jdk_42_method_55_code (1 : Nat) (Option.some Jvm.ClassFile.FieldType.boolean), Jvm.Cond.code ({ cls := "java/lang/String", name := "length", desc := "()I" } : Jvm.MethodName) jdk_42_method_54_code (1 : Nat) (Option.some Jvm.ClassFile.FieldType.int), Jvm.Cond.code ({ cls := "java/lang/String", name := "coder", desc := "()B" } : Jvm.MethodName) jdk_42_method_152_code (1 : Nat) (Option.some Jvm.ClassFile.FieldType.byte), Jvm.Cond.code ({ cls := "java/lang/String", name := "charAt", desc := "(I)C" } : Jvm.MethodName) jdk_42_method_56_code (2 : Nat) (Option.some Jvm.ClassFile.FieldType.char), Jvm.Cond.code ({ cls := "java/lang/String", name := "isLatin1", desc := "()Z" } : Jvm.MethodName) jdk_42_method_154_code (1 : Nat) (Option.some Jvm.ClassFile.FieldType.boolean), Jvm.Cond.code ({ cls := "java/lang/StringLatin1", name := "charAt", desc := "([BI)C" } : Jvm.MethodName) jdk_43_method_2_code (2 : Nat) (Option.some Jvm.ClassFile.FieldType.char), Jvm.Cond.code ({ cls := "java/lang/String", name := "checkIndex", desc := "(II)V" } : Jvm.MethodName) jdk_42_method_155_code (2 : Nat) (Option.none : Option Jvm.ClassFile.FieldType), Jvm.Cond.code ({ cls := "jdk/internal/util/Preconditions", name := "checkIndex", desc := "(IILjava/util/function/BiFunction;)I" } : Jvm.MethodName) jdk_41_method_11_code (3 : Nat) (Option.some Jvm.ClassFile.FieldType.int), Jvm.Cond.code ({ cls := "com/example/nutex/nutex/LockNames", name := "isNameCharacter", desc := "(C)Z" } : Jvm.MethodName) prog_12_method_3_code (1 : Nat) (Option.some Jvm.ClassFile.FieldType.boolean)]
set_option maxRecDepth 65536 in
theorem codes_eq : words1.filter isCode = codes1 := rfl
theorem w_codes : ∀ c ∈ words1.filter isCode, c.before args0 about1 = true := by
  rw [codes_eq]
  intro c hc
  simp only [codes1, List.mem_cons, List.not_mem_nil, or_false] at hc
  rcases hc with rfl | rfl | rfl | rfl | rfl | rfl | rfl | rfl | rfl | rfl | rfl | rfl | rfl | rfl | rfl | rfl | rfl | rfl | rfl | rfl
  · exact w_c0
  · exact w_c1
  · exact w_c2
  · exact w_c3
  · exact w_c4
  · exact w_c5
  · exact w_c6
  · exact w_c7
  · exact w_c8
  · exact w_c9
  · exact w_c10
  · exact w_c11
  · exact w_c12
  · exact w_c13
  · exact w_c14
  · exact w_c15
  · exact w_c16
  · exact w_c17
  · exact w_c18
  · exact w_c19
set_option maxRecDepth 65536 in
theorem w_t1 : (words1.take 24).all (fun c => isCode c || c.before args0 about1) = true := by decide +kernel
set_option maxRecDepth 65536 in
theorem w_t2 : ((words1.drop 24).take 24).all (fun c => isCode c || c.before args0 about1) = true := by decide +kernel
set_option maxRecDepth 65536 in
theorem w_t3 : (((words1.drop 24).drop 24).take 24).all (fun c => isCode c || c.before args0 about1) = true := by decide +kernel
set_option maxRecDepth 65536 in
theorem w_t4 : (((words1.drop 24).drop 24).drop 24).all (fun c => isCode c || c.before args0 about1) = true := by decide +kernel
theorem w_tables : (allAtoms (Jvm.Cond.code x code maxLocals ret :: tables_1)).before args0 about1 = true := by
  rw [allAtoms_all]
  show words1.all (fun c => c.before args0 about1) = true
  refine all_split ?_ w_codes
  rw [← List.take_append_drop 24 words1, List.all_append, w_t1, ← List.take_append_drop 24 (words1.drop 24), List.all_append, w_t2, ← List.take_append_drop 24 ((words1.drop 24).drop 24), List.all_append, w_t3, w_t4]
  rfl
set_option maxRecDepth 65536 in
theorem w_rest : rest_1_c.before args0 about1 = true := by decide +kernel
set_option maxRecDepth 65536 in
theorem w_case : (Jvm.Cond.and given_1 narrow_1).before args0 about1 = true := by decide +kernel
theorem w_applies : (headSpec (Jvm.Cond.code x code maxLocals ret :: tables_1) room_1).applies x e0.platform about1 = true :=
  (Spec.applies_iff w_frames).mpr ⟨w_running, w_runnable, w_alone, w_named, w_hears, w_ripe, w_room, w_tables⟩
theorem atStart : AtStart classFile x code maxLocals ret World_1 tables_1 room_1 Calls_1 rest_1 Pre_1 launch0 p0 e0 about1 theMethod args0 below0 :=
  ⟨lists_1, trivial, launch0.admits_env _ _ _, launch0.least_env, fairChoices_fair.cas, fairChoices_fair.clock, w_frames, w_args, w_heap, w_applies, trivial, w_rest, w_case⟩
end start1
theorem witness_1 : WitnessClaimed_1 := ⟨start1.p0, start1.e0, start1.about1, start1.theMethod, start1.args0, start1.below0, start1.atStart⟩
end Jvm.Pilot.@@N@@
