import JvmDerived
import JvmDerived.Pilot.@@N@@Statement
import JvmDerived.Pilot.@@N@@Code
set_option linter.unusedVariables false
set_option linter.unusedSimpArgs false
/- laws to paste: Road.backV, Road.lenW, Road.chN, Road.codOf (cut by pick.py; bodies as the Statement names them) -/
namespace Jvm.Pilot.@@N@@
namespace StrChars
open Jvm Sem ClassFile Op Lib Jvm.Stand Jvm.Free.XT Jvm.Free.ALB Jvm.Free.JM Jvm.Free
open Jvm.Lib.Cold (StaticIs)
/-- a char array whose places are chars -/
def Ch (a : Addr) (A : Cell) (U : State) : Prop := Arr .char a A U ∧ Typed .char A
theorem Ch.mv {a : Addr} {A : Cell} {U U' : State} (h : Ch a A U) (hal : U.vm.Alike U'.vm) (hh : U'.heap = U.heap) : Ch a A U' := ⟨h.1.mv hal hh, h.2⟩
theorem Ch.keep {a : Addr} {A : Cell} {U U' : State} (h : Ch a A U) (hal : U.vm.Alike U'.vm) (hk : U'.heap[a]? = some A) : Ch a A U' := ⟨h.1.keep hal hk, h.2⟩
/-- what place i of a char[]'s cell holds -/
def cv (A : Cell) (i : Nat) : Int32 := match A.slots[i]? with | some (.int x) => x | _ => 0
theorem Ch.get {a : Addr} {A : Cell} {U : State} (h : Ch a A U) {i : Nat} (hi : i < A.slots.size) : A.slots[i]? = some (.int (cv A i)) := by
  have e := Array.getElem?_eq_getElem hi
  have f := h.2 i _ e
  unfold cv; rw [e]
  generalize A.slots[i] = v at f
  cases v <;> simp [fits] at f ⊢
/-- the byte that i2b leaves of a char -/
def lo8 (x : Int32) : Int32 := x.toInt8.toInt32
theorem fits_lo8 (y : Int32) : fits .byte (.int (lo8 y)) = true := by
  have h1 := y.toInt8.le_toInt
  have h2 := y.toInt8.toInt_lt
  simp only [lo8, fits, Bool.and_eq_true, decide_eq_true_eq, Int32.le_iff_toInt_le, Int8.toInt_toInt32, show (-128 : Int32).toInt = -128 from by decide, show (127 : Int32).toInt = 127 from by decide]
  omega
/-- A' is A but that each place j of lo .. hi - 1 holds f j -/
def Laid (A A' : Cell) (lo hi : Nat) (f : Nat → Value) : Prop := A'.cls = A.cls ∧ A'.vm = A.vm ∧ A'.slots.size = A.slots.size ∧ ∀ i, A'.slots[i]? = if lo ≤ i ∧ i < hi then some (f i) else A.slots[i]?
theorem Laid.zero (A : Cell) (lo : Nat) (f : Nat → Value) : Laid A A lo (lo + 0) f := ⟨rfl, rfl, rfl, fun i => by rw [if_neg (by omega)]⟩
theorem Laid.step {A Ak : Cell} {lo k : Nat} {f : Nat → Value} {v : Value} (h : Laid A Ak lo k f) (hlo : lo ≤ k) (hk : k < Ak.slots.size) (hv : v = f k) : Laid A (Ak.setSlot k v) lo (k + 1) f := by
  refine ⟨h.1, h.2.1, by simpa [Cell.setSlot] using h.2.2.1, fun i => ?_⟩
  by_cases e : k = i
  · subst e; rw [Cell.slots_setSlot_self v hk, if_pos (by omega), hv]
  · rw [Cell.slots_setSlot_ne v e, h.2.2.2 i]
    by_cases q : lo ≤ i ∧ i < k
    · rw [if_pos q, if_pos (by omega)]
    · rw [if_neg q, if_neg (by omega)]
def U16 : String := "java/lang/StringUTF16"
namespace Cmp5
def yN : MethodName := ⟨"java/lang/StringUTF16", "compress", "([CI[BII)I"⟩
abbrev yB : ByteArray := jdk_52_method_21_code
theorem d0 : decode yB 0 = .ok (.iconst 0, 1) := by decide +kernel
theorem d1 : decode yB 1 = .ok (.istore 5, 2) := by decide +kernel
theorem d3 : decode yB 3 = .ok (.iload 5, 2) := by decide +kernel
theorem d5 : decode yB 5 = .ok (.iload 4, 2) := by decide +kernel
theorem d7 : decode yB 7 = .ok (.if_icmp (.ge) 37, 3) := by decide +kernel
theorem d10 : decode yB 10 = .ok (.aload_n 0, 1) := by decide +kernel
theorem d11 : decode yB 11 = .ok (.iload_n 1, 1) := by decide +kernel
theorem d12 : decode yB 12 = .ok (.caload, 1) := by decide +kernel
theorem d13 : decode yB 13 = .ok (.istore 6, 2) := by decide +kernel
theorem d15 : decode yB 15 = .ok (.iload 6, 2) := by decide +kernel
theorem d17 : decode yB 17 = .ok (.sipush 255, 3) := by decide +kernel
theorem d20 : decode yB 20 = .ok (.if_icmp (.le) 6, 3) := by decide +kernel
theorem d26 : decode yB 26 = .ok (.aload_n 2, 1) := by decide +kernel
theorem d27 : decode yB 27 = .ok (.iload_n 3, 1) := by decide +kernel
theorem d28 : decode yB 28 = .ok (.iload 6, 2) := by decide +kernel
theorem d30 : decode yB 30 = .ok (.i2b, 1) := by decide +kernel
theorem d31 : decode yB 31 = .ok (.bastore, 1) := by decide +kernel
theorem d32 : decode yB 32 = .ok (.iinc 1 1, 3) := by decide +kernel
theorem d35 : decode yB 35 = .ok (.iinc 3 1, 3) := by decide +kernel
theorem d38 : decode yB 38 = .ok (.iinc 5 1, 3) := by decide +kernel
theorem d41 : decode yB 41 = .ok (.goto (-38), 3) := by decide +kernel
theorem d44 : decode yB 44 = .ok (.iload 4, 2) := by decide +kernel
theorem d46 : decode yB 46 = .ok (.ireturn, 1) := by decide +kernel
def site : List Cond := []
def tab : Cond := tabOf yN yB 7 (some .int) site
def P (b : Addr) (A : Cell) (d : Addr) (B : Cell) (o q len : Nat) (args : Array Value) (s : State) : Prop := args = #[.ref b, .int (Int32.ofNat o), .ref d, .int (Int32.ofNat q), .int (Int32.ofNat len)] ∧ Ch b A s ∧ Arr .byte d B s ∧ b ≠ d ∧ o + len ≤ A.slots.size ∧ q + len ≤ B.slots.size ∧ ∀ i, i < len → ¬ 255 < cv A (o + i)
def E (b : Addr) (A : Cell) (d : Addr) (B : Cell) (o q len : Nat) (r : Option Value) (s u : State) : Prop := r = some (.int (Int32.ofNat len)) ∧ ∃ B', Put d B' s u ∧ Laid B B' q (q + len) (fun j => Value.int (lo8 (cv A (o + (j - q)))))
/-- no char of the range above 255: len; the places written hold each char's low byte -/
theorem law (l : Launch) (b : Addr) (A : Cell) (d : Addr) (B : Cell) (o q len : Nat) : Law l yN 5 5 0 0 yB 7 (some .int) site (P b A d B o q len) (E b A d B o q len) (copyLocs d q len) 0 0 := by
  refine Law.of_walk (plainFor_of_name (by decide +kernel)) (by decide +kernel) (by decide +kernel) (by decide) (fun _ _ h => by rw [h.1]; rfl) (fun _ U U' hal hh h => ⟨h.1, h.2.1.mv hal hh, h.2.2.1.mv hal hh, h.2.2.2⟩) (fun r U U' V V' h1 hal h2 h => ⟨h.1, h.2.elim fun B' q => ⟨B', q.1.mv h1 h2, q.2⟩⟩) ?_
  intro p e s m args below meth c s₁ X0 hexec hbytes hml hret hlk hnm hown hh0 W hP
  obtain ⟨rfl, hA, hB, hne, l1, l2, hp⟩ := hP
  have c1 : Steps p.tables e below (s₁.setTop (entryFrame m #[.ref b, .int (Int32.ofNat o), .ref d, .int (Int32.ofNat q), .int (Int32.ofNat len)] 7)) (s₁.setTop (mkF m 0 #[.val (.ref b), .val (.int (Int32.ofNat o)), .val (.ref d), .val (.int (Int32.ofNat q)), .val (.int (Int32.ofNat len)), .unset, .unset] [])) := entry rfl
  have hA0 := hA.1.mv X0.warmed.alike hh0
  have hB0 := hB.mv X0.warmed.alike hh0
  have a31 := hA.1.2.2.2
  have c2 : Steps p.tables e below (s₁.setTop (entryFrame m #[.ref b, .int (Int32.ofNat o), .ref d, .int (Int32.ofNat q), .int (Int32.ofNat len)] 7)) (s₁.setTop (mkF m 3 #[.val (.ref b), .val (.int (Int32.ofNat o)), .val (.ref d), .val (.int (Int32.ofNat q)), .val (.int (Int32.ofNat len)), .val (.int 0), .unset] [])) := c1.trans (by
    refine iconstV X0.here hexec rfl 0 (hb hbytes d0) (by decide) ?_
    refine XS.istore X0.here hexec rfl (hb hbytes d1) rfl rfl ?_
    exact Steps.refl _)
  have loop : ∀ (r i : Nat), i + r = len → ∀ (z : Slot), (z = .unset ∨ ∃ w, z = .val w ∧ w.category = 1) → ∀ (Tl : State) (Bk : Cell), Stand p l e { frames := 0, locals := 0, cells := 0, slots := 0 } s m #[.ref b, .int (Int32.ofNat o), .ref d, .int (Int32.ofNat q), .int (Int32.ofNat len)] below meth c Tl ([] ++ copyLocs d q i) 0 0 → Put d Bk s₁ Tl → Laid B Bk q (q + i) (fun j => Value.int (lo8 (cv A (o + (j - q))))) →
      Steps p.tables e below (s₁.setTop (entryFrame m #[.ref b, .int (Int32.ofNat o), .ref d, .int (Int32.ofNat q), .int (Int32.ofNat len)] 7)) (Tl.setTop (mkF m 3 #[.val (.ref b), .val (.int (Int32.ofNat (o + i))), .val (.ref d), .val (.int (Int32.ofNat (q + i))), .val (.int (Int32.ofNat len)), .val (.int (Int32.ofNat i)), z] [])) → ∃ (T' : State) (B' : Cell) (z' : Slot), Stand p l e { frames := 0, locals := 0, cells := 0, slots := 0 } s m #[.ref b, .int (Int32.ofNat o), .ref d, .int (Int32.ofNat q), .int (Int32.ofNat len)] below meth c T' ([] ++ copyLocs d q len) 0 0 ∧ Put d B' s₁ T' ∧ Laid B B' q (q + len) (fun j => Value.int (lo8 (cv A (o + (j - q))))) ∧
      Steps p.tables e below (s₁.setTop (entryFrame m #[.ref b, .int (Int32.ofNat o), .ref d, .int (Int32.ofNat q), .int (Int32.ofNat len)] 7)) (T'.setTop (mkF m 3 #[.val (.ref b), .val (.int (Int32.ofNat (o + len))), .val (.ref d), .val (.int (Int32.ofNat (q + len))), .val (.int (Int32.ofNat len)), .val (.int (Int32.ofNat len)), z'] [])) := by
    intro r
    induction r with
    | zero =>
      intro i hi z hz Tl Bk Xl pl fl cl
      have hil : i = len := by omega
      rw [hil] at Xl fl cl
      exact ⟨Tl, Bk, z, Xl, pl, fl, cl⟩
    | succ r ih =>
      intro i hi z hz Tl Bk Xl pl fl cl
      have all := X0.warmed.alike.symm.trans Xl.warmed.alike
      have hAl := hA0.keep all (pl.other hne hA0.1)
      have hBk := hB0.like all pl.1 fl.1 fl.2.1 fl.2.2.1
      have hlt : q + i < Bk.slots.size := by rw [fl.2.2.1]; omega
      have c3 : Steps p.tables e below (s₁.setTop (entryFrame m #[.ref b, .int (Int32.ofNat o), .ref d, .int (Int32.ofNat q), .int (Int32.ofNat len)] 7)) (Tl.setTop (mkF m 12 #[.val (.ref b), .val (.int (Int32.ofNat (o + i))), .val (.ref d), .val (.int (Int32.ofNat (q + i))), .val (.int (Int32.ofNat len)), .val (.int (Int32.ofNat i)), z] [.int (Int32.ofNat (o + i)), .ref b])) := cl.trans (by
        refine XS.iload Xl.here hexec rfl (hb hbytes d3) rfl ?_
        refine XS.iload Xl.here hexec rfl (hb hbytes d5) rfl ?_
        refine XS.icmpNo Xl.here hexec rfl (hb hbytes d7) rfl (ii_ge_f (lt32 (by omega) (by omega))) ?_
        refine XS.aloadN Xl.here hexec rfl (hb hbytes d10) rfl rfl ?_
        refine XS.iloadN Xl.here hexec rfl (hb hbytes d11) rfl ?_
        exact Steps.refl _)
      have c4 : Steps p.tables e below (s₁.setTop (entryFrame m #[.ref b, .int (Int32.ofNat o), .ref d, .int (Int32.ofNat q), .int (Int32.ofNat len)] 7)) (Tl.setTop (mkF m 13 #[.val (.ref b), .val (.int (Int32.ofNat (o + i))), .val (.ref d), .val (.int (Int32.ofNat (q + i))), .val (.int (Int32.ofNat len)), .val (.int (Int32.ofNat i)), z] [.int (cv A (o + i))])) := c3.trans (by
        refine Xl.aget hexec hAl rfl (hA.get (i := o + i) (by omega)) rfl rfl (hb hbytes d12) ?_
        exact Steps.refl _)
      have c5 : Steps p.tables e below (s₁.setTop (entryFrame m #[.ref b, .int (Int32.ofNat o), .ref d, .int (Int32.ofNat q), .int (Int32.ofNat len)] 7)) (Tl.setTop (mkF m 15 #[.val (.ref b), .val (.int (Int32.ofNat (o + i))), .val (.ref d), .val (.int (Int32.ofNat (q + i))), .val (.int (Int32.ofNat len)), .val (.int (Int32.ofNat i)), .val (.int (cv A (o + i)))] [])) := c4.trans (by
        refine XS.istoreS Xl.here hexec rfl (hb hbytes d13) rfl rfl hz ?_
        exact Steps.refl _)
      have c6 : Steps p.tables e below (s₁.setTop (entryFrame m #[.ref b, .int (Int32.ofNat o), .ref d, .int (Int32.ofNat q), .int (Int32.ofNat len)] 7)) (Tl.setTop (mkF m 31 #[.val (.ref b), .val (.int (Int32.ofNat (o + i))), .val (.ref d), .val (.int (Int32.ofNat (q + i))), .val (.int (Int32.ofNat len)), .val (.int (Int32.ofNat i)), .val (.int (cv A (o + i)))] [.int (lo8 (cv A (o + i))), .int (Int32.ofNat (q + i)), .ref d])) := c5.trans (by
        refine XS.iload Xl.here hexec rfl (hb hbytes d15) rfl ?_
        refine sipushV Xl.here hexec rfl 255 (hb hbytes d17) (by decide) ?_
        refine XS.icmpYes Xl.here hexec rfl (pc0 := 20) rfl (hb hbytes d20) rfl (ii_le_t (hp i (by omega))) (by decide) rfl ?_
        refine XS.aloadN Xl.here hexec rfl (hb hbytes d26) rfl rfl ?_
        refine XS.iloadN Xl.here hexec rfl (hb hbytes d27) rfl ?_
        refine XS.iload Xl.here hexec rfl (hb hbytes d28) rfl ?_
        refine i2b Xl.here hexec rfl (hb hbytes d30) rfl ?_
        exact Steps.refl _)
      obtain ⟨T7, X7, p7, st7⟩ := Xl.aput hexec hBk rfl hlt rfl (fits_lo8 (cv A (o + i))) (g := (mkF m 31 #[.val (.ref b), .val (.int (Int32.ofNat (o + i))), .val (.ref d), .val (.int (Int32.ofNat (q + i))), .val (.int (Int32.ofNat len)), .val (.int (Int32.ofNat i)), .val (.int (cv A (o + i)))] [.int (lo8 (cv A (o + i))), .int (Int32.ofNat (q + i)), .ref d])) rfl (rest := []) rfl (hb hbytes d31)
      have c8 : Steps p.tables e below (s₁.setTop (entryFrame m #[.ref b, .int (Int32.ofNat o), .ref d, .int (Int32.ofNat q), .int (Int32.ofNat len)] 7)) (T7.setTop (mkF m 32 #[.val (.ref b), .val (.int (Int32.ofNat (o + i))), .val (.ref d), .val (.int (Int32.ofNat (q + i))), .val (.int (Int32.ofNat len)), .val (.int (Int32.ofNat i)), .val (.int (cv A (o + i)))] [])) := c6.trans (st7 _ (Steps.refl _))
      have c9 : Steps p.tables e below (s₁.setTop (entryFrame m #[.ref b, .int (Int32.ofNat o), .ref d, .int (Int32.ofNat q), .int (Int32.ofNat len)] 7)) (T7.setTop (mkF m 3 #[.val (.ref b), .val (.int (Int32.ofNat (o + i) + 1)), .val (.ref d), .val (.int (Int32.ofNat (q + i) + 1)), .val (.int (Int32.ofNat len)), .val (.int (Int32.ofNat i + 1)), .val (.int (cv A (o + i)))] [])) := c8.trans (by
        refine iincV X7.here hexec rfl 1 (hb hbytes d32) (by decide) rfl rfl ?_
        refine iincV X7.here hexec rfl 1 (hb hbytes d35) (by decide) rfl rfl ?_
        refine iincV X7.here hexec rfl 1 (hb hbytes d38) (by decide) rfl rfl ?_
        refine XS.goto X7.here hexec rfl (pc0 := 41) rfl (hb hbytes d41) (by decide) rfl ?_
        exact Steps.refl _)
      have c10 : Steps p.tables e below (s₁.setTop (entryFrame m #[.ref b, .int (Int32.ofNat o), .ref d, .int (Int32.ofNat q), .int (Int32.ofNat len)] 7)) (T7.setTop (mkF m 3 #[.val (.ref b), .val (.int (Int32.ofNat (o + (i + 1)))), .val (.ref d), .val (.int (Int32.ofNat (q + (i + 1)))), .val (.int (Int32.ofNat len)), .val (.int (Int32.ofNat (i + 1))), .val (.int (cv A (o + i)))] [])) := by
        have := c9
        rw [succ32, succ32, succ32] at this
        exact this
      exact ih (i + 1) (by omega) _ (Or.inr ⟨_, rfl, rfl⟩) T7 _ (by rw [copyLocs_step, ← List.append_assoc]; exact X7) (pl.trans p7) (fl.step (by omega) hlt (by simp)) c10
  obtain ⟨T9, B9, z9, X9, p9, f9, g9⟩ := loop len 0 (by omega) .unset (Or.inl rfl) s₁ B (by simpa [copyLocs] using X0) ⟨hB0.1, fun _ _ => rfl, rfl⟩ (Laid.zero _ _ _) c2
  have c11 : Steps p.tables e below (s₁.setTop (entryFrame m #[.ref b, .int (Int32.ofNat o), .ref d, .int (Int32.ofNat q), .int (Int32.ofNat len)] 7)) (T9.setTop (mkF m 46 #[.val (.ref b), .val (.int (Int32.ofNat (o + len))), .val (.ref d), .val (.int (Int32.ofNat (q + len))), .val (.int (Int32.ofNat len)), .val (.int (Int32.ofNat len)), z9] [.int (Int32.ofNat len)])) := g9.trans (by
    refine XS.iload X9.here hexec rfl (hb hbytes d3) rfl ?_
    refine XS.iload X9.here hexec rfl (hb hbytes d5) rfl ?_
    refine XS.icmpYes X9.here hexec rfl (pc0 := 7) rfl (hb hbytes d7) rfl (ii_ge_t (nlt32 (by omega) (Nat.le_refl _))) (by decide) rfl ?_
    refine XS.iload X9.here hexec rfl (hb hbytes d44) rfl ?_
    exact Steps.refl _)
  exact ⟨T9, some (.int (Int32.ofNat len)), _, _, _, X9, by simp, rfl, rfl, (fun h => by cases h), ⟨rfl, B9, p9.from hh0, f9⟩, fun fs hl => c11.trans (X9.ireturnOut hexec hret rfl (Or.inl rfl) (hb hbytes d46) hl)⟩
end Cmp5
namespace Cmp3
def yN : MethodName := ⟨"java/lang/StringUTF16", "compress", "([CII)[B"⟩
abbrev yB : ByteArray := jdk_52_method_16_code
theorem d0 : decode yB 0 = .ok (.iload_n 2, 1) := by decide +kernel
theorem d1 : decode yB 1 = .ok (.newarray .byte, 2) := by decide +kernel
theorem d3 : decode yB 3 = .ok (.astore_n 3, 1) := by decide +kernel
theorem d4 : decode yB 4 = .ok (.aload_n 0, 1) := by decide +kernel
theorem d5 : decode yB 5 = .ok (.iload_n 1, 1) := by decide +kernel
theorem d6 : decode yB 6 = .ok (.aload_n 3, 1) := by decide +kernel
theorem d7 : decode yB 7 = .ok (.iconst 0, 1) := by decide +kernel
theorem d8 : decode yB 8 = .ok (.iload_n 2, 1) := by decide +kernel
theorem d9 : decode yB 9 = .ok (.invokestatic 115, 3) := by decide +kernel
theorem d12 : decode yB 12 = .ok (.istore 4, 2) := by decide +kernel
theorem d14 : decode yB 14 = .ok (.iload 4, 2) := by decide +kernel
theorem d16 : decode yB 16 = .ok (.iload_n 2, 1) := by decide +kernel
theorem d17 : decode yB 17 = .ok (.if_icmp (.eq) 40, 3) := by decide +kernel
theorem d57 : decode yB 57 = .ok (.aload_n 3, 1) := by decide +kernel
theorem d58 : decode yB 58 = .ok (.areturn, 1) := by decide +kernel
def site : List Cond := [.arrayClass .byte, Cmp5.tab] ++ staticW U16 115 Cmp5.yN
def tab : Cond := tabOf yN yB 6 (some (.array .byte)) site
def P (b : Addr) (A : Cell) (o len : Nat) (args : Array Value) (s : State) : Prop := args = #[.ref b, .int (Int32.ofNat o), .int (Int32.ofNat len)] ∧ Ch b A s ∧ o + len ≤ A.slots.size ∧ len ≤ 536870912 ∧ ∀ i, i < len → ¬ 255 < cv A (o + i)
def E (b : Addr) (A : Cell) (o len : Nat) (r : Option Value) (s u : State) : Prop := NewArr .byte "[B" len (fun j => .int (lo8 (cv A (o + j)))) r s u ∧ u.heap.size = s.heap.size + 1
/-- no char of the range above 255: a new byte[] of their low bytes -/
theorem law (l : Launch) (b : Addr) (A : Cell) (o len : Nat) : Law l yN 3 3 1 18 yB 6 (some (.array .byte)) site (P b A o len) (E b A o len) [] 1 len := by
  refine Law.of_walk (plainFor_of_name (by decide +kernel)) (by decide +kernel) (by decide +kernel) (by decide) (fun _ _ h => by rw [h.1]; rfl) (fun _ U U' hal hh h => ⟨h.1, h.2.1.mv hal hh, h.2.2⟩) (fun r U U' V V' h1 hal h2 h => ⟨NewArr.mv r U U' V V' h1 hal h2 h.1, by rw [h1, h2]; exact h.2⟩) ?_
  intro p e s m args below meth c s₁ X0 hexec hbytes hml hret hlk hnm hown hh0 W hP
  obtain ⟨rfl, hA, l1, l2, hp⟩ := hP
  have a31 := hA.1.2.2.2
  have c1 : Steps p.tables e below (s₁.setTop (entryFrame m #[.ref b, .int (Int32.ofNat o), .int (Int32.ofNat len)] 6)) (s₁.setTop (mkF m 0 #[.val (.ref b), .val (.int (Int32.ofNat o)), .val (.int (Int32.ofNat len)), .unset, .unset, .unset] [])) := entry rfl
  have c2 : Steps p.tables e below (s₁.setTop (entryFrame m #[.ref b, .int (Int32.ofNat o), .int (Int32.ofNat len)] 6)) (s₁.setTop (mkF m 1 #[.val (.ref b), .val (.int (Int32.ofNat o)), .val (.int (Int32.ofNat len)), .unset, .unset, .unset] [.int (Int32.ofNat len)])) := c1.trans (by
    refine XS.iloadN X0.here hexec rfl (hb hbytes d0) rfl ?_
    exact Steps.refl _)
  obtain ⟨T3, B3, X3, ba3, bs3, bv3, bh3, bf3, st3⟩ := X0.anew hexec (atype := .byte) (wk W (.arrayClass .byte)) rfl (by show len * 1 ≤ _; omega) (by omega) (g := (mkF m 1 #[.val (.ref b), .val (.int (Int32.ofNat o)), .val (.int (Int32.ofNat len)), .unset, .unset, .unset] [.int (Int32.ofNat len)])) rfl (hb hbytes d1) (rest := []) rfl (Nat.le_refl _) (by show 0 + len ≤ len; omega)
  rw [hh0] at ba3 st3
  have kp3 : XT.Kept s T3 := (XT.Kept.of_eq hh0).push bh3
  have hA3 := hA.keep X3.warmed.alike (kp3 _ _ hA.1.1)
  have hne : b ≠ s.heap.size := hA.1.ne
  have c4 : Steps p.tables e below (s₁.setTop (entryFrame m #[.ref b, .int (Int32.ofNat o), .int (Int32.ofNat len)] 6)) (T3.setTop (mkF m 3 #[.val (.ref b), .val (.int (Int32.ofNat o)), .val (.int (Int32.ofNat len)), .unset, .unset, .unset] [.ref s.heap.size])) := c2.trans (st3 _ (Steps.refl _))
  have c5 : Steps p.tables e below (s₁.setTop (entryFrame m #[.ref b, .int (Int32.ofNat o), .int (Int32.ofNat len)] 6)) (T3.setTop (mkF m 9 #[.val (.ref b), .val (.int (Int32.ofNat o)), .val (.int (Int32.ofNat len)), .val (.ref s.heap.size), .unset, .unset] [.int (Int32.ofNat len), .int 0, .ref s.heap.size, .int (Int32.ofNat o), .ref b])) := c4.trans (by
    refine XS.astoreN X3.here hexec rfl (hb hbytes d3) rfl rfl rfl ?_
    refine XS.aloadN X3.here hexec rfl (hb hbytes d4) rfl rfl ?_
    refine XS.iloadN X3.here hexec rfl (hb hbytes d5) rfl ?_
    refine XS.aloadN X3.here hexec rfl (hb hbytes d6) rfl rfl ?_
    refine iconstV X3.here hexec rfl 0 (hb hbytes d7) (by decide) ?_
    refine XS.iloadN X3.here hexec rfl (hb hbytes d8) rfl ?_
    exact Steps.refl _)
  obtain ⟨v6, T6, X6, E6, g6⟩ := X3.callS hexec (Cmp5.law l b A s.heap.size B3 o 0 len) hown (wks W (staticW U16 115 Cmp5.yN)) (wk W Cmp5.tab) (W := 0) (Nat.le_of_ble_eq_true rfl) (Nat.le_of_ble_eq_true rfl) (Nat.le_refl _) (by show 0 + len + 0 ≤ len; omega) (g := (mkF m 9 #[.val (.ref b), .val (.int (Int32.ofNat o)), .val (.int (Int32.ofNat len)), .val (.ref s.heap.size), .unset, .unset] [.int (Int32.ofNat len), .int (Int32.ofNat 0), .ref s.heap.size, .int (Int32.ofNat o), .ref b])) rfl (by rw [hml]; rfl) c5 (argsL := [.ref b, .int (Int32.ofNat o), .ref s.heap.size, .int (Int32.ofNat 0), .int (Int32.ofNat len)]) (rest := []) rfl rfl (by show 2 * 0 + 0 ≤ _; decide) (hb hbytes d9) (⟨rfl, hA3, ba3, hne, l1, by rw [bs3]; simp, hp⟩)
  obtain ⟨rfl, B6, p6, f6⟩ := E6
  have c7 : Steps p.tables e below (s₁.setTop (entryFrame m #[.ref b, .int (Int32.ofNat o), .int (Int32.ofNat len)] 6)) (T6.setTop (mkF m 12 #[.val (.ref b), .val (.int (Int32.ofNat o)), .val (.int (Int32.ofNat len)), .val (.ref s.heap.size), .unset, .unset] [.int (Int32.ofNat len)])) := g6
  have c8 : Steps p.tables e below (s₁.setTop (entryFrame m #[.ref b, .int (Int32.ofNat o), .int (Int32.ofNat len)] 6)) (T6.setTop (mkF m 58 #[.val (.ref b), .val (.int (Int32.ofNat o)), .val (.int (Int32.ofNat len)), .val (.ref s.heap.size), .val (.int (Int32.ofNat len)), .unset] [.ref s.heap.size])) := c7.trans (by
    refine XS.istore X6.here hexec rfl (hb hbytes d12) rfl rfl ?_
    refine XS.iload X6.here hexec rfl (hb hbytes d14) rfl ?_
    refine XS.iloadN X6.here hexec rfl (hb hbytes d16) rfl ?_
    refine XS.icmpYes X6.here hexec rfl (pc0 := 17) rfl (hb hbytes d17) rfl (ii_eq_t rfl) (by decide) rfl ?_
    refine XS.aloadN X6.here hexec rfl (hb hbytes d57) rfl rfl ?_
    exact Steps.refl _)
  have X8 := X6.wide (L' := []) (cells' := 1) (slots' := len) (fun x hx hlt => by
    simp only [List.nil_append, copyLocs, List.mem_map, List.mem_range] at hx
    obtain ⟨i, -, rfl⟩ := hx
    exact absurd hlt (Nat.lt_irrefl _)) (Nat.le_refl _) (by omega)
  exact ⟨T6, some (.ref s.heap.size), _, _, _, X8, rfl, rfl, rfl, (fun h => by cases h), ⟨⟨rfl, B6, ba3.like (X3.warmed.alike.symm.trans X6.warmed.alike) p6.1 f6.1 f6.2.1 f6.2.2.1, f6.2.1.trans bv3, by rw [X6.warmed.alike.findClass, f6.1]; exact bf3, by rw [f6.2.2.1, bs3]; simp, fun j hj => by rw [f6.2.2.2 j, if_pos (by omega)]; rfl, kp3.put p6 (Nat.le_refl _)⟩, by rw [p6.2.2, bh3, hh0]; simp⟩, fun fs hl => c8.trans (X8.areturnOut hexec rfl hret rfl (hb hbytes d58) hl)⟩
end Cmp3
namespace CodL
def yN : MethodName := ⟨"java/lang/StringUTF16", "coderFromArrayLen", "([BI)B"⟩
abbrev yB : ByteArray := jdk_52_method_15_code
theorem d0 : decode yB 0 = .ok (.iload_n 1, 1) := by decide +kernel
theorem d1 : decode yB 1 = .ok (.aload_n 0, 1) := by decide +kernel
theorem d2 : decode yB 2 = .ok (.arraylength, 1) := by decide +kernel
theorem d3 : decode yB 3 = .ok (.isub, 1) := by decide +kernel
theorem d4 : decode yB 4 = .ok (.bipush 31, 2) := by decide +kernel
theorem d6 : decode yB 6 = .ok (.iushr, 1) := by decide +kernel
theorem d7 : decode yB 7 = .ok (.i2b, 1) := by decide +kernel
theorem d8 : decode yB 8 = .ok (.ireturn, 1) := by decide +kernel
def site : List Cond := []
def tab : Cond := tabOf yN yB 2 (some .byte) site
def P (d : Addr) (B : Cell) (args : Array Value) (s : State) : Prop := args = #[.ref d, .int (Int32.ofNat B.slots.size)] ∧ Arr .byte d B s
def E (r : Option Value) (s u : State) : Prop := XT.PureE (some (.int 0)) r s u
/-- an array as long as the number of chars: LATIN1 -/
theorem law (l : Launch) (d : Addr) (B : Cell) : Law l yN 2 2 0 0 yB 2 (some .byte) site (P d B) E [] 0 0 := by
  refine Law.of_walk (plainFor_of_name (by decide +kernel)) (by decide +kernel) (by decide +kernel) (by decide) (fun _ _ h => by rw [h.1]; rfl) (fun _ U U' hal hh h => ⟨h.1, h.2.mv hal hh⟩) (fun r U U' V V' h1 hal h2 h => XT.PureE.mv r U U' V V' h1 hal h2 h) ?_
  intro p e s m args below meth c s₁ X0 hexec hbytes hml hret hlk hnm hown hh0 W hP
  obtain ⟨rfl, hB⟩ := hP
  have hB0 := hB.mv X0.warmed.alike hh0
  have c1 : Steps p.tables e below (s₁.setTop (entryFrame m #[.ref d, .int (Int32.ofNat B.slots.size)] 2)) (s₁.setTop (mkF m 0 #[.val (.ref d), .val (.int (Int32.ofNat B.slots.size))] [])) := entry rfl
  have c2 : Steps p.tables e below (s₁.setTop (entryFrame m #[.ref d, .int (Int32.ofNat B.slots.size)] 2)) (s₁.setTop (mkF m 2 #[.val (.ref d), .val (.int (Int32.ofNat B.slots.size))] [.ref d, .int (Int32.ofNat B.slots.size)])) := c1.trans (by
    refine XS.iloadN X0.here hexec rfl (hb hbytes d0) rfl ?_
    refine XS.aloadN X0.here hexec rfl (hb hbytes d1) rfl rfl ?_
    exact Steps.refl _)
  have c3 : Steps p.tables e below (s₁.setTop (entryFrame m #[.ref d, .int (Int32.ofNat B.slots.size)] 2)) (s₁.setTop (mkF m 8 #[.val (.ref d), .val (.int (Int32.ofNat B.slots.size))] [.int (lo8 (ushr (Int32.ofNat B.slots.size - Int32.ofNat B.slots.size) 31))])) := c2.trans (by
    refine X0.alen hexec hB0 rfl rfl (hb hbytes d2) ?_
    refine XS.isub X0.here hexec rfl (hb hbytes d3) rfl ?_
    refine bipushV X0.here hexec rfl 31 (hb hbytes d4) (by decide) ?_
    refine iushr X0.here hexec rfl (hb hbytes d6) rfl ?_
    refine i2b X0.here hexec rfl (hb hbytes d7) rfl ?_
    exact Steps.refl _)
  have e0 : lo8 (ushr (Int32.ofNat B.slots.size - Int32.ofNat B.slots.size) 31) = 0 := by rw [Int32.sub_self]; decide
  rw [e0] at c3
  exact ⟨s₁, some (.int 0), _, _, _, X0, rfl, rfl, rfl, (fun h => by cases h), ⟨rfl, hh0⟩, fun fs hl => c3.trans (X0.ireturnOut hexec hret rfl (Or.inr (Or.inr (Or.inl rfl))) (hb hbytes d8) hl)⟩
end CodL
/-- the String at a is Latin-1 over a new byte[] (the heap's one new cell): the low bytes of the len chars of A from o on; every cell but a is kept -/
def Got (a : Addr) (D : Cell) (fV fC : Field) (A : Cell) (o len : Nat) (r : Option Value) (s u : State) : Prop := r = none ∧ ∃ D' V : Cell, Blank "java/lang/String" a D' u ∧ Same D D' [fV.slot, fC.slot] ∧ D'.slots[fV.slot]? = some (.ref s.heap.size) ∧ D'.slots[fC.slot]? = some (.int 0) ∧ Arr .byte s.heap.size V u ∧ V.vm = .none ∧ u.vm.findClass "[B" = some V.cls ∧ V.slots.size = len ∧ (∀ j, j < len → V.slots[j]? = some (.int (lo8 (cv A (o + j))))) ∧ (∀ (y : Addr) (c : Cell), y ≠ a → s.heap[y]? = some c → u.heap[y]? = some c) ∧ u.heap.size = s.heap.size + 1
theorem Got.mv {a : Addr} {D A : Cell} {fV fC : Field} {o len : Nat} : ∀ r (U U' V V' : State), U'.heap = U.heap → V.vm.Alike V'.vm → V'.heap = V.heap → Got a D fV fC A o len r U V → Got a D fV fC A o len r U' V' :=
  fun r U U' V V' h1 hal h2 ⟨e0, D', X, a1, a2, a3, a4, a5, a6, a7, a8, a9, a10, a11⟩ => ⟨e0, D', X, a1.mv hal h2, a2, by rw [h1]; exact a3, a4, by rw [h1]; exact a5.mv hal h2, a6, by rw [hal.findClass]; exact a7, a8, a9, by rw [h1, h2]; exact a10, by rw [h1, h2]; exact a11⟩
namespace New4
def yN : MethodName := ⟨"java/lang/String", "<init>", "([CIILjava/lang/Void;)V"⟩
abbrev yB : ByteArray := jdk_42_method_149_code
theorem d0 : decode yB 0 = .ok (.aload_n 0, 1) := by decide +kernel
theorem d1 : decode yB 1 = .ok (.invokespecial 1, 3) := by decide +kernel
theorem d4 : decode yB 4 = .ok (.iload_n 3, 1) := by decide +kernel
theorem d5 : decode yB 5 = .ok (.ifCond (.ne) 22, 3) := by decide +kernel
theorem d27 : decode yB 27 = .ok (.getstatic 38, 3) := by decide +kernel
theorem d30 : decode yB 30 = .ok (.ifCond (.eq) 28, 3) := by decide +kernel
theorem d33 : decode yB 33 = .ok (.aload_n 1, 1) := by decide +kernel
theorem d34 : decode yB 34 = .ok (.iload_n 2, 1) := by decide +kernel
theorem d35 : decode yB 35 = .ok (.iload_n 3, 1) := by decide +kernel
theorem d36 : decode yB 36 = .ok (.invokestatic 177, 3) := by decide +kernel
theorem d39 : decode yB 39 = .ok (.astore 5, 2) := by decide +kernel
theorem d41 : decode yB 41 = .ok (.aload_n 0, 1) := by decide +kernel
theorem d42 : decode yB 42 = .ok (.aload 5, 2) := by decide +kernel
theorem d44 : decode yB 44 = .ok (.iload_n 3, 1) := by decide +kernel
theorem d45 : decode yB 45 = .ok (.invokestatic 47, 3) := by decide +kernel
theorem d48 : decode yB 48 = .ok (.putfield 15, 3) := by decide +kernel
theorem d51 : decode yB 51 = .ok (.aload_n 0, 1) := by decide +kernel
theorem d52 : decode yB 52 = .ok (.aload 5, 2) := by decide +kernel
theorem d54 : decode yB 54 = .ok (.putfield 9, 3) := by decide +kernel
theorem d57 : decode yB 57 = .ok (.return_, 1) := by decide +kernel
def site : List Cond := [.fieldLink "java/lang/String" 38 "java/lang/String" "COMPACT_STRINGS" "Z", Cmp3.tab, CodL.tab, .laysFinal "java/lang/String" "java/lang/String" "value" "[B", .fieldLink "java/lang/String" 9 "java/lang/String" "value" "[B", .laysFinal "java/lang/String" "java/lang/String" "coder" "B", .fieldLink "java/lang/String" 15 "java/lang/String" "coder" "B"] ++ objW "java/lang/String" 1 ++ staticW "java/lang/String" 177 Cmp3.yN ++ staticW "java/lang/String" 47 CodL.yN
def tab : Cond := tabOf yN yB 6 none site
def P (a : Addr) (D : Cell) (fV fC : Field) (b : Addr) (A : Cell) (z : Int32) (o len : Nat) (args : Array Value) (s : State) : Prop := args = #[.ref a, .ref b, .int (Int32.ofNat o), .int (Int32.ofNat len), .null] ∧ Blank "java/lang/String" a D s ∧ Found "java/lang/String" "value" "[B" fV s ∧ Found "java/lang/String" "coder" "B" fC s ∧ Ch b A s ∧ StaticIs s "java/lang/String" "COMPACT_STRINGS" "Z" (.int z) ∧ ¬ z = 0 ∧ 0 < len ∧ o + len ≤ A.slots.size ∧ len ≤ 536870912 ∧ ∀ i, i < len → ¬ 255 < cv A (o + i)
def E (a : Addr) (D : Cell) (fV fC : Field) (A : Cell) (o len : Nat) (r : Option Value) (s u : State) : Prop := Got a D fV fC A o len r s u
/-- len > 0, no char of the range above 255: a Latin-1 String of their low bytes -/
theorem law (l : Launch) (a : Addr) (D : Cell) (fV fC : Field) (b : Addr) (A : Cell) (z : Int32) (o len : Nat) : Law l yN 5 4 2 35 yB 6 none site (P a D fV fC b A z o len) (E a D fV fC A o len) [⟨a, fC.slot⟩, ⟨a, fV.slot⟩] 1 len := by
  refine Law.of_walk (plainFor_of_name (by decide +kernel)) (by decide +kernel) (by decide +kernel) (by decide) (fun _ _ h => by rw [h.1]; rfl) (fun _ U U' hal hh h => ⟨h.1, h.2.1.mv hal hh, h.2.2.1.al hal, h.2.2.2.1.al hal, h.2.2.2.2.1.mv hal hh, h.2.2.2.2.2.1.there hal hh, h.2.2.2.2.2.2⟩) (fun r U U' V V' h1 hal h2 h => Got.mv r U U' V V' h1 hal h2 h) ?_
  intro p e s m args below meth c s₁ X0 hexec hbytes hml hret hlk hnm hown hh0 W hP
  obtain ⟨rfl, hB, f1, f2, hA, s1, hz, l0, l1, l2, hp⟩ := hP
  have a31 := hA.1.2.2.2
  have c1 : Steps p.tables e below (s₁.setTop (entryFrame m #[.ref a, .ref b, .int (Int32.ofNat o), .int (Int32.ofNat len), .null] 6)) (s₁.setTop (mkF m 0 #[.val (.ref a), .val (.ref b), .val (.int (Int32.ofNat o)), .val (.int (Int32.ofNat len)), .val .null, .unset] [])) := entry rfl
  have c2 : Steps p.tables e below (s₁.setTop (entryFrame m #[.ref a, .ref b, .int (Int32.ofNat o), .int (Int32.ofNat len), .null] 6)) (s₁.setTop (mkF m 1 #[.val (.ref a), .val (.ref b), .val (.int (Int32.ofNat o)), .val (.int (Int32.ofNat len)), .val .null, .unset] [.ref a])) := c1.trans (by
    refine XS.aloadN X0.here hexec rfl (hb hbytes d0) rfl rfl ?_
    exact Steps.refl _)
  obtain ⟨T3, X3, q3, st3⟩ := X0.oinit hexec hown (wks W (objW "java/lang/String" 1)) (g := (mkF m 1 #[.val (.ref a), .val (.ref b), .val (.int (Int32.ofNat o)), .val (.int (Int32.ofNat len)), .val .null, .unset] [.ref a])) rfl (by rw [hml]; rfl) (rest := []) rfl (hb hbytes d1) (W := 0) (by show 2 * 0 + 0 ≤ _; decide) (Nat.le_of_ble_eq_true rfl) (Nat.le_of_ble_eq_true rfl)
  have hh3 := q3.trans hh0
  have c4 : Steps p.tables e below (s₁.setTop (entryFrame m #[.ref a, .ref b, .int (Int32.ofNat o), .int (Int32.ofNat len), .null] 6)) (T3.setTop (mkF m 27 #[.val (.ref a), .val (.ref b), .val (.int (Int32.ofNat o)), .val (.int (Int32.ofNat len)), .val .null, .unset] [])) := (c2.trans (st3 _ (Steps.refl _))).trans (by
    refine XS.iloadN X3.here hexec rfl (hb hbytes d4) rfl ?_
    refine XS.ifYes X3.here hexec rfl (pc0 := 5) rfl (hb hbytes d5) rfl (i0_ne_t (nz32 (by omega) l0)) (by decide) rfl ?_
    exact Steps.refl _)
  obtain ⟨T5, X5, q5, st5⟩ := X3.sget hexec hown (wk W (.fieldLink "java/lang/String" 38 "java/lang/String" "COMPACT_STRINGS" "Z")) s1 (fun _ _ h => by rw [hh3]; exact h) (g := (mkF m 27 #[.val (.ref a), .val (.ref b), .val (.int (Int32.ofNat o)), .val (.int (Int32.ofNat len)), .val .null, .unset] [])) rfl (hb hbytes d27)
  have hh5 := q5.trans hh3
  have c6 : Steps p.tables e below (s₁.setTop (entryFrame m #[.ref a, .ref b, .int (Int32.ofNat o), .int (Int32.ofNat len), .null] 6)) (T5.setTop (mkF m 30 #[.val (.ref a), .val (.ref b), .val (.int (Int32.ofNat o)), .val (.int (Int32.ofNat len)), .val .null, .unset] [.int z])) := c4.trans (st5 _ (Steps.refl _))
  have c7 : Steps p.tables e below (s₁.setTop (entryFrame m #[.ref a, .ref b, .int (Int32.ofNat o), .int (Int32.ofNat len), .null] 6)) (T5.setTop (mkF m 36 #[.val (.ref a), .val (.ref b), .val (.int (Int32.ofNat o)), .val (.int (Int32.ofNat len)), .val .null, .unset] [.int (Int32.ofNat len), .int (Int32.ofNat o), .ref b])) := c6.trans (by
    refine XS.ifNo X5.here hexec rfl (hb hbytes d30) rfl (i0_eq_f hz) ?_
    refine XS.aloadN X5.here hexec rfl (hb hbytes d33) rfl rfl ?_
    refine XS.iloadN X5.here hexec rfl (hb hbytes d34) rfl ?_
    refine XS.iloadN X5.here hexec rfl (hb hbytes d35) rfl ?_
    exact Steps.refl _)
  obtain ⟨v8, T8, X8, E8, g8⟩ := X5.callS hexec (Cmp3.law l b A o len) hown (wks W (staticW "java/lang/String" 177 Cmp3.yN)) (wk W Cmp3.tab) (W := 0) (Nat.le_of_ble_eq_true rfl) (Nat.le_of_ble_eq_true rfl) (Nat.le_refl _) (by show 0 + len ≤ len; omega) (g := (mkF m 36 #[.val (.ref a), .val (.ref b), .val (.int (Int32.ofNat o)), .val (.int (Int32.ofNat len)), .val .null, .unset] [.int (Int32.ofNat len), .int (Int32.ofNat o), .ref b])) rfl (by rw [hml]; rfl) c7 (argsL := [.ref b, .int (Int32.ofNat o), .int (Int32.ofNat len)]) (rest := []) rfl rfl (by show 2 * 0 + 0 ≤ _; decide) (hb hbytes d36) (⟨rfl, hA.mv X5.warmed.alike hh5, l1, l2, hp⟩)
  obtain ⟨e8, z8⟩ := E8
  obtain ⟨rfl, N, n1, n2, n3, n4, n5, n6⟩ := NewArr.mv _ T5 s _ _ hh5.symm (Vm.Alike.refl _) rfl e8
  rw [hh5] at z8
  have hB1 := hB.keep X8.warmed.alike (n6 _ _ hB.1)
  have hne : s.heap.size ≠ a := (Nat.ne_of_lt (Array.getElem?_eq_some_iff.mp hB.1).1).symm
  have c9 : Steps p.tables e below (s₁.setTop (entryFrame m #[.ref a, .ref b, .int (Int32.ofNat o), .int (Int32.ofNat len), .null] 6)) (T8.setTop (mkF m 39 #[.val (.ref a), .val (.ref b), .val (.int (Int32.ofNat o)), .val (.int (Int32.ofNat len)), .val .null, .unset] [.ref s.heap.size])) := g8
  have c10 : Steps p.tables e below (s₁.setTop (entryFrame m #[.ref a, .ref b, .int (Int32.ofNat o), .int (Int32.ofNat len), .null] 6)) (T8.setTop (mkF m 45 #[.val (.ref a), .val (.ref b), .val (.int (Int32.ofNat o)), .val (.int (Int32.ofNat len)), .val .null, .val (.ref s.heap.size)] [.int (Int32.ofNat N.slots.size), .ref s.heap.size, .ref a])) := by
    have hc : Steps p.tables e below (s₁.setTop (entryFrame m #[.ref a, .ref b, .int (Int32.ofNat o), .int (Int32.ofNat len), .null] 6)) (T8.setTop (mkF m 45 #[.val (.ref a), .val (.ref b), .val (.int (Int32.ofNat o)), .val (.int (Int32.ofNat len)), .val .null, .val (.ref s.heap.size)] [.int (Int32.ofNat len), .ref s.heap.size, .ref a])) := c9.trans (by
      refine XS.astore X8.here hexec rfl (hb hbytes d39) rfl rfl rfl ?_
      refine XS.aloadN X8.here hexec rfl (hb hbytes d41) rfl rfl ?_
      refine XS.aload X8.here hexec rfl (hb hbytes d42) rfl rfl ?_
      refine XS.iloadN X8.here hexec rfl (hb hbytes d44) rfl ?_
      exact Steps.refl _)
    rw [n4]; exact hc
  obtain ⟨v11, T11, X11, E11, g11⟩ := X8.callS hexec (CodL.law l s.heap.size N) hown (wks W (staticW "java/lang/String" 47 CodL.yN)) (wk W CodL.tab) (W := 1) (Nat.le_of_ble_eq_true rfl) (Nat.le_of_ble_eq_true rfl) (Nat.le_refl _) (by show 0 + len + 0 ≤ len; omega) (g := (mkF m 45 #[.val (.ref a), .val (.ref b), .val (.int (Int32.ofNat o)), .val (.int (Int32.ofNat len)), .val .null, .val (.ref s.heap.size)] [.int (Int32.ofNat N.slots.size), .ref s.heap.size, .ref a])) rfl (by rw [hml]; rfl) c10 (argsL := [.ref s.heap.size, .int (Int32.ofNat N.slots.size)]) (rest := [.ref a]) rfl rfl (by show 2 * 0 + (1 + 0) ≤ _; decide) (hb hbytes d45) (⟨rfl, n1⟩)
  obtain ⟨rfl, q11⟩ := E11
  have hB11 := hB1.mv (X8.warmed.alike.symm.trans X11.warmed.alike) q11
  have c12 : Steps p.tables e below (s₁.setTop (entryFrame m #[.ref a, .ref b, .int (Int32.ofNat o), .int (Int32.ofNat len), .null] 6)) (T11.setTop (mkF m 48 #[.val (.ref a), .val (.ref b), .val (.int (Int32.ofNat o)), .val (.int (Int32.ofNat len)), .val .null, .val (.ref s.heap.size)] [.int 0, .ref a])) := g11
  obtain ⟨T13, X13, p13, bl13, sl13, st13⟩ := X11.finit hexec hown (wk W (.fieldLink "java/lang/String" 15 "java/lang/String" "coder" "B")) (Or.inr ⟨_, (wk W (.laysFinal "java/lang/String" "java/lang/String" "coder" "B"))⟩) (Or.inl ⟨rfl, hnm⟩) f2 (Or.inl rfl) hB11 (t := .byte) (by decide +kernel) rfl (g := (mkF m 48 #[.val (.ref a), .val (.ref b), .val (.int (Int32.ofNat o)), .val (.int (Int32.ofNat len)), .val .null, .val (.ref s.heap.size)] [.int 0, .ref a])) rfl (rest := []) rfl (hb hbytes d48)
  have c14 : Steps p.tables e below (s₁.setTop (entryFrame m #[.ref a, .ref b, .int (Int32.ofNat o), .int (Int32.ofNat len), .null] 6)) (T13.setTop (mkF m 54 #[.val (.ref a), .val (.ref b), .val (.int (Int32.ofNat o)), .val (.int (Int32.ofNat len)), .val .null, .val (.ref s.heap.size)] [.ref s.heap.size, .ref a])) := (c12.trans (st13 _ (Steps.refl _))).trans (by
    refine XS.aloadN X13.here hexec rfl (hb hbytes d51) rfl rfl ?_
    refine XS.aload X13.here hexec rfl (hb hbytes d52) rfl rfl ?_
    exact Steps.refl _)
  obtain ⟨T15, X15, p15, bl15, sl15, st15⟩ := X13.finit hexec hown (wk W (.fieldLink "java/lang/String" 9 "java/lang/String" "value" "[B")) (Or.inr ⟨_, (wk W (.laysFinal "java/lang/String" "java/lang/String" "value" "[B"))⟩) (Or.inl ⟨rfl, hnm⟩) f1 (Or.inl rfl) bl13 (t := (.array .byte)) (by decide +kernel) rfl (g := (mkF m 54 #[.val (.ref a), .val (.ref b), .val (.int (Int32.ofNat o)), .val (.int (Int32.ofNat len)), .val .null, .val (.ref s.heap.size)] [.ref s.heap.size, .ref a])) rfl (rest := []) rfl (hb hbytes d54)
  have c16 : Steps p.tables e below (s₁.setTop (entryFrame m #[.ref a, .ref b, .int (Int32.ofNat o), .int (Int32.ofNat len), .null] 6)) (T15.setTop (mkF m 57 #[.val (.ref a), .val (.ref b), .val (.int (Int32.ofNat o)), .val (.int (Int32.ofNat len)), .val .null, .val (.ref s.heap.size)] [])) := c14.trans (st15 _ (Steps.refl _))
  have ap := apart (Or.inr ⟨_, (wk W (.laysFinal "java/lang/String" "java/lang/String" "value" "[B"))⟩) (Or.inr ⟨_, (wk W (.laysFinal "java/lang/String" "java/lang/String" "coder" "B"))⟩) f1 f2 (t₁ := .array .byte) (t₂ := .byte) (by decide +kernel) (by decide +kernel) (by decide)
  have al := X8.warmed.alike.symm.trans X15.warmed.alike
  have n7 : T11.heap[s.heap.size]? = some N := by rw [q11]; exact n1.1
  exact ⟨T15, none, _, _, _, X15, by simp, rfl, by omega, (fun _ => rfl), ⟨rfl, _, N, bl15, ((Same.refl D _).set _ (by simp)).set _ (by simp), sl15, (Cell.slots_setSlot_ne _ ap).trans sl13, n1.keep al (p15.other hne (p13.other hne n7)), n2, by rw [al.findClass]; exact n3, n4, n5, fun y c h1 h2 => p15.other h1 (p13.other h1 (by rw [q11]; exact n6 y c h2)), by rw [p15.2.2, p13.2.2, q11]; exact z8⟩, fun fs hl => c16.trans (X15.returnOut hexec hret (hb hbytes d57) hl)⟩
end New4
namespace New1
def yN : MethodName := ⟨"java/lang/String", "<init>", "([C)V"⟩
abbrev yB : ByteArray := jdk_42_method_3_code
theorem d0 : decode yB 0 = .ok (.aload_n 0, 1) := by decide +kernel
theorem d1 : decode yB 1 = .ok (.aload_n 1, 1) := by decide +kernel
theorem d2 : decode yB 2 = .ok (.iconst 0, 1) := by decide +kernel
theorem d3 : decode yB 3 = .ok (.aload_n 1, 1) := by decide +kernel
theorem d4 : decode yB 4 = .ok (.arraylength, 1) := by decide +kernel
theorem d5 : decode yB 5 = .ok (.aconst_null, 1) := by decide +kernel
theorem d6 : decode yB 6 = .ok (.invokespecial 27, 3) := by decide +kernel
theorem d9 : decode yB 9 = .ok (.return_, 1) := by decide +kernel
def site : List Cond := [New4.tab] ++ initW "java/lang/String" 27 New4.yN
def tab : Cond := tabOf yN yB 2 none site
def P (a : Addr) (D : Cell) (fV fC : Field) (b : Addr) (A : Cell) (z : Int32) (args : Array Value) (s : State) : Prop := args = #[.ref a, .ref b] ∧ Blank "java/lang/String" a D s ∧ Found "java/lang/String" "value" "[B" fV s ∧ Found "java/lang/String" "coder" "B" fC s ∧ Ch b A s ∧ StaticIs s "java/lang/String" "COMPACT_STRINGS" "Z" (.int z) ∧ ¬ z = 0 ∧ 0 < A.slots.size ∧ A.slots.size ≤ 536870912 ∧ ∀ i, i < A.slots.size → ¬ 255 < cv A i
def E (a : Addr) (D : Cell) (fV fC : Field) (A : Cell) (r : Option Value) (s u : State) : Prop := Got a D fV fC A 0 A.slots.size r s u
/-- new String(chars), not empty, no char above 255: a Latin-1 String of their low bytes -/
theorem law (l : Launch) (a : Addr) (D : Cell) (fV fC : Field) (b : Addr) (A : Cell) (z : Int32) : Law l yN 2 1 3 52 yB 2 none site (P a D fV fC b A z) (E a D fV fC A) [⟨a, fC.slot⟩, ⟨a, fV.slot⟩] 1 A.slots.size := by
  refine Law.of_walk (plainFor_of_name (by decide +kernel)) (by decide +kernel) (by decide +kernel) (by decide) (fun _ _ h => by rw [h.1]; rfl) (fun _ U U' hal hh h => ⟨h.1, h.2.1.mv hal hh, h.2.2.1.al hal, h.2.2.2.1.al hal, h.2.2.2.2.1.mv hal hh, h.2.2.2.2.2.1.there hal hh, h.2.2.2.2.2.2⟩) (fun r U U' V V' h1 hal h2 h => Got.mv r U U' V V' h1 hal h2 h) ?_
  intro p e s m args below meth c s₁ X0 hexec hbytes hml hret hlk hnm hown hh0 W hP
  obtain ⟨rfl, hB, f1, f2, hA, s1, hz, l0, l2, hp⟩ := hP
  have c1 : Steps p.tables e below (s₁.setTop (entryFrame m #[.ref a, .ref b] 2)) (s₁.setTop (mkF m 0 #[.val (.ref a), .val (.ref b)] [])) := entry rfl
  have c2 : Steps p.tables e below (s₁.setTop (entryFrame m #[.ref a, .ref b] 2)) (s₁.setTop (mkF m 6 #[.val (.ref a), .val (.ref b)] [.null, .int (Int32.ofNat A.slots.size), .int 0, .ref b, .ref a])) := c1.trans (by
    refine XS.aloadN X0.here hexec rfl (hb hbytes d0) rfl rfl ?_
    refine XS.aloadN X0.here hexec rfl (hb hbytes d1) rfl rfl ?_
    refine iconstV X0.here hexec rfl 0 (hb hbytes d2) (by decide) ?_
    refine XS.aloadN X0.here hexec rfl (hb hbytes d3) rfl rfl ?_
    refine X0.alen hexec (hA.1.mv X0.warmed.alike hh0) rfl rfl (hb hbytes d4) ?_
    refine XS.aconstNull X0.here hexec rfl (hb hbytes d5) ?_
    exact Steps.refl _)
  obtain ⟨v3, T3, X3, E3, g3⟩ := X0.callN hexec (New4.law l a D fV fC b A z 0 A.slots.size) rfl hown (wks W (initW "java/lang/String" 27 New4.yN)) (W New4.tab (by simp only [site, List.mem_cons, List.mem_append, true_or, or_true])) (W := 0) (Nat.le_of_ble_eq_true rfl) (Nat.le_of_ble_eq_true rfl) (Nat.le_refl _) (by show 0 + A.slots.size ≤ A.slots.size; omega) (g := (mkF m 6 #[.val (.ref a), .val (.ref b)] [.null, .int (Int32.ofNat A.slots.size), .int (Int32.ofNat 0), .ref b, .ref a])) rfl (by rw [hml]; rfl) c2 (argsL := [.ref b, .int (Int32.ofNat 0), .int (Int32.ofNat A.slots.size), .null]) (rest := []) rfl rfl (by show 2 * 0 + 0 ≤ _; decide) (hb hbytes d6) (⟨rfl, hB.mv X0.warmed.alike hh0, f1.al X0.warmed.alike, f2.al X0.warmed.alike, hA.mv X0.warmed.alike hh0, s1.there X0.warmed.alike hh0, hz, l0, by omega, l2, fun i hi => by rw [Nat.zero_add]; exact hp i hi⟩)
  have e0 := Got.mv _ s₁ s _ _ hh0.symm (Vm.Alike.refl _) rfl E3
  obtain rfl := e0.1
  have c4 : Steps p.tables e below (s₁.setTop (entryFrame m #[.ref a, .ref b] 2)) (T3.setTop (mkF m 9 #[.val (.ref a), .val (.ref b)] [])) := g3
  exact ⟨T3, none, _, _, _, X3, by simp, rfl, by omega, (fun _ => rfl), e0, fun fs hl => c4.trans (X3.returnOut hexec hret (hb hbytes d9) hl)⟩
theorem pays {l : Launch} {R : Room} {p : Program} {e : Env} {below : List Frame} {s : State} {sargs : Array Value} {len W : Nat} (a : Addr) (D : Cell) (fV fC : Field) (b : Addr) (A : Cell) (z : Int32) (htab : tab.before sargs s = true) (hfr : 4 ≤ R.frames) (hlo : W + 65 ≤ R.locals) :
    Back l R p e below s sargs yN len W (fun A₁ a₁ => A₁.cells + 1 ≤ R.cells ∧ A₁.slots + A.slots.size ≤ R.slots ∧ P a D fV fC b A z a₁ A₁.U) (fun A₁ _ v₁ B₁ => E a D fV fC A v₁ A₁.U B₁.U ∧ B₁.locs = A₁.locs ++ [⟨a, fC.slot⟩, ⟨a, fV.slot⟩] ∧ B₁.cells = A₁.cells + 1 ∧ B₁.slots = A₁.slots + A.slots.size) :=
  (law l a D fV fC b A z).pays htab hfr (by omega)
end New1
/-- the byte, read back as charAt reads it, is the char -/
theorem lo8_mask {x : Int32} (h0 : ¬ x < 0) (h1 : ¬ 255 < x) : lo8 x &&& 255 = x := by
  have t : ∀ k : Fin 256, lo8 (Int32.ofNat k.val) &&& 255 = Int32.ofNat k.val := by decide +kernel
  rw [Int32.lt_iff_toInt_lt] at h0 h1
  have e0 : (0 : Int32).toInt = 0 := rfl
  have e1 : (255 : Int32).toInt = 255 := rfl
  obtain ⟨k, hk⟩ : ∃ k : Nat, x.toInt = k := ⟨x.toInt.toNat, by omega⟩
  have hx : x = Int32.ofNat k := Int32.toInt_inj.mp (by rw [hk, Int32.toInt_ofNat_small (by omega)])
  rw [hx]
  exact t ⟨k, by omega⟩
end StrChars
namespace StrChars.Road
open Jvm Sem ClassFile Op Lib Jvm.Stand Jvm.Free Jvm.Free.XT
open Jvm.Lib.Cold (StaticIs)
abbrev ST : String := "java/lang/String"
/-- every table word that New1's law asks, flat -/
abbrev words : List Jvm.Cond := [.code New1.yN New1.yB 2 none, .initialized ST, .methodLink ST 27 New4.yN, .instanceMethod New4.yN,
  .code New4.yN New4.yB 6 none, .fieldLink ST 38 ST "COMPACT_STRINGS" "Z", .laysFinal ST ST "value" "[B", .fieldLink ST 9 ST "value" "[B", .laysFinal ST ST "coder" "B", .fieldLink ST 15 ST "coder" "B",
  .methodLink ST 1 Lib.objectInit, .instanceMethod Lib.objectInit, .code Lib.objectInit ⟨#[0xb1]⟩ 1 none, .methodLink ST 177 Cmp3.yN, .static Cmp3.yN, .methodLink ST 47 CodL.yN, .static CodL.yN,
  .code Cmp3.yN Cmp3.yB 6 (some (.array .byte)), .initialized U16, .arrayClass .byte, .methodLink U16 115 Cmp5.yN, .static Cmp5.yN, .code Cmp5.yN Cmp5.yB 7 (some .int), .code CodL.yN CodL.yB 2 (some .byte)]
theorem tab_of {a : Array Value} {s : State} (h : ∀ w ∈ words, w.before a s = true) : New1.tab.before a s = true := by
  have h5 : Cmp5.tab.before a s = true := unparts (wk h (.code Cmp5.yN Cmp5.yB 7 (some .int))) (wks h (.initialized Cmp5.yN.cls :: Cmp5.site))
  have hc : CodL.tab.before a s = true := unparts (wk h (.code CodL.yN CodL.yB 2 (some .byte))) (wks h (.initialized CodL.yN.cls :: CodL.site))
  have q5 : ∀ w ∈ Cmp5.tab :: words, w.before a s = true := fun w hw => (List.mem_cons.mp hw).elim (fun e => e ▸ h5) (h w)
  have h3 : Cmp3.tab.before a s = true := unparts (wk q5 (.code Cmp3.yN Cmp3.yB 6 (some (.array .byte)))) (wks q5 (.initialized Cmp3.yN.cls :: Cmp3.site))
  have q3 : ∀ w ∈ Cmp3.tab :: CodL.tab :: words, w.before a s = true := fun w hw => (List.mem_cons.mp hw).elim (fun e => e ▸ h3) fun hw => (List.mem_cons.mp hw).elim (fun e => e ▸ hc) (h w)
  have h4 : New4.tab.before a s = true := unparts (wk q3 (.code New4.yN New4.yB 6 none)) (wks q3 (.initialized New4.yN.cls :: New4.site))
  have q4 : ∀ w ∈ New4.tab :: words, w.before a s = true := fun w hw => (List.mem_cons.mp hw).elim (fun e => e ▸ h4) (h w)
  exact unparts (wk q4 (.code New1.yN New1.yB 2 none)) (wks q4 (.initialized New1.yN.cls :: New1.site))
/-- the words ride from the start Z to the walk's own state -/
theorem moved {Z s : State} {a0 args : Array Value} (hZ : Z.Warmed39 s.vm) (hw : ∀ d ∈ words, d.before a0 Z = true) : ∀ d ∈ words, d.before args s = true := fun d hd => by
  have q := hw d hd
  have t : ∀ d ∈ words, d = .arrayClass .byte ∨ (d.onTables && d.keepsFace) = true := by decide +kernel
  rcases t d hd with rfl | t
  · exact RoadKit.mvA hZ q
  · exact RoadKit.mv hZ q t
/-- WHAT COMES BACK, over the tables of the start Z: h the heap at the call, h' behind it -/
def Q (Z : State) (x : Addr) (A : Cell) (h : Heap) (v : Option Value) (h' : Heap) (L : List Loc) : Prop := v = none ∧ (∀ y ∈ L, y.base = x) ∧ RoadKit.Keep h h' [x] ∧ h'.size = h.size + 1 ∧ RoadKit.Exa Z h' x ST ∧ RoadKit.Fld Z h' x ST "value" "[B" (.ref h.size) ∧ RoadKit.Fld Z h' x ST "coder" "B" (.int 0) ∧
  (∃ V : Cell, RoadKit.Arr Z h' h.size V .byte ∧ V.vm = .none ∧ Z.vm.findClass "[B" = some V.cls ∧ V.slots.size = A.slots.size ∧ ∀ j, j < A.slots.size → V.slots[j]? = some (.int (lo8 (cv A j)))) ∧
  ∀ (O n d : String) (w : Value), RoadKit.Fld Z h x O n d w → RoadKit.slotOf Z O n d ≠ RoadKit.slotOf Z ST "value" "[B" → RoadKit.slotOf Z O n d ≠ RoadKit.slotOf Z ST "coder" "B" → RoadKit.Fld Z h' x O n d w
/-- **new String(chars) AT A CALL, IN THE ROAD'S FORM**: for specialBack behind newO: x the fresh String, b the char[] with the cell A -/
theorem back {p : Program} {l : Launch} {e : Env} {R : Room} {s : State} {args : Array Value} {below : List Frame} {len W : Nat} {Z : State} {a0 : Array Value} {h : Heap} (hZ : Z.Warmed39 s.vm) (hw : ∀ d ∈ words, d.before a0 Z = true) {kI : Nat} (wi : (Jvm.Cond.instantiable ST kI).before a0 Z = true)
    {x b : Addr} {A : Cell} {z : Int32} {v0 c0 : Value} (E : RoadKit.Exa Z h x ST) (V : RoadKit.Fld Z h x ST "value" "[B" v0) (C : RoadKit.Fld Z h x ST "coder" "B" c0) (K : RoadKit.Arr Z h b A .char) (hty : Typed .char A) (S : RoadKit.Sta Z h ST "COMPACT_STRINGS" "Z" (.int z)) (hz : ¬ z = 0)
    (l0 : 0 < A.slots.size) (l2 : A.slots.size ≤ 536870912) (hp : ∀ i, i < A.slots.size → ¬ 255 < cv A i) (hfr : 4 ≤ R.frames) (hlo : W + 65 ≤ R.locals) :
    Back l R p e below s args New1.yN len W (fun P a => a = #[.ref x, .ref b] ∧ P.U.heap = h ∧ P.cells + 1 ≤ R.cells ∧ P.slots + A.slots.size ≤ R.slots)
      (fun P _ v B => ∃ L, Q Z x A h v B.U.heap L ∧ B.locs = P.locs ++ L ∧ B.cells = P.cells + 1 ∧ B.slots = P.slots + A.slots.size) := by
  intro m meth c P g ig mk a X hg hsize hdg hW hn hp'
  obtain ⟨rfl, rfl, r1, r2⟩ := hp'
  have al : Z.vm.Alike P.U.vm := hZ.alike.trans X.warmed.alike
  obtain ⟨D, cfV, kV, iV, fV, hD, gV, stV, knV, obV, asV, slV⟩ := id V
  obtain ⟨D', cfC, kC, iC, fC, hD', gC, stC, -, -, asC, slC⟩ := id C
  cases hD.symm.trans hD'
  obtain ⟨D2, kD, e1, e2, e3, e4, e5⟩ := id E
  cases hD.symm.trans e1
  obtain ⟨c2, k2, i1, i2, i3, -⟩ := Cond.instantiable_spec wi
  cases e2.symm.trans i1
  cases e3.symm.trans i2
  obtain ⟨kU, u1, u2⟩ := al.2.2 _ _ e3
  have hB : Blank ST x D P.U := ⟨hD, ⟨knV, fun q hq => by rw [hq] at obV; cases obV⟩, by rw [al.findClass]; exact e2, kU, u1, by rw [u2]; exact i3, by rw [u2]; exact e5 i3⟩
  have F1 : Found ST "value" "[B" fV P.U := ⟨SBG.found_only al ⟨cfV, kV, iV, gV⟩, stV⟩
  have F2 : Found ST "coder" "B" fC P.U := ⟨SBG.found_only al ⟨cfC, kC, iC, gC⟩, stC⟩
  have hA : Ch b A P.U := ⟨⟨K.1, State.isArrayOf_alike al K.2.1, K.2.2, by omega⟩, hty⟩
  have hS : StaticIs P.U ST "COMPACT_STRINGS" "Z" (.int z) := by
    obtain ⟨cfS, iS, kS, fS, st, cS, t1, t2, t3, t4, t5, t6, t7⟩ := S
    exact StaticIs.there (s := { Z with heap := P.U.heap }) ⟨cfS, iS, kS, fS, st, cS, t1, t2, t3, t4, t5, (fun q => by rw [q] at t6; cases t6), t7⟩ al rfl
  obtain ⟨v, B, X', ⟨⟨hv, E', V', q1, q2, q3, q4, q5, q6, q7, q8, q9, q10, q11⟩, hl, hc, hs⟩, st⟩ := New1.pays x D fV fC b A z (tab_of (moved hZ hw)) hfr hlo m meth c P g ig mk _ X hg hsize hdg hW hn ⟨r1, r2, rfl, hB, F1, F2, hA, hS, hz, l0, l2, hp⟩
  have al' : Z.vm.Alike B.U.vm := hZ.alike.trans X'.warmed.alike
  have hsz : E'.slots.size = D.slots.size := by
    obtain ⟨-, -, -, kB, w1, w2, w3⟩ := q1
    obtain ⟨kB', y1, y2⟩ := al'.2.2 _ _ e3
    rw [q2.2.1] at w1
    cases w1.symm.trans y1
    rw [w3, e5 i3, y2]
  refine ⟨v, B, X', ⟨_, ⟨hv, ?_, ⟨by omega, fun y cy hy hn' => q10 y cy (by simpa using hn') hy, fun y cy hy => ?_⟩, q11, ⟨E', _, q1.1, by rw [q2.2.1]; exact e2, by rw [q2.2.1]; exact e3, by rw [q2.1]; exact obV, fun _ => by rw [hsz]; exact e5 i3⟩,
    ⟨E', cfV, kV, iV, fV, q1.1, gV, stV, by rw [q2.1]; exact knV, by rw [q2.1]; exact obV, by rw [q2.2.1]; exact asV, q3⟩, ⟨E', cfC, kC, iC, fC, q1.1, gC, stC, by rw [q2.1]; exact knV, by rw [q2.1]; exact obV, by rw [q2.2.1]; exact asC, q4⟩,
    ⟨V', ⟨q5.1, State.isArrayOf_alike al'.symm q5.2.1, q5.2.2.1⟩, q6, by rw [← al'.findClass]; exact q7, q8, fun j hj => by have := q9 j hj; rwa [Nat.zero_add] at this⟩, fun O n d w F n1 n2 => ?_⟩, hl, hc, hs⟩, st⟩
  · intro y hy
    simp only [List.mem_cons, List.not_mem_nil, or_false] at hy
    rcases hy with rfl | rfl <;> rfl
  · by_cases q : y = x
    · subst q
      cases hD.symm.trans hy
      exact ⟨E', q1.1, q2.2.1, q2.1, hsz⟩
    · exact ⟨cy, q10 y cy q hy, rfl, rfl, rfl⟩
  · obtain ⟨D3, cf, k, i, f, g1, g2, g3, g4, g5, g6, g7⟩ := F
    cases hD.symm.trans g1
    simp only [RoadKit.slotOf, g2, gV, gC, Option.map_some, Option.getD_some] at n1 n2
    exact ⟨E', cf, k, i, f, q1.1, g2, g3, by rw [q2.1]; exact g4, by rw [q2.1]; exact g5, by rw [q2.2.1]; exact g6, by rw [q2.2.2 f.slot (by simp [n1, n2])]; exact g7⟩
end StrChars.Road
namespace StrChars.Road
open Jvm Sem ClassFile Op Lib Jvm.Stand Jvm.Free Jvm.Free.XT
/-- WHAT COMES BACK, the byte[] as a list of values -/
def QA (Z : State) (x : Addr) (zn : Int32) (cs : List Int32) (h : Heap) (v : Option Value) (h' : Heap) (L : List Loc) : Prop := v = none ∧ (∀ y ∈ L, y.base = x) ∧ RoadKit.Keep h h' [x] ∧ h'.size = h.size + 1 ∧ RoadKit.Exa Z h' x ST ∧ RoadKit.Fld Z h' x ST "value" "[B" (.ref h.size) ∧ RoadKit.Fld Z h' x ST "coder" "B" (.int 0) ∧
  (∃ kb, Z.vm.findClass "[B" = some kb ∧ RoadKit.Arv Z h' h.size kb .byte zn (cs.map fun c => .int (lo8 c)) (.int 0)) ∧
  ∀ (O n d : String) (w : Value), RoadKit.Fld Z h x O n d w → RoadKit.slotOf Z O n d ≠ RoadKit.slotOf Z ST "value" "[B" → RoadKit.slotOf Z O n d ≠ RoadKit.slotOf Z ST "coder" "B" → RoadKit.Fld Z h' x O n d w
/-- **new String(chars) AT A CALL, THE ARRAYS AS LISTS**: the char[] at b holds cs, not empty, no char above 255 -/
theorem backArv {p : Program} {l : Launch} {e : Env} {R : Room} {s : State} {args : Array Value} {below : List Frame} {len W : Nat} {Z : State} {a0 : Array Value} {h : Heap} (hZ : Z.Warmed39 s.vm) (hw : ∀ d ∈ words, d.before a0 Z = true) {kI : Nat} (wi : (Jvm.Cond.instantiable ST kI).before a0 Z = true)
    {x b : Addr} {k : ClassId} {zn z : Int32} {cs : List Int32} {dv v0 c0 : Value} (E : RoadKit.Exa Z h x ST) (V : RoadKit.Fld Z h x ST "value" "[B" v0) (C : RoadKit.Fld Z h x ST "coder" "B" c0) (K : RoadKit.Arv Z h b k .char zn (cs.map Value.int) dv) (S : RoadKit.Sta Z h ST "COMPACT_STRINGS" "Z" (.int z)) (hz : ¬ z = 0)
    (hlen : zn.toNatClampNeg = cs.length) (h0 : 0 < cs.length) (hbig : cs.length ≤ 536870912) (hall : ∀ c ∈ cs, ¬ 255 < c) (hfr : 4 ≤ R.frames) (hlo : W + 65 ≤ R.locals) :
    Back l R p e below s args New1.yN len W (fun P a => a = #[.ref x, .ref b] ∧ P.U.heap = h ∧ P.cells + 1 ≤ R.cells ∧ P.slots + cs.length ≤ R.slots)
      (fun P _ v B => ∃ L, QA Z x zn cs h v B.U.heap L ∧ B.locs = P.locs ++ L ∧ B.cells = P.cells + 1 ∧ B.slots = P.slots + cs.length) := by
  obtain ⟨A, K1, K2, K3, K4, K5, K6⟩ := K
  have e : A.slots.size = cs.length := K3.trans hlen
  have hat : ∀ (i : Nat) (hi : i < cs.length), A.slots[i]? = some (.int cs[i]) := fun i hi => by rw [K5 i (by omega)]; simp [List.getD_eq_getElem?_getD, hi]
  have hcv : ∀ (i : Nat) (hi : i < cs.length), cv A i = cs[i] := fun i hi => by unfold cv; rw [hat i hi]
  have hty : Typed .char A := fun i v hv => by
    have hi : i < A.slots.size := (Array.getElem?_eq_some_iff.mp hv).1
    have q := K5 i hi
    rw [hv] at q
    rw [Option.some.inj q]
    exact K6 i hi
  refine Back.mono (back hZ hw wi E V C K1 hty S hz (by omega) (by omega) (fun i hi => by rw [hcv i (by omega)]; exact hall _ (List.getElem_mem _)) hfr hlo) (fun P a hp => ⟨hp.1, hp.2.1, hp.2.2.1, by rw [e]; exact hp.2.2.2⟩) (fun P a v B hp hq => ?_)
  obtain ⟨L, ⟨q1, q2, q3, q4, q5, q6, q7, ⟨V', v1, v2, v3, v4, v5⟩, q9⟩, hl, hc, hs⟩ := hq
  refine ⟨L, ⟨q1, q2, q3, q4, q5, q6, q7, ⟨V'.cls, v3, V', v1, rfl, by rw [v4, e, hlen], K4, fun i hi => ?_, fun i hi => ?_⟩, q9⟩, hl, hc, by rw [hs, e]⟩
  · have hi' : i < cs.length := by omega
    rw [v5 i (by omega), hcv i hi']; simp [List.getD_eq_getElem?_getD, hi']
  · have hi' : i < cs.length := by omega
    simp only [List.getD_eq_getElem?_getD, List.getElem?_map, List.getElem?_eq_getElem hi', Option.map_some, Option.getD_some]
    exact fits_lo8 _
end StrChars.Road
namespace StrChars.Road
open Jvm Sem ClassFile Op Lib Jvm.Stand Jvm.Free Jvm.Free.XT
/-- WHAT COMES BACK, in the writer's own shape -/
def QV (Z : State) (x : Addr) (N : Int32) (bs : List Int32) (h : Heap) (n0 : Nat) (v : Option Value) (h' : Heap) (L : List Loc) : Prop := v = none ∧ RoadKit.Fr n0 L ∧ RoadKit.Keep h h' [x] ∧ RoadKit.Exa Z h' x ST ∧ RoadKit.Fld Z h' x ST "coder" "B" (.int 0) ∧
  ∃ (t : Addr) (kb : ClassId), n0 ≤ t ∧ h.size ≤ t ∧ ¬ t = x ∧ RoadKit.Fld Z h' x ST "value" "[B" (.ref t) ∧ RoadKit.Arv Z h' t kb .byte N (bs.map Value.int) (.int 0)
/-- **new String(chars) AT A CALL, FOR THE WRITER**: a char[] of n known ints, each 0 to 255 -/
theorem backV {p : Program} {l : Launch} {e : Env} {R : Room} {s : State} {args : Array Value} {below : List Frame} {len W : Nat} {Z : State} {a0 : Array Value} {h : Heap} (hZ : Z.Warmed39 s.vm) (hw : ∀ d ∈ words, d.before a0 Z = true) {kI : Nat} (wi : (Jvm.Cond.instantiable ST kI).before a0 Z = true)
    {x b : Addr} {kC : ClassId} {cs bs : List Int32} {d v0 c0 : Value} {z N : Int32} {n n0 : Nat} (hx0 : n0 ≤ x) (hh0 : n0 ≤ h.size) (E : RoadKit.Exa Z h x ST) (V : RoadKit.Fld Z h x ST "value" "[B" v0) (C : RoadKit.Fld Z h x ST "coder" "B" c0) (K : RoadKit.Arv Z h b kC .char N (cs.map Value.int) d) (S : RoadKit.Sta Z h ST "COMPACT_STRINGS" "Z" (.int z)) (hz : ¬ z = 0)
    (hn : cs.length = n) (hN : N = Int32.ofNat n) (l0 : 0 < n) (l2 : n ≤ 4000) (hp : ∀ c ∈ cs, ¬ c < 0 ∧ ¬ (255 : Int32) < c) (hb : bs = cs.map (fun c => c.toInt8.toInt32)) (hfr : 4 ≤ R.frames) (hlo : W + 65 ≤ R.locals) :
    Back l R p e below s args (⟨"java/lang/String", "<init>", "([C)V"⟩ : MethodName) len W (fun P a => a = #[.ref x, .ref b] ∧ P.U.heap = h ∧ P.cells + 1 ≤ R.cells ∧ P.slots + n ≤ R.slots)
      (fun P _ v B => ∃ L, QV Z x N bs h n0 v B.U.heap L ∧ B.locs = P.locs ++ L ∧ B.cells = P.cells + 1 ∧ B.slots = P.slots + n) := by
  subst hn hN hb
  refine Back.mono (backArv hZ hw wi E V C K S hz (n32 (by omega)) l0 (by omega) (fun c hc => (hp c hc).2) hfr hlo) (fun P a hp => hp) (fun P a v B hp hq => ?_)
  obtain ⟨L, ⟨q1, q2, q3, q4, q5, q6, q7, ⟨kb, v1, v2⟩, q9⟩, hl, hc, hs⟩ := hq
  exact ⟨L, ⟨q1, fun y hy => by rw [q2 y hy]; exact hx0, q3, q5, q7, h.size, kb, hh0, Nat.le_refl _, Nat.ne_of_gt E.lt, q6, by rw [List.map_map]; exact v2⟩, hl, hc, hs⟩
end StrChars.Road
namespace StrChars
open Jvm Sem ClassFile Op Lib Jvm.Stand Jvm.Free.XT Jvm.Free.ALB Jvm.Free.JM Jvm.Free
open Jvm.Lib.Cold (StaticIs)
def hi8 (x : Int32) : Int32 := lo8 (x >>> ((8 : Int32) &&& 31))
/-- what StringUTF16.getChar makes of two bytes -/
def pairCh (u v : Int32) : Int32 := (((u &&& 255) <<< ((0 : Int32) &&& 31)) ||| ((v &&& 255) <<< ((8 : Int32) &&& 31))).toUInt32.toUInt16.toUInt32.toInt32
theorem shr0 (c : Int32) : c >>> ((0 : Int32) &&& 31) = c := by
  have e : ((0 : Int32) &&& 31) = 0 := by decide
  rw [e]
  apply Int32.toBitVec_inj.mp
  rw [Int32.toBitVec_shiftRight]
  have e1 : ((0 : Int32).toBitVec.smod 32) = 0#32 := by decide
  rw [e1, BitVec.sshiftRight_eq']
  exact BitVec.sshiftRight_zero
theorem lo8_and (x : Int32) : (lo8 x &&& 255).toBitVec.toNat = x.toBitVec.toNat % 256 := by
  have h : (lo8 x).toBitVec = (x.toBitVec.signExtend 8).signExtend 32 := by rw [lo8, Int8.toBitVec_toInt32, Int32.toBitVec_toInt8]
  rw [Int32.toBitVec_and, BitVec.toNat_and, h]
  have e : ((x.toBitVec.signExtend 8).signExtend 32).toNat % 256 = x.toBitVec.toNat % 256 := by
    rw [BitVec.toNat_signExtend]
    have hlt := x.toBitVec.isLt
    simp only [BitVec.toNat_setWidth, BitVec.toNat_signExtend]
    split <;> split <;> omega
  rw [← e]
  exact Nat.and_two_pow_sub_one_eq_mod _ 8
theorem pair_says {c : Int32} (h0 : ¬ c < 0) (h1 : ¬ 65535 < c) : pairCh (lo8 c) (hi8 c) = c := by
  rw [Int32.lt_iff_toInt_lt] at h0 h1
  have e0 : (0 : Int32).toInt = 0 := rfl
  have e1 : (65535 : Int32).toInt = 65535 := rfl
  have hc : c.toInt = c.toBitVec.toNat := by
    have := c.toBitVec.isLt
    have e : c.toInt = c.toBitVec.toInt := rfl
    rw [e] at h0 h1
    rw [e]
    rw [BitVec.toInt_eq_toNat_cond] at h0 h1 ⊢
    split at h0 <;> split <;> omega
  have hn : c.toBitVec.toNat < 65536 := by omega
  have a1 := lo8_and c
  have a2 : (hi8 c &&& 255).toBitVec.toNat = c.toBitVec.toNat / 256 := by
    rw [hi8, lo8_and]
    have e : ((8 : Int32) &&& 31) = 8 := by decide
    rw [e, Int32.toBitVec_shiftRight]
    have e2 : ((8 : Int32).toBitVec.smod 32) = 8#32 := by decide
    rw [e2, BitVec.sshiftRight_eq', BitVec.toNat_sshiftRight_of_msb_false (by rw [BitVec.msb_eq_false_iff_two_mul_lt]; omega)]
    show c.toBitVec.toNat >>> 8 % 256 = _
    rw [Nat.shiftRight_eq_div_pow]
    omega
  unfold pairCh
  apply Int32.toBitVec_inj.mp
  apply BitVec.eq_of_toNat_eq
  have f0 : ((0 : Int32) &&& 31) = 0 := by decide
  have f8 : ((8 : Int32) &&& 31) = 8 := by decide
  rw [f0, f8]
  have g : (((lo8 c &&& 255) <<< (0 : Int32)) ||| ((hi8 c &&& 255) <<< (8 : Int32))).toBitVec.toNat = c.toBitVec.toNat := by
    rw [Int32.toBitVec_or, Int32.toBitVec_shiftLeft, Int32.toBitVec_shiftLeft]
    have s0 : ((0 : Int32).toBitVec.smod 32) = 0#32 := by decide
    have s8 : ((8 : Int32).toBitVec.smod 32) = 8#32 := by decide
    rw [s0, s8, BitVec.toNat_or]
    simp only [BitVec.shiftLeft_eq', BitVec.toNat_shiftLeft, a1, a2]
    show (c.toBitVec.toNat % 256) <<< 0 % 2 ^ 32 ||| (c.toBitVec.toNat / 256) <<< 8 % 2 ^ 32 = _
    rw [Nat.shiftLeft_zero, Nat.mod_eq_of_lt (show c.toBitVec.toNat % 256 < 2 ^ 32 by omega), Nat.mod_eq_of_lt (show (c.toBitVec.toNat / 256) <<< 8 < 2 ^ 32 by rw [Nat.shiftLeft_eq]; omega), Nat.or_comm, ← Nat.shiftLeft_add_eq_or_of_lt (by omega), Nat.shiftLeft_eq]
    omega
  show BitVec.toNat (((((lo8 c &&& 255) <<< (0 : Int32)) ||| ((hi8 c &&& 255) <<< (8 : Int32))).toBitVec.setWidth 16).setWidth 32) = _
  rw [BitVec.toNat_setWidth, BitVec.toNat_setWidth, g]
  omega
end StrChars
namespace StrChars
open Jvm Sem ClassFile Op Lib Jvm.Stand Jvm.Free.XT Jvm.Free.ALB Jvm.Free.JM Jvm.Free
open Jvm.Lib.Cold (StaticIs)
theorem shr1 {n : Nat} (h : 2 * n < 2 ^ 31) : Int32.ofNat (2 * n) >>> ((1 : Int32) &&& 31) = Int32.ofNat n := by
  have e : ((1 : Int32) &&& 31) = 1 := by decide
  rw [e]
  apply Int32.toBitVec_inj.mp
  rw [Int32.toBitVec_shiftRight]
  have e1 : ((1 : Int32).toBitVec.smod 32) = 1#32 := by decide
  have hm : (BitVec.ofNat 32 (2 * n)).toNat = 2 * n := by rw [BitVec.toNat_ofNat, Nat.mod_eq_of_lt (by omega)]
  rw [e1, BitVec.sshiftRight_eq']
  apply BitVec.eq_of_toNat_eq
  show ((BitVec.ofNat 32 (2 * n)).sshiftRight 1).toNat = (BitVec.ofNat 32 n).toNat
  rw [BitVec.toNat_sshiftRight_of_msb_false (by rw [BitVec.msb_eq_false_iff_two_mul_lt, hm]; omega), hm, BitVec.toNat_ofNat, Nat.shiftRight_eq_div_pow]
  omega
/-- charAt's cast of a byte read back -/
def chr8 (u : Int32) : Int32 := (u &&& 255).toUInt32.toUInt16.toUInt32.toInt32
theorem chr8_lo8 {c : Int32} (h0 : ¬ c < 0) (h1 : ¬ 255 < c) : chr8 (lo8 c) = c := by
  have t : ∀ k : Fin 256, (Int32.ofNat k.val).toUInt32.toUInt16.toUInt32.toInt32 = Int32.ofNat k.val := by decide +kernel
  unfold chr8
  rw [lo8_mask h0 h1]
  rw [Int32.lt_iff_toInt_lt] at h0 h1
  have e0 : (0 : Int32).toInt = 0 := rfl
  have e1 : (255 : Int32).toInt = 255 := rfl
  obtain ⟨k, hk⟩ : ∃ k : Nat, c.toInt = k := ⟨c.toInt.toNat, by omega⟩
  have hx : c = Int32.ofNat k := Int32.toInt_inj.mp (by rw [hk, Int32.toInt_ofNat_small (by omega)])
  rw [hx]
  exact t ⟨k, by omega⟩
theorem narrow_ch {c : Int32} (h0 : ¬ c < 0) (h1 : ¬ 65535 < c) : narrow .char (.int c) = .int c := by
  have q : narrow .char (.int (pairCh (lo8 c) (hi8 c))) = .int (pairCh (lo8 c) (hi8 c)) := narrow_c _
  rwa [pair_says h0 h1] at q
/-- the array's cell V codes the n chars f 0 .. f (n - 1) by the coder cd, as the JDK does: coder 1 just where some char is above 255 -/
def Cod (cd : Int32) (n : Nat) (f : Nat → Int32) (V : Cell) : Prop := (cd = 0 ∧ V.slots.size = n ∧ ∀ j, j < n → V.slots[j]? = some (.int (lo8 (f j))) ∧ ¬ 255 < f j) ∨ (cd = 1 ∧ V.slots.size = 2 * n ∧ (∀ j, j < n → V.slots[2 * j]? = some (.int (lo8 (f j))) ∧ V.slots[2 * j + 1]? = some (.int (hi8 (f j)))) ∧ ∃ j, j < n ∧ 255 < f j)
theorem Cod.cd {cd : Int32} {n : Nat} {f : Nat → Int32} {V : Cell} (h : Cod cd n f V) : cd = 0 ∨ cd = 1 := h.imp (fun q => q.1) fun q => q.1
theorem Cod.len {cd : Int32} {n : Nat} {f : Nat → Int32} {V : Cell} (h : Cod cd n f V) (hs : V.slots.size < 2 ^ 31) : Int32.ofNat V.slots.size >>> (cd &&& 31) = Int32.ofNat n := by
  rcases h with ⟨rfl, h, -⟩ | ⟨rfl, h, -⟩
  · rw [shr0, h]
  · rw [h, shr1 (by omega)]
/-- **x is a String of the n chars f 0 .. f (n - 1)**, Latin-1 or UTF-16; its array at t has the cell V -/
def Txt (x t : Addr) (V : Cell) (cd : Int32) (n : Nat) (f : Nat → Int32) (U : State) : Prop := Exact "java/lang/String" x U ∧ Has x "java/lang/String" "value" "[B" (.ref t) U ∧ Has x "java/lang/String" "coder" "B" (.int cd) U ∧ XT.Arr .byte t V U ∧ Cod cd n f V ∧ ∀ j, j < n → ¬ f j < 0 ∧ ¬ 65535 < f j
theorem Txt.mv {x t : Addr} {V : Cell} {cd : Int32} {n : Nat} {f : Nat → Int32} {U U' : State} (h : Txt x t V cd n f U) (hal : U.vm.Alike U'.vm) (hh : U'.heap = U.heap) : Txt x t V cd n f U' := ⟨h.1.mv hal hh, h.2.1.mv hal hh, h.2.2.1.mv hal hh, h.2.2.2.1.mv hal hh, h.2.2.2.2⟩
namespace Cdr
def yN : MethodName := ⟨"java/lang/String", "coder", "()B"⟩
abbrev yB : ByteArray := jdk_42_method_152_code
theorem d0 : decode yB 0 = .ok (.getstatic 38, 3) := by decide +kernel
theorem d3 : decode yB 3 = .ok (.ifCond (.eq) 10, 3) := by decide +kernel
theorem d6 : decode yB 6 = .ok (.aload_n 0, 1) := by decide +kernel
theorem d7 : decode yB 7 = .ok (.getfield 15, 3) := by decide +kernel
theorem d10 : decode yB 10 = .ok (.goto 4, 3) := by decide +kernel
theorem d14 : decode yB 14 = .ok (.ireturn, 1) := by decide +kernel
def site : List Cond := [.fieldLink "java/lang/String" 38 "java/lang/String" "COMPACT_STRINGS" "Z", .fieldLink "java/lang/String" 15 "java/lang/String" "coder" "B"]
def tab : Cond := tabOf yN yB 1 (some .byte) site
def P (x : Addr) (cd z : Int32) (args : Array Value) (s : State) : Prop := args = #[.ref x] ∧ Has x "java/lang/String" "coder" "B" (.int cd) s ∧ (cd = 0 ∨ cd = 1) ∧ StaticIs s "java/lang/String" "COMPACT_STRINGS" "Z" (.int z) ∧ ¬ z = 0
def E (cd : Int32) (r : Option Value) (s u : State) : Prop := XT.PureE (some (.int cd)) r s u
theorem law (l : Launch) (x : Addr) (cd z : Int32) : Law l yN 1 0 0 0 yB 1 (some .byte) site (P x cd z) (E cd) [] 0 0 := by
  refine Law.of_walk (plainFor_of_name (by decide +kernel)) (by decide +kernel) (by decide +kernel) (by decide) (fun _ _ h => by rw [h.1]; rfl) (fun _ U U' hal hh h => ⟨h.1, h.2.1.mv hal hh, h.2.2.1, h.2.2.2.1.there hal hh, h.2.2.2.2⟩) (fun r U U' V V' h1 hal h2 h => XT.PureE.mv r U U' V V' h1 hal h2 h) ?_
  intro p e s m args below meth c s₁ X0 hexec hbytes hml hret hlk hnm hown hh0 W hP
  obtain ⟨rfl, hx, hc, s1, hz⟩ := hP
  have c1 : Steps p.tables e below (s₁.setTop (entryFrame m #[.ref x] 1)) (s₁.setTop (mkF m 0 #[.val (.ref x)] [])) := entry rfl
  obtain ⟨T2, X2, q2, st2⟩ := X0.sget hexec hown (wk W (.fieldLink "java/lang/String" 38 "java/lang/String" "COMPACT_STRINGS" "Z")) s1 (fun _ _ h => by rw [hh0]; exact h) (g := (mkF m 0 #[.val (.ref x)] [])) rfl (hb hbytes d0)
  have hh2 := q2.trans hh0
  have c3 : Steps p.tables e below (s₁.setTop (entryFrame m #[.ref x] 1)) (T2.setTop (mkF m 7 #[.val (.ref x)] [.ref x])) := (c1.trans (st2 _ (Steps.refl _))).trans (by
    refine XS.ifNo X2.here hexec rfl (hb hbytes d3) rfl (i0_eq_f hz) ?_
    refine XS.aloadN X2.here hexec rfl (hb hbytes d6) rfl rfl ?_
    exact Steps.refl _)
  obtain ⟨T4, X4, q4, st4⟩ := X2.hget hexec hown (wk W (.fieldLink "java/lang/String" 15 "java/lang/String" "coder" "B")) (hx.mv X2.warmed.alike hh2) (g := (mkF m 7 #[.val (.ref x)] [.ref x])) rfl (rest := []) rfl (hb hbytes d7)
  have c5 : Steps p.tables e below (s₁.setTop (entryFrame m #[.ref x] 1)) (T4.setTop (mkF m 14 #[.val (.ref x)] [.int cd])) := (c3.trans (st4 _ (Steps.refl _))).trans (by
    refine XS.goto X4.here hexec rfl (pc0 := 10) rfl (hb hbytes d10) (by decide) rfl ?_
    exact Steps.refl _)
  exact ⟨T4, some (.int cd), _, _, _, X4, rfl, rfl, rfl, (fun h => by cases h), ⟨rfl, q4.trans hh2⟩, fun fs hl => c5.trans (X4.ireturnOut hexec hret (by rcases hc with rfl | rfl <;> rfl) (Or.inr (Or.inr (Or.inl rfl))) (hb hbytes d14) hl)⟩
end Cdr
namespace Len
def yN : MethodName := ⟨"java/lang/String", "length", "()I"⟩
abbrev yB : ByteArray := jdk_42_method_54_code
theorem d0 : decode yB 0 = .ok (.aload_n 0, 1) := by decide +kernel
theorem d1 : decode yB 1 = .ok (.getfield 9, 3) := by decide +kernel
theorem d4 : decode yB 4 = .ok (.arraylength, 1) := by decide +kernel
theorem d5 : decode yB 5 = .ok (.aload_n 0, 1) := by decide +kernel
theorem d6 : decode yB 6 = .ok (.invokevirtual 335, 3) := by decide +kernel
theorem d9 : decode yB 9 = .ok (.ishr, 1) := by decide +kernel
theorem d10 : decode yB 10 = .ok (.ireturn, 1) := by decide +kernel
def site : List Cond := [.fieldLink "java/lang/String" 9 "java/lang/String" "value" "[B", Cdr.tab] ++ virtW "java/lang/String" 335 "java/lang/String" Cdr.yN Cdr.yN
def tab : Cond := tabOf yN yB 1 (some .int) site
def P (x t : Addr) (V : Cell) (cd : Int32) (n : Nat) (f : Nat → Int32) (z : Int32) (args : Array Value) (s : State) : Prop := args = #[.ref x] ∧ Txt x t V cd n f s ∧ StaticIs s "java/lang/String" "COMPACT_STRINGS" "Z" (.int z) ∧ ¬ z = 0
def E (n : Nat) (r : Option Value) (s u : State) : Prop := XT.PureE (some (.int (Int32.ofNat n))) r s u
/-- length() of a String of n chars, in either coding -/
theorem law (l : Launch) (x t : Addr) (V : Cell) (cd : Int32) (n : Nat) (f : Nat → Int32) (z : Int32) : Law l yN 1 0 1 13 yB 1 (some .int) site (P x t V cd n f z) (E n) [] 0 0 := by
  refine Law.of_walk (plainFor_of_name (by decide +kernel)) (by decide +kernel) (by decide +kernel) (by decide) (fun _ _ h => by rw [h.1]; rfl) (fun _ U U' hal hh h => ⟨h.1, h.2.1.mv hal hh, h.2.2.1.there hal hh, h.2.2.2⟩) (fun r U U' V V' h1 hal h2 h => XT.PureE.mv r U U' V V' h1 hal h2 h) ?_
  intro p e s m args below meth c s₁ X0 hexec hbytes hml hret hlk hnm hown hh0 W hP
  obtain ⟨rfl, hx, s1, hz⟩ := hP
  have v31 := hx.2.2.2.1.2.2.2
  have c1 : Steps p.tables e below (s₁.setTop (entryFrame m #[.ref x] 1)) (s₁.setTop (mkF m 1 #[.val (.ref x)] [.ref x])) := Steps.trans (entry rfl) (by
    show Steps p.tables e below (s₁.setTop (mkF m 0 #[.val (.ref x)] [])) _
    refine XS.aloadN X0.here hexec rfl (hb hbytes d0) rfl rfl ?_
    exact Steps.refl _)
  obtain ⟨T2, X2, q2, st2⟩ := X0.hget hexec hown (wk W (.fieldLink "java/lang/String" 9 "java/lang/String" "value" "[B")) (hx.mv X0.warmed.alike hh0).2.1 (g := (mkF m 1 #[.val (.ref x)] [.ref x])) rfl (rest := []) rfl (hb hbytes d1)
  have hh2 := q2.trans hh0
  have hx2 := hx.mv X2.warmed.alike hh2
  have c3 : Steps p.tables e below (s₁.setTop (entryFrame m #[.ref x] 1)) (T2.setTop (mkF m 6 #[.val (.ref x)] [.ref x, .int (Int32.ofNat V.slots.size)])) := (c1.trans (st2 _ (Steps.refl _))).trans (by
    refine X2.alen hexec hx2.2.2.2.1 rfl rfl (hb hbytes d4) ?_
    refine XS.aloadN X2.here hexec rfl (hb hbytes d5) rfl rfl ?_
    exact Steps.refl _)
  obtain ⟨v4, T4, X4, E4, g4⟩ := X2.callV hexec (Cdr.law l x cd z) hown (wks W (virtW "java/lang/String" 335 "java/lang/String" Cdr.yN Cdr.yN)) rfl (by decide) (wk W Cdr.tab) (W := 1) (Nat.le_of_ble_eq_true rfl) (Nat.le_of_ble_eq_true rfl) (Nat.le_refl _) (Nat.le_refl _) (hx2.1.fc X2.warmed.alike) hx2.1.is (g := (mkF m 6 #[.val (.ref x)] [.ref x, .int (Int32.ofNat V.slots.size)])) rfl (by rw [hml]; rfl) c3 (argsL := []) (rest := [.int (Int32.ofNat V.slots.size)]) rfl rfl (by show 2 * 0 + (1 + 0) ≤ _; decide) (hb hbytes d6) (⟨rfl, hx2.2.2.1, hx.2.2.2.2.1.cd, s1.there X2.warmed.alike hh2, hz⟩)
  obtain ⟨rfl, q4⟩ := E4
  have c5 : Steps p.tables e below (s₁.setTop (entryFrame m #[.ref x] 1)) (T4.setTop (mkF m 10 #[.val (.ref x)] [.int (Int32.ofNat V.slots.size >>> (cd &&& 31))])) := Steps.trans g4 (by
    refine ishr X4.here hexec rfl (hb hbytes d9) rfl ?_
    exact Steps.refl _)
  rw [hx.2.2.2.2.1.len v31] at c5
  exact ⟨T4, some (.int (Int32.ofNat n)), _, _, _, X4, rfl, rfl, rfl, (fun h => by cases h), ⟨rfl, q4.trans hh2⟩, fun fs hl => c5.trans (X4.ireturnOut hexec hret rfl (Or.inl rfl) (hb hbytes d10) hl)⟩
theorem pays {l : Launch} {R : Room} {p : Program} {e : Env} {below : List Frame} {s : State} {sargs : Array Value} {len W : Nat} (x t : Addr) (V : Cell) (cd : Int32) (n : Nat) (f : Nat → Int32) (z : Int32) (htab : tab.before sargs s = true) (hfr : 2 ≤ R.frames) (hlo : W + 25 ≤ R.locals) :
    Back l R p e below s sargs yN len W (fun A₁ a₁ => A₁.cells + 0 ≤ R.cells ∧ A₁.slots + 0 ≤ R.slots ∧ P x t V cd n f z a₁ A₁.U) (fun A₁ _ v₁ B₁ => E n v₁ A₁.U B₁.U ∧ B₁.locs = A₁.locs ++ [] ∧ B₁.cells = A₁.cells + 0 ∧ B₁.slots = A₁.slots + 0) :=
  (law l x t V cd n f z).pays htab hfr (by omega)
end Len
namespace IsL
def yN : MethodName := ⟨"java/lang/String", "isLatin1", "()Z"⟩
abbrev yB : ByteArray := jdk_42_method_154_code
theorem d0 : decode yB 0 = .ok (.getstatic 38, 3) := by decide +kernel
theorem d3 : decode yB 3 = .ok (.ifCond (.eq) 14, 3) := by decide +kernel
theorem d6 : decode yB 6 = .ok (.aload_n 0, 1) := by decide +kernel
theorem d7 : decode yB 7 = .ok (.getfield 15, 3) := by decide +kernel
theorem d10 : decode yB 10 = .ok (.ifCond (.ne) 7, 3) := by decide +kernel
theorem d13 : decode yB 13 = .ok (.iconst 1, 1) := by decide +kernel
theorem d14 : decode yB 14 = .ok (.goto 4, 3) := by decide +kernel
theorem d17 : decode yB 17 = .ok (.iconst 0, 1) := by decide +kernel
theorem d18 : decode yB 18 = .ok (.ireturn, 1) := by decide +kernel
def site : List Cond := [.fieldLink "java/lang/String" 38 "java/lang/String" "COMPACT_STRINGS" "Z", .fieldLink "java/lang/String" 15 "java/lang/String" "coder" "B"]
def tab : Cond := tabOf yN yB 1 (some .boolean) site
def P (x : Addr) (cd z : Int32) (args : Array Value) (s : State) : Prop := args = #[.ref x] ∧ Has x "java/lang/String" "coder" "B" (.int cd) s ∧ (cd = 0 ∨ cd = 1) ∧ StaticIs s "java/lang/String" "COMPACT_STRINGS" "Z" (.int z) ∧ ¬ z = 0
def E (cd : Int32) (r : Option Value) (s u : State) : Prop := XT.PureE (some (.int (1 - cd))) r s u
theorem law (l : Launch) (x : Addr) (cd z : Int32) : Law l yN 1 0 0 0 yB 1 (some .boolean) site (P x cd z) (E cd) [] 0 0 := by
  refine Law.of_walk (plainFor_of_name (by decide +kernel)) (by decide +kernel) (by decide +kernel) (by decide) (fun _ _ h => by rw [h.1]; rfl) (fun _ U U' hal hh h => ⟨h.1, h.2.1.mv hal hh, h.2.2.1, h.2.2.2.1.there hal hh, h.2.2.2.2⟩) (fun r U U' V V' h1 hal h2 h => XT.PureE.mv r U U' V V' h1 hal h2 h) ?_
  intro p e s m args below meth c s₁ X0 hexec hbytes hml hret hlk hnm hown hh0 W hP
  obtain ⟨rfl, hx, hc, s1, hz⟩ := hP
  have c1 : Steps p.tables e below (s₁.setTop (entryFrame m #[.ref x] 1)) (s₁.setTop (mkF m 0 #[.val (.ref x)] [])) := entry rfl
  obtain ⟨T2, X2, q2, st2⟩ := X0.sget hexec hown (wk W (.fieldLink "java/lang/String" 38 "java/lang/String" "COMPACT_STRINGS" "Z")) s1 (fun _ _ h => by rw [hh0]; exact h) (g := (mkF m 0 #[.val (.ref x)] [])) rfl (hb hbytes d0)
  have hh2 := q2.trans hh0
  have c3 : Steps p.tables e below (s₁.setTop (entryFrame m #[.ref x] 1)) (T2.setTop (mkF m 7 #[.val (.ref x)] [.ref x])) := (c1.trans (st2 _ (Steps.refl _))).trans (by
    refine XS.ifNo X2.here hexec rfl (hb hbytes d3) rfl (i0_eq_f hz) ?_
    refine XS.aloadN X2.here hexec rfl (hb hbytes d6) rfl rfl ?_
    exact Steps.refl _)
  obtain ⟨T4, X4, q4, st4⟩ := X2.hget hexec hown (wk W (.fieldLink "java/lang/String" 15 "java/lang/String" "coder" "B")) (hx.mv X2.warmed.alike hh2) (g := (mkF m 7 #[.val (.ref x)] [.ref x])) rfl (rest := []) rfl (hb hbytes d7)
  have c5 : Steps p.tables e below (s₁.setTop (entryFrame m #[.ref x] 1)) (T4.setTop (mkF m 10 #[.val (.ref x)] [.int cd])) := c3.trans (st4 _ (Steps.refl _))
  have c6 : Steps p.tables e below (s₁.setTop (entryFrame m #[.ref x] 1)) (T4.setTop (mkF m 18 #[.val (.ref x)] [.int (1 - cd)])) := by
    rcases hc with rfl | rfl
    · exact c5.trans (by
        refine XS.ifNo X4.here hexec rfl (hb hbytes d10) rfl (i0_ne_f rfl) ?_
        refine iconstV X4.here hexec rfl 1 (hb hbytes d13) (by decide) ?_
        refine XS.goto X4.here hexec rfl (pc0 := 14) rfl (hb hbytes d14) (by decide) rfl ?_
        exact Steps.refl _)
    · exact c5.trans (by
        refine XS.ifYes X4.here hexec rfl (pc0 := 10) rfl (hb hbytes d10) rfl (i0_ne_t (by decide)) (by decide) rfl ?_
        refine iconstV X4.here hexec rfl 0 (hb hbytes d17) (by decide) ?_
        exact Steps.refl _)
  exact ⟨T4, some (.int (1 - cd)), _, _, _, X4, rfl, rfl, rfl, (fun h => by cases h), ⟨rfl, q4.trans hh2⟩, fun fs hl => c6.trans (X4.ireturnOut hexec hret (by rcases hc with rfl | rfl <;> rfl) (Or.inr (Or.inl rfl)) (hb hbytes d18) hl)⟩
end IsL
namespace LChA
def yN : MethodName := ⟨"java/lang/StringLatin1", "charAt", "([BI)C"⟩
abbrev yB : ByteArray := jdk_43_method_2_code
theorem d0 : decode yB 0 = .ok (.iload_n 1, 1) := by decide +kernel
theorem d1 : decode yB 1 = .ok (.aload_n 0, 1) := by decide +kernel
theorem d2 : decode yB 2 = .ok (.arraylength, 1) := by decide +kernel
theorem d3 : decode yB 3 = .ok (.invokestatic 9, 3) := by decide +kernel
theorem d6 : decode yB 6 = .ok (.aload_n 0, 1) := by decide +kernel
theorem d7 : decode yB 7 = .ok (.iload_n 1, 1) := by decide +kernel
theorem d8 : decode yB 8 = .ok (.baload, 1) := by decide +kernel
theorem d9 : decode yB 9 = .ok (.sipush 255, 3) := by decide +kernel
theorem d12 : decode yB 12 = .ok (.iand, 1) := by decide +kernel
theorem d13 : decode yB 13 = .ok (.i2c, 1) := by decide +kernel
theorem d14 : decode yB 14 = .ok (.ireturn, 1) := by decide +kernel
def site : List Cond := [JO.Str_checkIndex.tab] ++ staticW "java/lang/StringLatin1" 9 JO.Str_checkIndex.yN
def tab : Cond := tabOf yN yB 2 (some .char) site
def P (t : Addr) (V : Cell) (i : Nat) (u : Int32) (fm : Value) (args : Array Value) (s : State) : Prop := args = #[.ref t, .int (Int32.ofNat i)] ∧ XT.Arr .byte t V s ∧ V.slots[i]? = some (.int u) ∧ (StaticIs s "jdk/internal/util/Preconditions" "SIOOBE_FORMATTER" "Ljava/util/function/BiFunction;" fm ∧ fm.isRef = true)
def E (u : Int32) (r : Option Value) (s w : State) : Prop := XT.PureE (some (.int (chr8 u))) r s w
theorem law (l : Launch) (t : Addr) (V : Cell) (i : Nat) (u : Int32) (fm : Value) : Law l yN 2 2 2 27 yB 2 (some .char) site (P t V i u fm) (E u) [] 0 0 := by
  refine Law.of_walk (plainFor_of_name (by decide +kernel)) (by decide +kernel) (by decide +kernel) (by decide) (fun _ _ h => by rw [h.1]; rfl) (fun _ U U' hal hh h => ⟨h.1, h.2.1.mv hal hh, h.2.2.1, h.2.2.2.1.there hal hh, h.2.2.2.2⟩) (fun r U U' V V' h1 hal h2 h => XT.PureE.mv r U U' V V' h1 hal h2 h) ?_
  intro p e s m args below meth c s₁ X0 hexec hbytes hml hret hlk hnm hown hh0 W hP
  obtain ⟨rfl, hV, hu, s1, rf⟩ := hP
  have v31 := hV.2.2.2
  have hi : i < V.slots.size := (Array.getElem?_eq_some_iff.mp hu).1
  have c1 : Steps p.tables e below (s₁.setTop (entryFrame m #[.ref t, .int (Int32.ofNat i)] 2)) (s₁.setTop (mkF m 0 #[.val (.ref t), .val (.int (Int32.ofNat i))] [])) := entry rfl
  have c2 : Steps p.tables e below (s₁.setTop (entryFrame m #[.ref t, .int (Int32.ofNat i)] 2)) (s₁.setTop (mkF m 3 #[.val (.ref t), .val (.int (Int32.ofNat i))] [.int (Int32.ofNat V.slots.size), .int (Int32.ofNat i)])) := c1.trans (by
    refine XS.iloadN X0.here hexec rfl (hb hbytes d0) rfl ?_
    refine XS.aloadN X0.here hexec rfl (hb hbytes d1) rfl rfl ?_
    refine X0.alen hexec (hV.mv X0.warmed.alike hh0) rfl rfl (hb hbytes d2) ?_
    exact Steps.refl _)
  obtain ⟨v3, T3, X3, E3, g3⟩ := X0.callS hexec (JO.Str_checkIndex.law l (Int32.ofNat i) (Int32.ofNat V.slots.size) fm) hown (wks W (staticW "java/lang/StringLatin1" 9 JO.Str_checkIndex.yN)) (wk W JO.Str_checkIndex.tab) (W := 0) (Nat.le_of_ble_eq_true rfl) (Nat.le_of_ble_eq_true rfl) (Nat.le_refl _) (Nat.le_refl _) (g := (mkF m 3 #[.val (.ref t), .val (.int (Int32.ofNat i))] [.int (Int32.ofNat V.slots.size), .int (Int32.ofNat i)])) rfl (by rw [hml]; rfl) c2 (argsL := [.int (Int32.ofNat i), .int (Int32.ofNat V.slots.size)]) (rest := []) rfl rfl (by show 2 * 0 + 0 ≤ _; decide) (hb hbytes d3) (⟨rfl, rf, s1.there X0.warmed.alike hh0, Int32.ofNat_not_neg (by omega), lt32 v31 hi⟩)
  obtain ⟨rfl, q3⟩ := E3
  have hh3 := q3.trans hh0
  have c4 : Steps p.tables e below (s₁.setTop (entryFrame m #[.ref t, .int (Int32.ofNat i)] 2)) (T3.setTop (mkF m 14 #[.val (.ref t), .val (.int (Int32.ofNat i))] [.int (chr8 u)])) := Steps.trans g3 (by
    refine XS.aloadN X3.here hexec rfl (hb hbytes d6) rfl rfl ?_
    refine XS.iloadN X3.here hexec rfl (hb hbytes d7) rfl ?_
    refine X3.aget hexec (hV.mv X3.warmed.alike hh3) rfl hu rfl rfl (hb hbytes d8) ?_
    refine sipushV X3.here hexec rfl 255 (hb hbytes d9) (by decide) ?_
    refine XS.iand X3.here hexec rfl (hb hbytes d12) rfl ?_
    refine i2c X3.here hexec rfl (hb hbytes d13) rfl ?_
    exact Steps.refl _)
  exact ⟨T3, some (.int (chr8 u)), _, _, _, X3, rfl, rfl, rfl, (fun h => by cases h), ⟨rfl, hh3⟩, fun fs hl => c4.trans (X3.ireturnOut hexec hret (narrow_c _) (Or.inr (Or.inr (Or.inr (Or.inl rfl)))) (hb hbytes d14) hl)⟩
end LChA
end StrChars
namespace StrChars.Road
open Jvm Sem ClassFile Op Lib Jvm.Stand Jvm.Free Jvm.Free.XT
open Jvm.Lib.Cold (StaticIs)
theorem consq {a : Array Value} {s : State} {c : Jvm.Cond} {L : List Jvm.Cond} (h0 : c.before a s = true) (h : ∀ w ∈ L, w.before a s = true) : ∀ w ∈ c :: L, w.before a s = true := fun w hw => (List.mem_cons.mp hw).elim (fun e => e ▸ h0) (h w)
/-- the words of String.length(), either coding -/
abbrev wordsLen : List Jvm.Cond := [.code Len.yN Len.yB 1 (some .int), .initialized ST, .fieldLink ST 9 ST "value" "[B", .fieldLink ST 38 ST "COMPACT_STRINGS" "Z", .fieldLink ST 15 ST "coder" "B", .code Cdr.yN Cdr.yB 1 (some .byte), .methodLink ST 335 Cdr.yN, .declares Cdr.yN, .selects ST Cdr.yN Cdr.yN, .instanceMethod Cdr.yN]
theorem tabLen_of {a : Array Value} {s : State} (h : ∀ w ∈ wordsLen, w.before a s = true) : Len.tab.before a s = true := by
  have hc : Cdr.tab.before a s = true := unparts (wk h (.code Cdr.yN Cdr.yB 1 (some .byte))) (wks h (.initialized Cdr.yN.cls :: Cdr.site))
  have q := consq hc h
  exact unparts (wk q (.code Len.yN Len.yB 1 (some .int))) (wks q (.initialized Len.yN.cls :: Len.site))
theorem movedLen {Z s : State} {a0 args : Array Value} (hZ : Z.Warmed39 s.vm) (hw : ∀ d ∈ wordsLen, d.before a0 Z = true) : ∀ d ∈ wordsLen, d.before args s = true := fun d hd => by
  have q := hw d hd
  have t : ∀ d ∈ wordsLen, d = .arrayClass .byte ∨ (d.onTables && d.keepsFace) = true := by decide +kernel
  rcases t d hd with rfl | t
  · exact RoadKit.mvA hZ q
  · exact RoadKit.mv hZ q t
/-- the bytes of the chars cs, low before high -/
def wideBytes : List Int32 → List Value
  | [] => []
  | c :: cs => .int (lo8 c) :: .int (hi8 c) :: wideBytes cs
theorem wide_lo (d : Value) : ∀ (cs : List Int32) (j : Nat), j < cs.length → (wideBytes cs).getD (2 * j) d = .int (lo8 (cs.getD j 0))
  | [], j, h => absurd h (Nat.not_lt_zero j)
  | c :: cs, 0, _ => rfl
  | c :: cs, j + 1, h => by
    have q := wide_lo d cs j (by simpa using h)
    rw [show 2 * (j + 1) = 2 * j + 1 + 1 from by omega]
    simpa [wideBytes] using q
theorem wide_hi (d : Value) : ∀ (cs : List Int32) (j : Nat), j < cs.length → (wideBytes cs).getD (2 * j + 1) d = .int (hi8 (cs.getD j 0))
  | [], j, h => absurd h (Nat.not_lt_zero j)
  | c :: cs, 0, _ => rfl
  | c :: cs, j + 1, h => by
    have q := wide_hi d cs j (by simpa using h)
    rw [show 2 * (j + 1) + 1 = 2 * j + 1 + 1 + 1 from by omega]
    simpa [wideBytes] using q
theorem low_at (d : Value) (cs : List Int32) (j : Nat) (h : j < cs.length) : (cs.map fun c => Value.int (lo8 c)).getD j d = .int (lo8 (cs.getD j 0)) := by
  simp [List.getD_eq_getElem?_getD, h]
/-- an array of N2 bytes vs codes the chars cs by the coder cd -/
def CodA (cs : List Int32) (cd N2 : Int32) (vs : List Value) : Prop := (cd = 0 ∧ N2 = Int32.ofNat cs.length ∧ vs = (cs.map fun c => Value.int (lo8 c)) ∧ ∀ c ∈ cs, ¬ 255 < c) ∨ (cd = 1 ∧ N2 = Int32.ofNat (2 * cs.length) ∧ vs = wideBytes cs ∧ ∃ c ∈ cs, 255 < c)
theorem CodA.cod {cs : List Int32} {cd N2 : Int32} {vs : List Value} {V : Cell} (h : CodA cs cd N2 vs) (hn : 2 * cs.length < 2 ^ 31) (hs : V.slots.size = N2.toNatClampNeg) (hv : RoadKit.Has V vs (.int 0)) : Cod cd cs.length (fun j => cs.getD j 0) V := by
  rcases h with ⟨rfl, rfl, rfl, h⟩ | ⟨rfl, rfl, rfl, c, hc, hw⟩
  · rw [n32 (by omega)] at hs
    exact Or.inl ⟨rfl, hs, fun j hj => ⟨by rw [hv j (by omega), low_at _ _ _ hj], by
      have e : cs.getD j 0 = cs[j] := by simp [List.getD_eq_getElem?_getD, hj]
      show ¬ 255 < cs.getD j 0
      rw [e]; exact h _ (List.getElem_mem _)⟩⟩
  · rw [n32 (by omega)] at hs
    obtain ⟨j, hj, rfl⟩ := List.getElem_of_mem hc
    exact Or.inr ⟨rfl, hs, fun j hj => ⟨by rw [hv _ (by omega), wide_lo _ _ _ hj], by rw [hv _ (by omega), wide_hi _ _ _ hj]⟩, j, hj, by
      have e : cs.getD j 0 = cs[j] := by simp [List.getD_eq_getElem?_getD, hj]
      show 255 < cs.getD j 0
      rw [e]; exact hw⟩
/-- an object of exactly java/lang/String, its two fields found: as the laws ask it -/
theorem strObj {Z U : State} {a0 : Array Value} {kI : Nat} (wi : (Jvm.Cond.instantiable ST kI).before a0 Z = true) (al : Z.vm.Alike U.vm) {x : Addr} {v0 c0 : Value} (E : RoadKit.Exa Z U.heap x ST) (V : RoadKit.Fld Z U.heap x ST "value" "[B" v0) (C : RoadKit.Fld Z U.heap x ST "coder" "B" c0) :
    ∃ (D : Cell) (fV fC : Field), Blank ST x D U ∧ Found ST "value" "[B" fV U ∧ Found ST "coder" "B" fC U ∧ D.slots[fV.slot]? = some v0 ∧ D.slots[fC.slot]? = some c0 ∧ RoadKit.slotOf Z ST "value" "[B" = fV.slot ∧ RoadKit.slotOf Z ST "coder" "B" = fC.slot := by
  obtain ⟨D, cfV, kV, iV, fV, hD, gV, stV, knV, obV, asV, slV⟩ := V
  obtain ⟨D', cfC, kC, iC, fC, hD', gC, stC, -, -, asC, slC⟩ := C
  cases hD.symm.trans hD'
  obtain ⟨D2, kD, e1, e2, e3, e4, e5⟩ := E
  cases hD.symm.trans e1
  obtain ⟨c2, k2, i1, i2, i3, -⟩ := Cond.instantiable_spec wi
  cases e2.symm.trans i1
  cases e3.symm.trans i2
  obtain ⟨kU, u1, u2⟩ := al.2.2 _ _ e3
  exact ⟨D, fV, fC, ⟨hD, ⟨knV, fun q hq => by rw [hq] at obV; cases obV⟩, by rw [al.findClass]; exact e2, kU, u1, by rw [u2]; exact i3, by rw [u2]; exact e5 i3⟩, ⟨SBG.found_only al ⟨cfV, kV, iV, gV⟩, stV⟩, ⟨SBG.found_only al ⟨cfC, kC, iC, gC⟩, stC⟩, slV, slC, by simp [RoadKit.slotOf, gV], by simp [RoadKit.slotOf, gC]⟩
theorem sta_is {Z U : State} (al : Z.vm.Alike U.vm) {C n d : String} {v : Value} (S : RoadKit.Sta Z U.heap C n d v) : StaticIs U C n d v := by
  obtain ⟨cfS, iS, kS, fS, st, cS, t1, t2, t3, t4, t5, t6, t7⟩ := S
  exact StaticIs.there (s := { Z with heap := U.heap }) ⟨cfS, iS, kS, fS, st, cS, t1, t2, t3, t4, t5, (fun q => by rw [q] at t6; cases t6), t7⟩ al rfl
/-- **length() OF SUCH A STRING** -/
theorem lenW {p : Program} {l : Launch} {e : Env} {R : Room} {s : State} {args : Array Value} {below : List Frame} {len W : Nat} {Z : State} {a0 : Array Value} {h : Heap} (hZ : Z.Warmed39 s.vm) (hw : ∀ d ∈ wordsLen, d.before a0 Z = true) {kI : Nat} (wi : (Jvm.Cond.instantiable ST kI).before a0 Z = true)
    {x t : Addr} {kb : ClassId} {cs : List Int32} {cd N2 z : Int32} {vs : List Value} (E : RoadKit.Exa Z h x ST) (V : RoadKit.Fld Z h x ST "value" "[B" (.ref t)) (C : RoadKit.Fld Z h x ST "coder" "B" (.int cd)) (K : RoadKit.Arv Z h t kb .byte N2 vs (.int 0)) (hc : CodA cs cd N2 vs) (hb : ∀ c ∈ cs, ¬ c < 0 ∧ ¬ (65535 : Int32) < c)
    (S : RoadKit.Sta Z h ST "COMPACT_STRINGS" "Z" (.int z)) (hz : ¬ z = 0) (l2 : cs.length ≤ 4000) (hfr : 2 ≤ R.frames) (hlo : W + 25 ≤ R.locals) :
    Back l R p e below s args (⟨"java/lang/String", "length", "()I"⟩ : MethodName) len W (fun P a => a = #[.ref x] ∧ P.U.heap = h ∧ P.cells + 0 ≤ R.cells ∧ P.slots + 0 ≤ R.slots)
      (fun P _ v B => ∃ L, (v = some (.int (Int32.ofNat cs.length)) ∧ L = [] ∧ B.U.heap = h) ∧ B.locs = P.locs ++ L ∧ B.cells = P.cells + 0 ∧ B.slots = P.slots + 0) := by
  obtain ⟨A, K1, K2, K3, K4, K5, K6⟩ := K
  have hcod := hc.cod (by omega) K3 K5
  intro m meth c P g ig mk a X hg hsize hdg hW hn hp'
  obtain ⟨rfl, rfl, r1, r2⟩ := hp'
  have al : Z.vm.Alike P.U.vm := hZ.alike.trans X.warmed.alike
  obtain ⟨D, fV, fC, hB, F1, F2, g1, g2, -, -⟩ := strObj wi al E V C
  have hx : Txt x t A cd cs.length (fun j => cs.getD j 0) P.U := ⟨⟨_, hB.2.2.1, D, hB.1, rfl, by cases q : D.vm <;> first | rfl | exact absurd q (hB.2.1.2 _)⟩, Has.of hB F1 g1, Has.of hB F2 g2, ⟨K1.1, State.isArrayOf_alike al K1.2.1, K1.2.2, by rcases hcod with ⟨-, q, -⟩ | ⟨-, q, -⟩ <;> omega⟩, hcod, fun j hj => by
    have e : cs.getD j 0 = cs[j] := by simp [List.getD_eq_getElem?_getD, hj]
    show ¬ cs.getD j 0 < 0 ∧ ¬ 65535 < cs.getD j 0
    rw [e]; exact hb _ (List.getElem_mem _)⟩
  obtain ⟨v, B, X', ⟨⟨hv, hh⟩, hl, hk, hs⟩, st⟩ := Len.pays x t A cd cs.length (fun j => cs.getD j 0) z (tabLen_of (movedLen hZ hw)) hfr hlo m meth c P g ig mk _ X hg hsize hdg hW hn ⟨r1, r2, rfl, hx, sta_is al S, hz⟩
  exact ⟨v, B, X', ⟨[], ⟨hv, rfl, hh⟩, hl, hk, hs⟩, st⟩
end StrChars.Road
namespace StrChars.Road
open Jvm Sem ClassFile Op Lib Jvm.Stand Jvm.Free Jvm.Free.XT
open Jvm.Lib.Cold (StaticIs)
/-- the road's facts of a String, as the laws ask it -/
theorem txt_of {Z U : State} {a0 : Array Value} {kI : Nat} (wi : (Jvm.Cond.instantiable ST kI).before a0 Z = true) (al : Z.vm.Alike U.vm) {x t : Addr} {kb : ClassId} {cs : List Int32} {cd N2 : Int32} {vs : List Value} (E : RoadKit.Exa Z U.heap x ST) (V : RoadKit.Fld Z U.heap x ST "value" "[B" (.ref t)) (C : RoadKit.Fld Z U.heap x ST "coder" "B" (.int cd)) (K : RoadKit.Arv Z U.heap t kb .byte N2 vs (.int 0)) (hc : CodA cs cd N2 vs) (hb : ∀ c ∈ cs, ¬ c < 0 ∧ ¬ (65535 : Int32) < c) (l2 : cs.length ≤ 4000) :
    ∃ A, Txt x t A cd cs.length (fun j => cs.getD j 0) U := by
  obtain ⟨A, K1, K2, K3, K4, K5, K6⟩ := K
  have hcod := hc.cod (by omega) K3 K5
  obtain ⟨D, fV, fC, hB, F1, F2, g1, g2, -, -⟩ := strObj wi al E V C
  exact ⟨A, ⟨_, hB.2.2.1, D, hB.1, rfl, by cases q : D.vm <;> first | rfl | exact absurd q (hB.2.1.2 _)⟩, Has.of hB F1 g1, Has.of hB F2 g2, ⟨K1.1, State.isArrayOf_alike al K1.2.1, K1.2.2, by rcases hcod with ⟨-, q, -⟩ | ⟨-, q, -⟩ <;> omega⟩, hcod, fun j hj => by
    have e : cs.getD j 0 = cs[j] := by simp [List.getD_eq_getElem?_getD, hj]
    show ¬ cs.getD j 0 < 0 ∧ ¬ 65535 < cs.getD j 0
    rw [e]; exact hb _ (List.getElem_mem _)⟩
end StrChars.Road
namespace StrChars
open Jvm Sem ClassFile Op Lib Jvm.Stand Jvm.Free.XT Jvm.Free.ALB Jvm.Free.JM Jvm.Free
open Jvm.Lib.Cold (StaticIs)
namespace ChN
def yN : MethodName := ⟨"java/lang/String", "charAt", "(I)C"⟩
abbrev yB : ByteArray := jdk_42_method_56_code
theorem d0 : decode yB 0 = .ok (.aload_n 0, 1) := by decide +kernel
theorem d1 : decode yB 1 = .ok (.invokevirtual 492, 3) := by decide +kernel
theorem d4 : decode yB 4 = .ok (.ifCond (.eq) 12, 3) := by decide +kernel
theorem d7 : decode yB 7 = .ok (.aload_n 0, 1) := by decide +kernel
theorem d8 : decode yB 8 = .ok (.getfield 9, 3) := by decide +kernel
theorem d11 : decode yB 11 = .ok (.iload_n 1, 1) := by decide +kernel
theorem d12 : decode yB 12 = .ok (.invokestatic 495, 3) := by decide +kernel
theorem d15 : decode yB 15 = .ok (.ireturn, 1) := by decide +kernel
def site : List Cond := [.fieldLink "java/lang/String" 9 "java/lang/String" "value" "[B", IsL.tab, LChA.tab] ++ virtW "java/lang/String" 492 "java/lang/String" IsL.yN IsL.yN ++ staticW "java/lang/String" 495 LChA.yN
def tab : Cond := tabOf yN yB 2 (some .char) site
def P (x t : Addr) (V : Cell) (n : Nat) (f : Nat → Int32) (z : Int32) (fm : Value) (i : Nat) (args : Array Value) (s : State) : Prop := args = #[.ref x, .int (Int32.ofNat i)] ∧ Txt x t V 0 n f s ∧ i < n ∧ StaticIs s "java/lang/String" "COMPACT_STRINGS" "Z" (.int z) ∧ ¬ z = 0 ∧ StaticIs s "jdk/internal/util/Preconditions" "SIOOBE_FORMATTER" "Ljava/util/function/BiFunction;" fm ∧ fm.isRef = true
def E (f : Nat → Int32) (i : Nat) (r : Option Value) (s u : State) : Prop := XT.PureE (some (.int (f i))) r s u
/-- charAt(i) of a Latin-1 String of n chars, i < n: f i -/
theorem law (l : Launch) (x t : Addr) (V : Cell) (n : Nat) (f : Nat → Int32) (z : Int32) (fm : Value) (i : Nat) : Law l yN 2 1 3 40 yB 2 (some .char) site (P x t V n f z fm i) (E f i) [] 0 0 := by
  refine Law.of_walk (plainFor_of_name (by decide +kernel)) (by decide +kernel) (by decide +kernel) (by decide) (fun _ _ h => by rw [h.1]; rfl) (fun _ U U' hal hh h => ⟨h.1, h.2.1.mv hal hh, h.2.2.1, h.2.2.2.1.there hal hh, h.2.2.2.2.1, h.2.2.2.2.2.1.there hal hh, h.2.2.2.2.2.2⟩) (fun r U U' V V' h1 hal h2 h => XT.PureE.mv r U U' V V' h1 hal h2 h) ?_
  intro p e s m args below meth c s₁ X0 hexec hbytes hml hret hlk hnm hown hh0 W hP
  obtain ⟨rfl, hx, hi, s1, hz, s3, rf⟩ := hP
  have v31 := hx.2.2.2.1.2.2.2
  have hr := hx.2.2.2.2.2 i hi
  have hx0 := hx.mv X0.warmed.alike hh0
  have c1 : Steps p.tables e below (s₁.setTop (entryFrame m #[.ref x, .int (Int32.ofNat i)] 2)) (s₁.setTop (mkF m 1 #[.val (.ref x), .val (.int (Int32.ofNat i))] [.ref x])) := Steps.trans (entry rfl) (by
    show Steps p.tables e below (s₁.setTop (mkF m 0 #[.val (.ref x), .val (.int (Int32.ofNat i))] [])) _
    refine XS.aloadN X0.here hexec rfl (hb hbytes d0) rfl rfl ?_
    exact Steps.refl _)
  obtain ⟨v2, T2, X2, E2, g2⟩ := X0.callV hexec (IsL.law l x 0 z) hown (wks W (virtW "java/lang/String" 492 "java/lang/String" IsL.yN IsL.yN)) rfl (by decide) (wk W IsL.tab) (W := 0) (Nat.le_of_ble_eq_true rfl) (Nat.le_of_ble_eq_true rfl) (Nat.le_refl _) (Nat.le_refl _) (hx0.1.fc X0.warmed.alike) hx0.1.is (g := (mkF m 1 #[.val (.ref x), .val (.int (Int32.ofNat i))] [.ref x])) rfl (by rw [hml]; rfl) c1 (argsL := []) (rest := []) rfl rfl (by show 2 * 0 + 0 ≤ _; decide) (hb hbytes d1) (⟨rfl, hx0.2.2.1, hx.2.2.2.2.1.cd, s1.there X0.warmed.alike hh0, hz⟩)
  obtain ⟨rfl, q2⟩ := E2
  have hh2 := q2.trans hh0
  have hx2 := hx.mv X2.warmed.alike hh2
  obtain ⟨-, k1, k2⟩ | ⟨k0, -⟩ := hx.2.2.2.2.1
  · have c3 : Steps p.tables e below (s₁.setTop (entryFrame m #[.ref x, .int (Int32.ofNat i)] 2)) (T2.setTop (mkF m 8 #[.val (.ref x), .val (.int (Int32.ofNat i))] [.ref x])) := Steps.trans g2 (by
      refine XS.ifNo X2.here hexec rfl (hb hbytes d4) rfl (i0_eq_f (by decide)) ?_
      refine XS.aloadN X2.here hexec rfl (hb hbytes d7) rfl rfl ?_
      exact Steps.refl _)
    obtain ⟨T4, X4, q4, st4⟩ := X2.hget hexec hown (wk W (.fieldLink "java/lang/String" 9 "java/lang/String" "value" "[B")) hx2.2.1 (g := (mkF m 8 #[.val (.ref x), .val (.int (Int32.ofNat i))] [.ref x])) rfl (rest := []) rfl (hb hbytes d8)
    have hh4 := q4.trans hh2
    have c5 : Steps p.tables e below (s₁.setTop (entryFrame m #[.ref x, .int (Int32.ofNat i)] 2)) (T4.setTop (mkF m 12 #[.val (.ref x), .val (.int (Int32.ofNat i))] [.int (Int32.ofNat i), .ref t])) := (c3.trans (st4 _ (Steps.refl _))).trans (by
      refine XS.iloadN X4.here hexec rfl (hb hbytes d11) rfl ?_
      exact Steps.refl _)
    obtain ⟨v6, T6, X6, E6, g6⟩ := X4.callS hexec (LChA.law l t V i (lo8 (f i)) fm) hown (wks W (staticW "java/lang/String" 495 LChA.yN)) (wk W LChA.tab) (W := 0) (Nat.le_of_ble_eq_true rfl) (Nat.le_of_ble_eq_true rfl) (Nat.le_refl _) (Nat.le_refl _) (g := (mkF m 12 #[.val (.ref x), .val (.int (Int32.ofNat i))] [.int (Int32.ofNat i), .ref t])) rfl (by rw [hml]; rfl) c5 (argsL := [.ref t, .int (Int32.ofNat i)]) (rest := []) rfl rfl (by show 2 * 0 + 0 ≤ _; decide) (hb hbytes d12) (⟨rfl, hx.2.2.2.1.mv X4.warmed.alike hh4, (k2 i hi).1, s3.there X4.warmed.alike hh4, rf⟩)
    obtain ⟨rfl, q6⟩ := E6
    rw [chr8_lo8 hr.1 (k2 i hi).2] at g6
    exact ⟨T6, some (.int (f i)), _, _, _, X6, rfl, rfl, rfl, (fun h => by cases h), ⟨rfl, q6.trans hh4⟩, fun fs hl => Steps.trans g6 (X6.ireturnOut hexec hret (narrow_ch hr.1 hr.2) (Or.inr (Or.inr (Or.inr (Or.inl rfl)))) (hb hbytes d15) hl)⟩
  · exact absurd k0 (by decide)
theorem pays {l : Launch} {R : Room} {p : Program} {e : Env} {below : List Frame} {s : State} {sargs : Array Value} {len W : Nat} (x t : Addr) (V : Cell) (n : Nat) (f : Nat → Int32) (z : Int32) (fm : Value) (i : Nat) (htab : tab.before sargs s = true) (hfr : 4 ≤ R.frames) (hlo : W + 53 ≤ R.locals) :
    Back l R p e below s sargs yN len W (fun A₁ a₁ => A₁.cells + 0 ≤ R.cells ∧ A₁.slots + 0 ≤ R.slots ∧ P x t V n f z fm i a₁ A₁.U) (fun A₁ _ v₁ B₁ => E f i v₁ A₁.U B₁.U ∧ B₁.locs = A₁.locs ++ [] ∧ B₁.cells = A₁.cells + 0 ∧ B₁.slots = A₁.slots + 0) :=
  (law l x t V n f z fm i).pays htab hfr (by omega)
end ChN
end StrChars
namespace StrChars.Road
open Jvm Sem ClassFile Op Lib Jvm.Stand Jvm.Free Jvm.Free.XT
open Jvm.Lib.Cold (StaticIs)
/-- the words of String.charAt(int), the Latin-1 road alone -/
abbrev wordsChN : List Jvm.Cond := [.code ChN.yN ChN.yB 2 (some .char), .initialized ST, .fieldLink ST 9 ST "value" "[B", .fieldLink ST 38 ST "COMPACT_STRINGS" "Z", .fieldLink ST 15 ST "coder" "B", .code IsL.yN IsL.yB 1 (some .boolean), .methodLink ST 492 IsL.yN, .declares IsL.yN, .selects ST IsL.yN IsL.yN, .instanceMethod IsL.yN,
  .methodLink ST 495 LChA.yN, .static LChA.yN, .code LChA.yN LChA.yB 2 (some .char), .initialized "java/lang/StringLatin1", .methodLink "java/lang/StringLatin1" 9 JO.Str_checkIndex.yN, .static JO.Str_checkIndex.yN, .code JO.Str_checkIndex.yN JO.Str_checkIndex.yB 2 none,
  .fieldLink ST 1053 "jdk/internal/util/Preconditions" "SIOOBE_FORMATTER" "Ljava/util/function/BiFunction;", .methodLink ST 1059 JC.PreCheck.yN, .static JC.PreCheck.yN, .code JC.PreCheck.yN JC.PreCheck.yB 3 (some .int), .initialized "jdk/internal/util/Preconditions"]
theorem tabChN_of {a : Array Value} {s : State} (h : ∀ w ∈ wordsChN, w.before a s = true) : ChN.tab.before a s = true := by
  have hp : JC.PreCheck.tab.before a s = true := unparts (wk h (.code JC.PreCheck.yN JC.PreCheck.yB 3 (some .int))) (wks h (.initialized JC.PreCheck.yN.cls :: JC.PreCheck.site))
  have qk := consq hp h
  have hk : JO.Str_checkIndex.tab.before a s = true := unparts (wk qk (.code JO.Str_checkIndex.yN JO.Str_checkIndex.yB 2 none)) (wks qk (.initialized JO.Str_checkIndex.yN.cls :: JO.Str_checkIndex.site))
  have ql := consq hk h
  have hl : LChA.tab.before a s = true := unparts (wk ql (.code LChA.yN LChA.yB 2 (some .char))) (wks ql (.initialized LChA.yN.cls :: LChA.site))
  have hi : IsL.tab.before a s = true := unparts (wk h (.code IsL.yN IsL.yB 1 (some .boolean))) (wks h (.initialized IsL.yN.cls :: IsL.site))
  have q := consq hi (consq hl h)
  exact unparts (wk q (.code ChN.yN ChN.yB 2 (some .char))) (wks q (.initialized ChN.yN.cls :: ChN.site))
theorem movedChN {Z s : State} {a0 args : Array Value} (hZ : Z.Warmed39 s.vm) (hw : ∀ d ∈ wordsChN, d.before a0 Z = true) : ∀ d ∈ wordsChN, d.before args s = true := fun d hd => by
  have t : ∀ d ∈ wordsChN, (d.onTables && d.keepsFace) = true := by decide +kernel
  exact RoadKit.mv hZ (hw d hd) (t d hd)
/-- **charAt(i) OF A LATIN-1 STRING**, i < n: the char -/
theorem chN {p : Program} {l : Launch} {e : Env} {R : Room} {s : State} {args : Array Value} {below : List Frame} {len W : Nat} {Z : State} {a0 : Array Value} {h : Heap} (hZ : Z.Warmed39 s.vm) (hw : ∀ d ∈ wordsChN, d.before a0 Z = true) {kI : Nat} (wi : (Jvm.Cond.instantiable ST kI).before a0 Z = true)
    {x t : Addr} {kb : ClassId} {cs : List Int32} {N2 z : Int32} {vs : List Value} {fm : Value} {i : Nat} {j : Int32} (E : RoadKit.Exa Z h x ST) (V : RoadKit.Fld Z h x ST "value" "[B" (.ref t)) (C : RoadKit.Fld Z h x ST "coder" "B" (.int 0)) (K : RoadKit.Arv Z h t kb .byte N2 vs (.int 0)) (hc : CodA cs 0 N2 vs) (hb : ∀ c ∈ cs, ¬ c < 0 ∧ ¬ (65535 : Int32) < c)
    (S : RoadKit.Sta Z h ST "COMPACT_STRINGS" "Z" (.int z)) (hz : ¬ z = 0) (F : RoadKit.Sta Z h "jdk/internal/util/Preconditions" "SIOOBE_FORMATTER" "Ljava/util/function/BiFunction;" fm) (rf : fm.isRef = true) (l2 : cs.length ≤ 4000) (hi : i < cs.length) (hj : j = Int32.ofNat i) (hfr : 4 ≤ R.frames) (hlo : W + 53 ≤ R.locals) :
    Back l R p e below s args (⟨"java/lang/String", "charAt", "(I)C"⟩ : MethodName) len W (fun P a => a = #[.ref x, .int j] ∧ P.U.heap = h ∧ P.cells + 0 ≤ R.cells ∧ P.slots + 0 ≤ R.slots)
      (fun P _ v B => ∃ L, (v = some (.int (cs.getD i 0)) ∧ L = [] ∧ B.U.heap = h) ∧ B.locs = P.locs ++ L ∧ B.cells = P.cells + 0 ∧ B.slots = P.slots + 0) := by
  subst hj
  intro m meth c P g ig mk a X hg hsize hdg hW hn hp'
  obtain ⟨rfl, rfl, r1, r2⟩ := hp'
  have al : Z.vm.Alike P.U.vm := hZ.alike.trans X.warmed.alike
  obtain ⟨A, hx⟩ := txt_of wi al E V C K hc hb l2
  obtain ⟨v, B, X', ⟨⟨hv, hh⟩, hl, hk, hs⟩, st⟩ := ChN.pays x t A cs.length (fun j => cs.getD j 0) z fm i (tabChN_of (movedChN hZ hw)) hfr hlo m meth c P g ig mk _ X hg hsize hdg hW hn ⟨r1, r2, rfl, hx, hi, sta_is al S, hz, sta_is al F, rf⟩
  exact ⟨v, B, X', ⟨[], ⟨hv, rfl, hh⟩, hl, hk, hs⟩, st⟩
/-- what backV says of its String, as the contracts of this text ask it: cs's low bytes, coder 0 -/
theorem codOf {cs : List Int32} {n : Nat} (hn : cs.length = n) (hb : ∀ c ∈ cs, ¬ 255 < c) : CodA cs 0 (Int32.ofNat n) ((cs.map lo8).map Value.int) := Or.inl ⟨rfl, by rw [hn], by simp [List.map_map, Function.comp_def], hb⟩
end StrChars.Road
end Jvm.Pilot.@@N@@
namespace Jvm.RoadKit
open Sem ClassFile Op Lib Jvm.Stand Jvm.Free Jvm.LawKit
section New
variable {p : Program} {l : Launch} {e : Env} {R : Room} {s : State} {m : MethodId} {args : Array Value} {below : List Frame} {meth : Method} {c : Code} {T : State} {locs : List Loc} {cells slots : Nat}
theorem retI (X : Stand p l e R s m args below meth c T locs cells slots) (hx : p.tables.exec = Jvm.exec) {pc : Nat} {Ls : Array Slot} {z : Int32} {rest : List Value} (hret : meth.sig.returnType = some .int) (hd : decode c.code pc = .ok (.ireturn, 1)) {fs : List Frame}
    (hl : ∀ (f : JFrame) (acts : List Action), f.method = m → f.locked = none → f.entered = [] → (doReturn e (T.setTop f) acts (some (.int z))).1 = T.setFrames fs) : Steps p.tables e below (T.setTop (mkF m pc Ls (.int z :: rest))) (T.setFrames fs) := by
  have hm' : T.vm.method? m = some meth := X.method'
  have hn : narrow .int (.int z) = .int z := rfl
  show Steps p.tables e below (T.setTop { method := m, pc := pc, locals := Ls, stack := _ :: rest, locked := none }) _
  jvm_step X.here [X.here.top, hx, hd, hm', hret, hn]
  first | (intro acts; rw [hl _ acts rfl rfl rfl]) | rw [hl _ _ rfl rfl rfl]
  exact Steps.refl _
theorem retD (X : Stand p l e R s m args below meth c T locs cells slots) (hx : p.tables.exec = Jvm.exec) {pc : Nat} {Ls : Array Slot} {z : UInt64} {rest : List Value} (hret : meth.sig.returnType = some .double) (hd : decode c.code pc = .ok (.dreturn, 1)) {fs : List Frame}
    (hl : ∀ (f : JFrame) (acts : List Action), f.method = m → f.locked = none → f.entered = [] → (doReturn e (T.setTop f) acts (some (.double z))).1 = T.setFrames fs) : Steps p.tables e below (T.setTop (mkF m pc Ls (.double z :: rest))) (T.setFrames fs) := by
  have hm' : T.vm.method? m = some meth := X.method'
  have hn : narrow .double (.double z) = .double z := rfl
  show Steps p.tables e below (T.setTop { method := m, pc := pc, locals := Ls, stack := _ :: rest, locked := none }) _
  jvm_step X.here [X.here.top, hx, hd, hm', hret, hn]
  first | (intro acts; rw [hl _ acts rfl rfl rfl]) | rw [hl _ _ rfl rfl rfl]
  exact Steps.refl _
end New
end Jvm.RoadKit
namespace Jvm.RoadKit
open Sem ClassFile Op Lib Jvm.Stand Jvm.Free Jvm.LawKit
theorem own_lsw {tb : Tables} [Ours tb] {e : Env} {below : List Frame} {T target : State} {m : MethodId} {c : Code} {g : JFrame} (h : At T m c below) (hx : tb.exec = Jvm.exec) (hg : g.method = m) {dflt : Int} {pairs : Array (Int × Int)} {len : Nat} {pc0 pc' : Nat} (hpc : g.pc = pc0) (hd : decode c.code g.pc = .ok (.lookupswitch dflt pairs, len)) {i : Int32} {rest : List Value} (hs : g.stack = .int i :: rest) {o : Int}
    (hoff : lookupswitch.offset pairs.toList dflt i.toInt = o) (hso : (pairs.toList.zip (pairs.toList.drop 1)).all (fun (a, next) => a.1 < next.1) = true) (ho : 0 ≤ (pc0 : Int) + o) (hp : ((pc0 : Int) + o).toNat = pc')
    (hr : Steps tb e below (T.setTop { g with pc := pc', stack := rest }) target) : Steps tb e below (T.setTop g) target := by
  subst hg hpc hp
  jvm_step h [h.top, hx, hd, hs, hoff, ho, lookupswitch.wp_chain]
  exact ⟨by simpa using hso, hr⟩
theorem own_off_no {k d : Int} : ∀ {L : List (Int × Int)}, (∀ q ∈ L, ¬ q.1 = k) → lookupswitch.offset L d k = d
  | [], _ => rfl
  | (a, o) :: r, h => by rw [lookupswitch.offset_cons, if_neg (h (a, o) (List.mem_cons_self ..))]; exact own_off_no fun q hq => h q (List.mem_cons_of_mem _ hq)
theorem own_ne_lit {x k : Int32} (h : ¬ x = k) {z : Int} (hz : k.toInt = z) : ¬ z = x.toInt := fun q => h (Int32.toInt_inj.mp (by rw [← q, hz]))
def own_rem (x y : Int32) : Int32 := x - (x / y) * y
def bi (P : Prop) [Decidable P] : Int32 := if P then 1 else 0
theorem bi_t {P : Prop} [Decidable P] (h : P) : bi P = 1 := if_pos h
theorem bi_f {P : Prop} [Decidable P] (h : ¬ P) : bi P = 0 := if_neg h
theorem bi_nar {P : Prop} [Decidable P] : nar .boolean (bi P) = bi P := by unfold bi; split <;> rfl
theorem bi_0 {P : Prop} [Decidable P] : (bi P = 0) ↔ ¬ P := by unfold bi; split <;> simp_all
theorem bi_inj {P Q : Prop} [Decidable P] [Decidable Q] (h : P ↔ Q) : bi P = bi Q := by unfold bi; simp only [h]
end Jvm.RoadKit
namespace Jvm.RoadKit
open Sem ClassFile Op Lib Jvm.Stand Jvm.Free Jvm.LawKit
section OwnWords
variable {args : Array Value} {s : State} {idx : List Nat} {t i : Term} {aT : Addr} {cl : Cell} {b k A B z : Int32}
theorem own_or {G Y : Cond} (h : (Cond.or G Y).value args s none s idx = some true) (hg : G.value args s none s idx = some false) : Y.value args s none s idx = some true := by
  simpa only [Cond.value, hg] using h
theorem own_el (h : (Cond.eq (.elem t i) (.int b)).value args s none s idx = some true) (ht : t.eval args s none idx s = some (.ref aT)) (hi : i.eval args s none idx s = some (.int k)) (hc : s.heap[aT]? = some cl) : atv cl k = b := by
  obtain ⟨x, y, e1, e2, -, -⟩ := cmp_v (Or.inl h)
  obtain ⟨-, e3⟩ := elem_in e1 ht hi hc
  have e4 : (Term.int b).eval args s none idx s = some (.int b) := rfl
  cases e4.symm.trans e2
  have e5 : x = .int b := by cases x <;> simp [Cond.value, e1, e4] at h; rw [h]
  subst e5
  exact atv_of e3
theorem own_r1 (h : (Cond.all t (.or (.le (.int A) (.index 0)) (.eq (.elem t (.index 0)) (.int b)))).value args s none s [] = some true) (ht : ∀ idx, t.eval args s none idx s = some (.ref aT)) (hc : s.heap[aT]? = some cl) (ha : s.arrayAt? aT = some cl) {n : Nat} (hn : n < cl.slots.size) (h1 : ¬ A ≤ n.toInt32) : atv cl n.toInt32 = b := by
  have q := Cond.all_elim (ht []) ha h n hn
  exact own_el (own_or q (by simp [Cond.value, Term.eval, h1])) (ht _) (by simp [Term.eval]) hc
theorem own_r2 (h : (Cond.all t (.or (.lt (.index 0) (.int A)) (.or (.le (.int B) (.index 0)) (.eq (.elem t (.index 0)) (.int b))))).value args s none s [] = some true) (ht : ∀ idx, t.eval args s none idx s = some (.ref aT)) (hc : s.heap[aT]? = some cl) (ha : s.arrayAt? aT = some cl) {n : Nat} (hn : n < cl.slots.size) (h1 : ¬ n.toInt32 < A) (h2 : ¬ B ≤ n.toInt32) : atv cl n.toInt32 = b := by
  have q := Cond.all_elim (ht []) ha h n hn
  exact own_el (own_or (own_or q (by simp [Cond.value, Term.eval, h1])) (by simp [Cond.value, Term.eval, h2])) (ht _) (by simp [Term.eval]) hc
theorem own_len (h : (Cond.eq (.length t) (.int z)).value args s none s idx = some true) (ht : t.eval args s none idx s = some (.ref aT)) (ha : s.arrayAt? aT = some cl) : cl.slots.size < 2 ^ 31 ∧ cl.slots.size.toInt32 = z := by
  by_cases q : cl.slots.size < 2 ^ 31
  · simp [Cond.value, Term.eval, ht, ha, q] at h; exact ⟨q, h⟩
  · simp [Cond.value, Term.eval, ht, ha, q] at h
theorem own_sta_idx {C n d : String} {v : Value} (h : (Term.static C n d).eval args s none [] s = some v) (idx : List Nat) : (Term.static C n d).eval args s none idx s = some v := by
  simp only [Term.eval] at h ⊢; exact h
end OwnWords
theorem own_toInt_ofNat {n : Nat} (h : n < 2147483648) : (Int32.ofNat n).toInt = n := Int32.toInt_ofNat_small h
theorem own_of_rng {c : Int32} (h0 : ¬ c < 0) : c = Int32.ofNat c.toInt.toNat := by
  have h0' : 0 ≤ c.toInt := by rw [Int32.lt_iff_toInt_lt] at h0; have : (0 : Int32).toInt = 0 := rfl; omega
  have := c.toInt_lt
  apply Int32.toInt_inj.mp
  rw [own_toInt_ofNat (by omega)]; omega
end Jvm.RoadKit
namespace Jvm.RoadKit
open Sem ClassFile Op Lib Jvm.Stand Jvm.Free Jvm.LawKit
theorem own_ord {args : Array Value} {s : State} {t : Term} {a : Addr} {k : Int32} {C n d : String} (h : (Cond.eq (.field t C n d) (.int k)).value args s none s [] = some true) (ht : t.eval args s none [] s = some (.ref a)) : s.fieldOf? a C n d = some (.int k) := by
  obtain ⟨x, y, e1, e2, -, -⟩ := cmp_v (Or.inl h)
  have e4 : (Term.int k).eval args s none [] s = some (.int k) := rfl
  have e5 : x = .int k := by cases x <;> simp [Cond.value, e1, e4] at h; rw [h]
  rw [fld_at ht] at e1
  rw [e1, e5]
theorem own_ord_ne {o : Addr → Option Value} {a b : Addr} {j k : Int32} (h1 : o a = some (.int j)) (h2 : o b = some (.int k)) (hjk : ¬ j = k) : ¬ a = b := fun e => by
  subst e; exact hjk (Value.int.inj (Option.some.inj (h1.symm.trans h2)))
theorem own_and7 (x : Int32) : (x &&& 7).toInt = 0 ∨ (x &&& 7).toInt = 1 ∨ (x &&& 7).toInt = 2 ∨ (x &&& 7).toInt = 3 ∨ (x &&& 7).toInt = 4 ∨ (x &&& 7).toInt = 5 ∨ (x &&& 7).toInt = 6 ∨ (x &&& 7).toInt = 7 := by
  have h := c_mask x 7 3 (by decide) (by decide)
  have : ((2 ^ 3 : Nat) : Int) = 8 := rfl
  omega
theorem own_i32 {x k : Int32} {z : Int} (h : x.toInt = z) (hk : k.toInt = z) : x = k := Int32.toInt_inj.mp (h.trans hk.symm)
end Jvm.RoadKit
namespace Jvm.Pilot.@@N@@
open Jvm Jvm.ClassFile Sem Op Lib Jvm.Free Jvm.Stand Jvm.LawKit Jvm.RoadKit Bundle Jvm.Pilot.@@N@@.Jvm.D
def own_EL : List (String × Nat) := [("java/lang/String", 7)]
theorem own_b8 (y : Int32) : 0 ≤ (y &&& (255 : Int32)).toInt ∧ (y &&& (255 : Int32)).toInt < 256 := by
  have h := c_mask y 255 8 (by decide) (by decide)
  have e : ((2 ^ 8 : Nat) : Int) = 256 := rfl
  rw [e] at h; omega
theorem own_c2 {x : Int32} (h : 0 ≤ x.toInt ∧ x.toInt < 256) : x.toUInt32.toUInt16.toUInt32.toInt32 = x := Int32.toInt_inj.mp (by have := c_i2c x; omega)
theorem own_r2 {x : Int32} (h : ¬ x < 0 ∧ ¬ (255 : Int32) < x) : 0 ≤ x.toInt ∧ x.toInt < 256 := by
  obtain ⟨h1, h2⟩ := h
  rw [Int32.lt_iff_toInt_lt] at h1 h2
  have e0 : (0 : Int32).toInt = 0 := rfl
  have e1 : (255 : Int32).toInt = 255 := rfl
  omega
theorem own_r3 {x : Int32} (h : 0 ≤ x.toInt ∧ x.toInt < 256) : ¬ x < 0 ∧ ¬ (255 : Int32) < x := by
  rw [Int32.lt_iff_toInt_lt, Int32.lt_iff_toInt_lt]
  have e0 : (0 : Int32).toInt = 0 := rfl
  have e1 : (255 : Int32).toInt = 255 := rfl
  omega
theorem own_nc {x : Int32} (h : ¬ x < 0 ∧ ¬ (255 : Int32) < x) : nar .char x = x := own_c2 (own_r2 h)
theorem own_ncc {x : Int32} (h : ¬ x < 0 ∧ ¬ (255 : Int32) < x) : nar .char (x.toUInt32.toUInt16.toUInt32.toInt32) = x := by
  rw [own_c2 (own_r2 h)]; exact own_nc h
def own_Sb (Z : State) (kk : Nat) (h : Heap) (a : Addr) (cs : List Int32) : Prop := Exa Z h a "java/lang/String" ∧ Fld Z h a "java/lang/String" "coder" "B" (.int 0) ∧ ∃ (tt : Addr) (kb : ClassId), Fld Z h a "java/lang/String" "value" "[B" (.ref tt) ∧ Arv Z h tt kb .byte (Int32.ofNat cs.length) ((cs.map (fun c => c.toInt8.toInt32)).map Value.int) (.int 0) ∧ a < kk ∧ tt < kk
theorem own_Sb_keep {Z : State} {kk : Nat} {h h' : Heap} {a : Addr} {cs : List Int32} {ws : List Addr} (S : own_Sb Z kk h a cs) (K : Keep h h' ws) (q : ∀ x ∈ ws, kk ≤ x) : own_Sb Z kk h' a cs := by
  obtain ⟨h1, h2, tt, kb, h3, h4, l1, l2⟩ := S
  have n1 : a ∉ ws := fun z => absurd l1 (Nat.not_lt.mpr (q a z))
  have n2 : tt ∉ ws := fun z => absurd l2 (Nat.not_lt.mpr (q tt z))
  exact ⟨h1.keep K, h2.keep K n1, tt, kb, h3.keep K n1, h4.keep K n2, l1, l2⟩
theorem own_Sb_up {Z : State} {kk k2 : Nat} {h : Heap} {a : Addr} {cs : List Int32} (S : own_Sb Z kk h a cs) (q : kk ≤ k2) : own_Sb Z k2 h a cs := by
  obtain ⟨h1, h2, tt, kb, h3, h4, l1, l2⟩ := S
  exact ⟨h1, h2, tt, kb, h3, h4, Nat.lt_of_lt_of_le l1 q, Nat.lt_of_lt_of_le l2 q⟩
theorem own_safe {Z : State} {EL : List (String × Nat)} {vm : Vm} {h : Heap} {x : Addr} (hal : Z.vm.Alike vm) (E : Exa Z h x "java/lang/String") (V : Fld Z h x "java/lang/String" "value" "[B" .null) : Safe Z EL vm h x := fun B => by
  obtain ⟨p, -, u, a, -, q, -, F, rfl | rfl⟩ := B
  · obtain ⟨cell, cf, k, i, f, h1, h2, h3, h4, h5, h6, h7⟩ := V
    have s1 : h[q.sa]? = some q.sC := F.ha
    obtain ⟨cS, ⟨⟨-, -, -, ⟨c1, k1, i1, f1, -⟩, -, -, -, v1, -⟩, -⟩, -⟩ := F
    obtain ⟨k3, e3, -⟩ := State.fieldFound?_setVm (s := ({ Z with heap := h } : State)) (vm' := vm) hal (show ({ Z with heap := h } : State).fieldFound? "java/lang/String" "value" "[B" = some (cf, k, i, f) from h2)
    have e4 := (show (Wst Z vm h).fieldFound? _ _ _ = _ from e3).symm.trans f1
    simp only [Option.some.injEq, Prod.mk.injEq] at e4
    cases h1.symm.trans s1
    rw [e4.2.2.2, v1] at h7
    cases h7
  · obtain ⟨cell, k, e1, e2, e3, -, -⟩ := E
    cases (show h[q.sd]? = some q.SA from F.hd).symm.trans e1
    obtain ⟨cS, -, -, f, -⟩ := F
    have f' : vm.findClass "[B" = some q.SA.cls := f
    rw [hal.findClass] at f'
    obtain ⟨k1, q1, q2⟩ := Vm.findClass_spec f'
    obtain ⟨k2, q3, q4⟩ := Vm.findClass_spec e2
    cases q1.symm.trans q3
    exact absurd (q2.symm.trans q4) (by decide)
theorem own_bd {cs : List Int32} (h : ∀ c ∈ cs, ¬ c < 0 ∧ ¬ (255 : Int32) < c) : ∀ c ∈ cs, ¬ c < 0 ∧ ¬ (65535 : Int32) < c := fun c hc => by
  obtain ⟨h1, h2⟩ := h c hc
  refine ⟨h1, ?_⟩
  rw [Int32.lt_iff_toInt_lt] at h2 ⊢
  have e0 : (255 : Int32).toInt = 255 := rfl
  have e1 : (65535 : Int32).toInt = 65535 := rfl
  omega
def own_at (E : List Int32) (su : Nat) (Rl : List Int32) (j : Nat) : Int32 := if j < su then E.getD j 0 else if j - su < 2 then Rl.getD (j - su) 0 else 0
def own_nxt (E : List Int32) (su : Nat) (Rl : List Int32) : List Int32 := [own_at E su Rl 0, own_at E su Rl 1, own_at E su Rl 2, own_at E su Rl 3, own_at E su Rl 4, own_at E su Rl 5, own_at E su Rl 6, own_at E su Rl 7]
theorem own_nxt_at {E Rl : List Int32} {su j : Nat} (h : j < 8) : (own_nxt E su Rl).getD j 0 = own_at E su Rl j := by
  match j, h with
  | 0, _ => rfl
  | 1, _ => rfl
  | 2, _ => rfl
  | 3, _ => rfl
  | 4, _ => rfl
  | 5, _ => rfl
  | 6, _ => rfl
  | 7, _ => rfl
def own_OK (cs : List Int32) : Prop := ∀ c ∈ cs, ¬ c < 0 ∧ ¬ (255 : Int32) < c
theorem own_OK_get {cs : List Int32} (h : own_OK cs) (j : Nat) : ¬ cs.getD j 0 < 0 ∧ ¬ (255 : Int32) < cs.getD j 0 := by
  by_cases q : j < cs.length
  · rw [List.getD_eq_getElem?_getD, List.getElem?_eq_getElem q]; exact h _ (List.getElem_mem q)
  · rw [List.getD_eq_getElem?_getD, List.getElem?_eq_none (Nat.le_of_not_lt q)]; decide
theorem own_at_r {E Rl : List Int32} {su j : Nat} (hE : own_OK E) (hR : own_OK Rl) : ¬ own_at E su Rl j < 0 ∧ ¬ (255 : Int32) < own_at E su Rl j := by
  unfold own_at
  split
  · exact own_OK_get hE _
  · split
    · exact own_OK_get hR _
    · decide
theorem own_nxt_OK {E Rl : List Int32} {su : Nat} (hE : own_OK E) (hR : own_OK Rl) : own_OK (own_nxt E su Rl) := fun c hc => by
  unfold own_nxt at hc
  simp only [List.mem_cons, List.not_mem_nil, or_false] at hc
  rcases hc with rfl | rfl | rfl | rfl | rfl | rfl | rfl | rfl <;> exact own_at_r hE hR
def own_fl (rs : List Int32) : Nat → Nat → Nat → List Int32 → List Int32
  | 0, _, _, xs => xs
  | n + 1, off, i, xs => own_fl rs n (off + 1) (i + 1) (xs.set off (rs.getD i 0))
theorem own_fl_len (rs : List Int32) : ∀ (n off i : Nat) (xs : List Int32), (own_fl rs n off i xs).length = xs.length
  | 0, _, _, _ => rfl
  | n + 1, off, i, xs => by unfold own_fl; rw [own_fl_len rs n, List.length_set]
theorem own_gs {ks : List Int32} {i j : Nat} {v : Int32} (hi : i < ks.length) : (ks.set i v).getD j 0 = if i = j then v else ks.getD j 0 := by
  simp only [List.getD_eq_getElem?_getD, List.getElem?_set]
  by_cases q : i = j
  · subst q; simp [hi]
  · simp [q]
theorem own_fl_get (rs : List Int32) : ∀ (n off i : Nat) (xs : List Int32), off + n ≤ xs.length → ∀ j, (own_fl rs n off i xs).getD j 0 = if off ≤ j ∧ j < off + n then rs.getD (i + (j - off)) 0 else xs.getD j 0
  | 0, off, i, xs, h, j => by rw [if_neg (by omega)]; rfl
  | n + 1, off, i, xs, h, j => by
    unfold own_fl
    rw [own_fl_get rs n (off + 1) (i + 1) _ (by rw [List.length_set]; omega) j, own_gs (by omega)]
    by_cases q1 : off = j
    · rw [if_neg (by omega), if_pos q1, if_pos (by omega)]
      rw [show i + (j - off) = i by omega]
    · by_cases q2 : off + 1 ≤ j ∧ j < off + 1 + n
      · rw [if_pos q2, if_pos (by omega)]
        rw [show i + 1 + (j - (off + 1)) = i + (j - off) by omega]
      · rw [if_neg q2, if_neg q1, if_neg (by omega)]
theorem own_ext {xs ys : List Int32} (hl : xs.length = ys.length) (h : ∀ j, j < xs.length → xs.getD j 0 = ys.getD j 0) : xs = ys := by
  refine List.ext_getElem hl fun j h1 h2 => ?_
  have q := h j h1
  simp only [List.getD_eq_getElem?_getD, List.getElem?_eq_getElem h1, List.getElem?_eq_getElem h2] at q
  exact q
theorem own_take_get {xs : List Int32} {n j : Nat} (h : j < n) : (xs.take n).getD j 0 = xs.getD j 0 := by
  simp only [List.getD_eq_getElem?_getD, List.getElem?_take, if_pos h]
def own_V (n : Nat) (Sh Ho Ln : Nat → Nat) (E : Nat → List Int32) (Rr : Nat → List Int32) : Prop := ∀ u, u < n → Sh u ≤ Ln u ∧ Ln u ≤ 8 ∧ ((E u).length = 8 ∧ own_OK (E u)) ∧ (Rr u).length = Ln u - Sh u ∧ own_OK (Rr u) ∧ (∀ j, Sh u ≤ j → j < Ln u → (E u).getD j 0 = (Rr u).getD (j - Sh u) 0) ∧
  (0 < Sh u → Ho u < u ∧ Sh (Ho u) < Sh u ∧ Sh u ≤ Ln (Ho u) ∧ ∀ j, j < Sh u → (E u).getD j 0 = (E (Ho u)).getD j 0)
def own_uf {α : Type} (f : Nat → α) (n : Nat) (v : α) : Nat → α := fun u => if u = n then v else f u
theorem own_uf_s {α : Type} {f : Nat → α} {n : Nat} {v : α} : own_uf f n v n = v := if_pos rfl
theorem own_uf_n {α : Type} {f : Nat → α} {n u : Nat} {v : α} (h : ¬ u = n) : own_uf f n v u = f u := if_neg h
theorem own_V_add {n : Nat} {Sh Ho Ln : Nat → Nat} {E Rr : Nat → List Int32} {su ho ln : Nat} {e r : List Int32} (H : own_V n Sh Ho Ln E Rr) (h1 : su ≤ ln) (h2 : ln ≤ 8) (h3 : e.length = 8 ∧ own_OK e) (h4 : r.length = ln - su) (h5 : own_OK r) (h6 : ∀ j, su ≤ j → j < ln → e.getD j 0 = r.getD (j - su) 0)
    (h7 : 0 < su → ho < n ∧ Sh ho < su ∧ su ≤ Ln ho ∧ ∀ j, j < su → e.getD j 0 = (E ho).getD j 0) : own_V (n + 1) (own_uf Sh n su) (own_uf Ho n ho) (own_uf Ln n ln) (own_uf E n e) (own_uf Rr n r) := by
  intro u hu
  by_cases q : u = n
  · subst q
    simp only [own_uf_s]
    refine ⟨h1, h2, h3, h4, h5, h6, fun q => ?_⟩
    obtain ⟨a1, a2, a3, a4⟩ := h7 q
    rw [own_uf_n (by omega), own_uf_n (by omega), own_uf_n (by omega)]
    exact ⟨a1, a2, a3, a4⟩
  · obtain ⟨b1, b2, b3, b4, b5, b6, b7⟩ := H u (by omega)
    rw [own_uf_n q, own_uf_n q, own_uf_n q, own_uf_n q, own_uf_n q]
    refine ⟨b1, b2, b3, b4, b5, b6, fun z => ?_⟩
    obtain ⟨a1, a2, a3, a4⟩ := b7 z
    rw [own_uf_n (by omega), own_uf_n (by omega), own_uf_n (by omega)]
    exact ⟨a1, a2, a3, a4⟩
abbrev oi (n : Nat) : Slot := .val (.int (Int32.ofNat n))
abbrev oa (a : Addr) : Slot := .val (.ref a)
abbrev ov (x : Int32) : Slot := .val (.int x)
theorem own_ci {i : Nat} (h : i < 100) : (Int32.ofNat i).toNatClampNeg = i := by
  have e1 := own_toInt_ofNat (n := i) (by omega)
  simp only [Int32.toNatClampNeg, e1]; omega
theorem own_oi {i j : Nat} (hi : i < 100) (hj : j < 100) (h : Int32.ofNat i = Int32.ofNat j) : i = j := by
  have := congrArg Int32.toNatClampNeg h
  rw [own_ci hi, own_ci hj] at this; exact this
theorem own_cmp {i n : Nat} (h1 : i < 100) (h2 : n < 100) : (Int32.ofNat i < Int32.ofNat n) ↔ i < n := by
  rw [Int32.lt_iff_toInt_lt, own_toInt_ofNat (by omega), own_toInt_ofNat (by omega)]; omega
theorem own_nn {i : Nat} (h : i < 100) : ¬ Int32.ofNat i < 0 := by
  rw [Int32.lt_iff_toInt_lt, own_toInt_ofNat (by omega)]; have : (0 : Int32).toInt = 0 := rfl; omega
theorem own_inr {i n : Nat} (h : i < n) (hn : n < 100) : ¬ Int32.ofNat i < 0 ∧ Int32.ofNat i < Int32.ofNat n := ⟨own_nn (by omega), (own_cmp (by omega) hn).mpr h⟩
theorem own_inc {i : Nat} (h : i < 100) : Int32.ofNat (i + 1) = Int32.ofNat i + (1 : Int32) := by
  apply Int32.toInt_inj.mp
  have h1 := c_iadd (Int32.ofNat i) 1
  have e1 := own_toInt_ofNat (n := i) (by omega)
  have e2 := own_toInt_ofNat (n := i + 1) (by omega)
  have e3 : (1 : Int32).toInt = 1 := rfl
  have h2 := rng32 (Int32.ofNat i + 1)
  omega
theorem own_adn {i j : Nat} (h : i < 100) (h' : j < 100) : Int32.ofNat (i + j) = Int32.ofNat i + Int32.ofNat j := by
  apply Int32.toInt_inj.mp
  have h1 := c_iadd (Int32.ofNat i) (Int32.ofNat j)
  have e1 := own_toInt_ofNat (n := i) (by omega)
  have e3 := own_toInt_ofNat (n := j) (by omega)
  have e2 := own_toInt_ofNat (n := i + j) (by omega)
  have h2 := rng32 (Int32.ofNat i + Int32.ofNat j)
  omega
theorem own_sbn {i j : Nat} (h : i < 100) (h' : j ≤ i) : Int32.ofNat (i - j) = Int32.ofNat i - Int32.ofNat j := by
  apply Int32.toInt_inj.mp
  have h1 := c_isub (Int32.ofNat i) (Int32.ofNat j)
  have e1 := own_toInt_ofNat (n := i) (by omega)
  have e3 := own_toInt_ofNat (n := j) (by omega)
  have e2 := own_toInt_ofNat (n := i - j) (by omega)
  have h2 := rng32 (Int32.ofNat i - Int32.ofNat j)
  omega
theorem own_gd (ks : List Int32) (j : Nat) (dv : Value) (h : dv = .int 0) : (ks.map Value.int).getD j dv = .int (ks.getD j 0) := by
  subst h
  simp only [List.getD_eq_getElem?_getD, List.getElem?_map]
  cases ks[j]? <;> rfl
theorem own_gi (ks : List Int32) {i : Nat} (h : i < 100) : (ks.map Value.int).getD (Int32.ofNat i).toNatClampNeg (.int 0) = .int (ks.getD i 0) := by
  rw [own_ci h]; exact own_gd _ _ _ rfl
theorem own_mapl {ks : List Int32} {i n : Nat} (h : ks.length = n) (hi : i < n) : i < (ks.map Value.int).length := by rw [List.length_map, h]; exact hi
def own_mn (x y : Int32) : Int32 := if y < x then y else x
def own_chl (x : Int64) (i : Int32) : Int32 := ((((x.toUInt64 >>> (((8 : Int32) * i) &&& 0x3f).toInt64.toUInt64).toInt64) &&& (255 : Int64)).toInt32)
theorem own_chl_r (x : Int64) (i : Int32) : ¬ own_chl x i < 0 ∧ ¬ (255 : Int32) < own_chl x i := by
  refine own_r3 ?_
  unfold own_chl
  obtain ⟨y, hy⟩ : ∃ y, y = ((x.toUInt64 >>> (((8 : Int32) * i) &&& 0x3f).toInt64.toUInt64).toInt64) := ⟨_, rfl⟩
  rw [← hy]
  have h := c_maskL y 255 8 (by decide) (by decide)
  have e : ((2 ^ 8 : Nat) : Int) = 256 := rfl
  rw [e] at h
  have h1 := c_l2i (y &&& (255 : Int64))
  have h2 := rng32 (y &&& (255 : Int64)).toInt32
  omega
theorem own_or3 {a b c : Nat} (ha : a < 100) (hb : b < 100) (hc : c < 100) : ¬ ((Int32.ofNat a ||| Int32.ofNat b) ||| Int32.ofNat c) < 0 := by
  have e0 : (0 : Int32).toInt = 0 := rfl
  have e1 := own_toInt_ofNat (n := a) (by omega)
  have e2 := own_toInt_ofNat (n := b) (by omega)
  have e3 := own_toInt_ofNat (n := c) (by omega)
  have h1 := (c_orS (Int32.ofNat a) (Int32.ofNat b)).1 (by omega) (by omega)
  have h2 := (c_orS (Int32.ofNat a ||| Int32.ofNat b) (Int32.ofNat c)).1 h1 (by omega)
  rw [Int32.lt_iff_toInt_lt]; omega
theorem own_isref {v : Value} (h : v.isRef = true) : v = .null ∨ ∃ a, v = .ref a := by
  cases v <;> first | exact Or.inl rfl | exact Or.inr ⟨_, rfl⟩ | exact absurd h (by simp [Value.isRef])
theorem own_b2c {c : Int32} (h : ¬ c < 0 ∧ ¬ (255 : Int32) < c) : nar .char ((((c.toInt8.toInt32) &&& (255 : Int32)).toUInt32.toUInt16.toUInt32.toInt32)) = c := by
  have r := own_r2 h
  have e : (c.toInt8.toInt32) &&& (255 : Int32) = c := Int32.toInt_inj.mp (by
    have h1 := c_mask (c.toInt8.toInt32) 255 8 (by decide) (by decide)
    have e : ((2 ^ 8 : Nat) : Int) = 256 := rfl
    rw [e] at h1
    have h2 := c_i2b c
    omega)
  rw [e]; exact own_ncc h
def QMi (Z : State) (x : Int32) (y : Int32) (h0 : Heap) (n0 : Nat) (v : Option Value) (h : Heap) (L : List Loc) : Prop := v = some (.int (own_mn x y)) ∧ Fr n0 L ∧ h = h0
theorem ef_Mi (m : MethodId) (x0 : Int32) (x1 : Int32) : entryFrame m #[(.int x0), (.int x1)] 2 = mkF m 0 #[.val (.int x0), .val (.int x1)] [] := by first | (simp [entryFrame, mkF, argsToLocals, Value.category]; done) | rfl
theorem d_jdk_29_method_69_0 : decode jdk_29_method_69_code 0 = .ok (.iload_n 0, 1) := by decide +kernel
theorem d_jdk_29_method_69_1 : decode jdk_29_method_69_code 1 = .ok (.iload_n 1, 1) := by decide +kernel
theorem d_jdk_29_method_69_2 : decode jdk_29_method_69_code 2 = .ok (.if_icmp .gt 7, 3) := by decide +kernel
theorem d_jdk_29_method_69_9 : decode jdk_29_method_69_code 9 = .ok (.iload_n 1, 1) := by decide +kernel
theorem d_jdk_29_method_69_10 : decode jdk_29_method_69_code 10 = .ok (.ireturn, 1) := by decide +kernel
theorem d_jdk_29_method_69_5 : decode jdk_29_method_69_code 5 = .ok (.iload_n 0, 1) := by decide +kernel
theorem d_jdk_29_method_69_6 : decode jdk_29_method_69_code 6 = .ok (.goto 4, 3) := by decide +kernel
set_option maxRecDepth 65536 in
set_option maxHeartbeats 40000000 in
theorem rmMi (l : Launch) (Z : State) (a0 : Array Value) (hw : ∀ d ∈ tables_1, d.before a0 Z = true) (ws : List Jvm.Cond) (x : Int32) (y : Int32) (h0 : Heap) (n0 : Nat) (Z0 : n0 ≤ h0.size) :
    MetFree l (⟨"java/lang/Math", "min", "(II)I"⟩ : MethodName) (head1 (Jvm.Cond.code (⟨"java/lang/Math", "min", "(II)I"⟩ : MethodName) jdk_29_method_69_code 2 (some .int) :: ws) ({ frames := 0, cells := 0, slots := 0, locals := 0 } : Room)) (fun a_ U_ => a_ = #[(.int x), (.int y)] ∧ Z.Warmed39 U_.vm ∧ U_.heap = h0) (fun _ _ _ _ _ => True) (fun _ U_ o_ E_ => ∃ v_ L_, o_ = .returned v_ ∧ QMi Z x y h0 n0 v_ E_.heap L_ ∧ FrameEnd U_ o_ E_ L_ ({ frames := 0, cells := 0, slots := 0, locals := 0 } : Room).cells ({ frames := 0, cells := 0, slots := 0, locals := 0 } : Room).slots) := by
  refine MetFree.of_bodySF (by decide +kernel) hisR ?_
  intro p e s m args below meth c s₁ Bd hml0 hP hK
  obtain ⟨rfl, hZ, hh⟩ := hP
  have hx := Bd.exec
  have hby := Bd.bytes
  have hml : c.maxLocals = 2 := hml0
  have hown : s.vm.findClass "java/lang/Math" = some m.cls := findClass_of_methodNamed Bd.named
  have hnm := (name_of_methodNamed Bd.named Bd.method).1
  have X0 : Stand p l e ({ frames := 0, cells := 0, slots := 0, locals := 0 } : Room) s m #[(.int x), (.int y)] below meth c s₁ [] 0 0 := Stand.of_body Bd
  have e0 : s₁.heap = h0 := by rw [← hh, Bd.state]; rfl
  have N0 := Fr.nil n0
  have Zn := Z0
  have pre0 : ∀ t, Steps p.tables e below (s₁.setTop (mkF m 0 #[.val (.int x), .val (.int y)] [])) t → Steps p.tables e below (s₁.setTop (entryFrame m #[(.int x), (.int y)] 2)) t := fun t q => castTop (ef_Mi m x y) q
  have k0 : ∀ t, Steps p.tables e below (s₁.setTop (mkF m 0 #[.val (.int x), .val (.int y)] [])) t → Steps p.tables e below (s₁.setTop (mkF m 0 #[.val (.int x), .val (.int y)] [])) t := fun t q => q
  let G_ : State → Prop := fun t => Steps p.tables e below (s₁.setTop (mkF m 0 #[.val (.int x), .val (.int y)] [])) t
  have k1_ : ∀ t, Steps p.tables e below (s₁.setTop (mkF m 2 #[ov x, ov y] [(.int y), (.int x)])) t → G_ t := by
    intro t q
    refine k0 _ ?_
    show Steps p.tables e below (s₁.setTop (mkF m 0 #[ov x, ov y] [])) _
    refine XS.iloadN X0.here hx rfl (hb hby d_jdk_29_method_69_0) rfl ?_
    refine XS.iloadN X0.here hx rfl (hb hby d_jdk_29_method_69_1) rfl ?_
    show Steps p.tables e below (s₁.setTop (mkF m 2 #[ov x, ov y] [(.int y), (.int x)])) _
    exact q
  by_cases hc : y < x
  · have k2_ : ∀ t, Steps p.tables e below (s₁.setTop (mkF m 9 #[ov x, ov y] [])) t → G_ t := by
      intro t q
      refine k1_ _ ?_
      show Steps p.tables e below (s₁.setTop (mkF m 2 #[ov x, ov y] [(.int y), (.int x)])) _
      refine XS.icmpYes X0.here hx rfl (pc0 := 2) (pc' := 9) rfl (hb hby d_jdk_29_method_69_2) rfl (tlt hc).2.2.1 (by decide) (by decide) ?_
      show Steps p.tables e below (s₁.setTop (mkF m 9 #[ov x, ov y] [])) _
      exact q
    have k3_ : ∀ t, Steps p.tables e below (s₁.setTop (mkF m 10 #[ov x, ov y] [(.int y)])) t → G_ t := by
      intro t q
      refine k2_ _ ?_
      show Steps p.tables e below (s₁.setTop (mkF m 9 #[ov x, ov y] [])) _
      refine XS.iloadN X0.here hx rfl (hb hby d_jdk_29_method_69_9) rfl ?_
      show Steps p.tables e below (s₁.setTop (mkF m 10 #[ov x, ov y] [(.int y)])) _
      exact q
    obtain ⟨fs, hr, hrun, hended, hW, hsame⟩ := X0.leave (v := some (.int y)) (fun h => by rw [Bd.returns] at h; cases h)
    refine ⟨_, _, pre0 _ (k3_ _ ?_), hrun, hended, _, _, rfl, ?_, ⟨_, rfl⟩, hW, hsame.mono (by decide) (by decide)⟩
    · show Steps p.tables e below (s₁.setTop (mkF m 10 #[ov x, ov y] [(.int y)])) _
      exact retI X0 hx Bd.returns (hb hby d_jdk_29_method_69_10) hr
    · show QMi Z x y h0 n0 _ s₁.heap _
      rw [e0]
      exact ⟨by unfold own_mn; rw [if_pos hc], N0, rfl⟩
  · have k4_ : ∀ t, Steps p.tables e below (s₁.setTop (mkF m 5 #[ov x, ov y] [])) t → G_ t := by
      intro t q
      refine k1_ _ ?_
      show Steps p.tables e below (s₁.setTop (mkF m 2 #[ov x, ov y] [(.int y), (.int x)])) _
      refine XS.icmpNo X0.here hx rfl (hb hby d_jdk_29_method_69_2) rfl (flt hc).2.2.1 ?_
      show Steps p.tables e below (s₁.setTop (mkF m 5 #[ov x, ov y] [])) _
      exact q
    have k5_ : ∀ t, Steps p.tables e below (s₁.setTop (mkF m 10 #[ov x, ov y] [(.int x)])) t → G_ t := by
      intro t q
      refine k4_ _ ?_
      show Steps p.tables e below (s₁.setTop (mkF m 5 #[ov x, ov y] [])) _
      refine XS.iloadN X0.here hx rfl (hb hby d_jdk_29_method_69_5) rfl ?_
      refine XS.goto X0.here hx rfl (pc0 := 6) (pc' := 10) rfl (hb hby d_jdk_29_method_69_6) (by decide) (by decide) ?_
      show Steps p.tables e below (s₁.setTop (mkF m 10 #[ov x, ov y] [(.int x)])) _
      exact q
    obtain ⟨fs, hr, hrun, hended, hW, hsame⟩ := X0.leave (v := some (.int x)) (fun h => by rw [Bd.returns] at h; cases h)
    refine ⟨_, _, pre0 _ (k5_ _ ?_), hrun, hended, _, _, rfl, ?_, ⟨_, rfl⟩, hW, hsame.mono (by decide) (by decide)⟩
    · show Steps p.tables e below (s₁.setTop (mkF m 10 #[ov x, ov y] [(.int x)])) _
      exact retI X0 hx Bd.returns (hb hby d_jdk_29_method_69_10) hr
    · show QMi Z x y h0 n0 _ s₁.heap _
      rw [e0]
      exact ⟨by unfold own_mn; rw [if_neg hc], N0, rfl⟩
def QK (Z : State) (px : Int64) (ix : Int32) (h0 : Heap) (n0 : Nat) (v : Option Value) (h : Heap) (L : List Loc) : Prop := v = some (.int (own_chl px ix)) ∧ Fr n0 L ∧ h = h0
theorem ef_K (m : MethodId) (x0 : Int64) (x1 : Int32) : entryFrame m #[(.long x0), (.int x1)] 3 = mkF m 0 #[.val (.long x0), .second, .val (.int x1)] [] := by first | (simp [entryFrame, mkF, argsToLocals, Value.category]; done) | rfl
theorem pn_UnitPathsAddPinLaw : plainName "com/example/haku/haku/index/UnitPathsAddPinLaw" = true := by first | (simp [plainName, overriddenIn]; done) | decide +kernel
theorem d_method_3_0 : decode method_3_code 0 = .ok (.lload_n 0, 1) := by decide +kernel
theorem d_method_3_1 : decode method_3_code 1 = .ok (.bipush 8, 2) := by decide +kernel
theorem d_method_3_3 : decode method_3_code 3 = .ok (.iload_n 2, 1) := by decide +kernel
theorem d_method_3_4 : decode method_3_code 4 = .ok (.imul, 1) := by decide +kernel
theorem d_method_3_5 : decode method_3_code 5 = .ok (.lushr, 1) := by decide +kernel
theorem d_method_3_6 : decode method_3_code 6 = .ok (.ldc2_w 45, 3) := by decide +kernel
theorem d_method_3_9 : decode method_3_code 9 = .ok (.land, 1) := by decide +kernel
theorem d_method_3_10 : decode method_3_code 10 = .ok (.l2i, 1) := by decide +kernel
theorem d_method_3_11 : decode method_3_code 11 = .ok (.i2c, 1) := by decide +kernel
theorem d_method_3_12 : decode method_3_code 12 = .ok (.ireturn, 1) := by decide +kernel
set_option maxRecDepth 65536 in
set_option maxHeartbeats 40000000 in
theorem rmK (l : Launch) (Z : State) (a0 : Array Value) (hw : ∀ d ∈ tables_1, d.before a0 Z = true) (ws : List Jvm.Cond) (px : Int64) (ix : Int32) (h0 : Heap) (n0 : Nat) (Z0 : n0 ≤ h0.size) :
    MetFree l (⟨"com/example/haku/haku/index/UnitPathsAddPinLaw", "ch", "(JI)C"⟩ : MethodName) (head1 (Jvm.Cond.code (⟨"com/example/haku/haku/index/UnitPathsAddPinLaw", "ch", "(JI)C"⟩ : MethodName) method_3_code 3 (some .char) :: ws) ({ frames := 0, cells := 0, slots := 0, locals := 0 } : Room)) (fun a_ U_ => a_ = #[(.long px), (.int ix)] ∧ Z.Warmed39 U_.vm ∧ U_.heap = h0) (fun _ _ _ _ _ => True) (fun _ U_ o_ E_ => ∃ v_ L_, o_ = .returned v_ ∧ QK Z px ix h0 n0 v_ E_.heap L_ ∧ FrameEnd U_ o_ E_ L_ ({ frames := 0, cells := 0, slots := 0, locals := 0 } : Room).cells ({ frames := 0, cells := 0, slots := 0, locals := 0 } : Room).slots) := by
  refine MetFree.of_bodySF (plainFor_of_name pn_UnitPathsAddPinLaw) hisR ?_
  intro p e s m args below meth c s₁ Bd hml0 hP hK
  obtain ⟨rfl, hZ, hh⟩ := hP
  have hx := Bd.exec
  have hby := Bd.bytes
  have hml : c.maxLocals = 3 := hml0
  have hown : s.vm.findClass "com/example/haku/haku/index/UnitPathsAddPinLaw" = some m.cls := findClass_of_methodNamed Bd.named
  have hnm := (name_of_methodNamed Bd.named Bd.method).1
  have X0 : Stand p l e ({ frames := 0, cells := 0, slots := 0, locals := 0 } : Room) s m #[(.long px), (.int ix)] below meth c s₁ [] 0 0 := Stand.of_body Bd
  have e0 : s₁.heap = h0 := by rw [← hh, Bd.state]; rfl
  have N0 := Fr.nil n0
  have Zn := Z0
  have pre0 : ∀ t, Steps p.tables e below (s₁.setTop (mkF m 0 #[.val (.long px), .second, .val (.int ix)] [])) t → Steps p.tables e below (s₁.setTop (entryFrame m #[(.long px), (.int ix)] 3)) t := fun t q => castTop (ef_K m px ix) q
  have k0 : ∀ t, Steps p.tables e below (s₁.setTop (mkF m 0 #[.val (.long px), .second, .val (.int ix)] [])) t → Steps p.tables e below (s₁.setTop (mkF m 0 #[.val (.long px), .second, .val (.int ix)] [])) t := fun t q => q
  let G_ : State → Prop := fun t => Steps p.tables e below (s₁.setTop (mkF m 0 #[.val (.long px), .second, .val (.int ix)] [])) t
  have k1_ : ∀ t, Steps p.tables e below (s₁.setTop (mkF m 12 #[.val (.long px), .second, ov ix] [(.int (((((px.toUInt64 >>> (((8 : Int32) * ix) &&& 0x3f).toInt64.toUInt64).toInt64) &&& (255 : Int64)).toInt32).toUInt32.toUInt16.toUInt32.toInt32))])) t → G_ t := by
    intro t q
    refine k0 _ ?_
    show Steps p.tables e below (s₁.setTop (mkF m 0 #[.val (.long px), .second, ov ix] [])) _
    refine XS.lloadN X0.here hx rfl (hb hby d_method_3_0) rfl ?_
    refine XS.bipush X0.here hx rfl (hb hby d_method_3_1) ?_
    refine XS.iloadN X0.here hx rfl (hb hby d_method_3_3) rfl ?_
    refine XS.imul X0.here hx rfl (hb hby d_method_3_4) rfl ?_
    show Steps p.tables e below (s₁.setTop (mkF m 5 #[.val (.long px), .second, ov ix] [(.int ((8 : Int32) * ix)), (.long px)])) _
    refine XS.lushr X0.here hx rfl (hb hby d_method_3_5) rfl ?_
    refine X0.ldc2Long hx hown (mvT hZ (hw _ (List.mem_of_getElem? (i := 9) rfl))) (g := (mkF m 6 #[.val (.long px), .second, ov ix] [(.long ((px.toUInt64 >>> (((8 : Int32) * ix) &&& 0x3f).toInt64.toUInt64).toInt64))])) rfl (hb hby d_method_3_6) _ ?_
    refine XS.land X0.here hx rfl (hb hby d_method_3_9) rfl ?_
    refine XS.l2i X0.here hx rfl (hb hby d_method_3_10) rfl ?_
    show Steps p.tables e below (s₁.setTop (mkF m 11 #[.val (.long px), .second, ov ix] [(.int ((((px.toUInt64 >>> (((8 : Int32) * ix) &&& 0x3f).toInt64.toUInt64).toInt64) &&& (255 : Int64)).toInt32))])) _
    refine XS.i2c X0.here hx rfl (hb hby d_method_3_11) rfl ?_
    show Steps p.tables e below (s₁.setTop (mkF m 12 #[.val (.long px), .second, ov ix] [(.int (((((px.toUInt64 >>> (((8 : Int32) * ix) &&& 0x3f).toInt64.toUInt64).toInt64) &&& (255 : Int64)).toInt32).toUInt32.toUInt16.toUInt32.toInt32))])) _
    exact q
  obtain ⟨fs, hr, hrun, hended, hW, hsame⟩ := X0.leave (v := some (.int (nar .char (((((px.toUInt64 >>> (((8 : Int32) * ix) &&& 0x3f).toInt64.toUInt64).toInt64) &&& (255 : Int64)).toInt32).toUInt32.toUInt16.toUInt32.toInt32)))) (fun h => by rw [Bd.returns] at h; cases h)
  refine ⟨_, _, pre0 _ (k1_ _ ?_), hrun, hended, _, _, rfl, ?_, ⟨_, rfl⟩, hW, hsame.mono (by decide) (by decide)⟩
  · show Steps p.tables e below (s₁.setTop (mkF m 12 #[.val (.long px), .second, ov ix] [(.int (((((px.toUInt64 >>> (((8 : Int32) * ix) &&& 0x3f).toInt64.toUInt64).toInt64) &&& (255 : Int64)).toInt32).toUInt32.toUInt16.toUInt32.toInt32))])) _
    exact retN X0 hx (t := .char) Bd.returns (by simp) (hb hby d_method_3_12) hr
  · show QK Z px ix h0 n0 _ s₁.heap _
    rw [e0]
    exact ⟨(congrArg (fun z => some (Value.int z)) (own_ncc (own_chl_r px ix))), N0, rfl⟩
def QA (Z : State) (pb : Addr) (su : Nat) (rb : Addr) (jj : Nat) (E : List Int32) (Rl : List Int32) (kE : ClassId) (kR : ClassId) (h0 : Heap) (n0 : Nat) (v : Option Value) (h : Heap) (L : List Loc) : Prop := v = some (.int (own_at E su Rl jj)) ∧ Fr n0 L ∧ h = h0
theorem ef_A (m : MethodId) (x0 : Addr) (x1 : Int32) (x2 : Addr) (x3 : Int32) : entryFrame m #[(.ref x0), (.int x1), (.ref x2), (.int x3)] 5 = mkF m 0 #[.val (.ref x0), .val (.int x1), .val (.ref x2), .val (.int x3), .unset] [] := by first | (simp [entryFrame, mkF, argsToLocals, Value.category]; done) | rfl
theorem d_method_5_0 : decode method_5_code 0 = .ok (.iload_n 3, 1) := by decide +kernel
theorem d_method_5_1 : decode method_5_code 1 = .ok (.iload_n 1, 1) := by decide +kernel
theorem d_method_5_2 : decode method_5_code 2 = .ok (.if_icmp .ge 7, 3) := by decide +kernel
theorem d_method_5_5 : decode method_5_code 5 = .ok (.aload_n 0, 1) := by decide +kernel
theorem d_method_5_6 : decode method_5_code 6 = .ok (.iload_n 3, 1) := by decide +kernel
theorem d_method_5_7 : decode method_5_code 7 = .ok (.caload, 1) := by decide +kernel
theorem d_method_5_8 : decode method_5_code 8 = .ok (.ireturn, 1) := by decide +kernel
theorem d_method_5_9 : decode method_5_code 9 = .ok (.iload_n 3, 1) := by decide +kernel
theorem d_method_5_10 : decode method_5_code 10 = .ok (.iload_n 1, 1) := by decide +kernel
theorem d_method_5_11 : decode method_5_code 11 = .ok (.isub, 1) := by decide +kernel
theorem d_method_5_12 : decode method_5_code 12 = .ok (.istore 4, 2) := by decide +kernel
theorem d_method_5_14 : decode method_5_code 14 = .ok (.iload 4, 2) := by decide +kernel
theorem d_method_5_16 : decode method_5_code 16 = .ok (.iconst 2, 1) := by decide +kernel
theorem d_method_5_17 : decode method_5_code 17 = .ok (.if_icmp .ge 8, 3) := by decide +kernel
theorem d_method_5_20 : decode method_5_code 20 = .ok (.aload_n 2, 1) := by decide +kernel
theorem d_method_5_21 : decode method_5_code 21 = .ok (.iload 4, 2) := by decide +kernel
theorem d_method_5_23 : decode method_5_code 23 = .ok (.caload, 1) := by decide +kernel
theorem d_method_5_24 : decode method_5_code 24 = .ok (.ireturn, 1) := by decide +kernel
theorem d_method_5_25 : decode method_5_code 25 = .ok (.iconst 0, 1) := by decide +kernel
theorem d_method_5_26 : decode method_5_code 26 = .ok (.ireturn, 1) := by decide +kernel
set_option maxRecDepth 65536 in
set_option maxHeartbeats 40000000 in
theorem rmA (l : Launch) (Z : State) (a0 : Array Value) (hw : ∀ d ∈ tables_1, d.before a0 Z = true) (ws : List Jvm.Cond) (pb : Addr) (su : Nat) (rb : Addr) (jj : Nat) (E : List Int32) (Rl : List Int32) (kE : ClassId) (kR : ClassId) (h0 : Heap) (n0 : Nat) (Z0 : n0 ≤ h0.size) (VE : Arv Z h0 pb kE .char (8 : Int32) (E.map Value.int) (.int 0)) (VR : Arv Z h0 rb kR .char (2 : Int32) (Rl.map Value.int) (.int 0)) (hs : su ≤ 8) (hj : jj < 8) (hE : own_OK E) (hR : own_OK Rl) :
    MetFree l (⟨"com/example/haku/haku/index/UnitPathsAddPinLaw", "at", "([CI[CI)C"⟩ : MethodName) (head1 (Jvm.Cond.code (⟨"com/example/haku/haku/index/UnitPathsAddPinLaw", "at", "([CI[CI)C"⟩ : MethodName) method_5_code 5 (some .char) :: ws) ({ frames := 0, cells := 0, slots := 0, locals := 0 } : Room)) (fun a_ U_ => a_ = #[(.ref pb), (.int (Int32.ofNat su)), (.ref rb), (.int (Int32.ofNat jj))] ∧ Z.Warmed39 U_.vm ∧ U_.heap = h0) (fun _ _ _ _ _ => True) (fun _ U_ o_ E_ => ∃ v_ L_, o_ = .returned v_ ∧ QA Z pb su rb jj E Rl kE kR h0 n0 v_ E_.heap L_ ∧ FrameEnd U_ o_ E_ L_ ({ frames := 0, cells := 0, slots := 0, locals := 0 } : Room).cells ({ frames := 0, cells := 0, slots := 0, locals := 0 } : Room).slots) := by
  refine MetFree.of_bodySF (plainFor_of_name pn_UnitPathsAddPinLaw) hisR ?_
  intro p e s m args below meth c s₁ Bd hml0 hP hK
  obtain ⟨rfl, hZ, hh⟩ := hP
  have hx := Bd.exec
  have hby := Bd.bytes
  have hml : c.maxLocals = 5 := hml0
  have hown : s.vm.findClass "com/example/haku/haku/index/UnitPathsAddPinLaw" = some m.cls := findClass_of_methodNamed Bd.named
  have hnm := (name_of_methodNamed Bd.named Bd.method).1
  have X0 : Stand p l e ({ frames := 0, cells := 0, slots := 0, locals := 0 } : Room) s m #[(.ref pb), (.int (Int32.ofNat su)), (.ref rb), (.int (Int32.ofNat jj))] below meth c s₁ [] 0 0 := Stand.of_body Bd
  have e0 : s₁.heap = h0 := by rw [← hh, Bd.state]; rfl
  have N0 := Fr.nil n0
  have Zn := Z0
  have pre0 : ∀ t, Steps p.tables e below (s₁.setTop (mkF m 0 #[.val (.ref pb), .val (.int (Int32.ofNat su)), .val (.ref rb), .val (.int (Int32.ofNat jj)), .unset] [])) t → Steps p.tables e below (s₁.setTop (entryFrame m #[(.ref pb), (.int (Int32.ofNat su)), (.ref rb), (.int (Int32.ofNat jj))] 5)) t := fun t q => castTop (ef_A m pb (Int32.ofNat su) rb (Int32.ofNat jj)) q
  have k0 : ∀ t, Steps p.tables e below (s₁.setTop (mkF m 0 #[.val (.ref pb), .val (.int (Int32.ofNat su)), .val (.ref rb), .val (.int (Int32.ofNat jj)), .unset] [])) t → Steps p.tables e below (s₁.setTop (mkF m 0 #[.val (.ref pb), .val (.int (Int32.ofNat su)), .val (.ref rb), .val (.int (Int32.ofNat jj)), .unset] [])) t := fun t q => q
  let G_ : State → Prop := fun t => Steps p.tables e below (s₁.setTop (mkF m 0 #[.val (.ref pb), .val (.int (Int32.ofNat su)), .val (.ref rb), .val (.int (Int32.ofNat jj)), .unset] [])) t
  have k1_ : ∀ t, Steps p.tables e below (s₁.setTop (mkF m 2 #[oa pb, oi su, oa rb, oi jj, .unset] [(.int (Int32.ofNat su)), (.int (Int32.ofNat jj))])) t → G_ t := by
    intro t q
    refine k0 _ ?_
    show Steps p.tables e below (s₁.setTop (mkF m 0 #[oa pb, oi su, oa rb, oi jj, .unset] [])) _
    refine XS.iloadN X0.here hx rfl (hb hby d_method_5_0) rfl ?_
    refine XS.iloadN X0.here hx rfl (hb hby d_method_5_1) rfl ?_
    show Steps p.tables e below (s₁.setTop (mkF m 2 #[oa pb, oi su, oa rb, oi jj, .unset] [(.int (Int32.ofNat su)), (.int (Int32.ofNat jj))])) _
    exact q
  by_cases hca : (Int32.ofNat jj) < (Int32.ofNat su)
  · have k2_ : ∀ t, Steps p.tables e below (s₁.setTop (mkF m 5 #[oa pb, oi su, oa rb, oi jj, .unset] [])) t → G_ t := by
      intro t q
      refine k1_ _ ?_
      show Steps p.tables e below (s₁.setTop (mkF m 2 #[oa pb, oi su, oa rb, oi jj, .unset] [(.int (Int32.ofNat su)), (.int (Int32.ofNat jj))])) _
      refine XS.icmpNo X0.here hx rfl (hb hby d_method_5_2) rfl (tlt hca).2.1 ?_
      show Steps p.tables e below (s₁.setTop (mkF m 5 #[oa pb, oi su, oa rb, oi jj, .unset] [])) _
      exact q
    have q := (own_cmp (by omega) (by omega)).mp hca
    obtain ⟨cl3, Ar3, q3, S3, M3, H3, G3⟩ := id VE
    have k4_ : ∀ t, Steps p.tables e below (s₁.setTop (mkF m 8 #[oa pb, oi su, oa rb, oi jj, .unset] [(.int (E.getD jj 0))])) t → G_ t := by
      intro t q
      refine k2_ _ ?_
      show Steps p.tables e below (s₁.setTop (mkF m 5 #[oa pb, oi su, oa rb, oi jj, .unset] [])) _
      refine XS.aloadN X0.here hx rfl (hb hby d_method_5_5) rfl rfl ?_
      refine XS.iloadN X0.here hx rfl (hb hby d_method_5_6) rfl ?_
      refine X0.caload hx (j := (Int32.ofNat jj)) (v := (.int (E.getD jj 0))) (by rw [e0]; exact Ar3.1) (State.isArrayOf_alike hZ.alike Ar3.2.1) Ar3.2.2 (inb_of S3 (own_inr (n := 8) hj (by decide))) (Has.at H3 (inb_of S3 (own_inr (n := 8) hj (by decide))) (own_gi _ (by omega))) (g := (mkF m 7 #[oa pb, oi su, oa rb, oi jj, .unset] [(.int (Int32.ofNat jj)), (.ref pb)])) rfl rfl (hb hby d_method_5_7) _ ?_
      show Steps p.tables e below (s₁.setTop (mkF m 8 #[oa pb, oi su, oa rb, oi jj, .unset] [(.int (E.getD jj 0))])) _
      exact q
    obtain ⟨fs, hr, hrun, hended, hW, hsame⟩ := X0.leave (v := some (.int (nar .char (E.getD jj 0)))) (fun h => by rw [Bd.returns] at h; cases h)
    refine ⟨_, _, pre0 _ (k4_ _ ?_), hrun, hended, _, _, rfl, ?_, ⟨_, rfl⟩, hW, hsame.mono (by decide) (by decide)⟩
    · show Steps p.tables e below (s₁.setTop (mkF m 8 #[oa pb, oi su, oa rb, oi jj, .unset] [(.int (E.getD jj 0))])) _
      exact retN X0 hx (t := .char) Bd.returns (by simp) (hb hby d_method_5_8) hr
    · show QA Z pb su rb jj E Rl kE kR h0 n0 _ s₁.heap _
      rw [e0]
      exact ⟨(congrArg (fun z => some (Value.int z)) (own_nc (own_OK_get hE jj))).trans (by unfold own_at; rw [if_pos q]), N0, rfl⟩
  · have k5_ : ∀ t, Steps p.tables e below (s₁.setTop (mkF m 9 #[oa pb, oi su, oa rb, oi jj, .unset] [])) t → G_ t := by
      intro t q
      refine k1_ _ ?_
      show Steps p.tables e below (s₁.setTop (mkF m 2 #[oa pb, oi su, oa rb, oi jj, .unset] [(.int (Int32.ofNat su)), (.int (Int32.ofNat jj))])) _
      refine XS.icmpYes X0.here hx rfl (pc0 := 2) (pc' := 9) rfl (hb hby d_method_5_2) rfl (flt hca).2.1 (by decide) (by decide) ?_
      show Steps p.tables e below (s₁.setTop (mkF m 9 #[oa pb, oi su, oa rb, oi jj, .unset] [])) _
      exact q
    have q : ¬ jj < su := fun z => hca ((own_cmp (by omega) (by omega)).mpr z)
    have k6_ : ∀ t, Steps p.tables e below (s₁.setTop (mkF m 12 #[oa pb, oi su, oa rb, oi jj, .unset] [(.int ((Int32.ofNat jj) - (Int32.ofNat su)))])) t → G_ t := by
      intro t q
      refine k5_ _ ?_
      show Steps p.tables e below (s₁.setTop (mkF m 9 #[oa pb, oi su, oa rb, oi jj, .unset] [])) _
      refine XS.iloadN X0.here hx rfl (hb hby d_method_5_9) rfl ?_
      refine XS.iloadN X0.here hx rfl (hb hby d_method_5_10) rfl ?_
      refine XS.isub X0.here hx rfl (hb hby d_method_5_11) rfl ?_
      show Steps p.tables e below (s₁.setTop (mkF m 12 #[oa pb, oi su, oa rb, oi jj, .unset] [(.int ((Int32.ofNat jj) - (Int32.ofNat su)))])) _
      exact q
    have k7_ : ∀ t, Steps p.tables e below (s₁.setTop (mkF m 12 #[oa pb, oi su, oa rb, oi jj, .unset] [(.int (Int32.ofNat (jj - su)))])) t → G_ t := fun t q => k6_ t (Eq.mp (congrArg (fun z => Steps p.tables e below (s₁.setTop (mkF m 12 #[oa pb, oi su, oa rb, oi jj, .unset] [(.int z)])) t) (show (Int32.ofNat (jj - su)) = ((Int32.ofNat jj) - (Int32.ofNat su)) from (own_sbn (by omega) (by omega)))) q)
    have k8_ : ∀ t, Steps p.tables e below (s₁.setTop (mkF m 17 #[oa pb, oi su, oa rb, oi jj, oi (jj - su)] [(.int (2 : Int32)), (.int (Int32.ofNat (jj - su)))])) t → G_ t := by
      intro t q
      refine k7_ _ ?_
      show Steps p.tables e below (s₁.setTop (mkF m 12 #[oa pb, oi su, oa rb, oi jj, .unset] [(.int (Int32.ofNat (jj - su)))])) _
      refine XS.istore X0.here hx rfl (hb hby d_method_5_12) rfl (l' := #[oa pb, oi su, oa rb, oi jj, oi (jj - su)]) rfl ?_
      refine XS.iload X0.here hx rfl (hb hby d_method_5_14) rfl ?_
      refine XS.iconst X0.here hx rfl (hb hby d_method_5_16) ?_
      show Steps p.tables e below (s₁.setTop (mkF m 17 #[oa pb, oi su, oa rb, oi jj, oi (jj - su)] [(.int (2 : Int32)), (.int (Int32.ofNat (jj - su)))])) _
      exact q
    by_cases hcb : (Int32.ofNat (jj - su)) < (2 : Int32)
    · have k9_ : ∀ t, Steps p.tables e below (s₁.setTop (mkF m 20 #[oa pb, oi su, oa rb, oi jj, oi (jj - su)] [])) t → G_ t := by
        intro t q
        refine k8_ _ ?_
        show Steps p.tables e below (s₁.setTop (mkF m 17 #[oa pb, oi su, oa rb, oi jj, oi (jj - su)] [(.int (2 : Int32)), (.int (Int32.ofNat (jj - su)))])) _
        refine XS.icmpNo X0.here hx rfl (hb hby d_method_5_17) rfl (tlt hcb).2.1 ?_
        show Steps p.tables e below (s₁.setTop (mkF m 20 #[oa pb, oi su, oa rb, oi jj, oi (jj - su)] [])) _
        exact q
      have q2 := (own_cmp (n := 2) (by omega) (by decide)).mp hcb
      obtain ⟨cl10, Ar10, q10, S10, M10, H10, G10⟩ := id VR
      have k11_ : ∀ t, Steps p.tables e below (s₁.setTop (mkF m 24 #[oa pb, oi su, oa rb, oi jj, oi (jj - su)] [(.int (Rl.getD (jj - su) 0))])) t → G_ t := by
        intro t q
        refine k9_ _ ?_
        show Steps p.tables e below (s₁.setTop (mkF m 20 #[oa pb, oi su, oa rb, oi jj, oi (jj - su)] [])) _
        refine XS.aloadN X0.here hx rfl (hb hby d_method_5_20) rfl rfl ?_
        refine XS.iload X0.here hx rfl (hb hby d_method_5_21) rfl ?_
        refine X0.caload hx (j := (Int32.ofNat (jj - su))) (v := (.int (Rl.getD (jj - su) 0))) (by rw [e0]; exact Ar10.1) (State.isArrayOf_alike hZ.alike Ar10.2.1) Ar10.2.2 (inb_of S10 (own_inr (n := 2) q2 (by decide))) (Has.at H10 (inb_of S10 (own_inr (n := 2) q2 (by decide))) (own_gi _ (by omega))) (g := (mkF m 23 #[oa pb, oi su, oa rb, oi jj, oi (jj - su)] [(.int (Int32.ofNat (jj - su))), (.ref rb)])) rfl rfl (hb hby d_method_5_23) _ ?_
        show Steps p.tables e below (s₁.setTop (mkF m 24 #[oa pb, oi su, oa rb, oi jj, oi (jj - su)] [(.int (Rl.getD (jj - su) 0))])) _
        exact q
      obtain ⟨fs, hr, hrun, hended, hW, hsame⟩ := X0.leave (v := some (.int (nar .char (Rl.getD (jj - su) 0)))) (fun h => by rw [Bd.returns] at h; cases h)
      refine ⟨_, _, pre0 _ (k11_ _ ?_), hrun, hended, _, _, rfl, ?_, ⟨_, rfl⟩, hW, hsame.mono (by decide) (by decide)⟩
      · show Steps p.tables e below (s₁.setTop (mkF m 24 #[oa pb, oi su, oa rb, oi jj, oi (jj - su)] [(.int (Rl.getD (jj - su) 0))])) _
        exact retN X0 hx (t := .char) Bd.returns (by simp) (hb hby d_method_5_24) hr
      · show QA Z pb su rb jj E Rl kE kR h0 n0 _ s₁.heap _
        rw [e0]
        exact ⟨(congrArg (fun z => some (Value.int z)) (own_nc (own_OK_get hR (jj - su)))).trans (by unfold own_at; rw [if_neg q, if_pos q2]), N0, rfl⟩
    · have k12_ : ∀ t, Steps p.tables e below (s₁.setTop (mkF m 25 #[oa pb, oi su, oa rb, oi jj, oi (jj - su)] [])) t → G_ t := by
        intro t q
        refine k8_ _ ?_
        show Steps p.tables e below (s₁.setTop (mkF m 17 #[oa pb, oi su, oa rb, oi jj, oi (jj - su)] [(.int (2 : Int32)), (.int (Int32.ofNat (jj - su)))])) _
        refine XS.icmpYes X0.here hx rfl (pc0 := 17) (pc' := 25) rfl (hb hby d_method_5_17) rfl (flt hcb).2.1 (by decide) (by decide) ?_
        show Steps p.tables e below (s₁.setTop (mkF m 25 #[oa pb, oi su, oa rb, oi jj, oi (jj - su)] [])) _
        exact q
      have q2 : ¬ jj - su < 2 := fun z => hcb ((own_cmp (n := 2) (by omega) (by decide)).mpr z)
      have k13_ : ∀ t, Steps p.tables e below (s₁.setTop (mkF m 26 #[oa pb, oi su, oa rb, oi jj, oi (jj - su)] [(.int (0 : Int32))])) t → G_ t := by
        intro t q
        refine k12_ _ ?_
        show Steps p.tables e below (s₁.setTop (mkF m 25 #[oa pb, oi su, oa rb, oi jj, oi (jj - su)] [])) _
        refine XS.iconst X0.here hx rfl (hb hby d_method_5_25) ?_
        show Steps p.tables e below (s₁.setTop (mkF m 26 #[oa pb, oi su, oa rb, oi jj, oi (jj - su)] [(.int (0 : Int32))])) _
        exact q
      obtain ⟨fs, hr, hrun, hended, hW, hsame⟩ := X0.leave (v := some (.int (0 : Int32))) (fun h => by rw [Bd.returns] at h; cases h)
      refine ⟨_, _, pre0 _ (k13_ _ ?_), hrun, hended, _, _, rfl, ?_, ⟨_, rfl⟩, hW, hsame.mono (by decide) (by decide)⟩
      · show Steps p.tables e below (s₁.setTop (mkF m 26 #[oa pb, oi su, oa rb, oi jj, oi (jj - su)] [(.int (0 : Int32))])) _
        exact retN X0 hx (t := .char) Bd.returns (by simp) (hb hby d_method_5_26) hr
      · show QA Z pb su rb jj E Rl kE kR h0 n0 _ s₁.heap _
        rw [e0]
        exact ⟨by unfold own_at; rw [if_neg q, if_neg q2], N0, rfl⟩
def QNe (Z : State) (pb : Addr) (su : Nat) (rb : Addr) (E : List Int32) (Rl : List Int32) (kE : ClassId) (kR : ClassId) (b : Addr) (h0 : Heap) (n0 : Nat) (v : Option Value) (h : Heap) (L : List Loc) : Prop := v = some (.ref b) ∧ Fr n0 L ∧ Keep h0 h [] ∧ ∃ kB, Arv Z h b kB .char (8 : Int32) ((own_nxt E su Rl).map Value.int) (.int 0)
theorem ef_Ne (m : MethodId) (x0 : Addr) (x1 : Int32) (x2 : Addr) : entryFrame m #[(.ref x0), (.int x1), (.ref x2)] 3 = mkF m 0 #[.val (.ref x0), .val (.int x1), .val (.ref x2)] [] := by first | (simp [entryFrame, mkF, argsToLocals, Value.category]; done) | rfl
theorem d_method_6_0 : decode method_6_code 0 = .ok (.bipush 8, 2) := by decide +kernel
theorem d_method_6_2 : decode method_6_code 2 = .ok (.newarray .char, 2) := by decide +kernel
theorem d_method_6_4 : decode method_6_code 4 = .ok (.dup, 1) := by decide +kernel
theorem d_method_6_5 : decode method_6_code 5 = .ok (.iconst 0, 1) := by decide +kernel
theorem d_method_6_6 : decode method_6_code 6 = .ok (.aload_n 0, 1) := by decide +kernel
theorem d_method_6_7 : decode method_6_code 7 = .ok (.iload_n 1, 1) := by decide +kernel
theorem d_method_6_8 : decode method_6_code 8 = .ok (.aload_n 2, 1) := by decide +kernel
theorem d_method_6_9 : decode method_6_code 9 = .ok (.iconst 0, 1) := by decide +kernel
theorem pd_16133 : parseMethodDescriptor "([CI[CI)C" = some ⟨[(.array .char), .int, (.array .char), .int], some .char⟩ := by decide +kernel
theorem d_method_6_10 : decode method_6_code 10 = .ok (.invokestatic 52, 3) := by decide +kernel
theorem d_method_6_13 : decode method_6_code 13 = .ok (.castore, 1) := by decide +kernel
theorem d_method_6_14 : decode method_6_code 14 = .ok (.dup, 1) := by decide +kernel
theorem d_method_6_15 : decode method_6_code 15 = .ok (.iconst 1, 1) := by decide +kernel
theorem d_method_6_16 : decode method_6_code 16 = .ok (.aload_n 0, 1) := by decide +kernel
theorem d_method_6_17 : decode method_6_code 17 = .ok (.iload_n 1, 1) := by decide +kernel
theorem d_method_6_18 : decode method_6_code 18 = .ok (.aload_n 2, 1) := by decide +kernel
theorem d_method_6_19 : decode method_6_code 19 = .ok (.iconst 1, 1) := by decide +kernel
theorem d_method_6_20 : decode method_6_code 20 = .ok (.invokestatic 52, 3) := by decide +kernel
theorem d_method_6_23 : decode method_6_code 23 = .ok (.castore, 1) := by decide +kernel
theorem d_method_6_24 : decode method_6_code 24 = .ok (.dup, 1) := by decide +kernel
theorem d_method_6_25 : decode method_6_code 25 = .ok (.iconst 2, 1) := by decide +kernel
theorem d_method_6_26 : decode method_6_code 26 = .ok (.aload_n 0, 1) := by decide +kernel
theorem d_method_6_27 : decode method_6_code 27 = .ok (.iload_n 1, 1) := by decide +kernel
theorem d_method_6_28 : decode method_6_code 28 = .ok (.aload_n 2, 1) := by decide +kernel
theorem d_method_6_29 : decode method_6_code 29 = .ok (.iconst 2, 1) := by decide +kernel
theorem d_method_6_30 : decode method_6_code 30 = .ok (.invokestatic 52, 3) := by decide +kernel
theorem d_method_6_33 : decode method_6_code 33 = .ok (.castore, 1) := by decide +kernel
theorem d_method_6_34 : decode method_6_code 34 = .ok (.dup, 1) := by decide +kernel
theorem d_method_6_35 : decode method_6_code 35 = .ok (.iconst 3, 1) := by decide +kernel
theorem d_method_6_36 : decode method_6_code 36 = .ok (.aload_n 0, 1) := by decide +kernel
theorem d_method_6_37 : decode method_6_code 37 = .ok (.iload_n 1, 1) := by decide +kernel
theorem d_method_6_38 : decode method_6_code 38 = .ok (.aload_n 2, 1) := by decide +kernel
theorem d_method_6_39 : decode method_6_code 39 = .ok (.iconst 3, 1) := by decide +kernel
theorem d_method_6_40 : decode method_6_code 40 = .ok (.invokestatic 52, 3) := by decide +kernel
theorem d_method_6_43 : decode method_6_code 43 = .ok (.castore, 1) := by decide +kernel
theorem d_method_6_44 : decode method_6_code 44 = .ok (.dup, 1) := by decide +kernel
theorem d_method_6_45 : decode method_6_code 45 = .ok (.iconst 4, 1) := by decide +kernel
theorem d_method_6_46 : decode method_6_code 46 = .ok (.aload_n 0, 1) := by decide +kernel
theorem d_method_6_47 : decode method_6_code 47 = .ok (.iload_n 1, 1) := by decide +kernel
theorem d_method_6_48 : decode method_6_code 48 = .ok (.aload_n 2, 1) := by decide +kernel
theorem d_method_6_49 : decode method_6_code 49 = .ok (.iconst 4, 1) := by decide +kernel
theorem d_method_6_50 : decode method_6_code 50 = .ok (.invokestatic 52, 3) := by decide +kernel
theorem d_method_6_53 : decode method_6_code 53 = .ok (.castore, 1) := by decide +kernel
theorem d_method_6_54 : decode method_6_code 54 = .ok (.dup, 1) := by decide +kernel
theorem d_method_6_55 : decode method_6_code 55 = .ok (.iconst 5, 1) := by decide +kernel
theorem d_method_6_56 : decode method_6_code 56 = .ok (.aload_n 0, 1) := by decide +kernel
theorem d_method_6_57 : decode method_6_code 57 = .ok (.iload_n 1, 1) := by decide +kernel
theorem d_method_6_58 : decode method_6_code 58 = .ok (.aload_n 2, 1) := by decide +kernel
theorem d_method_6_59 : decode method_6_code 59 = .ok (.iconst 5, 1) := by decide +kernel
theorem d_method_6_60 : decode method_6_code 60 = .ok (.invokestatic 52, 3) := by decide +kernel
theorem d_method_6_63 : decode method_6_code 63 = .ok (.castore, 1) := by decide +kernel
theorem d_method_6_64 : decode method_6_code 64 = .ok (.dup, 1) := by decide +kernel
theorem d_method_6_65 : decode method_6_code 65 = .ok (.bipush 6, 2) := by decide +kernel
theorem d_method_6_67 : decode method_6_code 67 = .ok (.aload_n 0, 1) := by decide +kernel
theorem d_method_6_68 : decode method_6_code 68 = .ok (.iload_n 1, 1) := by decide +kernel
theorem d_method_6_69 : decode method_6_code 69 = .ok (.aload_n 2, 1) := by decide +kernel
theorem d_method_6_70 : decode method_6_code 70 = .ok (.bipush 6, 2) := by decide +kernel
theorem d_method_6_72 : decode method_6_code 72 = .ok (.invokestatic 52, 3) := by decide +kernel
theorem d_method_6_75 : decode method_6_code 75 = .ok (.castore, 1) := by decide +kernel
theorem d_method_6_76 : decode method_6_code 76 = .ok (.dup, 1) := by decide +kernel
theorem d_method_6_77 : decode method_6_code 77 = .ok (.bipush 7, 2) := by decide +kernel
theorem d_method_6_79 : decode method_6_code 79 = .ok (.aload_n 0, 1) := by decide +kernel
theorem d_method_6_80 : decode method_6_code 80 = .ok (.iload_n 1, 1) := by decide +kernel
theorem d_method_6_81 : decode method_6_code 81 = .ok (.aload_n 2, 1) := by decide +kernel
theorem d_method_6_82 : decode method_6_code 82 = .ok (.bipush 7, 2) := by decide +kernel
theorem d_method_6_84 : decode method_6_code 84 = .ok (.invokestatic 52, 3) := by decide +kernel
theorem d_method_6_87 : decode method_6_code 87 = .ok (.castore, 1) := by decide +kernel
theorem d_method_6_88 : decode method_6_code 88 = .ok (.areturn, 1) := by decide +kernel
set_option maxRecDepth 65536 in
set_option maxHeartbeats 40000000 in
theorem rmNe (l : Launch) (Z : State) (a0 : Array Value) (hw : ∀ d ∈ tables_1, d.before a0 Z = true) (ws : List Jvm.Cond) (pb : Addr) (su : Nat) (rb : Addr) (E : List Int32) (Rl : List Int32) (kE : ClassId) (kR : ClassId) (b : Addr) (h0 : Heap) (n0 : Nat) (Z0 : n0 ≤ h0.size) (VE : Arv Z h0 pb kE .char (8 : Int32) (E.map Value.int) (.int 0)) (VR : Arv Z h0 rb kR .char (2 : Int32) (Rl.map Value.int) (.int 0)) (hs : su ≤ 8) (hE : own_OK E) (hR : own_OK Rl) (hb0 : b = h0.size) :
    MetFree l (⟨"com/example/haku/haku/index/UnitPathsAddPinLaw", "next", "([CI[C)[C"⟩ : MethodName) (head1 (Jvm.Cond.code (⟨"com/example/haku/haku/index/UnitPathsAddPinLaw", "next", "([CI[C)[C"⟩ : MethodName) method_6_code 3 (some (.array .char)) :: ws) ({ frames := 1, cells := 1, slots := 8, locals := 19 } : Room)) (fun a_ U_ => a_ = #[(.ref pb), (.int (Int32.ofNat su)), (.ref rb)] ∧ Z.Warmed39 U_.vm ∧ U_.heap = h0) (fun _ _ _ _ _ => True) (fun _ U_ o_ E_ => ∃ v_ L_, o_ = .returned v_ ∧ QNe Z pb su rb E Rl kE kR b h0 n0 v_ E_.heap L_ ∧ FrameEnd U_ o_ E_ L_ ({ frames := 1, cells := 1, slots := 8, locals := 19 } : Room).cells ({ frames := 1, cells := 1, slots := 8, locals := 19 } : Room).slots) := by
  refine MetFree.of_bodySF (plainFor_of_name pn_UnitPathsAddPinLaw) hisR ?_
  intro p e s m args below meth c s₁ Bd hml0 hP hK
  obtain ⟨rfl, hZ, hh⟩ := hP
  have hx := Bd.exec
  have hby := Bd.bytes
  have hml : c.maxLocals = 3 := hml0
  have hown : s.vm.findClass "com/example/haku/haku/index/UnitPathsAddPinLaw" = some m.cls := findClass_of_methodNamed Bd.named
  have hnm := (name_of_methodNamed Bd.named Bd.method).1
  have X0 : Stand p l e ({ frames := 1, cells := 1, slots := 8, locals := 19 } : Room) s m #[(.ref pb), (.int (Int32.ofNat su)), (.ref rb)] below meth c s₁ [] 0 0 := Stand.of_body Bd
  have e0 : s₁.heap = h0 := by rw [← hh, Bd.state]; rfl
  have N0 := Fr.nil n0
  have Zn := Z0
  have pre0 : ∀ t, Steps p.tables e below (s₁.setTop (mkF m 0 #[.val (.ref pb), .val (.int (Int32.ofNat su)), .val (.ref rb)] [])) t → Steps p.tables e below (s₁.setTop (entryFrame m #[(.ref pb), (.int (Int32.ofNat su)), (.ref rb)] 3)) t := fun t q => castTop (ef_Ne m pb (Int32.ofNat su) rb) q
  have k0 : ∀ t, Steps p.tables e below (s₁.setTop (mkF m 0 #[.val (.ref pb), .val (.int (Int32.ofNat su)), .val (.ref rb)] [])) t → Steps p.tables e below (s₁.setTop (mkF m 0 #[.val (.ref pb), .val (.int (Int32.ofNat su)), .val (.ref rb)] [])) t := fun t q => q
  let G_ : State → Prop := fun t => Steps p.tables e below (s₁.setTop (mkF m 0 #[.val (.ref pb), .val (.int (Int32.ofNat su)), .val (.ref rb)] [])) t
  have KP := Keep.refl h0 []
  have k1_ : ∀ t, Steps p.tables e below (s₁.setTop (mkF m 2 #[oa pb, oi su, oa rb] [(.int (8 : Int32))])) t → G_ t := by
    intro t q
    refine k0 _ ?_
    show Steps p.tables e below (s₁.setTop (mkF m 0 #[oa pb, oi su, oa rb] [])) _
    refine XS.bipush X0.here hx rfl (hb hby d_method_6_0) ?_
    show Steps p.tables e below (s₁.setTop (mkF m 2 #[oa pb, oi su, oa rb] [(.int (8 : Int32))])) _
    exact q
  obtain ⟨T2, h2, c2, X2, e2, E2, A2, st2⟩ := newP X0 hx hZ (hw _ (List.mem_of_getElem? (i := 4) rfl)) e0 (g := (mkF m 2 #[oa pb, oi su, oa rb] [(.int (8 : Int32))])) rfl (hb hby d_method_6_2) rfl (by decide) (cap := 8) (by decide) (by decide) (by decide) (by decide)
  obtain ⟨b2, g2⟩ : ∃ z, z = h0.size := ⟨_, rfl⟩
  rw [← g2] at A2 st2
  have k3_ : ∀ t, Steps p.tables e below (T2.setTop (mkF m 4 #[oa pb, oi su, oa rb] [(.ref b2)])) t → G_ t := fun t q => k1_ t (st2 t q)
  have ne_pb_b2 : pb ≠ b2 := Nat.ne_of_lt (Nat.lt_of_lt_of_le VE.lt (Nat.le_of_eq g2.symm))
  have ne_rb_b2 : rb ≠ b2 := Nat.ne_of_lt (Nat.lt_of_lt_of_le VR.lt (Nat.le_of_eq g2.symm))
  have g_b2 : n0 ≤ b2 := Nat.le_trans Zn (Nat.le_of_eq g2.symm)
  replace Zn := Nat.le_trans Zn E2.1
  replace VE := VE.ext E2
  replace VR := VR.ext E2
  have V_b2 : Arv Z h2 b2 c2 .char (8 : Int32) [(.int (0 : Int32)), (.int (0 : Int32)), (.int (0 : Int32)), (.int (0 : Int32)), (.int (0 : Int32)), (.int (0 : Int32)), (.int (0 : Int32)), (.int (0 : Int32))] (.int (0 : Int32)) := (Arv.new A2 (by decide)).pad (pad_rep [] (.int (0 : Int32)) 8)
  have z_b2 : h0.size ≤ b2 := by rw [g2]; exact KP.1
  replace KP := KP.ext E2
  have k4_ : ∀ t, Steps p.tables e below (T2.setTop (mkF m 10 #[oa pb, oi su, oa rb] [(.int (0 : Int32)), (.ref rb), (.int (Int32.ofNat su)), (.ref pb), (.int (0 : Int32)), (.ref b2), (.ref b2)])) t → G_ t := by
    intro t q
    refine k3_ _ ?_
    show Steps p.tables e below (T2.setTop (mkF m 4 #[oa pb, oi su, oa rb] [(.ref b2)])) _
    refine XS.dup X2.here hx rfl (hb hby d_method_6_4) rfl rfl ?_
    refine XS.iconst X2.here hx rfl (hb hby d_method_6_5) ?_
    refine XS.aloadN X2.here hx rfl (hb hby d_method_6_6) rfl rfl ?_
    refine XS.iloadN X2.here hx rfl (hb hby d_method_6_7) rfl ?_
    show Steps p.tables e below (T2.setTop (mkF m 8 #[oa pb, oi su, oa rb] [(.int (Int32.ofNat su)), (.ref pb), (.int (0 : Int32)), (.ref b2), (.ref b2)])) _
    refine XS.aloadN X2.here hx rfl (hb hby d_method_6_8) rfl rfl ?_
    refine XS.iconst X2.here hx rfl (hb hby d_method_6_9) ?_
    show Steps p.tables e below (T2.setTop (mkF m 10 #[oa pb, oi su, oa rb] [(.int (0 : Int32)), (.ref rb), (.int (Int32.ofNat su)), (.ref pb), (.int (0 : Int32)), (.ref b2), (.ref b2)])) _
    exact q
  obtain ⟨_, _, ⟨T5, L5, kk5, n5⟩, -, X5, ⟨Lc5, hQ5, l5, y5, z5⟩, st5⟩ := Jvm.LawKit.callS X2 hx (y := (⟨"com/example/haku/haku/index/UnitPathsAddPinLaw", "at", "([CI[CI)C"⟩ : MethodName)) hown (mvT hZ (hw _ (List.mem_of_getElem? (i := 14) rfl))) (mvT hZ (hw _ (List.mem_of_getElem? (i := 15) rfl))) (mvT hZ (hw _ (List.mem_of_getElem? (i := 7) rfl))) (mvT hZ (hw _ (List.mem_of_getElem? (i := 16) rfl))) (by decide) (backOf (W := 3) (rmA l Z a0 hw [] pb su rb 0 E Rl kE kR h2 n0 Zn VE VR hs (by decide) hE hR) hZ (hw _ (List.mem_of_getElem? (i := 16) rfl)) (hw _ (List.mem_of_getElem? (i := 7) rfl)) (by decide) (by decide)) (g := (mkF m 10 #[oa pb, oi su, oa rb] [(.int (0 : Int32)), (.ref rb), (.int (Int32.ofNat su)), (.ref pb), (.int (0 : Int32)), (.ref b2), (.ref b2)])) rfl (by rw [hml]; rfl) (argsL := [(.ref pb), (.int (Int32.ofNat su)), (.ref rb), (.int (0 : Int32))]) (rest := [(.int (0 : Int32)), (.ref b2), (.ref b2)]) (lenOf pd_16133 rfl) rfl (by show 2 * 0 + _ ≤ _; exact Nat.le_of_eq rfl) (hb hby d_method_6_10) (fun _ _ => ⟨rfl, e2, (by decide : 0 + 1 + 0 ≤ _), (by decide : 0 + 8 + 0 ≤ _)⟩)
  dsimp only [Pt.U, Pt.locs, Pt.cells, Pt.slots] at X5 l5 y5 z5 st5 hQ5
  rw [l5, y5, z5] at X5
  obtain ⟨rfl, Nq5, hq5⟩ := hQ5
  have N5 := Fr.app N0 Nq5
  have k6_ : ∀ t, Steps p.tables e below (T5.setTop (mkF m 13 #[oa pb, oi su, oa rb] [(.int (own_at E su Rl 0)), (.int (0 : Int32)), (.ref b2), (.ref b2)])) t → G_ t := fun t q => k4_ t (st5 t q)
  obtain ⟨cl7, Ar7, q7, S7, M7, H7, G7⟩ := V_b2
  obtain ⟨T8, h8, X8, e8, W8, st8⟩ := stC X5 hx hZ hq5 Ar7 (j := (0 : Int32)) (inb_of S7 ⟨by decide, by decide⟩) (g := (mkF m 13 #[oa pb, oi su, oa rb] [(.int (own_at E su Rl 0)), (.int (0 : Int32)), (.ref b2), (.ref b2)])) rfl rfl (hb hby d_method_6_13)
  have k9_ : ∀ t, Steps p.tables e below (T8.setTop (mkF m 14 #[oa pb, oi su, oa rb] [(.ref b2)])) t → G_ t := fun t q => k6_ t (st8 t q)
  have N8 := Fr.snoc X8 N5 g_b2
  rw [own_nc (own_at_r (su := su) (j := 0) hE hR)] at W8
  replace Zn := Nat.le_trans Zn (Keep.of_wr W8).1
  replace VE := VE.other W8 ne_pb_b2
  replace VR := VR.other W8 ne_rb_b2
  have V_b2 : Arv Z h8 b2 c2 .char (8 : Int32) [(.int (own_at E su Rl 0)), (.int (0 : Int32)), (.int (0 : Int32)), (.int (0 : Int32)), (.int (0 : Int32)), (.int (0 : Int32)), (.int (0 : Int32)), (.int (0 : Int32))] (.int (0 : Int32)) := Arv.set Ar7 q7 S7 M7 H7 G7 (by have q := fits_nar_char (own_at E su Rl 0); rw [own_nc (own_at_r (su := su) (j := 0) hE hR)] at q; exact q) W8 0 rfl (Nat.le_of_ble_eq_true rfl)
  replace KP := KP.wr W8 (Or.inr z_b2)
  have k10_ : ∀ t, Steps p.tables e below (T8.setTop (mkF m 20 #[oa pb, oi su, oa rb] [(.int (1 : Int32)), (.ref rb), (.int (Int32.ofNat su)), (.ref pb), (.int (1 : Int32)), (.ref b2), (.ref b2)])) t → G_ t := by
    intro t q
    refine k9_ _ ?_
    show Steps p.tables e below (T8.setTop (mkF m 14 #[oa pb, oi su, oa rb] [(.ref b2)])) _
    refine XS.dup X8.here hx rfl (hb hby d_method_6_14) rfl rfl ?_
    refine XS.iconst X8.here hx rfl (hb hby d_method_6_15) ?_
    refine XS.aloadN X8.here hx rfl (hb hby d_method_6_16) rfl rfl ?_
    refine XS.iloadN X8.here hx rfl (hb hby d_method_6_17) rfl ?_
    show Steps p.tables e below (T8.setTop (mkF m 18 #[oa pb, oi su, oa rb] [(.int (Int32.ofNat su)), (.ref pb), (.int (1 : Int32)), (.ref b2), (.ref b2)])) _
    refine XS.aloadN X8.here hx rfl (hb hby d_method_6_18) rfl rfl ?_
    refine XS.iconst X8.here hx rfl (hb hby d_method_6_19) ?_
    show Steps p.tables e below (T8.setTop (mkF m 20 #[oa pb, oi su, oa rb] [(.int (1 : Int32)), (.ref rb), (.int (Int32.ofNat su)), (.ref pb), (.int (1 : Int32)), (.ref b2), (.ref b2)])) _
    exact q
  obtain ⟨_, _, ⟨T11, L11, kk11, n11⟩, -, X11, ⟨Lc11, hQ11, l11, y11, z11⟩, st11⟩ := Jvm.LawKit.callS X8 hx (y := (⟨"com/example/haku/haku/index/UnitPathsAddPinLaw", "at", "([CI[CI)C"⟩ : MethodName)) hown (mvT hZ (hw _ (List.mem_of_getElem? (i := 14) rfl))) (mvT hZ (hw _ (List.mem_of_getElem? (i := 15) rfl))) (mvT hZ (hw _ (List.mem_of_getElem? (i := 7) rfl))) (mvT hZ (hw _ (List.mem_of_getElem? (i := 16) rfl))) (by decide) (backOf (W := 3) (rmA l Z a0 hw [] pb su rb 1 E Rl kE kR h8 n0 Zn VE VR hs (by decide) hE hR) hZ (hw _ (List.mem_of_getElem? (i := 16) rfl)) (hw _ (List.mem_of_getElem? (i := 7) rfl)) (by decide) (by decide)) (g := (mkF m 20 #[oa pb, oi su, oa rb] [(.int (1 : Int32)), (.ref rb), (.int (Int32.ofNat su)), (.ref pb), (.int (1 : Int32)), (.ref b2), (.ref b2)])) rfl (by rw [hml]; rfl) (argsL := [(.ref pb), (.int (Int32.ofNat su)), (.ref rb), (.int (1 : Int32))]) (rest := [(.int (1 : Int32)), (.ref b2), (.ref b2)]) (lenOf pd_16133 rfl) rfl (by show 2 * 0 + _ ≤ _; exact Nat.le_of_eq rfl) (hb hby d_method_6_20) (fun _ _ => ⟨rfl, e8, (by decide : 0 + 1 + 0 + 0 ≤ _), (by decide : 0 + 8 + 0 + 0 ≤ _)⟩)
  dsimp only [Pt.U, Pt.locs, Pt.cells, Pt.slots] at X11 l11 y11 z11 st11 hQ11
  rw [l11, y11, z11] at X11
  obtain ⟨rfl, Nq11, hq11⟩ := hQ11
  have N11 := Fr.app N8 Nq11
  have k12_ : ∀ t, Steps p.tables e below (T11.setTop (mkF m 23 #[oa pb, oi su, oa rb] [(.int (own_at E su Rl 1)), (.int (1 : Int32)), (.ref b2), (.ref b2)])) t → G_ t := fun t q => k10_ t (st11 t q)
  obtain ⟨cl13, Ar13, q13, S13, M13, H13, G13⟩ := V_b2
  obtain ⟨T14, h14, X14, e14, W14, st14⟩ := stC X11 hx hZ hq11 Ar13 (j := (1 : Int32)) (inb_of S13 ⟨by decide, by decide⟩) (g := (mkF m 23 #[oa pb, oi su, oa rb] [(.int (own_at E su Rl 1)), (.int (1 : Int32)), (.ref b2), (.ref b2)])) rfl rfl (hb hby d_method_6_23)
  have k15_ : ∀ t, Steps p.tables e below (T14.setTop (mkF m 24 #[oa pb, oi su, oa rb] [(.ref b2)])) t → G_ t := fun t q => k12_ t (st14 t q)
  have N14 := Fr.snoc X14 N11 g_b2
  rw [own_nc (own_at_r (su := su) (j := 1) hE hR)] at W14
  replace Zn := Nat.le_trans Zn (Keep.of_wr W14).1
  replace VE := VE.other W14 ne_pb_b2
  replace VR := VR.other W14 ne_rb_b2
  have V_b2 : Arv Z h14 b2 c2 .char (8 : Int32) [(.int (own_at E su Rl 0)), (.int (own_at E su Rl 1)), (.int (0 : Int32)), (.int (0 : Int32)), (.int (0 : Int32)), (.int (0 : Int32)), (.int (0 : Int32)), (.int (0 : Int32))] (.int (0 : Int32)) := Arv.set Ar13 q13 S13 M13 H13 G13 (by have q := fits_nar_char (own_at E su Rl 1); rw [own_nc (own_at_r (su := su) (j := 1) hE hR)] at q; exact q) W14 1 rfl (Nat.le_of_ble_eq_true rfl)
  replace KP := KP.wr W14 (Or.inr z_b2)
  have k16_ : ∀ t, Steps p.tables e below (T14.setTop (mkF m 30 #[oa pb, oi su, oa rb] [(.int (2 : Int32)), (.ref rb), (.int (Int32.ofNat su)), (.ref pb), (.int (2 : Int32)), (.ref b2), (.ref b2)])) t → G_ t := by
    intro t q
    refine k15_ _ ?_
    show Steps p.tables e below (T14.setTop (mkF m 24 #[oa pb, oi su, oa rb] [(.ref b2)])) _
    refine XS.dup X14.here hx rfl (hb hby d_method_6_24) rfl rfl ?_
    refine XS.iconst X14.here hx rfl (hb hby d_method_6_25) ?_
    refine XS.aloadN X14.here hx rfl (hb hby d_method_6_26) rfl rfl ?_
    refine XS.iloadN X14.here hx rfl (hb hby d_method_6_27) rfl ?_
    show Steps p.tables e below (T14.setTop (mkF m 28 #[oa pb, oi su, oa rb] [(.int (Int32.ofNat su)), (.ref pb), (.int (2 : Int32)), (.ref b2), (.ref b2)])) _
    refine XS.aloadN X14.here hx rfl (hb hby d_method_6_28) rfl rfl ?_
    refine XS.iconst X14.here hx rfl (hb hby d_method_6_29) ?_
    show Steps p.tables e below (T14.setTop (mkF m 30 #[oa pb, oi su, oa rb] [(.int (2 : Int32)), (.ref rb), (.int (Int32.ofNat su)), (.ref pb), (.int (2 : Int32)), (.ref b2), (.ref b2)])) _
    exact q
  obtain ⟨_, _, ⟨T17, L17, kk17, n17⟩, -, X17, ⟨Lc17, hQ17, l17, y17, z17⟩, st17⟩ := Jvm.LawKit.callS X14 hx (y := (⟨"com/example/haku/haku/index/UnitPathsAddPinLaw", "at", "([CI[CI)C"⟩ : MethodName)) hown (mvT hZ (hw _ (List.mem_of_getElem? (i := 14) rfl))) (mvT hZ (hw _ (List.mem_of_getElem? (i := 15) rfl))) (mvT hZ (hw _ (List.mem_of_getElem? (i := 7) rfl))) (mvT hZ (hw _ (List.mem_of_getElem? (i := 16) rfl))) (by decide) (backOf (W := 3) (rmA l Z a0 hw [] pb su rb 2 E Rl kE kR h14 n0 Zn VE VR hs (by decide) hE hR) hZ (hw _ (List.mem_of_getElem? (i := 16) rfl)) (hw _ (List.mem_of_getElem? (i := 7) rfl)) (by decide) (by decide)) (g := (mkF m 30 #[oa pb, oi su, oa rb] [(.int (2 : Int32)), (.ref rb), (.int (Int32.ofNat su)), (.ref pb), (.int (2 : Int32)), (.ref b2), (.ref b2)])) rfl (by rw [hml]; rfl) (argsL := [(.ref pb), (.int (Int32.ofNat su)), (.ref rb), (.int (2 : Int32))]) (rest := [(.int (2 : Int32)), (.ref b2), (.ref b2)]) (lenOf pd_16133 rfl) rfl (by show 2 * 0 + _ ≤ _; exact Nat.le_of_eq rfl) (hb hby d_method_6_30) (fun _ _ => ⟨rfl, e14, (by decide : 0 + 1 + 0 + 0 + 0 ≤ _), (by decide : 0 + 8 + 0 + 0 + 0 ≤ _)⟩)
  dsimp only [Pt.U, Pt.locs, Pt.cells, Pt.slots] at X17 l17 y17 z17 st17 hQ17
  rw [l17, y17, z17] at X17
  obtain ⟨rfl, Nq17, hq17⟩ := hQ17
  have N17 := Fr.app N14 Nq17
  have k18_ : ∀ t, Steps p.tables e below (T17.setTop (mkF m 33 #[oa pb, oi su, oa rb] [(.int (own_at E su Rl 2)), (.int (2 : Int32)), (.ref b2), (.ref b2)])) t → G_ t := fun t q => k16_ t (st17 t q)
  obtain ⟨cl19, Ar19, q19, S19, M19, H19, G19⟩ := V_b2
  obtain ⟨T20, h20, X20, e20, W20, st20⟩ := stC X17 hx hZ hq17 Ar19 (j := (2 : Int32)) (inb_of S19 ⟨by decide, by decide⟩) (g := (mkF m 33 #[oa pb, oi su, oa rb] [(.int (own_at E su Rl 2)), (.int (2 : Int32)), (.ref b2), (.ref b2)])) rfl rfl (hb hby d_method_6_33)
  have k21_ : ∀ t, Steps p.tables e below (T20.setTop (mkF m 34 #[oa pb, oi su, oa rb] [(.ref b2)])) t → G_ t := fun t q => k18_ t (st20 t q)
  have N20 := Fr.snoc X20 N17 g_b2
  rw [own_nc (own_at_r (su := su) (j := 2) hE hR)] at W20
  replace Zn := Nat.le_trans Zn (Keep.of_wr W20).1
  replace VE := VE.other W20 ne_pb_b2
  replace VR := VR.other W20 ne_rb_b2
  have V_b2 : Arv Z h20 b2 c2 .char (8 : Int32) [(.int (own_at E su Rl 0)), (.int (own_at E su Rl 1)), (.int (own_at E su Rl 2)), (.int (0 : Int32)), (.int (0 : Int32)), (.int (0 : Int32)), (.int (0 : Int32)), (.int (0 : Int32))] (.int (0 : Int32)) := Arv.set Ar19 q19 S19 M19 H19 G19 (by have q := fits_nar_char (own_at E su Rl 2); rw [own_nc (own_at_r (su := su) (j := 2) hE hR)] at q; exact q) W20 2 rfl (Nat.le_of_ble_eq_true rfl)
  replace KP := KP.wr W20 (Or.inr z_b2)
  have k22_ : ∀ t, Steps p.tables e below (T20.setTop (mkF m 40 #[oa pb, oi su, oa rb] [(.int (3 : Int32)), (.ref rb), (.int (Int32.ofNat su)), (.ref pb), (.int (3 : Int32)), (.ref b2), (.ref b2)])) t → G_ t := by
    intro t q
    refine k21_ _ ?_
    show Steps p.tables e below (T20.setTop (mkF m 34 #[oa pb, oi su, oa rb] [(.ref b2)])) _
    refine XS.dup X20.here hx rfl (hb hby d_method_6_34) rfl rfl ?_
    refine XS.iconst X20.here hx rfl (hb hby d_method_6_35) ?_
    refine XS.aloadN X20.here hx rfl (hb hby d_method_6_36) rfl rfl ?_
    refine XS.iloadN X20.here hx rfl (hb hby d_method_6_37) rfl ?_
    show Steps p.tables e below (T20.setTop (mkF m 38 #[oa pb, oi su, oa rb] [(.int (Int32.ofNat su)), (.ref pb), (.int (3 : Int32)), (.ref b2), (.ref b2)])) _
    refine XS.aloadN X20.here hx rfl (hb hby d_method_6_38) rfl rfl ?_
    refine XS.iconst X20.here hx rfl (hb hby d_method_6_39) ?_
    show Steps p.tables e below (T20.setTop (mkF m 40 #[oa pb, oi su, oa rb] [(.int (3 : Int32)), (.ref rb), (.int (Int32.ofNat su)), (.ref pb), (.int (3 : Int32)), (.ref b2), (.ref b2)])) _
    exact q
  obtain ⟨_, _, ⟨T23, L23, kk23, n23⟩, -, X23, ⟨Lc23, hQ23, l23, y23, z23⟩, st23⟩ := Jvm.LawKit.callS X20 hx (y := (⟨"com/example/haku/haku/index/UnitPathsAddPinLaw", "at", "([CI[CI)C"⟩ : MethodName)) hown (mvT hZ (hw _ (List.mem_of_getElem? (i := 14) rfl))) (mvT hZ (hw _ (List.mem_of_getElem? (i := 15) rfl))) (mvT hZ (hw _ (List.mem_of_getElem? (i := 7) rfl))) (mvT hZ (hw _ (List.mem_of_getElem? (i := 16) rfl))) (by decide) (backOf (W := 3) (rmA l Z a0 hw [] pb su rb 3 E Rl kE kR h20 n0 Zn VE VR hs (by decide) hE hR) hZ (hw _ (List.mem_of_getElem? (i := 16) rfl)) (hw _ (List.mem_of_getElem? (i := 7) rfl)) (by decide) (by decide)) (g := (mkF m 40 #[oa pb, oi su, oa rb] [(.int (3 : Int32)), (.ref rb), (.int (Int32.ofNat su)), (.ref pb), (.int (3 : Int32)), (.ref b2), (.ref b2)])) rfl (by rw [hml]; rfl) (argsL := [(.ref pb), (.int (Int32.ofNat su)), (.ref rb), (.int (3 : Int32))]) (rest := [(.int (3 : Int32)), (.ref b2), (.ref b2)]) (lenOf pd_16133 rfl) rfl (by show 2 * 0 + _ ≤ _; exact Nat.le_of_eq rfl) (hb hby d_method_6_40) (fun _ _ => ⟨rfl, e20, (by decide : 0 + 1 + 0 + 0 + 0 + 0 ≤ _), (by decide : 0 + 8 + 0 + 0 + 0 + 0 ≤ _)⟩)
  dsimp only [Pt.U, Pt.locs, Pt.cells, Pt.slots] at X23 l23 y23 z23 st23 hQ23
  rw [l23, y23, z23] at X23
  obtain ⟨rfl, Nq23, hq23⟩ := hQ23
  have N23 := Fr.app N20 Nq23
  have k24_ : ∀ t, Steps p.tables e below (T23.setTop (mkF m 43 #[oa pb, oi su, oa rb] [(.int (own_at E su Rl 3)), (.int (3 : Int32)), (.ref b2), (.ref b2)])) t → G_ t := fun t q => k22_ t (st23 t q)
  obtain ⟨cl25, Ar25, q25, S25, M25, H25, G25⟩ := V_b2
  obtain ⟨T26, h26, X26, e26, W26, st26⟩ := stC X23 hx hZ hq23 Ar25 (j := (3 : Int32)) (inb_of S25 ⟨by decide, by decide⟩) (g := (mkF m 43 #[oa pb, oi su, oa rb] [(.int (own_at E su Rl 3)), (.int (3 : Int32)), (.ref b2), (.ref b2)])) rfl rfl (hb hby d_method_6_43)
  have k27_ : ∀ t, Steps p.tables e below (T26.setTop (mkF m 44 #[oa pb, oi su, oa rb] [(.ref b2)])) t → G_ t := fun t q => k24_ t (st26 t q)
  have N26 := Fr.snoc X26 N23 g_b2
  rw [own_nc (own_at_r (su := su) (j := 3) hE hR)] at W26
  replace Zn := Nat.le_trans Zn (Keep.of_wr W26).1
  replace VE := VE.other W26 ne_pb_b2
  replace VR := VR.other W26 ne_rb_b2
  have V_b2 : Arv Z h26 b2 c2 .char (8 : Int32) [(.int (own_at E su Rl 0)), (.int (own_at E su Rl 1)), (.int (own_at E su Rl 2)), (.int (own_at E su Rl 3)), (.int (0 : Int32)), (.int (0 : Int32)), (.int (0 : Int32)), (.int (0 : Int32))] (.int (0 : Int32)) := Arv.set Ar25 q25 S25 M25 H25 G25 (by have q := fits_nar_char (own_at E su Rl 3); rw [own_nc (own_at_r (su := su) (j := 3) hE hR)] at q; exact q) W26 3 rfl (Nat.le_of_ble_eq_true rfl)
  replace KP := KP.wr W26 (Or.inr z_b2)
  have k28_ : ∀ t, Steps p.tables e below (T26.setTop (mkF m 50 #[oa pb, oi su, oa rb] [(.int (4 : Int32)), (.ref rb), (.int (Int32.ofNat su)), (.ref pb), (.int (4 : Int32)), (.ref b2), (.ref b2)])) t → G_ t := by
    intro t q
    refine k27_ _ ?_
    show Steps p.tables e below (T26.setTop (mkF m 44 #[oa pb, oi su, oa rb] [(.ref b2)])) _
    refine XS.dup X26.here hx rfl (hb hby d_method_6_44) rfl rfl ?_
    refine XS.iconst X26.here hx rfl (hb hby d_method_6_45) ?_
    refine XS.aloadN X26.here hx rfl (hb hby d_method_6_46) rfl rfl ?_
    refine XS.iloadN X26.here hx rfl (hb hby d_method_6_47) rfl ?_
    show Steps p.tables e below (T26.setTop (mkF m 48 #[oa pb, oi su, oa rb] [(.int (Int32.ofNat su)), (.ref pb), (.int (4 : Int32)), (.ref b2), (.ref b2)])) _
    refine XS.aloadN X26.here hx rfl (hb hby d_method_6_48) rfl rfl ?_
    refine XS.iconst X26.here hx rfl (hb hby d_method_6_49) ?_
    show Steps p.tables e below (T26.setTop (mkF m 50 #[oa pb, oi su, oa rb] [(.int (4 : Int32)), (.ref rb), (.int (Int32.ofNat su)), (.ref pb), (.int (4 : Int32)), (.ref b2), (.ref b2)])) _
    exact q
  obtain ⟨_, _, ⟨T29, L29, kk29, n29⟩, -, X29, ⟨Lc29, hQ29, l29, y29, z29⟩, st29⟩ := Jvm.LawKit.callS X26 hx (y := (⟨"com/example/haku/haku/index/UnitPathsAddPinLaw", "at", "([CI[CI)C"⟩ : MethodName)) hown (mvT hZ (hw _ (List.mem_of_getElem? (i := 14) rfl))) (mvT hZ (hw _ (List.mem_of_getElem? (i := 15) rfl))) (mvT hZ (hw _ (List.mem_of_getElem? (i := 7) rfl))) (mvT hZ (hw _ (List.mem_of_getElem? (i := 16) rfl))) (by decide) (backOf (W := 3) (rmA l Z a0 hw [] pb su rb 4 E Rl kE kR h26 n0 Zn VE VR hs (by decide) hE hR) hZ (hw _ (List.mem_of_getElem? (i := 16) rfl)) (hw _ (List.mem_of_getElem? (i := 7) rfl)) (by decide) (by decide)) (g := (mkF m 50 #[oa pb, oi su, oa rb] [(.int (4 : Int32)), (.ref rb), (.int (Int32.ofNat su)), (.ref pb), (.int (4 : Int32)), (.ref b2), (.ref b2)])) rfl (by rw [hml]; rfl) (argsL := [(.ref pb), (.int (Int32.ofNat su)), (.ref rb), (.int (4 : Int32))]) (rest := [(.int (4 : Int32)), (.ref b2), (.ref b2)]) (lenOf pd_16133 rfl) rfl (by show 2 * 0 + _ ≤ _; exact Nat.le_of_eq rfl) (hb hby d_method_6_50) (fun _ _ => ⟨rfl, e26, (by decide : 0 + 1 + 0 + 0 + 0 + 0 + 0 ≤ _), (by decide : 0 + 8 + 0 + 0 + 0 + 0 + 0 ≤ _)⟩)
  dsimp only [Pt.U, Pt.locs, Pt.cells, Pt.slots] at X29 l29 y29 z29 st29 hQ29
  rw [l29, y29, z29] at X29
  obtain ⟨rfl, Nq29, hq29⟩ := hQ29
  have N29 := Fr.app N26 Nq29
  have k30_ : ∀ t, Steps p.tables e below (T29.setTop (mkF m 53 #[oa pb, oi su, oa rb] [(.int (own_at E su Rl 4)), (.int (4 : Int32)), (.ref b2), (.ref b2)])) t → G_ t := fun t q => k28_ t (st29 t q)
  obtain ⟨cl31, Ar31, q31, S31, M31, H31, G31⟩ := V_b2
  obtain ⟨T32, h32, X32, e32, W32, st32⟩ := stC X29 hx hZ hq29 Ar31 (j := (4 : Int32)) (inb_of S31 ⟨by decide, by decide⟩) (g := (mkF m 53 #[oa pb, oi su, oa rb] [(.int (own_at E su Rl 4)), (.int (4 : Int32)), (.ref b2), (.ref b2)])) rfl rfl (hb hby d_method_6_53)
  have k33_ : ∀ t, Steps p.tables e below (T32.setTop (mkF m 54 #[oa pb, oi su, oa rb] [(.ref b2)])) t → G_ t := fun t q => k30_ t (st32 t q)
  have N32 := Fr.snoc X32 N29 g_b2
  rw [own_nc (own_at_r (su := su) (j := 4) hE hR)] at W32
  replace Zn := Nat.le_trans Zn (Keep.of_wr W32).1
  replace VE := VE.other W32 ne_pb_b2
  replace VR := VR.other W32 ne_rb_b2
  have V_b2 : Arv Z h32 b2 c2 .char (8 : Int32) [(.int (own_at E su Rl 0)), (.int (own_at E su Rl 1)), (.int (own_at E su Rl 2)), (.int (own_at E su Rl 3)), (.int (own_at E su Rl 4)), (.int (0 : Int32)), (.int (0 : Int32)), (.int (0 : Int32))] (.int (0 : Int32)) := Arv.set Ar31 q31 S31 M31 H31 G31 (by have q := fits_nar_char (own_at E su Rl 4); rw [own_nc (own_at_r (su := su) (j := 4) hE hR)] at q; exact q) W32 4 rfl (Nat.le_of_ble_eq_true rfl)
  replace KP := KP.wr W32 (Or.inr z_b2)
  have k34_ : ∀ t, Steps p.tables e below (T32.setTop (mkF m 60 #[oa pb, oi su, oa rb] [(.int (5 : Int32)), (.ref rb), (.int (Int32.ofNat su)), (.ref pb), (.int (5 : Int32)), (.ref b2), (.ref b2)])) t → G_ t := by
    intro t q
    refine k33_ _ ?_
    show Steps p.tables e below (T32.setTop (mkF m 54 #[oa pb, oi su, oa rb] [(.ref b2)])) _
    refine XS.dup X32.here hx rfl (hb hby d_method_6_54) rfl rfl ?_
    refine XS.iconst X32.here hx rfl (hb hby d_method_6_55) ?_
    refine XS.aloadN X32.here hx rfl (hb hby d_method_6_56) rfl rfl ?_
    refine XS.iloadN X32.here hx rfl (hb hby d_method_6_57) rfl ?_
    show Steps p.tables e below (T32.setTop (mkF m 58 #[oa pb, oi su, oa rb] [(.int (Int32.ofNat su)), (.ref pb), (.int (5 : Int32)), (.ref b2), (.ref b2)])) _
    refine XS.aloadN X32.here hx rfl (hb hby d_method_6_58) rfl rfl ?_
    refine XS.iconst X32.here hx rfl (hb hby d_method_6_59) ?_
    show Steps p.tables e below (T32.setTop (mkF m 60 #[oa pb, oi su, oa rb] [(.int (5 : Int32)), (.ref rb), (.int (Int32.ofNat su)), (.ref pb), (.int (5 : Int32)), (.ref b2), (.ref b2)])) _
    exact q
  obtain ⟨_, _, ⟨T35, L35, kk35, n35⟩, -, X35, ⟨Lc35, hQ35, l35, y35, z35⟩, st35⟩ := Jvm.LawKit.callS X32 hx (y := (⟨"com/example/haku/haku/index/UnitPathsAddPinLaw", "at", "([CI[CI)C"⟩ : MethodName)) hown (mvT hZ (hw _ (List.mem_of_getElem? (i := 14) rfl))) (mvT hZ (hw _ (List.mem_of_getElem? (i := 15) rfl))) (mvT hZ (hw _ (List.mem_of_getElem? (i := 7) rfl))) (mvT hZ (hw _ (List.mem_of_getElem? (i := 16) rfl))) (by decide) (backOf (W := 3) (rmA l Z a0 hw [] pb su rb 5 E Rl kE kR h32 n0 Zn VE VR hs (by decide) hE hR) hZ (hw _ (List.mem_of_getElem? (i := 16) rfl)) (hw _ (List.mem_of_getElem? (i := 7) rfl)) (by decide) (by decide)) (g := (mkF m 60 #[oa pb, oi su, oa rb] [(.int (5 : Int32)), (.ref rb), (.int (Int32.ofNat su)), (.ref pb), (.int (5 : Int32)), (.ref b2), (.ref b2)])) rfl (by rw [hml]; rfl) (argsL := [(.ref pb), (.int (Int32.ofNat su)), (.ref rb), (.int (5 : Int32))]) (rest := [(.int (5 : Int32)), (.ref b2), (.ref b2)]) (lenOf pd_16133 rfl) rfl (by show 2 * 0 + _ ≤ _; exact Nat.le_of_eq rfl) (hb hby d_method_6_60) (fun _ _ => ⟨rfl, e32, (by decide : 0 + 1 + 0 + 0 + 0 + 0 + 0 + 0 ≤ _), (by decide : 0 + 8 + 0 + 0 + 0 + 0 + 0 + 0 ≤ _)⟩)
  dsimp only [Pt.U, Pt.locs, Pt.cells, Pt.slots] at X35 l35 y35 z35 st35 hQ35
  rw [l35, y35, z35] at X35
  obtain ⟨rfl, Nq35, hq35⟩ := hQ35
  have N35 := Fr.app N32 Nq35
  have k36_ : ∀ t, Steps p.tables e below (T35.setTop (mkF m 63 #[oa pb, oi su, oa rb] [(.int (own_at E su Rl 5)), (.int (5 : Int32)), (.ref b2), (.ref b2)])) t → G_ t := fun t q => k34_ t (st35 t q)
  obtain ⟨cl37, Ar37, q37, S37, M37, H37, G37⟩ := V_b2
  obtain ⟨T38, h38, X38, e38, W38, st38⟩ := stC X35 hx hZ hq35 Ar37 (j := (5 : Int32)) (inb_of S37 ⟨by decide, by decide⟩) (g := (mkF m 63 #[oa pb, oi su, oa rb] [(.int (own_at E su Rl 5)), (.int (5 : Int32)), (.ref b2), (.ref b2)])) rfl rfl (hb hby d_method_6_63)
  have k39_ : ∀ t, Steps p.tables e below (T38.setTop (mkF m 64 #[oa pb, oi su, oa rb] [(.ref b2)])) t → G_ t := fun t q => k36_ t (st38 t q)
  have N38 := Fr.snoc X38 N35 g_b2
  rw [own_nc (own_at_r (su := su) (j := 5) hE hR)] at W38
  replace Zn := Nat.le_trans Zn (Keep.of_wr W38).1
  replace VE := VE.other W38 ne_pb_b2
  replace VR := VR.other W38 ne_rb_b2
  have V_b2 : Arv Z h38 b2 c2 .char (8 : Int32) [(.int (own_at E su Rl 0)), (.int (own_at E su Rl 1)), (.int (own_at E su Rl 2)), (.int (own_at E su Rl 3)), (.int (own_at E su Rl 4)), (.int (own_at E su Rl 5)), (.int (0 : Int32)), (.int (0 : Int32))] (.int (0 : Int32)) := Arv.set Ar37 q37 S37 M37 H37 G37 (by have q := fits_nar_char (own_at E su Rl 5); rw [own_nc (own_at_r (su := su) (j := 5) hE hR)] at q; exact q) W38 5 rfl (Nat.le_of_ble_eq_true rfl)
  replace KP := KP.wr W38 (Or.inr z_b2)
  have k40_ : ∀ t, Steps p.tables e below (T38.setTop (mkF m 72 #[oa pb, oi su, oa rb] [(.int (6 : Int32)), (.ref rb), (.int (Int32.ofNat su)), (.ref pb), (.int (6 : Int32)), (.ref b2), (.ref b2)])) t → G_ t := by
    intro t q
    refine k39_ _ ?_
    show Steps p.tables e below (T38.setTop (mkF m 64 #[oa pb, oi su, oa rb] [(.ref b2)])) _
    refine XS.dup X38.here hx rfl (hb hby d_method_6_64) rfl rfl ?_
    refine XS.bipush X38.here hx rfl (hb hby d_method_6_65) ?_
    refine XS.aloadN X38.here hx rfl (hb hby d_method_6_67) rfl rfl ?_
    refine XS.iloadN X38.here hx rfl (hb hby d_method_6_68) rfl ?_
    show Steps p.tables e below (T38.setTop (mkF m 69 #[oa pb, oi su, oa rb] [(.int (Int32.ofNat su)), (.ref pb), (.int (6 : Int32)), (.ref b2), (.ref b2)])) _
    refine XS.aloadN X38.here hx rfl (hb hby d_method_6_69) rfl rfl ?_
    refine XS.bipush X38.here hx rfl (hb hby d_method_6_70) ?_
    show Steps p.tables e below (T38.setTop (mkF m 72 #[oa pb, oi su, oa rb] [(.int (6 : Int32)), (.ref rb), (.int (Int32.ofNat su)), (.ref pb), (.int (6 : Int32)), (.ref b2), (.ref b2)])) _
    exact q
  obtain ⟨_, _, ⟨T41, L41, kk41, n41⟩, -, X41, ⟨Lc41, hQ41, l41, y41, z41⟩, st41⟩ := Jvm.LawKit.callS X38 hx (y := (⟨"com/example/haku/haku/index/UnitPathsAddPinLaw", "at", "([CI[CI)C"⟩ : MethodName)) hown (mvT hZ (hw _ (List.mem_of_getElem? (i := 14) rfl))) (mvT hZ (hw _ (List.mem_of_getElem? (i := 15) rfl))) (mvT hZ (hw _ (List.mem_of_getElem? (i := 7) rfl))) (mvT hZ (hw _ (List.mem_of_getElem? (i := 16) rfl))) (by decide) (backOf (W := 3) (rmA l Z a0 hw [] pb su rb 6 E Rl kE kR h38 n0 Zn VE VR hs (by decide) hE hR) hZ (hw _ (List.mem_of_getElem? (i := 16) rfl)) (hw _ (List.mem_of_getElem? (i := 7) rfl)) (by decide) (by decide)) (g := (mkF m 72 #[oa pb, oi su, oa rb] [(.int (6 : Int32)), (.ref rb), (.int (Int32.ofNat su)), (.ref pb), (.int (6 : Int32)), (.ref b2), (.ref b2)])) rfl (by rw [hml]; rfl) (argsL := [(.ref pb), (.int (Int32.ofNat su)), (.ref rb), (.int (6 : Int32))]) (rest := [(.int (6 : Int32)), (.ref b2), (.ref b2)]) (lenOf pd_16133 rfl) rfl (by show 2 * 0 + _ ≤ _; exact Nat.le_of_eq rfl) (hb hby d_method_6_72) (fun _ _ => ⟨rfl, e38, (by decide : 0 + 1 + 0 + 0 + 0 + 0 + 0 + 0 + 0 ≤ _), (by decide : 0 + 8 + 0 + 0 + 0 + 0 + 0 + 0 + 0 ≤ _)⟩)
  dsimp only [Pt.U, Pt.locs, Pt.cells, Pt.slots] at X41 l41 y41 z41 st41 hQ41
  rw [l41, y41, z41] at X41
  obtain ⟨rfl, Nq41, hq41⟩ := hQ41
  have N41 := Fr.app N38 Nq41
  have k42_ : ∀ t, Steps p.tables e below (T41.setTop (mkF m 75 #[oa pb, oi su, oa rb] [(.int (own_at E su Rl 6)), (.int (6 : Int32)), (.ref b2), (.ref b2)])) t → G_ t := fun t q => k40_ t (st41 t q)
  obtain ⟨cl43, Ar43, q43, S43, M43, H43, G43⟩ := V_b2
  obtain ⟨T44, h44, X44, e44, W44, st44⟩ := stC X41 hx hZ hq41 Ar43 (j := (6 : Int32)) (inb_of S43 ⟨by decide, by decide⟩) (g := (mkF m 75 #[oa pb, oi su, oa rb] [(.int (own_at E su Rl 6)), (.int (6 : Int32)), (.ref b2), (.ref b2)])) rfl rfl (hb hby d_method_6_75)
  have k45_ : ∀ t, Steps p.tables e below (T44.setTop (mkF m 76 #[oa pb, oi su, oa rb] [(.ref b2)])) t → G_ t := fun t q => k42_ t (st44 t q)
  have N44 := Fr.snoc X44 N41 g_b2
  rw [own_nc (own_at_r (su := su) (j := 6) hE hR)] at W44
  replace Zn := Nat.le_trans Zn (Keep.of_wr W44).1
  replace VE := VE.other W44 ne_pb_b2
  replace VR := VR.other W44 ne_rb_b2
  have V_b2 : Arv Z h44 b2 c2 .char (8 : Int32) [(.int (own_at E su Rl 0)), (.int (own_at E su Rl 1)), (.int (own_at E su Rl 2)), (.int (own_at E su Rl 3)), (.int (own_at E su Rl 4)), (.int (own_at E su Rl 5)), (.int (own_at E su Rl 6)), (.int (0 : Int32))] (.int (0 : Int32)) := Arv.set Ar43 q43 S43 M43 H43 G43 (by have q := fits_nar_char (own_at E su Rl 6); rw [own_nc (own_at_r (su := su) (j := 6) hE hR)] at q; exact q) W44 6 rfl (Nat.le_of_ble_eq_true rfl)
  replace KP := KP.wr W44 (Or.inr z_b2)
  have k46_ : ∀ t, Steps p.tables e below (T44.setTop (mkF m 84 #[oa pb, oi su, oa rb] [(.int (7 : Int32)), (.ref rb), (.int (Int32.ofNat su)), (.ref pb), (.int (7 : Int32)), (.ref b2), (.ref b2)])) t → G_ t := by
    intro t q
    refine k45_ _ ?_
    show Steps p.tables e below (T44.setTop (mkF m 76 #[oa pb, oi su, oa rb] [(.ref b2)])) _
    refine XS.dup X44.here hx rfl (hb hby d_method_6_76) rfl rfl ?_
    refine XS.bipush X44.here hx rfl (hb hby d_method_6_77) ?_
    refine XS.aloadN X44.here hx rfl (hb hby d_method_6_79) rfl rfl ?_
    refine XS.iloadN X44.here hx rfl (hb hby d_method_6_80) rfl ?_
    show Steps p.tables e below (T44.setTop (mkF m 81 #[oa pb, oi su, oa rb] [(.int (Int32.ofNat su)), (.ref pb), (.int (7 : Int32)), (.ref b2), (.ref b2)])) _
    refine XS.aloadN X44.here hx rfl (hb hby d_method_6_81) rfl rfl ?_
    refine XS.bipush X44.here hx rfl (hb hby d_method_6_82) ?_
    show Steps p.tables e below (T44.setTop (mkF m 84 #[oa pb, oi su, oa rb] [(.int (7 : Int32)), (.ref rb), (.int (Int32.ofNat su)), (.ref pb), (.int (7 : Int32)), (.ref b2), (.ref b2)])) _
    exact q
  obtain ⟨_, _, ⟨T47, L47, kk47, n47⟩, -, X47, ⟨Lc47, hQ47, l47, y47, z47⟩, st47⟩ := Jvm.LawKit.callS X44 hx (y := (⟨"com/example/haku/haku/index/UnitPathsAddPinLaw", "at", "([CI[CI)C"⟩ : MethodName)) hown (mvT hZ (hw _ (List.mem_of_getElem? (i := 14) rfl))) (mvT hZ (hw _ (List.mem_of_getElem? (i := 15) rfl))) (mvT hZ (hw _ (List.mem_of_getElem? (i := 7) rfl))) (mvT hZ (hw _ (List.mem_of_getElem? (i := 16) rfl))) (by decide) (backOf (W := 3) (rmA l Z a0 hw [] pb su rb 7 E Rl kE kR h44 n0 Zn VE VR hs (by decide) hE hR) hZ (hw _ (List.mem_of_getElem? (i := 16) rfl)) (hw _ (List.mem_of_getElem? (i := 7) rfl)) (by decide) (by decide)) (g := (mkF m 84 #[oa pb, oi su, oa rb] [(.int (7 : Int32)), (.ref rb), (.int (Int32.ofNat su)), (.ref pb), (.int (7 : Int32)), (.ref b2), (.ref b2)])) rfl (by rw [hml]; rfl) (argsL := [(.ref pb), (.int (Int32.ofNat su)), (.ref rb), (.int (7 : Int32))]) (rest := [(.int (7 : Int32)), (.ref b2), (.ref b2)]) (lenOf pd_16133 rfl) rfl (by show 2 * 0 + _ ≤ _; exact Nat.le_of_eq rfl) (hb hby d_method_6_84) (fun _ _ => ⟨rfl, e44, (by decide : 0 + 1 + 0 + 0 + 0 + 0 + 0 + 0 + 0 + 0 ≤ _), (by decide : 0 + 8 + 0 + 0 + 0 + 0 + 0 + 0 + 0 + 0 ≤ _)⟩)
  dsimp only [Pt.U, Pt.locs, Pt.cells, Pt.slots] at X47 l47 y47 z47 st47 hQ47
  rw [l47, y47, z47] at X47
  obtain ⟨rfl, Nq47, hq47⟩ := hQ47
  have N47 := Fr.app N44 Nq47
  have k48_ : ∀ t, Steps p.tables e below (T47.setTop (mkF m 87 #[oa pb, oi su, oa rb] [(.int (own_at E su Rl 7)), (.int (7 : Int32)), (.ref b2), (.ref b2)])) t → G_ t := fun t q => k46_ t (st47 t q)
  obtain ⟨cl49, Ar49, q49, S49, M49, H49, G49⟩ := V_b2
  obtain ⟨T50, h50, X50, e50, W50, st50⟩ := stC X47 hx hZ hq47 Ar49 (j := (7 : Int32)) (inb_of S49 ⟨by decide, by decide⟩) (g := (mkF m 87 #[oa pb, oi su, oa rb] [(.int (own_at E su Rl 7)), (.int (7 : Int32)), (.ref b2), (.ref b2)])) rfl rfl (hb hby d_method_6_87)
  have k51_ : ∀ t, Steps p.tables e below (T50.setTop (mkF m 88 #[oa pb, oi su, oa rb] [(.ref b2)])) t → G_ t := fun t q => k48_ t (st50 t q)
  have N50 := Fr.snoc X50 N47 g_b2
  rw [own_nc (own_at_r (su := su) (j := 7) hE hR)] at W50
  replace Zn := Nat.le_trans Zn (Keep.of_wr W50).1
  replace VE := VE.other W50 ne_pb_b2
  replace VR := VR.other W50 ne_rb_b2
  have V_b2 : Arv Z h50 b2 c2 .char (8 : Int32) [(.int (own_at E su Rl 0)), (.int (own_at E su Rl 1)), (.int (own_at E su Rl 2)), (.int (own_at E su Rl 3)), (.int (own_at E su Rl 4)), (.int (own_at E su Rl 5)), (.int (own_at E su Rl 6)), (.int (own_at E su Rl 7))] (.int (0 : Int32)) := Arv.set Ar49 q49 S49 M49 H49 G49 (by have q := fits_nar_char (own_at E su Rl 7); rw [own_nc (own_at_r (su := su) (j := 7) hE hR)] at q; exact q) W50 7 rfl (Nat.le_of_ble_eq_true rfl)
  replace KP := KP.wr W50 (Or.inr z_b2)
  obtain rfl : b = b2 := hb0.trans g2.symm
  obtain ⟨fs, hr, hrun, hended, hW, hsame⟩ := X50.leave (v := some (.ref b)) (fun h => by rw [Bd.returns] at h; cases h)
  refine ⟨_, _, pre0 _ (k51_ _ ?_), hrun, hended, _, _, rfl, ?_, ⟨_, rfl⟩, hW, hsame.mono (by decide) (by decide)⟩
  · show Steps p.tables e below (T50.setTop (mkF m 88 #[oa pb, oi su, oa rb] [(.ref b)])) _
    jvm_step X50.here [X50.here.top, hx, (hb hby d_method_6_88), X50.method', Bd.returns, Value.isRef, FieldType.isReference]
    first | (intro acts; rw [hr _ acts rfl rfl rfl]) | rw [hr _ _ rfl rfl rfl]
    exact Steps.refl _
  · show QNe Z pb su rb E Rl kE kR b h0 n0 _ T50.heap _
    rw [e50]
    exact ⟨rfl, N50, KP, _, V_b2⟩
def QFT0 (Z : State) (n1 : Nat) (n2 : Nat) (n3 : Nat) (h0 : Heap) (n0 : Nat) (v : Option Value) (h : Heap) (L : List Loc) : Prop := v = some (.int (Int32.ofNat n1)) ∧ Fr n0 L ∧ h = h0
theorem ef_FT0 (m : MethodId) (x0 : Int32) (x1 : Int32) (x2 : Int32) : entryFrame m #[(.int x0), (.int x1), (.int x2), .null] 4 = mkF m 0 #[.val (.int x0), .val (.int x1), .val (.int x2), .val .null] [] := by first | (simp [entryFrame, mkF, argsToLocals, Value.category]; done) | rfl
theorem pn_Preconditions : plainName "jdk/internal/util/Preconditions" = true := by first | (simp [plainName, overriddenIn]; done) | decide +kernel
theorem d_jdk_41_method_12_0 : decode jdk_41_method_12_code 0 = .ok (.iload_n 0, 1) := by decide +kernel
theorem d_jdk_41_method_12_1 : decode jdk_41_method_12_code 1 = .ok (.ifCond .lt 13, 3) := by decide +kernel
theorem d_jdk_41_method_12_4 : decode jdk_41_method_12_code 4 = .ok (.iload_n 0, 1) := by decide +kernel
theorem d_jdk_41_method_12_5 : decode jdk_41_method_12_code 5 = .ok (.iload_n 1, 1) := by decide +kernel
theorem d_jdk_41_method_12_6 : decode jdk_41_method_12_code 6 = .ok (.if_icmp .gt 8, 3) := by decide +kernel
theorem d_jdk_41_method_12_9 : decode jdk_41_method_12_code 9 = .ok (.iload_n 1, 1) := by decide +kernel
theorem d_jdk_41_method_12_10 : decode jdk_41_method_12_code 10 = .ok (.iload_n 2, 1) := by decide +kernel
theorem d_jdk_41_method_12_11 : decode jdk_41_method_12_code 11 = .ok (.if_icmp .le 11, 3) := by decide +kernel
theorem d_jdk_41_method_12_22 : decode jdk_41_method_12_code 22 = .ok (.iload_n 0, 1) := by decide +kernel
theorem d_jdk_41_method_12_23 : decode jdk_41_method_12_code 23 = .ok (.ireturn, 1) := by decide +kernel
set_option maxRecDepth 65536 in
set_option maxHeartbeats 40000000 in
theorem rmFT0 (l : Launch) (Z : State) (a0 : Array Value) (hw : ∀ d ∈ tables_1, d.before a0 Z = true) (ws : List Jvm.Cond) (n1 : Nat) (n2 : Nat) (n3 : Nat) (h0 : Heap) (n0 : Nat) (Z0 : n0 ≤ h0.size) (h12 : n1 ≤ n2) (h23 : n2 ≤ n3) (h3 : n3 < 100) :
    MetFree l (⟨"jdk/internal/util/Preconditions", "checkFromToIndex", "(IIILjava/util/function/BiFunction;)I"⟩ : MethodName) (head1 (Jvm.Cond.code (⟨"jdk/internal/util/Preconditions", "checkFromToIndex", "(IIILjava/util/function/BiFunction;)I"⟩ : MethodName) jdk_41_method_12_code 4 (some .int) :: ws) ({ frames := 0, cells := 0, slots := 0, locals := 0 } : Room)) (fun a_ U_ => a_ = #[(.int (Int32.ofNat n1)), (.int (Int32.ofNat n2)), (.int (Int32.ofNat n3)), .null] ∧ Z.Warmed39 U_.vm ∧ U_.heap = h0) (fun _ _ _ _ _ => True) (fun _ U_ o_ E_ => ∃ v_ L_, o_ = .returned v_ ∧ QFT0 Z n1 n2 n3 h0 n0 v_ E_.heap L_ ∧ FrameEnd U_ o_ E_ L_ ({ frames := 0, cells := 0, slots := 0, locals := 0 } : Room).cells ({ frames := 0, cells := 0, slots := 0, locals := 0 } : Room).slots) := by
  refine MetFree.of_bodySF (plainFor_of_name pn_Preconditions) hisR ?_
  intro p e s m args below meth c s₁ Bd hml0 hP hK
  obtain ⟨rfl, hZ, hh⟩ := hP
  have hx := Bd.exec
  have hby := Bd.bytes
  have hml : c.maxLocals = 4 := hml0
  have hown : s.vm.findClass "jdk/internal/util/Preconditions" = some m.cls := findClass_of_methodNamed Bd.named
  have hnm := (name_of_methodNamed Bd.named Bd.method).1
  have X0 : Stand p l e ({ frames := 0, cells := 0, slots := 0, locals := 0 } : Room) s m #[(.int (Int32.ofNat n1)), (.int (Int32.ofNat n2)), (.int (Int32.ofNat n3)), .null] below meth c s₁ [] 0 0 := Stand.of_body Bd
  have e0 : s₁.heap = h0 := by rw [← hh, Bd.state]; rfl
  have N0 := Fr.nil n0
  have Zn := Z0
  have pre0 : ∀ t, Steps p.tables e below (s₁.setTop (mkF m 0 #[.val (.int (Int32.ofNat n1)), .val (.int (Int32.ofNat n2)), .val (.int (Int32.ofNat n3)), .val .null] [])) t → Steps p.tables e below (s₁.setTop (entryFrame m #[(.int (Int32.ofNat n1)), (.int (Int32.ofNat n2)), (.int (Int32.ofNat n3)), .null] 4)) t := fun t q => castTop (ef_FT0 m (Int32.ofNat n1) (Int32.ofNat n2) (Int32.ofNat n3)) q
  have k0 : ∀ t, Steps p.tables e below (s₁.setTop (mkF m 0 #[.val (.int (Int32.ofNat n1)), .val (.int (Int32.ofNat n2)), .val (.int (Int32.ofNat n3)), .val .null] [])) t → Steps p.tables e below (s₁.setTop (mkF m 0 #[.val (.int (Int32.ofNat n1)), .val (.int (Int32.ofNat n2)), .val (.int (Int32.ofNat n3)), .val .null] [])) t := fun t q => q
  let G_ : State → Prop := fun t => Steps p.tables e below (s₁.setTop (mkF m 0 #[.val (.int (Int32.ofNat n1)), .val (.int (Int32.ofNat n2)), .val (.int (Int32.ofNat n3)), .val .null] [])) t
  have k1_ : ∀ t, Steps p.tables e below (s₁.setTop (mkF m 1 #[oi n1, oi n2, oi n3, .val .null] [(.int (Int32.ofNat n1))])) t → G_ t := by
    intro t q
    refine k0 _ ?_
    show Steps p.tables e below (s₁.setTop (mkF m 0 #[oi n1, oi n2, oi n3, .val .null] [])) _
    refine XS.iloadN X0.here hx rfl (hb hby d_jdk_41_method_12_0) rfl ?_
    show Steps p.tables e below (s₁.setTop (mkF m 1 #[oi n1, oi n2, oi n3, .val .null] [(.int (Int32.ofNat n1))])) _
    exact q
  have k2_ : ∀ t, Steps p.tables e below (s₁.setTop (mkF m 4 #[oi n1, oi n2, oi n3, .val .null] [])) t → G_ t := by
    intro t q
    refine k1_ _ ?_
    show Steps p.tables e below (s₁.setTop (mkF m 1 #[oi n1, oi n2, oi n3, .val .null] [(.int (Int32.ofNat n1))])) _
    refine XS.ifNo X0.here hx rfl (hb hby d_jdk_41_method_12_1) rfl ((if0 _ _).trans (flt (own_nn (by omega))).1) ?_
    show Steps p.tables e below (s₁.setTop (mkF m 4 #[oi n1, oi n2, oi n3, .val .null] [])) _
    exact q
  have k3_ : ∀ t, Steps p.tables e below (s₁.setTop (mkF m 6 #[oi n1, oi n2, oi n3, .val .null] [(.int (Int32.ofNat n2)), (.int (Int32.ofNat n1))])) t → G_ t := by
    intro t q
    refine k2_ _ ?_
    show Steps p.tables e below (s₁.setTop (mkF m 4 #[oi n1, oi n2, oi n3, .val .null] [])) _
    refine XS.iloadN X0.here hx rfl (hb hby d_jdk_41_method_12_4) rfl ?_
    refine XS.iloadN X0.here hx rfl (hb hby d_jdk_41_method_12_5) rfl ?_
    show Steps p.tables e below (s₁.setTop (mkF m 6 #[oi n1, oi n2, oi n3, .val .null] [(.int (Int32.ofNat n2)), (.int (Int32.ofNat n1))])) _
    exact q
  have k4_ : ∀ t, Steps p.tables e below (s₁.setTop (mkF m 9 #[oi n1, oi n2, oi n3, .val .null] [])) t → G_ t := by
    intro t q
    refine k3_ _ ?_
    show Steps p.tables e below (s₁.setTop (mkF m 6 #[oi n1, oi n2, oi n3, .val .null] [(.int (Int32.ofNat n2)), (.int (Int32.ofNat n1))])) _
    refine XS.icmpNo X0.here hx rfl (hb hby d_jdk_41_method_12_6) rfl (flt (fun z => absurd ((own_cmp (by omega) (by omega)).mp z) (by omega))).2.2.1 ?_
    show Steps p.tables e below (s₁.setTop (mkF m 9 #[oi n1, oi n2, oi n3, .val .null] [])) _
    exact q
  have k5_ : ∀ t, Steps p.tables e below (s₁.setTop (mkF m 11 #[oi n1, oi n2, oi n3, .val .null] [(.int (Int32.ofNat n3)), (.int (Int32.ofNat n2))])) t → G_ t := by
    intro t q
    refine k4_ _ ?_
    show Steps p.tables e below (s₁.setTop (mkF m 9 #[oi n1, oi n2, oi n3, .val .null] [])) _
    refine XS.iloadN X0.here hx rfl (hb hby d_jdk_41_method_12_9) rfl ?_
    refine XS.iloadN X0.here hx rfl (hb hby d_jdk_41_method_12_10) rfl ?_
    show Steps p.tables e below (s₁.setTop (mkF m 11 #[oi n1, oi n2, oi n3, .val .null] [(.int (Int32.ofNat n3)), (.int (Int32.ofNat n2))])) _
    exact q
  have k6_ : ∀ t, Steps p.tables e below (s₁.setTop (mkF m 22 #[oi n1, oi n2, oi n3, .val .null] [])) t → G_ t := by
    intro t q
    refine k5_ _ ?_
    show Steps p.tables e below (s₁.setTop (mkF m 11 #[oi n1, oi n2, oi n3, .val .null] [(.int (Int32.ofNat n3)), (.int (Int32.ofNat n2))])) _
    refine XS.icmpYes X0.here hx rfl (pc0 := 11) (pc' := 22) rfl (hb hby d_jdk_41_method_12_11) rfl (flt (fun z => absurd ((own_cmp (by omega) (by omega)).mp z) (by omega))).2.2.2 (by decide) (by decide) ?_
    show Steps p.tables e below (s₁.setTop (mkF m 22 #[oi n1, oi n2, oi n3, .val .null] [])) _
    exact q
  have k7_ : ∀ t, Steps p.tables e below (s₁.setTop (mkF m 23 #[oi n1, oi n2, oi n3, .val .null] [(.int (Int32.ofNat n1))])) t → G_ t := by
    intro t q
    refine k6_ _ ?_
    show Steps p.tables e below (s₁.setTop (mkF m 22 #[oi n1, oi n2, oi n3, .val .null] [])) _
    refine XS.iloadN X0.here hx rfl (hb hby d_jdk_41_method_12_22) rfl ?_
    show Steps p.tables e below (s₁.setTop (mkF m 23 #[oi n1, oi n2, oi n3, .val .null] [(.int (Int32.ofNat n1))])) _
    exact q
  obtain ⟨fs, hr, hrun, hended, hW, hsame⟩ := X0.leave (v := some (.int (Int32.ofNat n1))) (fun h => by rw [Bd.returns] at h; cases h)
  refine ⟨_, _, pre0 _ (k7_ _ ?_), hrun, hended, _, _, rfl, ?_, ⟨_, rfl⟩, hW, hsame.mono (by decide) (by decide)⟩
  · show Steps p.tables e below (s₁.setTop (mkF m 23 #[oi n1, oi n2, oi n3, .val .null] [(.int (Int32.ofNat n1))])) _
    exact retI X0 hx Bd.returns (hb hby d_jdk_41_method_12_23) hr
  · show QFT0 Z n1 n2 n3 h0 n0 _ s₁.heap _
    rw [e0]
    exact ⟨rfl, N0, rfl⟩
def QFS0 (Z : State) (n1 : Nat) (n2 : Nat) (n3 : Nat) (h0 : Heap) (n0 : Nat) (v : Option Value) (h : Heap) (L : List Loc) : Prop := v = some (.int (Int32.ofNat n1)) ∧ Fr n0 L ∧ h = h0
theorem ef_FS0 (m : MethodId) (x0 : Int32) (x1 : Int32) (x2 : Int32) : entryFrame m #[(.int x0), (.int x1), (.int x2), .null] 4 = mkF m 0 #[.val (.int x0), .val (.int x1), .val (.int x2), .val .null] [] := by first | (simp [entryFrame, mkF, argsToLocals, Value.category]; done) | rfl
theorem d_jdk_41_method_13_0 : decode jdk_41_method_13_code 0 = .ok (.iload_n 2, 1) := by decide +kernel
theorem d_jdk_41_method_13_1 : decode jdk_41_method_13_code 1 = .ok (.iload_n 0, 1) := by decide +kernel
theorem d_jdk_41_method_13_2 : decode jdk_41_method_13_code 2 = .ok (.ior, 1) := by decide +kernel
theorem d_jdk_41_method_13_3 : decode jdk_41_method_13_code 3 = .ok (.iload_n 1, 1) := by decide +kernel
theorem d_jdk_41_method_13_4 : decode jdk_41_method_13_code 4 = .ok (.ior, 1) := by decide +kernel
theorem d_jdk_41_method_13_5 : decode jdk_41_method_13_code 5 = .ok (.ifCond .lt 10, 3) := by decide +kernel
theorem d_jdk_41_method_13_8 : decode jdk_41_method_13_code 8 = .ok (.iload_n 1, 1) := by decide +kernel
theorem d_jdk_41_method_13_9 : decode jdk_41_method_13_code 9 = .ok (.iload_n 2, 1) := by decide +kernel
theorem d_jdk_41_method_13_10 : decode jdk_41_method_13_code 10 = .ok (.iload_n 0, 1) := by decide +kernel
theorem d_jdk_41_method_13_11 : decode jdk_41_method_13_code 11 = .ok (.isub, 1) := by decide +kernel
theorem d_jdk_41_method_13_12 : decode jdk_41_method_13_code 12 = .ok (.if_icmp .le 11, 3) := by decide +kernel
theorem d_jdk_41_method_13_23 : decode jdk_41_method_13_code 23 = .ok (.iload_n 0, 1) := by decide +kernel
theorem d_jdk_41_method_13_24 : decode jdk_41_method_13_code 24 = .ok (.ireturn, 1) := by decide +kernel
set_option maxRecDepth 65536 in
set_option maxHeartbeats 40000000 in
theorem rmFS0 (l : Launch) (Z : State) (a0 : Array Value) (hw : ∀ d ∈ tables_1, d.before a0 Z = true) (ws : List Jvm.Cond) (n1 : Nat) (n2 : Nat) (n3 : Nat) (h0 : Heap) (n0 : Nat) (Z0 : n0 ≤ h0.size) (h12 : n1 + n2 ≤ n3) (h3 : n3 < 100) :
    MetFree l (⟨"jdk/internal/util/Preconditions", "checkFromIndexSize", "(IIILjava/util/function/BiFunction;)I"⟩ : MethodName) (head1 (Jvm.Cond.code (⟨"jdk/internal/util/Preconditions", "checkFromIndexSize", "(IIILjava/util/function/BiFunction;)I"⟩ : MethodName) jdk_41_method_13_code 4 (some .int) :: ws) ({ frames := 0, cells := 0, slots := 0, locals := 0 } : Room)) (fun a_ U_ => a_ = #[(.int (Int32.ofNat n1)), (.int (Int32.ofNat n2)), (.int (Int32.ofNat n3)), .null] ∧ Z.Warmed39 U_.vm ∧ U_.heap = h0) (fun _ _ _ _ _ => True) (fun _ U_ o_ E_ => ∃ v_ L_, o_ = .returned v_ ∧ QFS0 Z n1 n2 n3 h0 n0 v_ E_.heap L_ ∧ FrameEnd U_ o_ E_ L_ ({ frames := 0, cells := 0, slots := 0, locals := 0 } : Room).cells ({ frames := 0, cells := 0, slots := 0, locals := 0 } : Room).slots) := by
  refine MetFree.of_bodySF (plainFor_of_name pn_Preconditions) hisR ?_
  intro p e s m args below meth c s₁ Bd hml0 hP hK
  obtain ⟨rfl, hZ, hh⟩ := hP
  have hx := Bd.exec
  have hby := Bd.bytes
  have hml : c.maxLocals = 4 := hml0
  have hown : s.vm.findClass "jdk/internal/util/Preconditions" = some m.cls := findClass_of_methodNamed Bd.named
  have hnm := (name_of_methodNamed Bd.named Bd.method).1
  have X0 : Stand p l e ({ frames := 0, cells := 0, slots := 0, locals := 0 } : Room) s m #[(.int (Int32.ofNat n1)), (.int (Int32.ofNat n2)), (.int (Int32.ofNat n3)), .null] below meth c s₁ [] 0 0 := Stand.of_body Bd
  have e0 : s₁.heap = h0 := by rw [← hh, Bd.state]; rfl
  have N0 := Fr.nil n0
  have Zn := Z0
  have pre0 : ∀ t, Steps p.tables e below (s₁.setTop (mkF m 0 #[.val (.int (Int32.ofNat n1)), .val (.int (Int32.ofNat n2)), .val (.int (Int32.ofNat n3)), .val .null] [])) t → Steps p.tables e below (s₁.setTop (entryFrame m #[(.int (Int32.ofNat n1)), (.int (Int32.ofNat n2)), (.int (Int32.ofNat n3)), .null] 4)) t := fun t q => castTop (ef_FS0 m (Int32.ofNat n1) (Int32.ofNat n2) (Int32.ofNat n3)) q
  have k0 : ∀ t, Steps p.tables e below (s₁.setTop (mkF m 0 #[.val (.int (Int32.ofNat n1)), .val (.int (Int32.ofNat n2)), .val (.int (Int32.ofNat n3)), .val .null] [])) t → Steps p.tables e below (s₁.setTop (mkF m 0 #[.val (.int (Int32.ofNat n1)), .val (.int (Int32.ofNat n2)), .val (.int (Int32.ofNat n3)), .val .null] [])) t := fun t q => q
  let G_ : State → Prop := fun t => Steps p.tables e below (s₁.setTop (mkF m 0 #[.val (.int (Int32.ofNat n1)), .val (.int (Int32.ofNat n2)), .val (.int (Int32.ofNat n3)), .val .null] [])) t
  have k1_ : ∀ t, Steps p.tables e below (s₁.setTop (mkF m 5 #[oi n1, oi n2, oi n3, .val .null] [(.int (((Int32.ofNat n3) ||| (Int32.ofNat n1)) ||| (Int32.ofNat n2)))])) t → G_ t := by
    intro t q
    refine k0 _ ?_
    show Steps p.tables e below (s₁.setTop (mkF m 0 #[oi n1, oi n2, oi n3, .val .null] [])) _
    refine XS.iloadN X0.here hx rfl (hb hby d_jdk_41_method_13_0) rfl ?_
    refine XS.iloadN X0.here hx rfl (hb hby d_jdk_41_method_13_1) rfl ?_
    refine XS.ior X0.here hx rfl (hb hby d_jdk_41_method_13_2) rfl ?_
    refine XS.iloadN X0.here hx rfl (hb hby d_jdk_41_method_13_3) rfl ?_
    show Steps p.tables e below (s₁.setTop (mkF m 4 #[oi n1, oi n2, oi n3, .val .null] [(.int (Int32.ofNat n2)), (.int ((Int32.ofNat n3) ||| (Int32.ofNat n1)))])) _
    refine XS.ior X0.here hx rfl (hb hby d_jdk_41_method_13_4) rfl ?_
    show Steps p.tables e below (s₁.setTop (mkF m 5 #[oi n1, oi n2, oi n3, .val .null] [(.int (((Int32.ofNat n3) ||| (Int32.ofNat n1)) ||| (Int32.ofNat n2)))])) _
    exact q
  have k2_ : ∀ t, Steps p.tables e below (s₁.setTop (mkF m 8 #[oi n1, oi n2, oi n3, .val .null] [])) t → G_ t := by
    intro t q
    refine k1_ _ ?_
    show Steps p.tables e below (s₁.setTop (mkF m 5 #[oi n1, oi n2, oi n3, .val .null] [(.int (((Int32.ofNat n3) ||| (Int32.ofNat n1)) ||| (Int32.ofNat n2)))])) _
    refine XS.ifNo X0.here hx rfl (hb hby d_jdk_41_method_13_5) rfl ((if0 _ _).trans (flt (own_or3 (by omega) (by omega) (by omega))).1) ?_
    show Steps p.tables e below (s₁.setTop (mkF m 8 #[oi n1, oi n2, oi n3, .val .null] [])) _
    exact q
  have k3_ : ∀ t, Steps p.tables e below (s₁.setTop (mkF m 12 #[oi n1, oi n2, oi n3, .val .null] [(.int ((Int32.ofNat n3) - (Int32.ofNat n1))), (.int (Int32.ofNat n2))])) t → G_ t := by
    intro t q
    refine k2_ _ ?_
    show Steps p.tables e below (s₁.setTop (mkF m 8 #[oi n1, oi n2, oi n3, .val .null] [])) _
    refine XS.iloadN X0.here hx rfl (hb hby d_jdk_41_method_13_8) rfl ?_
    refine XS.iloadN X0.here hx rfl (hb hby d_jdk_41_method_13_9) rfl ?_
    refine XS.iloadN X0.here hx rfl (hb hby d_jdk_41_method_13_10) rfl ?_
    refine XS.isub X0.here hx rfl (hb hby d_jdk_41_method_13_11) rfl ?_
    show Steps p.tables e below (s₁.setTop (mkF m 12 #[oi n1, oi n2, oi n3, .val .null] [(.int ((Int32.ofNat n3) - (Int32.ofNat n1))), (.int (Int32.ofNat n2))])) _
    exact q
  have k4_ : ∀ t, Steps p.tables e below (s₁.setTop (mkF m 12 #[oi n1, oi n2, oi n3, .val .null] [(.int (Int32.ofNat (n3 - n1))), (.int (Int32.ofNat n2))])) t → G_ t := fun t q => k3_ t (Eq.mp (congrArg (fun z => Steps p.tables e below (s₁.setTop (mkF m 12 #[oi n1, oi n2, oi n3, .val .null] [(.int z), (.int (Int32.ofNat n2))])) t) (show (Int32.ofNat (n3 - n1)) = ((Int32.ofNat n3) - (Int32.ofNat n1)) from (own_sbn (by omega) (by omega)))) q)
  have k5_ : ∀ t, Steps p.tables e below (s₁.setTop (mkF m 23 #[oi n1, oi n2, oi n3, .val .null] [])) t → G_ t := by
    intro t q
    refine k4_ _ ?_
    show Steps p.tables e below (s₁.setTop (mkF m 12 #[oi n1, oi n2, oi n3, .val .null] [(.int (Int32.ofNat (n3 - n1))), (.int (Int32.ofNat n2))])) _
    refine XS.icmpYes X0.here hx rfl (pc0 := 12) (pc' := 23) rfl (hb hby d_jdk_41_method_13_12) rfl (flt (fun z => absurd ((own_cmp (by omega) (by omega)).mp z) (by omega))).2.2.2 (by decide) (by decide) ?_
    show Steps p.tables e below (s₁.setTop (mkF m 23 #[oi n1, oi n2, oi n3, .val .null] [])) _
    exact q
  have k6_ : ∀ t, Steps p.tables e below (s₁.setTop (mkF m 24 #[oi n1, oi n2, oi n3, .val .null] [(.int (Int32.ofNat n1))])) t → G_ t := by
    intro t q
    refine k5_ _ ?_
    show Steps p.tables e below (s₁.setTop (mkF m 23 #[oi n1, oi n2, oi n3, .val .null] [])) _
    refine XS.iloadN X0.here hx rfl (hb hby d_jdk_41_method_13_23) rfl ?_
    show Steps p.tables e below (s₁.setTop (mkF m 24 #[oi n1, oi n2, oi n3, .val .null] [(.int (Int32.ofNat n1))])) _
    exact q
  obtain ⟨fs, hr, hrun, hended, hW, hsame⟩ := X0.leave (v := some (.int (Int32.ofNat n1))) (fun h => by rw [Bd.returns] at h; cases h)
  refine ⟨_, _, pre0 _ (k6_ _ ?_), hrun, hended, _, _, rfl, ?_, ⟨_, rfl⟩, hW, hsame.mono (by decide) (by decide)⟩
  · show Steps p.tables e below (s₁.setTop (mkF m 24 #[oi n1, oi n2, oi n3, .val .null] [(.int (Int32.ofNat n1))])) _
    exact retI X0 hx Bd.returns (hb hby d_jdk_41_method_13_24) hr
  · show QFS0 Z n1 n2 n3 h0 n0 _ s₁.heap _
    rw [e0]
    exact ⟨rfl, N0, rfl⟩
def QFT1 (Z : State) (n1 : Nat) (n2 : Nat) (n3 : Nat) (fa : Addr) (h0 : Heap) (n0 : Nat) (v : Option Value) (h : Heap) (L : List Loc) : Prop := v = some (.int (Int32.ofNat n1)) ∧ Fr n0 L ∧ h = h0
theorem ef_FT1 (m : MethodId) (x0 : Int32) (x1 : Int32) (x2 : Int32) (x3 : Addr) : entryFrame m #[(.int x0), (.int x1), (.int x2), (.ref x3)] 4 = mkF m 0 #[.val (.int x0), .val (.int x1), .val (.int x2), .val (.ref x3)] [] := by first | (simp [entryFrame, mkF, argsToLocals, Value.category]; done) | rfl
set_option maxRecDepth 65536 in
set_option maxHeartbeats 40000000 in
theorem rmFT1 (l : Launch) (Z : State) (a0 : Array Value) (hw : ∀ d ∈ tables_1, d.before a0 Z = true) (ws : List Jvm.Cond) (n1 : Nat) (n2 : Nat) (n3 : Nat) (fa : Addr) (h0 : Heap) (n0 : Nat) (Z0 : n0 ≤ h0.size) (h12 : n1 ≤ n2) (h23 : n2 ≤ n3) (h3 : n3 < 100) :
    MetFree l (⟨"jdk/internal/util/Preconditions", "checkFromToIndex", "(IIILjava/util/function/BiFunction;)I"⟩ : MethodName) (head1 (Jvm.Cond.code (⟨"jdk/internal/util/Preconditions", "checkFromToIndex", "(IIILjava/util/function/BiFunction;)I"⟩ : MethodName) jdk_41_method_12_code 4 (some .int) :: ws) ({ frames := 0, cells := 0, slots := 0, locals := 0 } : Room)) (fun a_ U_ => a_ = #[(.int (Int32.ofNat n1)), (.int (Int32.ofNat n2)), (.int (Int32.ofNat n3)), (.ref fa)] ∧ Z.Warmed39 U_.vm ∧ U_.heap = h0) (fun _ _ _ _ _ => True) (fun _ U_ o_ E_ => ∃ v_ L_, o_ = .returned v_ ∧ QFT1 Z n1 n2 n3 fa h0 n0 v_ E_.heap L_ ∧ FrameEnd U_ o_ E_ L_ ({ frames := 0, cells := 0, slots := 0, locals := 0 } : Room).cells ({ frames := 0, cells := 0, slots := 0, locals := 0 } : Room).slots) := by
  refine MetFree.of_bodySF (plainFor_of_name pn_Preconditions) hisR ?_
  intro p e s m args below meth c s₁ Bd hml0 hP hK
  obtain ⟨rfl, hZ, hh⟩ := hP
  have hx := Bd.exec
  have hby := Bd.bytes
  have hml : c.maxLocals = 4 := hml0
  have hown : s.vm.findClass "jdk/internal/util/Preconditions" = some m.cls := findClass_of_methodNamed Bd.named
  have hnm := (name_of_methodNamed Bd.named Bd.method).1
  have X0 : Stand p l e ({ frames := 0, cells := 0, slots := 0, locals := 0 } : Room) s m #[(.int (Int32.ofNat n1)), (.int (Int32.ofNat n2)), (.int (Int32.ofNat n3)), (.ref fa)] below meth c s₁ [] 0 0 := Stand.of_body Bd
  have e0 : s₁.heap = h0 := by rw [← hh, Bd.state]; rfl
  have N0 := Fr.nil n0
  have Zn := Z0
  have pre0 : ∀ t, Steps p.tables e below (s₁.setTop (mkF m 0 #[.val (.int (Int32.ofNat n1)), .val (.int (Int32.ofNat n2)), .val (.int (Int32.ofNat n3)), .val (.ref fa)] [])) t → Steps p.tables e below (s₁.setTop (entryFrame m #[(.int (Int32.ofNat n1)), (.int (Int32.ofNat n2)), (.int (Int32.ofNat n3)), (.ref fa)] 4)) t := fun t q => castTop (ef_FT1 m (Int32.ofNat n1) (Int32.ofNat n2) (Int32.ofNat n3) fa) q
  have k0 : ∀ t, Steps p.tables e below (s₁.setTop (mkF m 0 #[.val (.int (Int32.ofNat n1)), .val (.int (Int32.ofNat n2)), .val (.int (Int32.ofNat n3)), .val (.ref fa)] [])) t → Steps p.tables e below (s₁.setTop (mkF m 0 #[.val (.int (Int32.ofNat n1)), .val (.int (Int32.ofNat n2)), .val (.int (Int32.ofNat n3)), .val (.ref fa)] [])) t := fun t q => q
  let G_ : State → Prop := fun t => Steps p.tables e below (s₁.setTop (mkF m 0 #[.val (.int (Int32.ofNat n1)), .val (.int (Int32.ofNat n2)), .val (.int (Int32.ofNat n3)), .val (.ref fa)] [])) t
  have k1_ : ∀ t, Steps p.tables e below (s₁.setTop (mkF m 1 #[oi n1, oi n2, oi n3, oa fa] [(.int (Int32.ofNat n1))])) t → G_ t := by
    intro t q
    refine k0 _ ?_
    show Steps p.tables e below (s₁.setTop (mkF m 0 #[oi n1, oi n2, oi n3, oa fa] [])) _
    refine XS.iloadN X0.here hx rfl (hb hby d_jdk_41_method_12_0) rfl ?_
    show Steps p.tables e below (s₁.setTop (mkF m 1 #[oi n1, oi n2, oi n3, oa fa] [(.int (Int32.ofNat n1))])) _
    exact q
  have k2_ : ∀ t, Steps p.tables e below (s₁.setTop (mkF m 4 #[oi n1, oi n2, oi n3, oa fa] [])) t → G_ t := by
    intro t q
    refine k1_ _ ?_
    show Steps p.tables e below (s₁.setTop (mkF m 1 #[oi n1, oi n2, oi n3, oa fa] [(.int (Int32.ofNat n1))])) _
    refine XS.ifNo X0.here hx rfl (hb hby d_jdk_41_method_12_1) rfl ((if0 _ _).trans (flt (own_nn (by omega))).1) ?_
    show Steps p.tables e below (s₁.setTop (mkF m 4 #[oi n1, oi n2, oi n3, oa fa] [])) _
    exact q
  have k3_ : ∀ t, Steps p.tables e below (s₁.setTop (mkF m 6 #[oi n1, oi n2, oi n3, oa fa] [(.int (Int32.ofNat n2)), (.int (Int32.ofNat n1))])) t → G_ t := by
    intro t q
    refine k2_ _ ?_
    show Steps p.tables e below (s₁.setTop (mkF m 4 #[oi n1, oi n2, oi n3, oa fa] [])) _
    refine XS.iloadN X0.here hx rfl (hb hby d_jdk_41_method_12_4) rfl ?_
    refine XS.iloadN X0.here hx rfl (hb hby d_jdk_41_method_12_5) rfl ?_
    show Steps p.tables e below (s₁.setTop (mkF m 6 #[oi n1, oi n2, oi n3, oa fa] [(.int (Int32.ofNat n2)), (.int (Int32.ofNat n1))])) _
    exact q
  have k4_ : ∀ t, Steps p.tables e below (s₁.setTop (mkF m 9 #[oi n1, oi n2, oi n3, oa fa] [])) t → G_ t := by
    intro t q
    refine k3_ _ ?_
    show Steps p.tables e below (s₁.setTop (mkF m 6 #[oi n1, oi n2, oi n3, oa fa] [(.int (Int32.ofNat n2)), (.int (Int32.ofNat n1))])) _
    refine XS.icmpNo X0.here hx rfl (hb hby d_jdk_41_method_12_6) rfl (flt (fun z => absurd ((own_cmp (by omega) (by omega)).mp z) (by omega))).2.2.1 ?_
    show Steps p.tables e below (s₁.setTop (mkF m 9 #[oi n1, oi n2, oi n3, oa fa] [])) _
    exact q
  have k5_ : ∀ t, Steps p.tables e below (s₁.setTop (mkF m 11 #[oi n1, oi n2, oi n3, oa fa] [(.int (Int32.ofNat n3)), (.int (Int32.ofNat n2))])) t → G_ t := by
    intro t q
    refine k4_ _ ?_
    show Steps p.tables e below (s₁.setTop (mkF m 9 #[oi n1, oi n2, oi n3, oa fa] [])) _
    refine XS.iloadN X0.here hx rfl (hb hby d_jdk_41_method_12_9) rfl ?_
    refine XS.iloadN X0.here hx rfl (hb hby d_jdk_41_method_12_10) rfl ?_
    show Steps p.tables e below (s₁.setTop (mkF m 11 #[oi n1, oi n2, oi n3, oa fa] [(.int (Int32.ofNat n3)), (.int (Int32.ofNat n2))])) _
    exact q
  have k6_ : ∀ t, Steps p.tables e below (s₁.setTop (mkF m 22 #[oi n1, oi n2, oi n3, oa fa] [])) t → G_ t := by
    intro t q
    refine k5_ _ ?_
    show Steps p.tables e below (s₁.setTop (mkF m 11 #[oi n1, oi n2, oi n3, oa fa] [(.int (Int32.ofNat n3)), (.int (Int32.ofNat n2))])) _
    refine XS.icmpYes X0.here hx rfl (pc0 := 11) (pc' := 22) rfl (hb hby d_jdk_41_method_12_11) rfl (flt (fun z => absurd ((own_cmp (by omega) (by omega)).mp z) (by omega))).2.2.2 (by decide) (by decide) ?_
    show Steps p.tables e below (s₁.setTop (mkF m 22 #[oi n1, oi n2, oi n3, oa fa] [])) _
    exact q
  have k7_ : ∀ t, Steps p.tables e below (s₁.setTop (mkF m 23 #[oi n1, oi n2, oi n3, oa fa] [(.int (Int32.ofNat n1))])) t → G_ t := by
    intro t q
    refine k6_ _ ?_
    show Steps p.tables e below (s₁.setTop (mkF m 22 #[oi n1, oi n2, oi n3, oa fa] [])) _
    refine XS.iloadN X0.here hx rfl (hb hby d_jdk_41_method_12_22) rfl ?_
    show Steps p.tables e below (s₁.setTop (mkF m 23 #[oi n1, oi n2, oi n3, oa fa] [(.int (Int32.ofNat n1))])) _
    exact q
  obtain ⟨fs, hr, hrun, hended, hW, hsame⟩ := X0.leave (v := some (.int (Int32.ofNat n1))) (fun h => by rw [Bd.returns] at h; cases h)
  refine ⟨_, _, pre0 _ (k7_ _ ?_), hrun, hended, _, _, rfl, ?_, ⟨_, rfl⟩, hW, hsame.mono (by decide) (by decide)⟩
  · show Steps p.tables e below (s₁.setTop (mkF m 23 #[oi n1, oi n2, oi n3, oa fa] [(.int (Int32.ofNat n1))])) _
    exact retI X0 hx Bd.returns (hb hby d_jdk_41_method_12_23) hr
  · show QFT1 Z n1 n2 n3 fa h0 n0 _ s₁.heap _
    rw [e0]
    exact ⟨rfl, N0, rfl⟩
def QFS1 (Z : State) (n1 : Nat) (n2 : Nat) (n3 : Nat) (fa : Addr) (h0 : Heap) (n0 : Nat) (v : Option Value) (h : Heap) (L : List Loc) : Prop := v = some (.int (Int32.ofNat n1)) ∧ Fr n0 L ∧ h = h0
theorem ef_FS1 (m : MethodId) (x0 : Int32) (x1 : Int32) (x2 : Int32) (x3 : Addr) : entryFrame m #[(.int x0), (.int x1), (.int x2), (.ref x3)] 4 = mkF m 0 #[.val (.int x0), .val (.int x1), .val (.int x2), .val (.ref x3)] [] := by first | (simp [entryFrame, mkF, argsToLocals, Value.category]; done) | rfl
set_option maxRecDepth 65536 in
set_option maxHeartbeats 40000000 in
theorem rmFS1 (l : Launch) (Z : State) (a0 : Array Value) (hw : ∀ d ∈ tables_1, d.before a0 Z = true) (ws : List Jvm.Cond) (n1 : Nat) (n2 : Nat) (n3 : Nat) (fa : Addr) (h0 : Heap) (n0 : Nat) (Z0 : n0 ≤ h0.size) (h12 : n1 + n2 ≤ n3) (h3 : n3 < 100) :
    MetFree l (⟨"jdk/internal/util/Preconditions", "checkFromIndexSize", "(IIILjava/util/function/BiFunction;)I"⟩ : MethodName) (head1 (Jvm.Cond.code (⟨"jdk/internal/util/Preconditions", "checkFromIndexSize", "(IIILjava/util/function/BiFunction;)I"⟩ : MethodName) jdk_41_method_13_code 4 (some .int) :: ws) ({ frames := 0, cells := 0, slots := 0, locals := 0 } : Room)) (fun a_ U_ => a_ = #[(.int (Int32.ofNat n1)), (.int (Int32.ofNat n2)), (.int (Int32.ofNat n3)), (.ref fa)] ∧ Z.Warmed39 U_.vm ∧ U_.heap = h0) (fun _ _ _ _ _ => True) (fun _ U_ o_ E_ => ∃ v_ L_, o_ = .returned v_ ∧ QFS1 Z n1 n2 n3 fa h0 n0 v_ E_.heap L_ ∧ FrameEnd U_ o_ E_ L_ ({ frames := 0, cells := 0, slots := 0, locals := 0 } : Room).cells ({ frames := 0, cells := 0, slots := 0, locals := 0 } : Room).slots) := by
  refine MetFree.of_bodySF (plainFor_of_name pn_Preconditions) hisR ?_
  intro p e s m args below meth c s₁ Bd hml0 hP hK
  obtain ⟨rfl, hZ, hh⟩ := hP
  have hx := Bd.exec
  have hby := Bd.bytes
  have hml : c.maxLocals = 4 := hml0
  have hown : s.vm.findClass "jdk/internal/util/Preconditions" = some m.cls := findClass_of_methodNamed Bd.named
  have hnm := (name_of_methodNamed Bd.named Bd.method).1
  have X0 : Stand p l e ({ frames := 0, cells := 0, slots := 0, locals := 0 } : Room) s m #[(.int (Int32.ofNat n1)), (.int (Int32.ofNat n2)), (.int (Int32.ofNat n3)), (.ref fa)] below meth c s₁ [] 0 0 := Stand.of_body Bd
  have e0 : s₁.heap = h0 := by rw [← hh, Bd.state]; rfl
  have N0 := Fr.nil n0
  have Zn := Z0
  have pre0 : ∀ t, Steps p.tables e below (s₁.setTop (mkF m 0 #[.val (.int (Int32.ofNat n1)), .val (.int (Int32.ofNat n2)), .val (.int (Int32.ofNat n3)), .val (.ref fa)] [])) t → Steps p.tables e below (s₁.setTop (entryFrame m #[(.int (Int32.ofNat n1)), (.int (Int32.ofNat n2)), (.int (Int32.ofNat n3)), (.ref fa)] 4)) t := fun t q => castTop (ef_FS1 m (Int32.ofNat n1) (Int32.ofNat n2) (Int32.ofNat n3) fa) q
  have k0 : ∀ t, Steps p.tables e below (s₁.setTop (mkF m 0 #[.val (.int (Int32.ofNat n1)), .val (.int (Int32.ofNat n2)), .val (.int (Int32.ofNat n3)), .val (.ref fa)] [])) t → Steps p.tables e below (s₁.setTop (mkF m 0 #[.val (.int (Int32.ofNat n1)), .val (.int (Int32.ofNat n2)), .val (.int (Int32.ofNat n3)), .val (.ref fa)] [])) t := fun t q => q
  let G_ : State → Prop := fun t => Steps p.tables e below (s₁.setTop (mkF m 0 #[.val (.int (Int32.ofNat n1)), .val (.int (Int32.ofNat n2)), .val (.int (Int32.ofNat n3)), .val (.ref fa)] [])) t
  have k1_ : ∀ t, Steps p.tables e below (s₁.setTop (mkF m 5 #[oi n1, oi n2, oi n3, oa fa] [(.int (((Int32.ofNat n3) ||| (Int32.ofNat n1)) ||| (Int32.ofNat n2)))])) t → G_ t := by
    intro t q
    refine k0 _ ?_
    show Steps p.tables e below (s₁.setTop (mkF m 0 #[oi n1, oi n2, oi n3, oa fa] [])) _
    refine XS.iloadN X0.here hx rfl (hb hby d_jdk_41_method_13_0) rfl ?_
    refine XS.iloadN X0.here hx rfl (hb hby d_jdk_41_method_13_1) rfl ?_
    refine XS.ior X0.here hx rfl (hb hby d_jdk_41_method_13_2) rfl ?_
    refine XS.iloadN X0.here hx rfl (hb hby d_jdk_41_method_13_3) rfl ?_
    show Steps p.tables e below (s₁.setTop (mkF m 4 #[oi n1, oi n2, oi n3, oa fa] [(.int (Int32.ofNat n2)), (.int ((Int32.ofNat n3) ||| (Int32.ofNat n1)))])) _
    refine XS.ior X0.here hx rfl (hb hby d_jdk_41_method_13_4) rfl ?_
    show Steps p.tables e below (s₁.setTop (mkF m 5 #[oi n1, oi n2, oi n3, oa fa] [(.int (((Int32.ofNat n3) ||| (Int32.ofNat n1)) ||| (Int32.ofNat n2)))])) _
    exact q
  have k2_ : ∀ t, Steps p.tables e below (s₁.setTop (mkF m 8 #[oi n1, oi n2, oi n3, oa fa] [])) t → G_ t := by
    intro t q
    refine k1_ _ ?_
    show Steps p.tables e below (s₁.setTop (mkF m 5 #[oi n1, oi n2, oi n3, oa fa] [(.int (((Int32.ofNat n3) ||| (Int32.ofNat n1)) ||| (Int32.ofNat n2)))])) _
    refine XS.ifNo X0.here hx rfl (hb hby d_jdk_41_method_13_5) rfl ((if0 _ _).trans (flt (own_or3 (by omega) (by omega) (by omega))).1) ?_
    show Steps p.tables e below (s₁.setTop (mkF m 8 #[oi n1, oi n2, oi n3, oa fa] [])) _
    exact q
  have k3_ : ∀ t, Steps p.tables e below (s₁.setTop (mkF m 12 #[oi n1, oi n2, oi n3, oa fa] [(.int ((Int32.ofNat n3) - (Int32.ofNat n1))), (.int (Int32.ofNat n2))])) t → G_ t := by
    intro t q
    refine k2_ _ ?_
    show Steps p.tables e below (s₁.setTop (mkF m 8 #[oi n1, oi n2, oi n3, oa fa] [])) _
    refine XS.iloadN X0.here hx rfl (hb hby d_jdk_41_method_13_8) rfl ?_
    refine XS.iloadN X0.here hx rfl (hb hby d_jdk_41_method_13_9) rfl ?_
    refine XS.iloadN X0.here hx rfl (hb hby d_jdk_41_method_13_10) rfl ?_
    refine XS.isub X0.here hx rfl (hb hby d_jdk_41_method_13_11) rfl ?_
    show Steps p.tables e below (s₁.setTop (mkF m 12 #[oi n1, oi n2, oi n3, oa fa] [(.int ((Int32.ofNat n3) - (Int32.ofNat n1))), (.int (Int32.ofNat n2))])) _
    exact q
  have k4_ : ∀ t, Steps p.tables e below (s₁.setTop (mkF m 12 #[oi n1, oi n2, oi n3, oa fa] [(.int (Int32.ofNat (n3 - n1))), (.int (Int32.ofNat n2))])) t → G_ t := fun t q => k3_ t (Eq.mp (congrArg (fun z => Steps p.tables e below (s₁.setTop (mkF m 12 #[oi n1, oi n2, oi n3, oa fa] [(.int z), (.int (Int32.ofNat n2))])) t) (show (Int32.ofNat (n3 - n1)) = ((Int32.ofNat n3) - (Int32.ofNat n1)) from (own_sbn (by omega) (by omega)))) q)
  have k5_ : ∀ t, Steps p.tables e below (s₁.setTop (mkF m 23 #[oi n1, oi n2, oi n3, oa fa] [])) t → G_ t := by
    intro t q
    refine k4_ _ ?_
    show Steps p.tables e below (s₁.setTop (mkF m 12 #[oi n1, oi n2, oi n3, oa fa] [(.int (Int32.ofNat (n3 - n1))), (.int (Int32.ofNat n2))])) _
    refine XS.icmpYes X0.here hx rfl (pc0 := 12) (pc' := 23) rfl (hb hby d_jdk_41_method_13_12) rfl (flt (fun z => absurd ((own_cmp (by omega) (by omega)).mp z) (by omega))).2.2.2 (by decide) (by decide) ?_
    show Steps p.tables e below (s₁.setTop (mkF m 23 #[oi n1, oi n2, oi n3, oa fa] [])) _
    exact q
  have k6_ : ∀ t, Steps p.tables e below (s₁.setTop (mkF m 24 #[oi n1, oi n2, oi n3, oa fa] [(.int (Int32.ofNat n1))])) t → G_ t := by
    intro t q
    refine k5_ _ ?_
    show Steps p.tables e below (s₁.setTop (mkF m 23 #[oi n1, oi n2, oi n3, oa fa] [])) _
    refine XS.iloadN X0.here hx rfl (hb hby d_jdk_41_method_13_23) rfl ?_
    show Steps p.tables e below (s₁.setTop (mkF m 24 #[oi n1, oi n2, oi n3, oa fa] [(.int (Int32.ofNat n1))])) _
    exact q
  obtain ⟨fs, hr, hrun, hended, hW, hsame⟩ := X0.leave (v := some (.int (Int32.ofNat n1))) (fun h => by rw [Bd.returns] at h; cases h)
  refine ⟨_, _, pre0 _ (k6_ _ ?_), hrun, hended, _, _, rfl, ?_, ⟨_, rfl⟩, hW, hsame.mono (by decide) (by decide)⟩
  · show Steps p.tables e below (s₁.setTop (mkF m 24 #[oi n1, oi n2, oi n3, oa fa] [(.int (Int32.ofNat n1))])) _
    exact retI X0 hx Bd.returns (hb hby d_jdk_41_method_13_24) hr
  · show QFS1 Z n1 n2 n3 fa h0 n0 _ s₁.heap _
    rw [e0]
    exact ⟨rfl, N0, rfl⟩
def QBB (Z : State) (n1 : Nat) (n2 : Nat) (n3 : Nat) (fv : Value) (h0 : Heap) (n0 : Nat) (v : Option Value) (h : Heap) (L : List Loc) : Prop := v = none ∧ Fr n0 L ∧ h = h0
theorem ef_BB (m : MethodId) (x0 : Int32) (x1 : Int32) (x2 : Int32) : entryFrame m #[(.int x0), (.int x1), (.int x2)] 3 = mkF m 0 #[.val (.int x0), .val (.int x1), .val (.int x2)] [] := by first | (simp [entryFrame, mkF, argsToLocals, Value.category]; done) | rfl
theorem pn_String : plainName "java/lang/String" = true := by first | (simp [plainName, overriddenIn]; done) | decide +kernel
theorem d_jdk_42_method_158_0 : decode jdk_42_method_158_code 0 = .ok (.iload_n 0, 1) := by decide +kernel
theorem d_jdk_42_method_158_1 : decode jdk_42_method_158_code 1 = .ok (.iload_n 1, 1) := by decide +kernel
theorem d_jdk_42_method_158_2 : decode jdk_42_method_158_code 2 = .ok (.iload_n 2, 1) := by decide +kernel
theorem d_jdk_42_method_158_3 : decode jdk_42_method_158_code 3 = .ok (.getstatic 1053, 3) := by decide +kernel
theorem pd_5466 : parseMethodDescriptor "(IIILjava/util/function/BiFunction;)I" = some ⟨[.int, .int, .int, (.object "java/util/function/BiFunction")], some .int⟩ := by decide +kernel
theorem d_jdk_42_method_158_6 : decode jdk_42_method_158_code 6 = .ok (.invokestatic 1062, 3) := by decide +kernel
theorem d_jdk_42_method_158_9 : decode jdk_42_method_158_code 9 = .ok (.pop, 1) := by decide +kernel
theorem d_jdk_42_method_158_10 : decode jdk_42_method_158_code 10 = .ok (.return_, 1) := by decide +kernel
set_option maxRecDepth 65536 in
set_option maxHeartbeats 40000000 in
theorem rmBB (l : Launch) (Z : State) (a0 : Array Value) (hw : ∀ d ∈ tables_1, d.before a0 Z = true) (ws : List Jvm.Cond) (n1 : Nat) (n2 : Nat) (n3 : Nat) (fv : Value) (h0 : Heap) (n0 : Nat) (Z0 : n0 ≤ h0.size) (h12 : n1 ≤ n2) (h23 : n2 ≤ n3) (h3 : n3 < 100) (O4 : Sta Z Z.heap "jdk/internal/util/Preconditions" "SIOOBE_FORMATTER" "Ljava/util/function/BiFunction;" fv) (rfv : fv.isRef = true) (X00 : Old Z n0 h0) :
    MetFree l (⟨"java/lang/String", "checkBoundsBeginEnd", "(III)V"⟩ : MethodName) (head1 (Jvm.Cond.code (⟨"java/lang/String", "checkBoundsBeginEnd", "(III)V"⟩ : MethodName) jdk_42_method_158_code 3 none :: ws) ({ frames := 1, cells := 0, slots := 0, locals := 15 } : Room)) (fun a_ U_ => a_ = #[(.int (Int32.ofNat n1)), (.int (Int32.ofNat n2)), (.int (Int32.ofNat n3))] ∧ Z.Warmed39 U_.vm ∧ U_.heap = h0) (fun _ _ _ _ _ => True) (fun _ U_ o_ E_ => ∃ v_ L_, o_ = .returned v_ ∧ QBB Z n1 n2 n3 fv h0 n0 v_ E_.heap L_ ∧ FrameEnd U_ o_ E_ L_ ({ frames := 1, cells := 0, slots := 0, locals := 15 } : Room).cells ({ frames := 1, cells := 0, slots := 0, locals := 15 } : Room).slots) := by
  refine MetFree.of_bodySF (plainFor_of_name pn_String) hisR ?_
  intro p e s m args below meth c s₁ Bd hml0 hP hK
  obtain ⟨rfl, hZ, hh⟩ := hP
  have hx := Bd.exec
  have hby := Bd.bytes
  have hml : c.maxLocals = 3 := hml0
  have hown : s.vm.findClass "java/lang/String" = some m.cls := findClass_of_methodNamed Bd.named
  have hnm := (name_of_methodNamed Bd.named Bd.method).1
  have X0 : Stand p l e ({ frames := 1, cells := 0, slots := 0, locals := 15 } : Room) s m #[(.int (Int32.ofNat n1)), (.int (Int32.ofNat n2)), (.int (Int32.ofNat n3))] below meth c s₁ [] 0 0 := Stand.of_body Bd
  have e0 : s₁.heap = h0 := by rw [← hh, Bd.state]; rfl
  have N0 := Fr.nil n0
  have Zn := Z0
  have pre0 : ∀ t, Steps p.tables e below (s₁.setTop (mkF m 0 #[.val (.int (Int32.ofNat n1)), .val (.int (Int32.ofNat n2)), .val (.int (Int32.ofNat n3))] [])) t → Steps p.tables e below (s₁.setTop (entryFrame m #[(.int (Int32.ofNat n1)), (.int (Int32.ofNat n2)), (.int (Int32.ofNat n3))] 3)) t := fun t q => castTop (ef_BB m (Int32.ofNat n1) (Int32.ofNat n2) (Int32.ofNat n3)) q
  have k0 : ∀ t, Steps p.tables e below (s₁.setTop (mkF m 0 #[.val (.int (Int32.ofNat n1)), .val (.int (Int32.ofNat n2)), .val (.int (Int32.ofNat n3))] [])) t → Steps p.tables e below (s₁.setTop (mkF m 0 #[.val (.int (Int32.ofNat n1)), .val (.int (Int32.ofNat n2)), .val (.int (Int32.ofNat n3))] [])) t := fun t q => q
  let G_ : State → Prop := fun t => Steps p.tables e below (s₁.setTop (mkF m 0 #[.val (.int (Int32.ofNat n1)), .val (.int (Int32.ofNat n2)), .val (.int (Int32.ofNat n3))] [])) t
  have k1_ : ∀ t, Steps p.tables e below (s₁.setTop (mkF m 3 #[oi n1, oi n2, oi n3] [(.int (Int32.ofNat n3)), (.int (Int32.ofNat n2)), (.int (Int32.ofNat n1))])) t → G_ t := by
    intro t q
    refine k0 _ ?_
    show Steps p.tables e below (s₁.setTop (mkF m 0 #[oi n1, oi n2, oi n3] [])) _
    refine XS.iloadN X0.here hx rfl (hb hby d_jdk_42_method_158_0) rfl ?_
    refine XS.iloadN X0.here hx rfl (hb hby d_jdk_42_method_158_1) rfl ?_
    refine XS.iloadN X0.here hx rfl (hb hby d_jdk_42_method_158_2) rfl ?_
    show Steps p.tables e below (s₁.setTop (mkF m 3 #[oi n1, oi n2, oi n3] [(.int (Int32.ofNat n3)), (.int (Int32.ofNat n2)), (.int (Int32.ofNat n1))])) _
    exact q
  rcases own_isref rfv with hfv | ⟨fa, hfv⟩
  · obtain ⟨T2, X2, e2, st2⟩ := getS2 X0 hx hZ hown (host := "") (Or.inl (hw _ (List.mem_of_getElem? (i := 99) rfl))) Via.refl e0 (by have q := O4.ext X00.2; rw [hfv] at q; exact q) (g := (mkF m 3 #[oi n1, oi n2, oi n3] [(.int (Int32.ofNat n3)), (.int (Int32.ofNat n2)), (.int (Int32.ofNat n1))])) rfl (hb hby d_jdk_42_method_158_3)
    have k3_ : ∀ t, Steps p.tables e below (T2.setTop (mkF m 6 #[oi n1, oi n2, oi n3] [.null, (.int (Int32.ofNat n3)), (.int (Int32.ofNat n2)), (.int (Int32.ofNat n1))])) t → G_ t := fun t q => k1_ t (st2 t q)
    obtain ⟨_, _, ⟨T4, L4, kk4, n4⟩, -, X4, ⟨Lc4, hQ4, l4, y4, z4⟩, st4⟩ := Jvm.LawKit.callS X2 hx (y := (⟨"jdk/internal/util/Preconditions", "checkFromToIndex", "(IIILjava/util/function/BiFunction;)I"⟩ : MethodName)) hown (mvT hZ (hw _ (List.mem_of_getElem? (i := 101) rfl))) (mvT hZ (hw _ (List.mem_of_getElem? (i := 102) rfl))) (mvT hZ (hw _ (List.mem_of_getElem? (i := 100) rfl))) (mvT hZ (hw _ (List.mem_of_getElem? (i := 103) rfl))) (by decide) (backOf (W := 0) (rmFT0 l Z a0 hw [] n1 n2 n3 h0 n0 Zn h12 h23 h3) hZ (hw _ (List.mem_of_getElem? (i := 103) rfl)) (hw _ (List.mem_of_getElem? (i := 100) rfl)) (by decide) (by decide)) (g := (mkF m 6 #[oi n1, oi n2, oi n3] [.null, (.int (Int32.ofNat n3)), (.int (Int32.ofNat n2)), (.int (Int32.ofNat n1))])) rfl (by rw [hml]; rfl) (argsL := [(.int (Int32.ofNat n1)), (.int (Int32.ofNat n2)), (.int (Int32.ofNat n3)), .null]) (rest := []) (lenOf pd_5466 rfl) rfl (by show 2 * 0 + _ ≤ _; exact Nat.le_of_eq rfl) (hb hby d_jdk_42_method_158_6) (fun _ _ => ⟨rfl, e2, (by decide : 0 + 0 ≤ _), (by decide : 0 + 0 ≤ _)⟩)
    dsimp only [Pt.U, Pt.locs, Pt.cells, Pt.slots] at X4 l4 y4 z4 st4 hQ4
    rw [l4, y4, z4] at X4
    obtain ⟨rfl, Nq4, hq4⟩ := hQ4
    have N4 := Fr.app N0 Nq4
    have k5_ : ∀ t, Steps p.tables e below (T4.setTop (mkF m 9 #[oi n1, oi n2, oi n3] [(.int (Int32.ofNat n1))])) t → G_ t := fun t q => k3_ t (st4 t q)
    have k6_ : ∀ t, Steps p.tables e below (T4.setTop (mkF m 10 #[oi n1, oi n2, oi n3] [])) t → G_ t := by
      intro t q
      refine k5_ _ ?_
      show Steps p.tables e below (T4.setTop (mkF m 9 #[oi n1, oi n2, oi n3] [(.int (Int32.ofNat n1))])) _
      refine XT.pop X4.here hx rfl (hb hby d_jdk_42_method_158_9) rfl rfl ?_
      show Steps p.tables e below (T4.setTop (mkF m 10 #[oi n1, oi n2, oi n3] [])) _
      exact q
    obtain ⟨fs, hr, hrun, hended, hW, hsame⟩ := X4.leave (v := none) (fun _ => rfl)
    refine ⟨_, _, pre0 _ (k6_ _ ?_), hrun, hended, _, _, rfl, ?_, ⟨_, rfl⟩, hW, hsame.mono (by decide) (by decide)⟩
    · show Steps p.tables e below (T4.setTop (mkF m 10 #[oi n1, oi n2, oi n3] [])) _
      exact X4.returnOut hx Bd.returns (hb hby d_jdk_42_method_158_10) hr
    · show QBB Z n1 n2 n3 fv h0 n0 _ T4.heap _
      rw [hq4]
      exact ⟨rfl, N4, rfl⟩
  · obtain ⟨T7, X7, e7, st7⟩ := getS2 X0 hx hZ hown (host := "") (Or.inl (hw _ (List.mem_of_getElem? (i := 99) rfl))) Via.refl e0 (by have q := O4.ext X00.2; rw [hfv] at q; exact q) (g := (mkF m 3 #[oi n1, oi n2, oi n3] [(.int (Int32.ofNat n3)), (.int (Int32.ofNat n2)), (.int (Int32.ofNat n1))])) rfl (hb hby d_jdk_42_method_158_3)
    have k8_ : ∀ t, Steps p.tables e below (T7.setTop (mkF m 6 #[oi n1, oi n2, oi n3] [(.ref fa), (.int (Int32.ofNat n3)), (.int (Int32.ofNat n2)), (.int (Int32.ofNat n1))])) t → G_ t := fun t q => k1_ t (st7 t q)
    obtain ⟨_, _, ⟨T9, L9, kk9, n9⟩, -, X9, ⟨Lc9, hQ9, l9, y9, z9⟩, st9⟩ := Jvm.LawKit.callS X7 hx (y := (⟨"jdk/internal/util/Preconditions", "checkFromToIndex", "(IIILjava/util/function/BiFunction;)I"⟩ : MethodName)) hown (mvT hZ (hw _ (List.mem_of_getElem? (i := 101) rfl))) (mvT hZ (hw _ (List.mem_of_getElem? (i := 102) rfl))) (mvT hZ (hw _ (List.mem_of_getElem? (i := 100) rfl))) (mvT hZ (hw _ (List.mem_of_getElem? (i := 103) rfl))) (by decide) (backOf (W := 0) (rmFT1 l Z a0 hw [] n1 n2 n3 fa h0 n0 Zn h12 h23 h3) hZ (hw _ (List.mem_of_getElem? (i := 103) rfl)) (hw _ (List.mem_of_getElem? (i := 100) rfl)) (by decide) (by decide)) (g := (mkF m 6 #[oi n1, oi n2, oi n3] [(.ref fa), (.int (Int32.ofNat n3)), (.int (Int32.ofNat n2)), (.int (Int32.ofNat n1))])) rfl (by rw [hml]; rfl) (argsL := [(.int (Int32.ofNat n1)), (.int (Int32.ofNat n2)), (.int (Int32.ofNat n3)), (.ref fa)]) (rest := []) (lenOf pd_5466 rfl) rfl (by show 2 * 0 + _ ≤ _; exact Nat.le_of_eq rfl) (hb hby d_jdk_42_method_158_6) (fun _ _ => ⟨rfl, e7, (by decide : 0 + 0 ≤ _), (by decide : 0 + 0 ≤ _)⟩)
    dsimp only [Pt.U, Pt.locs, Pt.cells, Pt.slots] at X9 l9 y9 z9 st9 hQ9
    rw [l9, y9, z9] at X9
    obtain ⟨rfl, Nq9, hq9⟩ := hQ9
    have N9 := Fr.app N0 Nq9
    have k10_ : ∀ t, Steps p.tables e below (T9.setTop (mkF m 9 #[oi n1, oi n2, oi n3] [(.int (Int32.ofNat n1))])) t → G_ t := fun t q => k8_ t (st9 t q)
    have k11_ : ∀ t, Steps p.tables e below (T9.setTop (mkF m 10 #[oi n1, oi n2, oi n3] [])) t → G_ t := by
      intro t q
      refine k10_ _ ?_
      show Steps p.tables e below (T9.setTop (mkF m 9 #[oi n1, oi n2, oi n3] [(.int (Int32.ofNat n1))])) _
      refine XT.pop X9.here hx rfl (hb hby d_jdk_42_method_158_9) rfl rfl ?_
      show Steps p.tables e below (T9.setTop (mkF m 10 #[oi n1, oi n2, oi n3] [])) _
      exact q
    obtain ⟨fs, hr, hrun, hended, hW, hsame⟩ := X9.leave (v := none) (fun _ => rfl)
    refine ⟨_, _, pre0 _ (k11_ _ ?_), hrun, hended, _, _, rfl, ?_, ⟨_, rfl⟩, hW, hsame.mono (by decide) (by decide)⟩
    · show Steps p.tables e below (T9.setTop (mkF m 10 #[oi n1, oi n2, oi n3] [])) _
      exact X9.returnOut hx Bd.returns (hb hby d_jdk_42_method_158_10) hr
    · show QBB Z n1 n2 n3 fv h0 n0 _ T9.heap _
      rw [hq9]
      exact ⟨rfl, N9, rfl⟩
def QBO (Z : State) (n1 : Nat) (n2 : Nat) (n3 : Nat) (fv : Value) (h0 : Heap) (n0 : Nat) (v : Option Value) (h : Heap) (L : List Loc) : Prop := v = some (.int (Int32.ofNat n1)) ∧ Fr n0 L ∧ h = h0
theorem ef_BO (m : MethodId) (x0 : Int32) (x1 : Int32) (x2 : Int32) : entryFrame m #[(.int x0), (.int x1), (.int x2)] 3 = mkF m 0 #[.val (.int x0), .val (.int x1), .val (.int x2)] [] := by first | (simp [entryFrame, mkF, argsToLocals, Value.category]; done) | rfl
theorem d_jdk_42_method_157_0 : decode jdk_42_method_157_code 0 = .ok (.iload_n 0, 1) := by decide +kernel
theorem d_jdk_42_method_157_1 : decode jdk_42_method_157_code 1 = .ok (.iload_n 1, 1) := by decide +kernel
theorem d_jdk_42_method_157_2 : decode jdk_42_method_157_code 2 = .ok (.iload_n 2, 1) := by decide +kernel
theorem d_jdk_42_method_157_3 : decode jdk_42_method_157_code 3 = .ok (.getstatic 1053, 3) := by decide +kernel
theorem d_jdk_42_method_157_6 : decode jdk_42_method_157_code 6 = .ok (.invokestatic 1065, 3) := by decide +kernel
theorem d_jdk_42_method_157_9 : decode jdk_42_method_157_code 9 = .ok (.ireturn, 1) := by decide +kernel
set_option maxRecDepth 65536 in
set_option maxHeartbeats 40000000 in
theorem rmBO (l : Launch) (Z : State) (a0 : Array Value) (hw : ∀ d ∈ tables_1, d.before a0 Z = true) (ws : List Jvm.Cond) (n1 : Nat) (n2 : Nat) (n3 : Nat) (fv : Value) (h0 : Heap) (n0 : Nat) (Z0 : n0 ≤ h0.size) (h12 : n1 + n2 ≤ n3) (h3 : n3 < 100) (O4 : Sta Z Z.heap "jdk/internal/util/Preconditions" "SIOOBE_FORMATTER" "Ljava/util/function/BiFunction;" fv) (rfv : fv.isRef = true) (X00 : Old Z n0 h0) :
    MetFree l (⟨"java/lang/String", "checkBoundsOffCount", "(III)I"⟩ : MethodName) (head1 (Jvm.Cond.code (⟨"java/lang/String", "checkBoundsOffCount", "(III)I"⟩ : MethodName) jdk_42_method_157_code 3 (some .int) :: ws) ({ frames := 1, cells := 0, slots := 0, locals := 15 } : Room)) (fun a_ U_ => a_ = #[(.int (Int32.ofNat n1)), (.int (Int32.ofNat n2)), (.int (Int32.ofNat n3))] ∧ Z.Warmed39 U_.vm ∧ U_.heap = h0) (fun _ _ _ _ _ => True) (fun _ U_ o_ E_ => ∃ v_ L_, o_ = .returned v_ ∧ QBO Z n1 n2 n3 fv h0 n0 v_ E_.heap L_ ∧ FrameEnd U_ o_ E_ L_ ({ frames := 1, cells := 0, slots := 0, locals := 15 } : Room).cells ({ frames := 1, cells := 0, slots := 0, locals := 15 } : Room).slots) := by
  refine MetFree.of_bodySF (plainFor_of_name pn_String) hisR ?_
  intro p e s m args below meth c s₁ Bd hml0 hP hK
  obtain ⟨rfl, hZ, hh⟩ := hP
  have hx := Bd.exec
  have hby := Bd.bytes
  have hml : c.maxLocals = 3 := hml0
  have hown : s.vm.findClass "java/lang/String" = some m.cls := findClass_of_methodNamed Bd.named
  have hnm := (name_of_methodNamed Bd.named Bd.method).1
  have X0 : Stand p l e ({ frames := 1, cells := 0, slots := 0, locals := 15 } : Room) s m #[(.int (Int32.ofNat n1)), (.int (Int32.ofNat n2)), (.int (Int32.ofNat n3))] below meth c s₁ [] 0 0 := Stand.of_body Bd
  have e0 : s₁.heap = h0 := by rw [← hh, Bd.state]; rfl
  have N0 := Fr.nil n0
  have Zn := Z0
  have pre0 : ∀ t, Steps p.tables e below (s₁.setTop (mkF m 0 #[.val (.int (Int32.ofNat n1)), .val (.int (Int32.ofNat n2)), .val (.int (Int32.ofNat n3))] [])) t → Steps p.tables e below (s₁.setTop (entryFrame m #[(.int (Int32.ofNat n1)), (.int (Int32.ofNat n2)), (.int (Int32.ofNat n3))] 3)) t := fun t q => castTop (ef_BO m (Int32.ofNat n1) (Int32.ofNat n2) (Int32.ofNat n3)) q
  have k0 : ∀ t, Steps p.tables e below (s₁.setTop (mkF m 0 #[.val (.int (Int32.ofNat n1)), .val (.int (Int32.ofNat n2)), .val (.int (Int32.ofNat n3))] [])) t → Steps p.tables e below (s₁.setTop (mkF m 0 #[.val (.int (Int32.ofNat n1)), .val (.int (Int32.ofNat n2)), .val (.int (Int32.ofNat n3))] [])) t := fun t q => q
  let G_ : State → Prop := fun t => Steps p.tables e below (s₁.setTop (mkF m 0 #[.val (.int (Int32.ofNat n1)), .val (.int (Int32.ofNat n2)), .val (.int (Int32.ofNat n3))] [])) t
  have k1_ : ∀ t, Steps p.tables e below (s₁.setTop (mkF m 3 #[oi n1, oi n2, oi n3] [(.int (Int32.ofNat n3)), (.int (Int32.ofNat n2)), (.int (Int32.ofNat n1))])) t → G_ t := by
    intro t q
    refine k0 _ ?_
    show Steps p.tables e below (s₁.setTop (mkF m 0 #[oi n1, oi n2, oi n3] [])) _
    refine XS.iloadN X0.here hx rfl (hb hby d_jdk_42_method_157_0) rfl ?_
    refine XS.iloadN X0.here hx rfl (hb hby d_jdk_42_method_157_1) rfl ?_
    refine XS.iloadN X0.here hx rfl (hb hby d_jdk_42_method_157_2) rfl ?_
    show Steps p.tables e below (s₁.setTop (mkF m 3 #[oi n1, oi n2, oi n3] [(.int (Int32.ofNat n3)), (.int (Int32.ofNat n2)), (.int (Int32.ofNat n1))])) _
    exact q
  rcases own_isref rfv with hfv | ⟨fa, hfv⟩
  · obtain ⟨T2, X2, e2, st2⟩ := getS2 X0 hx hZ hown (host := "") (Or.inl (hw _ (List.mem_of_getElem? (i := 99) rfl))) Via.refl e0 (by have q := O4.ext X00.2; rw [hfv] at q; exact q) (g := (mkF m 3 #[oi n1, oi n2, oi n3] [(.int (Int32.ofNat n3)), (.int (Int32.ofNat n2)), (.int (Int32.ofNat n1))])) rfl (hb hby d_jdk_42_method_157_3)
    have k3_ : ∀ t, Steps p.tables e below (T2.setTop (mkF m 6 #[oi n1, oi n2, oi n3] [.null, (.int (Int32.ofNat n3)), (.int (Int32.ofNat n2)), (.int (Int32.ofNat n1))])) t → G_ t := fun t q => k1_ t (st2 t q)
    obtain ⟨_, _, ⟨T4, L4, kk4, n4⟩, -, X4, ⟨Lc4, hQ4, l4, y4, z4⟩, st4⟩ := Jvm.LawKit.callS X2 hx (y := (⟨"jdk/internal/util/Preconditions", "checkFromIndexSize", "(IIILjava/util/function/BiFunction;)I"⟩ : MethodName)) hown (mvT hZ (hw _ (List.mem_of_getElem? (i := 107) rfl))) (mvT hZ (hw _ (List.mem_of_getElem? (i := 108) rfl))) (mvT hZ (hw _ (List.mem_of_getElem? (i := 100) rfl))) (mvT hZ (hw _ (List.mem_of_getElem? (i := 109) rfl))) (by decide) (backOf (W := 0) (rmFS0 l Z a0 hw [] n1 n2 n3 h0 n0 Zn h12 h3) hZ (hw _ (List.mem_of_getElem? (i := 109) rfl)) (hw _ (List.mem_of_getElem? (i := 100) rfl)) (by decide) (by decide)) (g := (mkF m 6 #[oi n1, oi n2, oi n3] [.null, (.int (Int32.ofNat n3)), (.int (Int32.ofNat n2)), (.int (Int32.ofNat n1))])) rfl (by rw [hml]; rfl) (argsL := [(.int (Int32.ofNat n1)), (.int (Int32.ofNat n2)), (.int (Int32.ofNat n3)), .null]) (rest := []) (lenOf pd_5466 rfl) rfl (by show 2 * 0 + _ ≤ _; exact Nat.le_of_eq rfl) (hb hby d_jdk_42_method_157_6) (fun _ _ => ⟨rfl, e2, (by decide : 0 + 0 ≤ _), (by decide : 0 + 0 ≤ _)⟩)
    dsimp only [Pt.U, Pt.locs, Pt.cells, Pt.slots] at X4 l4 y4 z4 st4 hQ4
    rw [l4, y4, z4] at X4
    obtain ⟨rfl, Nq4, hq4⟩ := hQ4
    have N4 := Fr.app N0 Nq4
    have k5_ : ∀ t, Steps p.tables e below (T4.setTop (mkF m 9 #[oi n1, oi n2, oi n3] [(.int (Int32.ofNat n1))])) t → G_ t := fun t q => k3_ t (st4 t q)
    obtain ⟨fs, hr, hrun, hended, hW, hsame⟩ := X4.leave (v := some (.int (Int32.ofNat n1))) (fun h => by rw [Bd.returns] at h; cases h)
    refine ⟨_, _, pre0 _ (k5_ _ ?_), hrun, hended, _, _, rfl, ?_, ⟨_, rfl⟩, hW, hsame.mono (by decide) (by decide)⟩
    · show Steps p.tables e below (T4.setTop (mkF m 9 #[oi n1, oi n2, oi n3] [(.int (Int32.ofNat n1))])) _
      exact retI X4 hx Bd.returns (hb hby d_jdk_42_method_157_9) hr
    · show QBO Z n1 n2 n3 fv h0 n0 _ T4.heap _
      rw [hq4]
      exact ⟨rfl, N4, rfl⟩
  · obtain ⟨T6, X6, e6, st6⟩ := getS2 X0 hx hZ hown (host := "") (Or.inl (hw _ (List.mem_of_getElem? (i := 99) rfl))) Via.refl e0 (by have q := O4.ext X00.2; rw [hfv] at q; exact q) (g := (mkF m 3 #[oi n1, oi n2, oi n3] [(.int (Int32.ofNat n3)), (.int (Int32.ofNat n2)), (.int (Int32.ofNat n1))])) rfl (hb hby d_jdk_42_method_157_3)
    have k7_ : ∀ t, Steps p.tables e below (T6.setTop (mkF m 6 #[oi n1, oi n2, oi n3] [(.ref fa), (.int (Int32.ofNat n3)), (.int (Int32.ofNat n2)), (.int (Int32.ofNat n1))])) t → G_ t := fun t q => k1_ t (st6 t q)
    obtain ⟨_, _, ⟨T8, L8, kk8, n8⟩, -, X8, ⟨Lc8, hQ8, l8, y8, z8⟩, st8⟩ := Jvm.LawKit.callS X6 hx (y := (⟨"jdk/internal/util/Preconditions", "checkFromIndexSize", "(IIILjava/util/function/BiFunction;)I"⟩ : MethodName)) hown (mvT hZ (hw _ (List.mem_of_getElem? (i := 107) rfl))) (mvT hZ (hw _ (List.mem_of_getElem? (i := 108) rfl))) (mvT hZ (hw _ (List.mem_of_getElem? (i := 100) rfl))) (mvT hZ (hw _ (List.mem_of_getElem? (i := 109) rfl))) (by decide) (backOf (W := 0) (rmFS1 l Z a0 hw [] n1 n2 n3 fa h0 n0 Zn h12 h3) hZ (hw _ (List.mem_of_getElem? (i := 109) rfl)) (hw _ (List.mem_of_getElem? (i := 100) rfl)) (by decide) (by decide)) (g := (mkF m 6 #[oi n1, oi n2, oi n3] [(.ref fa), (.int (Int32.ofNat n3)), (.int (Int32.ofNat n2)), (.int (Int32.ofNat n1))])) rfl (by rw [hml]; rfl) (argsL := [(.int (Int32.ofNat n1)), (.int (Int32.ofNat n2)), (.int (Int32.ofNat n3)), (.ref fa)]) (rest := []) (lenOf pd_5466 rfl) rfl (by show 2 * 0 + _ ≤ _; exact Nat.le_of_eq rfl) (hb hby d_jdk_42_method_157_6) (fun _ _ => ⟨rfl, e6, (by decide : 0 + 0 ≤ _), (by decide : 0 + 0 ≤ _)⟩)
    dsimp only [Pt.U, Pt.locs, Pt.cells, Pt.slots] at X8 l8 y8 z8 st8 hQ8
    rw [l8, y8, z8] at X8
    obtain ⟨rfl, Nq8, hq8⟩ := hQ8
    have N8 := Fr.app N0 Nq8
    have k9_ : ∀ t, Steps p.tables e below (T8.setTop (mkF m 9 #[oi n1, oi n2, oi n3] [(.int (Int32.ofNat n1))])) t → G_ t := fun t q => k7_ t (st8 t q)
    obtain ⟨fs, hr, hrun, hended, hW, hsame⟩ := X8.leave (v := some (.int (Int32.ofNat n1))) (fun h => by rw [Bd.returns] at h; cases h)
    refine ⟨_, _, pre0 _ (k9_ _ ?_), hrun, hended, _, _, rfl, ?_, ⟨_, rfl⟩, hW, hsame.mono (by decide) (by decide)⟩
    · show Steps p.tables e below (T8.setTop (mkF m 9 #[oi n1, oi n2, oi n3] [(.int (Int32.ofNat n1))])) _
      exact retI X8 hx Bd.returns (hb hby d_jdk_42_method_157_9) hr
    · show QBO Z n1 n2 n3 fv h0 n0 _ T8.heap _
      rw [hq8]
      exact ⟨rfl, N8, rfl⟩
def QIL (Z : State) (x : Addr) (zc : Int32) (h0 : Heap) (n0 : Nat) (v : Option Value) (h : Heap) (L : List Loc) : Prop := v = some (.int 1) ∧ Fr n0 L ∧ h = h0
theorem ef_IL (m : MethodId) (x0 : Addr) : entryFrame m #[(.ref x0)] 1 = mkF m 0 #[.val (.ref x0)] [] := by first | (simp [entryFrame, mkF, argsToLocals, Value.category]; done) | rfl
theorem d_jdk_42_method_154_0 : decode jdk_42_method_154_code 0 = .ok (.getstatic 38, 3) := by decide +kernel
theorem d_jdk_42_method_154_3 : decode jdk_42_method_154_code 3 = .ok (.ifCond .eq 14, 3) := by decide +kernel
theorem d_jdk_42_method_154_6 : decode jdk_42_method_154_code 6 = .ok (.aload_n 0, 1) := by decide +kernel
theorem d_jdk_42_method_154_7 : decode jdk_42_method_154_code 7 = .ok (.getfield 15, 3) := by decide +kernel
theorem d_jdk_42_method_154_10 : decode jdk_42_method_154_code 10 = .ok (.ifCond .ne 7, 3) := by decide +kernel
theorem d_jdk_42_method_154_13 : decode jdk_42_method_154_code 13 = .ok (.iconst 1, 1) := by decide +kernel
theorem d_jdk_42_method_154_14 : decode jdk_42_method_154_code 14 = .ok (.goto 4, 3) := by decide +kernel
theorem d_jdk_42_method_154_18 : decode jdk_42_method_154_code 18 = .ok (.ireturn, 1) := by decide +kernel
set_option maxRecDepth 65536 in
set_option maxHeartbeats 40000000 in
theorem rmIL (l : Launch) (Z : State) (a0 : Array Value) (hw : ∀ d ∈ tables_1, d.before a0 Z = true) (ws : List Jvm.Cond) (x : Addr) (zc : Int32) (h0 : Heap) (n0 : Nat) (Z0 : n0 ≤ h0.size) (Co : Fld Z h0 x "java/lang/String" "coder" "B" (.int 0)) (O2 : Sta Z Z.heap "java/lang/String" "COMPACT_STRINGS" "Z" (.int zc)) (hzc : ¬ zc = (0 : Int32)) (X00 : Old Z n0 h0) :
    MetFree l (⟨"java/lang/String", "isLatin1", "()Z"⟩ : MethodName) (head1 (Jvm.Cond.code (⟨"java/lang/String", "isLatin1", "()Z"⟩ : MethodName) jdk_42_method_154_code 1 (some .boolean) :: ws) ({ frames := 0, cells := 0, slots := 0, locals := 0 } : Room)) (fun a_ U_ => a_ = #[(.ref x)] ∧ Z.Warmed39 U_.vm ∧ U_.heap = h0) (fun _ _ _ _ _ => True) (fun _ U_ o_ E_ => ∃ v_ L_, o_ = .returned v_ ∧ QIL Z x zc h0 n0 v_ E_.heap L_ ∧ FrameEnd U_ o_ E_ L_ ({ frames := 0, cells := 0, slots := 0, locals := 0 } : Room).cells ({ frames := 0, cells := 0, slots := 0, locals := 0 } : Room).slots) := by
  refine MetFree.of_bodySF (plainFor_of_name pn_String) hisR ?_
  intro p e s m args below meth c s₁ Bd hml0 hP hK
  obtain ⟨rfl, hZ, hh⟩ := hP
  have hx := Bd.exec
  have hby := Bd.bytes
  have hml : c.maxLocals = 1 := hml0
  have hown : s.vm.findClass "java/lang/String" = some m.cls := findClass_of_methodNamed Bd.named
  have hnm := (name_of_methodNamed Bd.named Bd.method).1
  have X0 : Stand p l e ({ frames := 0, cells := 0, slots := 0, locals := 0 } : Room) s m #[(.ref x)] below meth c s₁ [] 0 0 := Stand.of_body Bd
  have e0 : s₁.heap = h0 := by rw [← hh, Bd.state]; rfl
  have N0 := Fr.nil n0
  have Zn := Z0
  have pre0 : ∀ t, Steps p.tables e below (s₁.setTop (mkF m 0 #[.val (.ref x)] [])) t → Steps p.tables e below (s₁.setTop (entryFrame m #[(.ref x)] 1)) t := fun t q => castTop (ef_IL m x) q
  have k0 : ∀ t, Steps p.tables e below (s₁.setTop (mkF m 0 #[.val (.ref x)] [])) t → Steps p.tables e below (s₁.setTop (mkF m 0 #[.val (.ref x)] [])) t := fun t q => q
  let G_ : State → Prop := fun t => Steps p.tables e below (s₁.setTop (mkF m 0 #[.val (.ref x)] [])) t
  obtain ⟨T1, X1, e1, st1⟩ := getS2 X0 hx hZ hown (host := "") (Or.inl (hw _ (List.mem_of_getElem? (i := 33) rfl))) Via.refl e0 (O2.ext X00.2) (g := (mkF m 0 #[oa x] [])) rfl (hb hby d_jdk_42_method_154_0)
  have k2_ : ∀ t, Steps p.tables e below (T1.setTop (mkF m 3 #[oa x] [(.int zc)])) t → G_ t := fun t q => k0 t (st1 t q)
  have k3_ : ∀ t, Steps p.tables e below (T1.setTop (mkF m 6 #[oa x] [])) t → G_ t := by
    intro t q
    refine k2_ _ ?_
    show Steps p.tables e below (T1.setTop (mkF m 3 #[oa x] [(.int zc)])) _
    refine XS.ifNo X1.here hx rfl (hb hby d_jdk_42_method_154_3) rfl ((if0 _ _).trans (feq hzc).1) ?_
    show Steps p.tables e below (T1.setTop (mkF m 6 #[oa x] [])) _
    exact q
  have k4_ : ∀ t, Steps p.tables e below (T1.setTop (mkF m 7 #[oa x] [(.ref x)])) t → G_ t := by
    intro t q
    refine k3_ _ ?_
    show Steps p.tables e below (T1.setTop (mkF m 6 #[oa x] [])) _
    refine XS.aloadN X1.here hx rfl (hb hby d_jdk_42_method_154_6) rfl rfl ?_
    show Steps p.tables e below (T1.setTop (mkF m 7 #[oa x] [(.ref x)])) _
    exact q
  obtain ⟨T5, X5, e5, st5⟩ := getF X1 hx hZ hown (host := "") (Or.inl (hw _ (List.mem_of_getElem? (i := 45) rfl))) Via.refl e1 Co (g := (mkF m 7 #[oa x] [(.ref x)])) rfl rfl (hb hby d_jdk_42_method_154_7)
  have k6_ : ∀ t, Steps p.tables e below (T5.setTop (mkF m 10 #[oa x] [(.int (0 : Int32))])) t → G_ t := fun t q => k4_ t (st5 t q)
  have k7_ : ∀ t, Steps p.tables e below (T5.setTop (mkF m 13 #[oa x] [])) t → G_ t := by
    intro t q
    refine k6_ _ ?_
    show Steps p.tables e below (T5.setTop (mkF m 10 #[oa x] [(.int (0 : Int32))])) _
    refine XS.ifNo X5.here hx rfl (hb hby d_jdk_42_method_154_10) rfl ((if0 _ _).trans (teq rfl).2) ?_
    show Steps p.tables e below (T5.setTop (mkF m 13 #[oa x] [])) _
    exact q
  have k8_ : ∀ t, Steps p.tables e below (T5.setTop (mkF m 18 #[oa x] [(.int (1 : Int32))])) t → G_ t := by
    intro t q
    refine k7_ _ ?_
    show Steps p.tables e below (T5.setTop (mkF m 13 #[oa x] [])) _
    refine XS.iconst X5.here hx rfl (hb hby d_jdk_42_method_154_13) ?_
    refine XS.goto X5.here hx rfl (pc0 := 14) (pc' := 18) rfl (hb hby d_jdk_42_method_154_14) (by decide) (by decide) ?_
    show Steps p.tables e below (T5.setTop (mkF m 18 #[oa x] [(.int (1 : Int32))])) _
    exact q
  obtain ⟨fs, hr, hrun, hended, hW, hsame⟩ := X5.leave (v := some (.int (1 : Int32))) (fun h => by rw [Bd.returns] at h; cases h)
  refine ⟨_, _, pre0 _ (k8_ _ ?_), hrun, hended, _, _, rfl, ?_, ⟨_, rfl⟩, hW, hsame.mono (by decide) (by decide)⟩
  · show Steps p.tables e below (T5.setTop (mkF m 18 #[oa x] [(.int (1 : Int32))])) _
    exact retN X5 hx (t := .boolean) Bd.returns (by simp) (hb hby d_jdk_42_method_154_18) hr
  · show QIL Z x zc h0 n0 _ T5.heap _
    rw [e5]
    exact ⟨rfl, N0, rfl⟩
theorem own_gb (cs : List Int32) {i : Nat} (h : i < 100) : ((cs.map (fun c => c.toInt8.toInt32)).map Value.int).getD (Int32.ofNat i).toNatClampNeg (.int 0) = .int ((cs.getD i 0).toInt8.toInt32) := by
  rw [own_ci h, own_gd _ _ _ rfl]
  simp only [List.getD_eq_getElem?_getD, List.getElem?_map]
  cases cs[i]? <;> rfl
theorem own_s0 (x : Int32) : x = x - (0 : Int32) := by simp
theorem d_jdk_43_method_49_3 : decode jdk_43_method_49_code 3 = .ok (.iload 5, 2) := by decide +kernel
theorem d_jdk_43_method_49_5 : decode jdk_43_method_49_code 5 = .ok (.iload 4, 2) := by decide +kernel
theorem d_jdk_43_method_49_7 : decode jdk_43_method_49_code 7 = .ok (.if_icmp .ge 26, 3) := by decide +kernel
theorem d_jdk_43_method_49_10 : decode jdk_43_method_49_code 10 = .ok (.aload_n 2, 1) := by decide +kernel
theorem d_jdk_43_method_49_11 : decode jdk_43_method_49_code 11 = .ok (.iload_n 3, 1) := by decide +kernel
theorem d_jdk_43_method_49_12 : decode jdk_43_method_49_code 12 = .ok (.iinc 3 1, 3) := by decide +kernel
theorem d_jdk_43_method_49_15 : decode jdk_43_method_49_code 15 = .ok (.aload_n 0, 1) := by decide +kernel
theorem d_jdk_43_method_49_16 : decode jdk_43_method_49_code 16 = .ok (.iload_n 1, 1) := by decide +kernel
theorem d_jdk_43_method_49_17 : decode jdk_43_method_49_code 17 = .ok (.iinc 1 1, 3) := by decide +kernel
theorem d_jdk_43_method_49_20 : decode jdk_43_method_49_code 20 = .ok (.baload, 1) := by decide +kernel
theorem d_jdk_43_method_49_21 : decode jdk_43_method_49_code 21 = .ok (.sipush 255, 3) := by decide +kernel
theorem d_jdk_43_method_49_24 : decode jdk_43_method_49_code 24 = .ok (.iand, 1) := by decide +kernel
theorem d_jdk_43_method_49_25 : decode jdk_43_method_49_code 25 = .ok (.i2c, 1) := by decide +kernel
theorem d_jdk_43_method_49_26 : decode jdk_43_method_49_code 26 = .ok (.castore, 1) := by decide +kernel
theorem d_jdk_43_method_49_27 : decode jdk_43_method_49_code 27 = .ok (.iinc 5 1, 3) := by decide +kernel
theorem d_jdk_43_method_49_30 : decode jdk_43_method_49_code 30 = .ok (.goto (-27), 3) := by decide +kernel
set_option maxRecDepth 65536 in
set_option maxHeartbeats 40000000 in
theorem lpI {p : Program} {l : Launch} {e : Env} {R : Room} {s : State} {m : MethodId} {args : Array Value} {below : List Frame} {meth : Method} {c : Code} (Z : State) (a0 : Array Value) (hw : ∀ d ∈ tables_1, d.before a0 Z = true) (hx : p.tables.exec = Jvm.exec) (hZ : Z.Warmed39 s.vm) (hby : c.code = jdk_43_method_49_code) (hml : c.maxLocals = 6) (hown : s.vm.findClass "java/lang/StringLatin1" = some m.cls) (n0 : Nat) (tt b : Addr) (kb kB : ClassId) (cs : List Int32) (off cnt N : Nat) (hcs : cnt ≤ cs.length) (hof : off + cnt ≤ N) (hN : N ≤ 8) (hc8 : cs.length ≤ 8) (hOK : own_OK cs) (nt : tt ≠ b) (gb : n0 ≤ b) (ce so : Nat) : ∀ (nn i : Nat) (xs : List Int32) (s₁ : State) (h0 : Heap) (lc0 : List Loc), i + nn = cnt → xs.length = N → Stand p l e R s m args below meth c s₁ lc0 ce so → s₁.heap = h0 → Fr n0 lc0 → n0 ≤ h0.size → Arv Z h0 tt kb .byte (Int32.ofNat cs.length) ((cs.map (fun c => c.toInt8.toInt32)).map Value.int) (.int 0) → Arv Z h0 b kB .char (Int32.ofNat N) (xs.map Value.int) (.int 0) → ∃ (T' : State) (h' : Heap) (lc' : List Loc) (M1 M3 M5 : Slot), Stand p l e R s m args below meth c T' lc' ce so ∧ T'.heap = h' ∧ Fr n0 lc' ∧ Keep h0 h' [b] ∧ Arv Z h' b kB .char (Int32.ofNat N) ((own_fl cs nn (off + i) i xs).map Value.int) (.int 0) ∧ ∀ t, Steps p.tables e below (T'.setTop (mkF m 33 #[.val (.ref tt), M1, .val (.ref b), M3, .val (.int (Int32.ofNat cnt)), M5] [])) t → Steps p.tables e below (s₁.setTop (mkF m 3 #[oa tt, oi i, oa b, oi (off + i), oi cnt, oi i] [])) t := by
  intro nn
  induction nn with
  | zero =>
    intro i xs s₁ h0 lc0 hin hxs X0 e0 N0 Zn VT VB
    have k0 : ∀ t, Steps p.tables e below (s₁.setTop (mkF m 3 #[oa tt, oi i, oa b, oi (off + i), oi cnt, oi i] [])) t → Steps p.tables e below (s₁.setTop (mkF m 3 #[oa tt, oi i, oa b, oi (off + i), oi cnt, oi i] [])) t := fun t q => q
    let G_ : State → Prop := fun t => Steps p.tables e below (s₁.setTop (mkF m 3 #[oa tt, oi i, oa b, oi (off + i), oi cnt, oi i] [])) t
    have k1_ : ∀ t, Steps p.tables e below (s₁.setTop (mkF m 7 #[oa tt, oi i, oa b, oi (off + i), oi cnt, oi i] [(.int (Int32.ofNat cnt)), (.int (Int32.ofNat i))])) t → G_ t := by
      intro t q
      refine k0 _ ?_
      show Steps p.tables e below (s₁.setTop (mkF m 3 #[oa tt, oi i, oa b, oi (off + i), oi cnt, oi i] [])) _
      refine XS.iload X0.here hx rfl (hb hby d_jdk_43_method_49_3) rfl ?_
      refine XS.iload X0.here hx rfl (hb hby d_jdk_43_method_49_5) rfl ?_
      show Steps p.tables e below (s₁.setTop (mkF m 7 #[oa tt, oi i, oa b, oi (off + i), oi cnt, oi i] [(.int (Int32.ofNat cnt)), (.int (Int32.ofNat i))])) _
      exact q
    have k2_ : ∀ t, Steps p.tables e below (s₁.setTop (mkF m 33 #[oa tt, oi i, oa b, oi (off + i), oi cnt, oi i] [])) t → G_ t := by
      intro t q
      refine k1_ _ ?_
      show Steps p.tables e below (s₁.setTop (mkF m 7 #[oa tt, oi i, oa b, oi (off + i), oi cnt, oi i] [(.int (Int32.ofNat cnt)), (.int (Int32.ofNat i))])) _
      refine XS.icmpYes X0.here hx rfl (pc0 := 7) (pc' := 33) rfl (hb hby d_jdk_43_method_49_7) rfl (flt (fun z => absurd ((own_cmp (by omega) (by omega)).mp z) (by omega))).2.1 (by decide) (by decide) ?_
      show Steps p.tables e below (s₁.setTop (mkF m 33 #[oa tt, oi i, oa b, oi (off + i), oi cnt, oi i] [])) _
      exact q
    exact ⟨_, h0, lc0, _, _, _, X0, e0, N0, Keep.refl _ _, VB, k2_⟩
  | succ nn ih =>
    intro i xs s₁ h0 lc0 hin hxs X0 e0 N0 Zn VT VB
    have k0 : ∀ t, Steps p.tables e below (s₁.setTop (mkF m 3 #[oa tt, oi i, oa b, oi (off + i), oi cnt, oi i] [])) t → Steps p.tables e below (s₁.setTop (mkF m 3 #[oa tt, oi i, oa b, oi (off + i), oi cnt, oi i] [])) t := fun t q => q
    let G_ : State → Prop := fun t => Steps p.tables e below (s₁.setTop (mkF m 3 #[oa tt, oi i, oa b, oi (off + i), oi cnt, oi i] [])) t
    have k3_ : ∀ t, Steps p.tables e below (s₁.setTop (mkF m 7 #[oa tt, oi i, oa b, oi (off + i), oi cnt, oi i] [(.int (Int32.ofNat cnt)), (.int (Int32.ofNat i))])) t → G_ t := by
      intro t q
      refine k0 _ ?_
      show Steps p.tables e below (s₁.setTop (mkF m 3 #[oa tt, oi i, oa b, oi (off + i), oi cnt, oi i] [])) _
      refine XS.iload X0.here hx rfl (hb hby d_jdk_43_method_49_3) rfl ?_
      refine XS.iload X0.here hx rfl (hb hby d_jdk_43_method_49_5) rfl ?_
      show Steps p.tables e below (s₁.setTop (mkF m 7 #[oa tt, oi i, oa b, oi (off + i), oi cnt, oi i] [(.int (Int32.ofNat cnt)), (.int (Int32.ofNat i))])) _
      exact q
    have hil : i < cnt := by omega
    have k4_ : ∀ t, Steps p.tables e below (s₁.setTop (mkF m 10 #[oa tt, oi i, oa b, oi (off + i), oi cnt, oi i] [])) t → G_ t := by
      intro t q
      refine k3_ _ ?_
      show Steps p.tables e below (s₁.setTop (mkF m 7 #[oa tt, oi i, oa b, oi (off + i), oi cnt, oi i] [(.int (Int32.ofNat cnt)), (.int (Int32.ofNat i))])) _
      refine XS.icmpNo X0.here hx rfl (hb hby d_jdk_43_method_49_7) rfl (tlt ((own_cmp (by omega) (by omega)).mpr hil)).2.1 ?_
      show Steps p.tables e below (s₁.setTop (mkF m 10 #[oa tt, oi i, oa b, oi (off + i), oi cnt, oi i] [])) _
      exact q
    obtain ⟨cl5, Ar5, q5, S5, M5, H5, G5⟩ := id VT
    have k6_ : ∀ t, Steps p.tables e below (s₁.setTop (mkF m 26 #[oa tt, ov ((Int32.ofNat i) + (1 : Int32)), oa b, ov ((Int32.ofNat (off + i)) + (1 : Int32)), oi cnt, oi i] [(.int ((((cs.getD i 0).toInt8.toInt32) &&& (255 : Int32)).toUInt32.toUInt16.toUInt32.toInt32)), (.int (Int32.ofNat (off + i))), (.ref b)])) t → G_ t := by
      intro t q
      refine k4_ _ ?_
      show Steps p.tables e below (s₁.setTop (mkF m 10 #[oa tt, oi i, oa b, oi (off + i), oi cnt, oi i] [])) _
      refine XS.aloadN X0.here hx rfl (hb hby d_jdk_43_method_49_10) rfl rfl ?_
      refine XS.iloadN X0.here hx rfl (hb hby d_jdk_43_method_49_11) rfl ?_
      refine XS.iinc X0.here hx rfl (hb hby d_jdk_43_method_49_12) rfl (l' := #[oa tt, oi i, oa b, ov ((Int32.ofNat (off + i)) + (1 : Int32)), oi cnt, oi i]) rfl ?_
      refine XS.aloadN X0.here hx rfl (hb hby d_jdk_43_method_49_15) rfl rfl ?_
      show Steps p.tables e below (s₁.setTop (mkF m 16 #[oa tt, oi i, oa b, ov ((Int32.ofNat (off + i)) + (1 : Int32)), oi cnt, oi i] [(.ref tt), (.int (Int32.ofNat (off + i))), (.ref b)])) _
      refine XS.iloadN X0.here hx rfl (hb hby d_jdk_43_method_49_16) rfl ?_
      refine XS.iinc X0.here hx rfl (hb hby d_jdk_43_method_49_17) rfl (l' := #[oa tt, ov ((Int32.ofNat i) + (1 : Int32)), oa b, ov ((Int32.ofNat (off + i)) + (1 : Int32)), oi cnt, oi i]) rfl ?_
      refine X0.baloadBytes hx (j := (Int32.ofNat i)) (v := (.int ((cs.getD i 0).toInt8.toInt32))) (by rw [e0]; exact Ar5.1) (State.isArrayOf_alike hZ.alike Ar5.2.1) Ar5.2.2 (inb_of S5 (own_inr (n := cs.length) (by omega) (by omega))) (Has.at H5 (inb_of S5 (own_inr (n := cs.length) (by omega) (by omega))) (own_gb _ (by omega))) (g := (mkF m 20 #[oa tt, ov ((Int32.ofNat i) + (1 : Int32)), oa b, ov ((Int32.ofNat (off + i)) + (1 : Int32)), oi cnt, oi i] [(.int (Int32.ofNat i)), (.ref tt), (.int (Int32.ofNat (off + i))), (.ref b)])) rfl rfl (hb hby d_jdk_43_method_49_20) _ ?_
      refine XS.sipush X0.here hx rfl (hb hby d_jdk_43_method_49_21) ?_
      show Steps p.tables e below (s₁.setTop (mkF m 24 #[oa tt, ov ((Int32.ofNat i) + (1 : Int32)), oa b, ov ((Int32.ofNat (off + i)) + (1 : Int32)), oi cnt, oi i] [(.int (255 : Int32)), (.int ((cs.getD i 0).toInt8.toInt32)), (.int (Int32.ofNat (off + i))), (.ref b)])) _
      refine XS.iand X0.here hx rfl (hb hby d_jdk_43_method_49_24) rfl ?_
      refine XS.i2c X0.here hx rfl (hb hby d_jdk_43_method_49_25) rfl ?_
      show Steps p.tables e below (s₁.setTop (mkF m 26 #[oa tt, ov ((Int32.ofNat i) + (1 : Int32)), oa b, ov ((Int32.ofNat (off + i)) + (1 : Int32)), oi cnt, oi i] [(.int ((((cs.getD i 0).toInt8.toInt32) &&& (255 : Int32)).toUInt32.toUInt16.toUInt32.toInt32)), (.int (Int32.ofNat (off + i))), (.ref b)])) _
      exact q
    obtain ⟨cl7, Ar7, q7, S7, M7, H7, G7⟩ := VB
    obtain ⟨T8, h8, X8, e8, W8, st8⟩ := stC X0 hx hZ e0 Ar7 (j := (Int32.ofNat (off + i))) (inb_of S7 (own_inr (n := N) (i := off + i) (by omega) (by omega))) (g := (mkF m 26 #[oa tt, ov ((Int32.ofNat i) + (1 : Int32)), oa b, ov ((Int32.ofNat (off + i)) + (1 : Int32)), oi cnt, oi i] [(.int ((((cs.getD i 0).toInt8.toInt32) &&& (255 : Int32)).toUInt32.toUInt16.toUInt32.toInt32)), (.int (Int32.ofNat (off + i))), (.ref b)])) rfl rfl (hb hby d_jdk_43_method_49_26)
    have k9_ : ∀ t, Steps p.tables e below (T8.setTop (mkF m 27 #[oa tt, ov ((Int32.ofNat i) + (1 : Int32)), oa b, ov ((Int32.ofNat (off + i)) + (1 : Int32)), oi cnt, oi i] [])) t → G_ t := fun t q => k6_ t (st8 t q)
    have N8 := Fr.snoc X8 N0 gb
    rw [own_b2c (own_OK_get hOK i)] at W8
    replace Zn := Nat.le_trans Zn (Keep.of_wr W8).1
    replace VT := VT.other W8 nt
    have VB : Arv Z h8 b kB .char (Int32.ofNat N) ((xs.set (off + i) (cs.getD i 0)).map Value.int) (.int 0) := by rw [List.map_set]; exact Arv.set Ar7 q7 S7 M7 H7 G7 (by have q := fits_nar_char (cs.getD i 0); rw [own_nc (own_OK_get hOK i)] at q; exact q) W8 (off + i) (own_ci (by omega)) (own_mapl hxs (by omega))
    have k10_ : ∀ t, Steps p.tables e below (T8.setTop (mkF m 3 #[oa tt, ov ((Int32.ofNat i) + (1 : Int32)), oa b, ov ((Int32.ofNat (off + i)) + (1 : Int32)), oi cnt, ov ((Int32.ofNat i) + (1 : Int32))] [])) t → G_ t := by
      intro t q
      refine k9_ _ ?_
      show Steps p.tables e below (T8.setTop (mkF m 27 #[oa tt, ov ((Int32.ofNat i) + (1 : Int32)), oa b, ov ((Int32.ofNat (off + i)) + (1 : Int32)), oi cnt, oi i] [])) _
      refine XS.iinc X8.here hx rfl (hb hby d_jdk_43_method_49_27) rfl (l' := #[oa tt, ov ((Int32.ofNat i) + (1 : Int32)), oa b, ov ((Int32.ofNat (off + i)) + (1 : Int32)), oi cnt, ov ((Int32.ofNat i) + (1 : Int32))]) rfl ?_
      refine XS.goto X8.here hx rfl (pc0 := 30) (pc' := 3) rfl (hb hby d_jdk_43_method_49_30) (by decide) (by decide) ?_
      show Steps p.tables e below (T8.setTop (mkF m 3 #[oa tt, ov ((Int32.ofNat i) + (1 : Int32)), oa b, ov ((Int32.ofNat (off + i)) + (1 : Int32)), oi cnt, ov ((Int32.ofNat i) + (1 : Int32))] [])) _
      exact q
    have k11_ : ∀ t, Steps p.tables e below (T8.setTop (mkF m 3 #[oa tt, oi (i + 1), oa b, ov ((Int32.ofNat (off + i)) + (1 : Int32)), oi cnt, ov ((Int32.ofNat i) + (1 : Int32))] [])) t → G_ t := fun t q => k10_ t (Eq.mp (congrArg (fun z => Steps p.tables e below (T8.setTop (mkF m 3 #[oa tt, ov z, oa b, ov ((Int32.ofNat (off + i)) + (1 : Int32)), oi cnt, ov ((Int32.ofNat i) + (1 : Int32))] [])) t) (show (Int32.ofNat (i + 1)) = ((Int32.ofNat i) + (1 : Int32)) from (own_inc (i := i) (by omega)))) q)
    have k12_ : ∀ t, Steps p.tables e below (T8.setTop (mkF m 3 #[oa tt, oi (i + 1), oa b, oi (off + (i + 1)), oi cnt, ov ((Int32.ofNat i) + (1 : Int32))] [])) t → G_ t := fun t q => k11_ t (Eq.mp (congrArg (fun z => Steps p.tables e below (T8.setTop (mkF m 3 #[oa tt, oi (i + 1), oa b, ov z, oi cnt, ov ((Int32.ofNat i) + (1 : Int32))] [])) t) (show (Int32.ofNat (off + (i + 1))) = ((Int32.ofNat (off + i)) + (1 : Int32)) from (own_inc (i := off + i) (by omega)))) q)
    have k13_ : ∀ t, Steps p.tables e below (T8.setTop (mkF m 3 #[oa tt, oi (i + 1), oa b, oi (off + (i + 1)), oi cnt, oi (i + 1)] [])) t → G_ t := fun t q => k12_ t (Eq.mp (congrArg (fun z => Steps p.tables e below (T8.setTop (mkF m 3 #[oa tt, oi (i + 1), oa b, oi (off + (i + 1)), oi cnt, ov z] [])) t) (show (Int32.ofNat (i + 1)) = ((Int32.ofNat i) + (1 : Int32)) from (own_inc (i := i) (by omega)))) q)
    have ef : own_fl cs (nn + 1) (off + i) i xs = own_fl cs nn (off + (i + 1)) (i + 1) (xs.set (off + i) (cs.getD i 0)) := rfl
    obtain ⟨T', h', lc', M1, M3, M5, X', e', N', K', VB', st'⟩ := ih (i + 1) (xs.set (off + i) (cs.getD i 0)) _ h8 _ (by omega) (by rw [List.length_set]; exact hxs) X8 e8 N8 Zn VT VB
    rw [ef]
    exact ⟨T', h', lc', M1, M3, M5, X', e', N', (Keep.of_wr W8).trans K' (fun x hx => Or.inl hx), VB', fun t q => k13_ t (st' t q)⟩
def QIF (Z : State) (tt : Addr) (b : Addr) (kb : ClassId) (kB : ClassId) (cs : List Int32) (off : Nat) (cnt : Nat) (N : Nat) (xs : List Int32) (h0 : Heap) (n0 : Nat) (v : Option Value) (h : Heap) (L : List Loc) : Prop := v = none ∧ Fr n0 L ∧ Keep h0 h [b] ∧ Arv Z h b kB .char (Int32.ofNat N) ((own_fl cs cnt off 0 xs).map Value.int) (.int 0)
theorem ef_IF (m : MethodId) (x0 : Addr) (x1 : Int32) (x2 : Addr) (x3 : Int32) (x4 : Int32) : entryFrame m #[(.ref x0), (.int x1), (.ref x2), (.int x3), (.int x4)] 6 = mkF m 0 #[.val (.ref x0), .val (.int x1), .val (.ref x2), .val (.int x3), .val (.int x4), .unset] [] := by first | (simp [entryFrame, mkF, argsToLocals, Value.category]; done) | rfl
theorem pn_StringLatin1 : plainName "java/lang/StringLatin1" = true := by first | (simp [plainName, overriddenIn]; done) | decide +kernel
theorem d_jdk_43_method_49_0 : decode jdk_43_method_49_code 0 = .ok (.iconst 0, 1) := by decide +kernel
theorem d_jdk_43_method_49_1 : decode jdk_43_method_49_code 1 = .ok (.istore 5, 2) := by decide +kernel
theorem d_jdk_43_method_49_33 : decode jdk_43_method_49_code 33 = .ok (.return_, 1) := by decide +kernel
set_option maxRecDepth 65536 in
set_option maxHeartbeats 40000000 in
theorem rmIF (l : Launch) (Z : State) (a0 : Array Value) (hw : ∀ d ∈ tables_1, d.before a0 Z = true) (ws : List Jvm.Cond) (tt : Addr) (b : Addr) (kb : ClassId) (kB : ClassId) (cs : List Int32) (off : Nat) (cnt : Nat) (N : Nat) (xs : List Int32) (h0 : Heap) (n0 : Nat) (Z0 : n0 ≤ h0.size) (hcs : cnt ≤ cs.length) (hof : off + cnt ≤ N) (hN : N ≤ 8) (hc8 : cs.length ≤ 8) (hOK : own_OK cs) (gb : n0 ≤ b) (hxs : xs.length = N) (nt : tt ≠ b) (VT : Arv Z h0 tt kb .byte (Int32.ofNat cs.length) ((cs.map (fun c => c.toInt8.toInt32)).map Value.int) (.int 0)) (VB : Arv Z h0 b kB .char (Int32.ofNat N) (xs.map Value.int) (.int 0)) :
    MetFree l (⟨"java/lang/StringLatin1", "inflate", "([BI[CII)V"⟩ : MethodName) (head1 (Jvm.Cond.code (⟨"java/lang/StringLatin1", "inflate", "([BI[CII)V"⟩ : MethodName) jdk_43_method_49_code 6 none :: ws) ({ frames := 0, cells := 0, slots := 0, locals := 0 } : Room)) (fun a_ U_ => a_ = #[(.ref tt), (.int (0 : Int32)), (.ref b), (.int (Int32.ofNat off)), (.int (Int32.ofNat cnt))] ∧ Z.Warmed39 U_.vm ∧ U_.heap = h0) (fun _ _ _ _ _ => True) (fun _ U_ o_ E_ => ∃ v_ L_, o_ = .returned v_ ∧ QIF Z tt b kb kB cs off cnt N xs h0 n0 v_ E_.heap L_ ∧ FrameEnd U_ o_ E_ L_ ({ frames := 0, cells := 0, slots := 0, locals := 0 } : Room).cells ({ frames := 0, cells := 0, slots := 0, locals := 0 } : Room).slots) := by
  refine MetFree.of_bodySF (plainFor_of_name pn_StringLatin1) hisR ?_
  intro p e s m args below meth c s₁ Bd hml0 hP hK
  obtain ⟨rfl, hZ, hh⟩ := hP
  have hx := Bd.exec
  have hby := Bd.bytes
  have hml : c.maxLocals = 6 := hml0
  have hown : s.vm.findClass "java/lang/StringLatin1" = some m.cls := findClass_of_methodNamed Bd.named
  have hnm := (name_of_methodNamed Bd.named Bd.method).1
  have X0 : Stand p l e ({ frames := 0, cells := 0, slots := 0, locals := 0 } : Room) s m #[(.ref tt), (.int (0 : Int32)), (.ref b), (.int (Int32.ofNat off)), (.int (Int32.ofNat cnt))] below meth c s₁ [] 0 0 := Stand.of_body Bd
  have e0 : s₁.heap = h0 := by rw [← hh, Bd.state]; rfl
  have N0 := Fr.nil n0
  have Zn := Z0
  have pre0 : ∀ t, Steps p.tables e below (s₁.setTop (mkF m 0 #[.val (.ref tt), .val (.int (0 : Int32)), .val (.ref b), .val (.int (Int32.ofNat off)), .val (.int (Int32.ofNat cnt)), .unset] [])) t → Steps p.tables e below (s₁.setTop (entryFrame m #[(.ref tt), (.int (0 : Int32)), (.ref b), (.int (Int32.ofNat off)), (.int (Int32.ofNat cnt))] 6)) t := fun t q => castTop (ef_IF m tt (0 : Int32) b (Int32.ofNat off) (Int32.ofNat cnt)) q
  have k0 : ∀ t, Steps p.tables e below (s₁.setTop (mkF m 0 #[.val (.ref tt), .val (.int (0 : Int32)), .val (.ref b), .val (.int (Int32.ofNat off)), .val (.int (Int32.ofNat cnt)), .unset] [])) t → Steps p.tables e below (s₁.setTop (mkF m 0 #[.val (.ref tt), .val (.int (0 : Int32)), .val (.ref b), .val (.int (Int32.ofNat off)), .val (.int (Int32.ofNat cnt)), .unset] [])) t := fun t q => q
  let G_ : State → Prop := fun t => Steps p.tables e below (s₁.setTop (mkF m 0 #[.val (.ref tt), .val (.int (0 : Int32)), .val (.ref b), .val (.int (Int32.ofNat off)), .val (.int (Int32.ofNat cnt)), .unset] [])) t
  have k1_ : ∀ t, Steps p.tables e below (s₁.setTop (mkF m 3 #[oa tt, ov (0 : Int32), oa b, oi off, oi cnt, ov (0 : Int32)] [])) t → G_ t := by
    intro t q
    refine k0 _ ?_
    show Steps p.tables e below (s₁.setTop (mkF m 0 #[oa tt, ov (0 : Int32), oa b, oi off, oi cnt, .unset] [])) _
    refine XS.iconst X0.here hx rfl (hb hby d_jdk_43_method_49_0) ?_
    refine XS.istore X0.here hx rfl (hb hby d_jdk_43_method_49_1) rfl (l' := #[oa tt, ov (0 : Int32), oa b, oi off, oi cnt, ov (0 : Int32)]) rfl ?_
    show Steps p.tables e below (s₁.setTop (mkF m 3 #[oa tt, ov (0 : Int32), oa b, oi off, oi cnt, ov (0 : Int32)] [])) _
    exact q
  have k2_ : ∀ t, Steps p.tables e below (s₁.setTop (mkF m 3 #[oa tt, oi 0, oa b, oi off, oi cnt, ov (0 : Int32)] [])) t → G_ t := fun t q => k1_ t (Eq.mp (congrArg (fun z => Steps p.tables e below (s₁.setTop (mkF m 3 #[oa tt, ov z, oa b, oi off, oi cnt, ov (0 : Int32)] [])) t) (show (Int32.ofNat 0) = (0 : Int32) from rfl)) q)
  have k3_ : ∀ t, Steps p.tables e below (s₁.setTop (mkF m 3 #[oa tt, oi 0, oa b, oi off, oi cnt, oi 0] [])) t → G_ t := fun t q => k2_ t (Eq.mp (congrArg (fun z => Steps p.tables e below (s₁.setTop (mkF m 3 #[oa tt, oi 0, oa b, oi off, oi cnt, ov z] [])) t) (show (Int32.ofNat 0) = (0 : Int32) from rfl)) q)
  have k4_ : ∀ t, Steps p.tables e below (s₁.setTop (mkF m 3 #[oa tt, oi 0, oa b, oi (off + 0), oi cnt, oi 0] [])) t → G_ t := fun t q => k3_ t (Eq.mp (congrArg (fun z => Steps p.tables e below (s₁.setTop (mkF m 3 #[oa tt, oi 0, oa b, ov z, oi cnt, oi 0] [])) t) (show (Int32.ofNat (off + 0)) = (Int32.ofNat off) from rfl)) q)
  obtain ⟨T', h', lc', M1, M3, M5, X', e', N', K', VB', st'⟩ := lpI Z a0 hw hx hZ hby hml hown n0 tt b kb kB cs off cnt N hcs hof hN hc8 hOK nt gb _ _ cnt 0 xs _ h0 _ (by omega) hxs X0 e0 N0 Zn VT VB
  have k5_ : ∀ t, Steps p.tables e below (T'.setTop (mkF m 33 #[oa tt, M1, oa b, M3, oi cnt, M5] [])) t → G_ t := fun t q => k4_ t (st' t q)
  obtain ⟨fs, hr, hrun, hended, hW, hsame⟩ := X'.leave (v := none) (fun _ => rfl)
  refine ⟨_, _, pre0 _ (k5_ _ ?_), hrun, hended, _, _, rfl, ?_, ⟨_, rfl⟩, hW, hsame.mono (by decide) (by decide)⟩
  · show Steps p.tables e below (T'.setTop (mkF m 33 #[oa tt, M1, oa b, M3, oi cnt, M5] [])) _
    exact X'.returnOut hx Bd.returns (hb hby d_jdk_43_method_49_33) hr
  · show QIF Z tt b kb kB cs off cnt N xs h0 n0 _ T'.heap _
    rw [e']
    exact ⟨rfl, N', K', VB'⟩
def QLG (Z : State) (tt : Addr) (b : Addr) (kb : ClassId) (kB : ClassId) (cs : List Int32) (off : Nat) (cnt : Nat) (N : Nat) (xs : List Int32) (h0 : Heap) (n0 : Nat) (v : Option Value) (h : Heap) (L : List Loc) : Prop := v = none ∧ Fr n0 L ∧ Keep h0 h [b] ∧ Arv Z h b kB .char (Int32.ofNat N) ((own_fl cs cnt off 0 xs).map Value.int) (.int 0)
theorem ef_LG (m : MethodId) (x0 : Addr) (x1 : Int32) (x2 : Int32) (x3 : Addr) (x4 : Int32) : entryFrame m #[(.ref x0), (.int x1), (.int x2), (.ref x3), (.int x4)] 5 = mkF m 0 #[.val (.ref x0), .val (.int x1), .val (.int x2), .val (.ref x3), .val (.int x4)] [] := by first | (simp [entryFrame, mkF, argsToLocals, Value.category]; done) | rfl
theorem d_jdk_43_method_11_0 : decode jdk_43_method_11_code 0 = .ok (.aload_n 0, 1) := by decide +kernel
theorem d_jdk_43_method_11_1 : decode jdk_43_method_11_code 1 = .ok (.iload_n 1, 1) := by decide +kernel
theorem d_jdk_43_method_11_2 : decode jdk_43_method_11_code 2 = .ok (.aload_n 3, 1) := by decide +kernel
theorem d_jdk_43_method_11_3 : decode jdk_43_method_11_code 3 = .ok (.iload 4, 2) := by decide +kernel
theorem d_jdk_43_method_11_5 : decode jdk_43_method_11_code 5 = .ok (.iload_n 2, 1) := by decide +kernel
theorem d_jdk_43_method_11_6 : decode jdk_43_method_11_code 6 = .ok (.iload_n 1, 1) := by decide +kernel
theorem d_jdk_43_method_11_7 : decode jdk_43_method_11_code 7 = .ok (.isub, 1) := by decide +kernel
theorem pd_98583 : parseMethodDescriptor "([BI[CII)V" = some ⟨[(.array .byte), .int, (.array .char), .int, .int], none⟩ := by decide +kernel
theorem d_jdk_43_method_11_8 : decode jdk_43_method_11_code 8 = .ok (.invokestatic 13, 3) := by decide +kernel
theorem d_jdk_43_method_11_11 : decode jdk_43_method_11_code 11 = .ok (.return_, 1) := by decide +kernel
set_option maxRecDepth 65536 in
set_option maxHeartbeats 40000000 in
theorem rmLG (l : Launch) (Z : State) (a0 : Array Value) (hw : ∀ d ∈ tables_1, d.before a0 Z = true) (ws : List Jvm.Cond) (tt : Addr) (b : Addr) (kb : ClassId) (kB : ClassId) (cs : List Int32) (off : Nat) (cnt : Nat) (N : Nat) (xs : List Int32) (h0 : Heap) (n0 : Nat) (Z0 : n0 ≤ h0.size) (hcs : cnt ≤ cs.length) (hof : off + cnt ≤ N) (hN : N ≤ 8) (hc8 : cs.length ≤ 8) (hOK : own_OK cs) (gb : n0 ≤ b) (hxs : xs.length = N) (nt : tt ≠ b) (VT : Arv Z h0 tt kb .byte (Int32.ofNat cs.length) ((cs.map (fun c => c.toInt8.toInt32)).map Value.int) (.int 0)) (VB : Arv Z h0 b kB .char (Int32.ofNat N) (xs.map Value.int) (.int 0)) :
    MetFree l (⟨"java/lang/StringLatin1", "getChars", "([BII[CI)V"⟩ : MethodName) (head1 (Jvm.Cond.code (⟨"java/lang/StringLatin1", "getChars", "([BII[CI)V"⟩ : MethodName) jdk_43_method_11_code 5 none :: ws) ({ frames := 1, cells := 0, slots := 0, locals := 17 } : Room)) (fun a_ U_ => a_ = #[(.ref tt), (.int (0 : Int32)), (.int (Int32.ofNat cnt)), (.ref b), (.int (Int32.ofNat off))] ∧ Z.Warmed39 U_.vm ∧ U_.heap = h0) (fun _ _ _ _ _ => True) (fun _ U_ o_ E_ => ∃ v_ L_, o_ = .returned v_ ∧ QLG Z tt b kb kB cs off cnt N xs h0 n0 v_ E_.heap L_ ∧ FrameEnd U_ o_ E_ L_ ({ frames := 1, cells := 0, slots := 0, locals := 17 } : Room).cells ({ frames := 1, cells := 0, slots := 0, locals := 17 } : Room).slots) := by
  refine MetFree.of_bodySF (plainFor_of_name pn_StringLatin1) hisR ?_
  intro p e s m args below meth c s₁ Bd hml0 hP hK
  obtain ⟨rfl, hZ, hh⟩ := hP
  have hx := Bd.exec
  have hby := Bd.bytes
  have hml : c.maxLocals = 5 := hml0
  have hown : s.vm.findClass "java/lang/StringLatin1" = some m.cls := findClass_of_methodNamed Bd.named
  have hnm := (name_of_methodNamed Bd.named Bd.method).1
  have X0 : Stand p l e ({ frames := 1, cells := 0, slots := 0, locals := 17 } : Room) s m #[(.ref tt), (.int (0 : Int32)), (.int (Int32.ofNat cnt)), (.ref b), (.int (Int32.ofNat off))] below meth c s₁ [] 0 0 := Stand.of_body Bd
  have e0 : s₁.heap = h0 := by rw [← hh, Bd.state]; rfl
  have N0 := Fr.nil n0
  have Zn := Z0
  have pre0 : ∀ t, Steps p.tables e below (s₁.setTop (mkF m 0 #[.val (.ref tt), .val (.int (0 : Int32)), .val (.int (Int32.ofNat cnt)), .val (.ref b), .val (.int (Int32.ofNat off))] [])) t → Steps p.tables e below (s₁.setTop (entryFrame m #[(.ref tt), (.int (0 : Int32)), (.int (Int32.ofNat cnt)), (.ref b), (.int (Int32.ofNat off))] 5)) t := fun t q => castTop (ef_LG m tt (0 : Int32) (Int32.ofNat cnt) b (Int32.ofNat off)) q
  have k0 : ∀ t, Steps p.tables e below (s₁.setTop (mkF m 0 #[.val (.ref tt), .val (.int (0 : Int32)), .val (.int (Int32.ofNat cnt)), .val (.ref b), .val (.int (Int32.ofNat off))] [])) t → Steps p.tables e below (s₁.setTop (mkF m 0 #[.val (.ref tt), .val (.int (0 : Int32)), .val (.int (Int32.ofNat cnt)), .val (.ref b), .val (.int (Int32.ofNat off))] [])) t := fun t q => q
  let G_ : State → Prop := fun t => Steps p.tables e below (s₁.setTop (mkF m 0 #[.val (.ref tt), .val (.int (0 : Int32)), .val (.int (Int32.ofNat cnt)), .val (.ref b), .val (.int (Int32.ofNat off))] [])) t
  have k1_ : ∀ t, Steps p.tables e below (s₁.setTop (mkF m 8 #[oa tt, ov (0 : Int32), oi cnt, oa b, oi off] [(.int ((Int32.ofNat cnt) - (0 : Int32))), (.int (Int32.ofNat off)), (.ref b), (.int (0 : Int32)), (.ref tt)])) t → G_ t := by
    intro t q
    refine k0 _ ?_
    show Steps p.tables e below (s₁.setTop (mkF m 0 #[oa tt, ov (0 : Int32), oi cnt, oa b, oi off] [])) _
    refine XS.aloadN X0.here hx rfl (hb hby d_jdk_43_method_11_0) rfl rfl ?_
    refine XS.iloadN X0.here hx rfl (hb hby d_jdk_43_method_11_1) rfl ?_
    refine XS.aloadN X0.here hx rfl (hb hby d_jdk_43_method_11_2) rfl rfl ?_
    refine XS.iload X0.here hx rfl (hb hby d_jdk_43_method_11_3) rfl ?_
    show Steps p.tables e below (s₁.setTop (mkF m 5 #[oa tt, ov (0 : Int32), oi cnt, oa b, oi off] [(.int (Int32.ofNat off)), (.ref b), (.int (0 : Int32)), (.ref tt)])) _
    refine XS.iloadN X0.here hx rfl (hb hby d_jdk_43_method_11_5) rfl ?_
    refine XS.iloadN X0.here hx rfl (hb hby d_jdk_43_method_11_6) rfl ?_
    refine XS.isub X0.here hx rfl (hb hby d_jdk_43_method_11_7) rfl ?_
    show Steps p.tables e below (s₁.setTop (mkF m 8 #[oa tt, ov (0 : Int32), oi cnt, oa b, oi off] [(.int ((Int32.ofNat cnt) - (0 : Int32))), (.int (Int32.ofNat off)), (.ref b), (.int (0 : Int32)), (.ref tt)])) _
    exact q
  have k2_ : ∀ t, Steps p.tables e below (s₁.setTop (mkF m 8 #[oa tt, ov (0 : Int32), oi cnt, oa b, oi off] [(.int (Int32.ofNat cnt)), (.int (Int32.ofNat off)), (.ref b), (.int (0 : Int32)), (.ref tt)])) t → G_ t := fun t q => k1_ t (Eq.mp (congrArg (fun z => Steps p.tables e below (s₁.setTop (mkF m 8 #[oa tt, ov (0 : Int32), oi cnt, oa b, oi off] [(.int z), (.int (Int32.ofNat off)), (.ref b), (.int (0 : Int32)), (.ref tt)])) t) (show (Int32.ofNat cnt) = ((Int32.ofNat cnt) - (0 : Int32)) from (own_s0 _))) q)
  obtain ⟨_, _, ⟨T3, L3, kk3, n3⟩, -, X3, ⟨Lc3, hQ3, l3, y3, z3⟩, st3⟩ := Jvm.LawKit.callS X0 hx (y := (⟨"java/lang/StringLatin1", "inflate", "([BI[CII)V"⟩ : MethodName)) hown (mvT hZ (hw _ (List.mem_of_getElem? (i := 119) rfl))) (mvT hZ (hw _ (List.mem_of_getElem? (i := 120) rfl))) (mvT hZ (hw _ (List.mem_of_getElem? (i := 117) rfl))) (mvT hZ (hw _ (List.mem_of_getElem? (i := 121) rfl))) (by decide) (backOf (W := 0) (rmIF l Z a0 hw [] tt b kb kB cs off cnt N xs h0 n0 Zn hcs hof hN hc8 hOK gb hxs nt VT VB) hZ (hw _ (List.mem_of_getElem? (i := 121) rfl)) (hw _ (List.mem_of_getElem? (i := 117) rfl)) (by decide) (by decide)) (g := (mkF m 8 #[oa tt, ov (0 : Int32), oi cnt, oa b, oi off] [(.int (Int32.ofNat cnt)), (.int (Int32.ofNat off)), (.ref b), (.int (0 : Int32)), (.ref tt)])) rfl (by rw [hml]; rfl) (argsL := [(.ref tt), (.int (0 : Int32)), (.ref b), (.int (Int32.ofNat off)), (.int (Int32.ofNat cnt))]) (rest := []) (lenOf pd_98583 rfl) rfl (by show 2 * 0 + _ ≤ _; exact Nat.le_of_eq rfl) (hb hby d_jdk_43_method_11_8) (fun _ _ => ⟨rfl, e0, (by decide : 0 + 0 ≤ _), (by decide : 0 + 0 ≤ _)⟩)
  dsimp only [Pt.U, Pt.locs, Pt.cells, Pt.slots] at X3 l3 y3 z3 st3 hQ3
  rw [l3, y3, z3] at X3
  obtain ⟨rfl, Nq3, KI, VI⟩ := hQ3
  have N3 := Fr.app N0 Nq3
  have k4_ : ∀ t, Steps p.tables e below (T3.setTop (mkF m 11 #[oa tt, ov (0 : Int32), oi cnt, oa b, oi off] [])) t → G_ t := fun t q => k2_ t (st3 t q)
  obtain ⟨fs, hr, hrun, hended, hW, hsame⟩ := X3.leave (v := none) (fun _ => rfl)
  refine ⟨_, _, pre0 _ (k4_ _ ?_), hrun, hended, _, _, rfl, ?_, ⟨_, rfl⟩, hW, hsame.mono (by decide) (by decide)⟩
  · show Steps p.tables e below (T3.setTop (mkF m 11 #[oa tt, ov (0 : Int32), oi cnt, oa b, oi off] [])) _
    exact X3.returnOut hx Bd.returns (hb hby d_jdk_43_method_11_11) hr
  · show QLG Z tt b kb kB cs off cnt N xs h0 n0 _ T3.heap _
    exact ⟨rfl, N3, KI, VI⟩
def QJ (Z : State) (x : Addr) (kk : Nat) (b : Addr) (kB : ClassId) (cs : List Int32) (off : Nat) (cnt : Nat) (N : Nat) (xs : List Int32) (zc : Int32) (fv : Value) (h0 : Heap) (n0 : Nat) (v : Option Value) (h : Heap) (L : List Loc) : Prop := v = none ∧ Fr n0 L ∧ Keep h0 h [b] ∧ Arv Z h b kB .char (Int32.ofNat N) ((own_fl cs cnt off 0 xs).map Value.int) (.int 0)
theorem ef_J (m : MethodId) (x0 : Addr) (x1 : Int32) (x2 : Int32) (x3 : Addr) (x4 : Int32) : entryFrame m #[(.ref x0), (.int x1), (.int x2), (.ref x3), (.int x4)] 5 = mkF m 0 #[.val (.ref x0), .val (.int x1), .val (.int x2), .val (.ref x3), .val (.int x4)] [] := by first | (simp [entryFrame, mkF, argsToLocals, Value.category]; done) | rfl
theorem d_jdk_42_method_61_0 : decode jdk_42_method_61_code 0 = .ok (.iload_n 1, 1) := by decide +kernel
theorem d_jdk_42_method_61_1 : decode jdk_42_method_61_code 1 = .ok (.iload_n 2, 1) := by decide +kernel
theorem d_jdk_42_method_61_2 : decode jdk_42_method_61_code 2 = .ok (.aload_n 0, 1) := by decide +kernel
theorem pd_48321 : parseMethodDescriptor "()I" = some ⟨[], some .int⟩ := by decide +kernel
theorem d_jdk_42_method_61_3 : decode jdk_42_method_61_code 3 = .ok (.invokevirtual 505, 3) := by decide +kernel
theorem pd_32812 : parseMethodDescriptor "(III)V" = some ⟨[.int, .int, .int], none⟩ := by decide +kernel
theorem d_jdk_42_method_61_6 : decode jdk_42_method_61_code 6 = .ok (.invokestatic 521, 3) := by decide +kernel
theorem d_jdk_42_method_61_9 : decode jdk_42_method_61_code 9 = .ok (.iload 4, 2) := by decide +kernel
theorem d_jdk_42_method_61_11 : decode jdk_42_method_61_code 11 = .ok (.iload_n 2, 1) := by decide +kernel
theorem d_jdk_42_method_61_12 : decode jdk_42_method_61_code 12 = .ok (.iload_n 1, 1) := by decide +kernel
theorem d_jdk_42_method_61_13 : decode jdk_42_method_61_code 13 = .ok (.isub, 1) := by decide +kernel
theorem d_jdk_42_method_61_14 : decode jdk_42_method_61_code 14 = .ok (.aload_n 3, 1) := by decide +kernel
theorem d_jdk_42_method_61_15 : decode jdk_42_method_61_code 15 = .ok (.arraylength, 1) := by decide +kernel
theorem pd_32799 : parseMethodDescriptor "(III)I" = some ⟨[.int, .int, .int], some .int⟩ := by decide +kernel
theorem d_jdk_42_method_61_16 : decode jdk_42_method_61_code 16 = .ok (.invokestatic 34, 3) := by decide +kernel
theorem d_jdk_42_method_61_19 : decode jdk_42_method_61_code 19 = .ok (.pop, 1) := by decide +kernel
theorem d_jdk_42_method_61_20 : decode jdk_42_method_61_code 20 = .ok (.aload_n 0, 1) := by decide +kernel
theorem pd_48338 : parseMethodDescriptor "()Z" = some ⟨[], some .boolean⟩ := by decide +kernel
theorem d_jdk_42_method_61_21 : decode jdk_42_method_61_code 21 = .ok (.invokevirtual 492, 3) := by decide +kernel
theorem d_jdk_42_method_61_24 : decode jdk_42_method_61_code 24 = .ok (.ifCond .eq 18, 3) := by decide +kernel
theorem d_jdk_42_method_61_27 : decode jdk_42_method_61_code 27 = .ok (.aload_n 0, 1) := by decide +kernel
theorem d_jdk_42_method_61_28 : decode jdk_42_method_61_code 28 = .ok (.getfield 9, 3) := by decide +kernel
theorem d_jdk_42_method_61_31 : decode jdk_42_method_61_code 31 = .ok (.iload_n 1, 1) := by decide +kernel
theorem d_jdk_42_method_61_32 : decode jdk_42_method_61_code 32 = .ok (.iload_n 2, 1) := by decide +kernel
theorem d_jdk_42_method_61_33 : decode jdk_42_method_61_code 33 = .ok (.aload_n 3, 1) := by decide +kernel
theorem d_jdk_42_method_61_34 : decode jdk_42_method_61_code 34 = .ok (.iload 4, 2) := by decide +kernel
theorem pd_61102 : parseMethodDescriptor "([BII[CI)V" = some ⟨[(.array .byte), .int, .int, (.array .char), .int], none⟩ := by decide +kernel
theorem d_jdk_42_method_61_36 : decode jdk_42_method_61_code 36 = .ok (.invokestatic 525, 3) := by decide +kernel
theorem d_jdk_42_method_61_39 : decode jdk_42_method_61_code 39 = .ok (.goto 15, 3) := by decide +kernel
theorem d_jdk_42_method_61_54 : decode jdk_42_method_61_code 54 = .ok (.return_, 1) := by decide +kernel
set_option maxRecDepth 65536 in
set_option maxHeartbeats 40000000 in
theorem rmJ (l : Launch) (Z : State) (a0 : Array Value) (hw : ∀ d ∈ tables_1, d.before a0 Z = true) (ws : List Jvm.Cond) (x : Addr) (kk : Nat) (b : Addr) (kB : ClassId) (cs : List Int32) (off : Nat) (cnt : Nat) (N : Nat) (xs : List Int32) (zc : Int32) (fv : Value) (h0 : Heap) (n0 : Nat) (Z0 : n0 ≤ h0.size) (hcs : cnt ≤ cs.length) (hof : off + cnt ≤ N) (hN : N ≤ 8) (hc8 : cs.length ≤ 8) (hOK : own_OK cs) (gb : n0 ≤ b) (hxs : xs.length = N) (S : own_Sb Z kk h0 x cs) (hkb : kk ≤ b) (VB : Arv Z h0 b kB .char (Int32.ofNat N) (xs.map Value.int) (.int 0)) (O2 : Sta Z Z.heap "java/lang/String" "COMPACT_STRINGS" "Z" (.int zc)) (hzc : ¬ zc = (0 : Int32)) (O4 : Sta Z Z.heap "jdk/internal/util/Preconditions" "SIOOBE_FORMATTER" "Ljava/util/function/BiFunction;" fv) (rfv : fv.isRef = true) (X00 : Old Z n0 h0) :
    MetFree l (⟨"java/lang/String", "getChars", "(II[CI)V"⟩ : MethodName) (head1 (Jvm.Cond.code (⟨"java/lang/String", "getChars", "(II[CI)V"⟩ : MethodName) jdk_42_method_61_code 5 none :: ws) ({ frames := 2, cells := 0, slots := 0, locals := 33 } : Room)) (fun a_ U_ => a_ = #[(.ref x), (.int (0 : Int32)), (.int (Int32.ofNat cnt)), (.ref b), (.int (Int32.ofNat off))] ∧ Z.Warmed39 U_.vm ∧ U_.heap = h0) (fun _ _ _ _ _ => True) (fun _ U_ o_ E_ => ∃ v_ L_, o_ = .returned v_ ∧ QJ Z x kk b kB cs off cnt N xs zc fv h0 n0 v_ E_.heap L_ ∧ FrameEnd U_ o_ E_ L_ ({ frames := 2, cells := 0, slots := 0, locals := 33 } : Room).cells ({ frames := 2, cells := 0, slots := 0, locals := 33 } : Room).slots) := by
  refine MetFree.of_bodySF (plainFor_of_name pn_String) hisR ?_
  intro p e s m args below meth c s₁ Bd hml0 hP hK
  obtain ⟨rfl, hZ, hh⟩ := hP
  have hx := Bd.exec
  have hby := Bd.bytes
  have hml : c.maxLocals = 5 := hml0
  have hown : s.vm.findClass "java/lang/String" = some m.cls := findClass_of_methodNamed Bd.named
  have hnm := (name_of_methodNamed Bd.named Bd.method).1
  have X0 : Stand p l e ({ frames := 2, cells := 0, slots := 0, locals := 33 } : Room) s m #[(.ref x), (.int (0 : Int32)), (.int (Int32.ofNat cnt)), (.ref b), (.int (Int32.ofNat off))] below meth c s₁ [] 0 0 := Stand.of_body Bd
  have e0 : s₁.heap = h0 := by rw [← hh, Bd.state]; rfl
  have N0 := Fr.nil n0
  have Zn := Z0
  have pre0 : ∀ t, Steps p.tables e below (s₁.setTop (mkF m 0 #[.val (.ref x), .val (.int (0 : Int32)), .val (.int (Int32.ofNat cnt)), .val (.ref b), .val (.int (Int32.ofNat off))] [])) t → Steps p.tables e below (s₁.setTop (entryFrame m #[(.ref x), (.int (0 : Int32)), (.int (Int32.ofNat cnt)), (.ref b), (.int (Int32.ofNat off))] 5)) t := fun t q => castTop (ef_J m x (0 : Int32) (Int32.ofNat cnt) b (Int32.ofNat off)) q
  have k0 : ∀ t, Steps p.tables e below (s₁.setTop (mkF m 0 #[.val (.ref x), .val (.int (0 : Int32)), .val (.int (Int32.ofNat cnt)), .val (.ref b), .val (.int (Int32.ofNat off))] [])) t → Steps p.tables e below (s₁.setTop (mkF m 0 #[.val (.ref x), .val (.int (0 : Int32)), .val (.int (Int32.ofNat cnt)), .val (.ref b), .val (.int (Int32.ofNat off))] [])) t := fun t q => q
  let G_ : State → Prop := fun t => Steps p.tables e below (s₁.setTop (mkF m 0 #[.val (.ref x), .val (.int (0 : Int32)), .val (.int (Int32.ofNat cnt)), .val (.ref b), .val (.int (Int32.ofNat off))] [])) t
  obtain ⟨Ex, Cx, tt, kb, Vx, Ax, lx, lt⟩ := id S
  have nt : tt ≠ b := Nat.ne_of_lt (Nat.lt_of_lt_of_le lt hkb)
  have hwwordsLen : ∀ d ∈ StrChars.Road.wordsLen, d.before a0 Z = true := fun d hd => hw d ((by decide +kernel : ∀ d ∈ StrChars.Road.wordsLen, d ∈ tables_1) d hd)
  have k1_ : ∀ t, Steps p.tables e below (s₁.setTop (mkF m 3 #[oa x, ov (0 : Int32), oi cnt, oa b, oi off] [(.ref x), (.int (Int32.ofNat cnt)), (.int (0 : Int32))])) t → G_ t := by
    intro t q
    refine k0 _ ?_
    show Steps p.tables e below (s₁.setTop (mkF m 0 #[oa x, ov (0 : Int32), oi cnt, oa b, oi off] [])) _
    refine XS.iloadN X0.here hx rfl (hb hby d_jdk_42_method_61_0) rfl ?_
    refine XS.iloadN X0.here hx rfl (hb hby d_jdk_42_method_61_1) rfl ?_
    refine XS.aloadN X0.here hx rfl (hb hby d_jdk_42_method_61_2) rfl rfl ?_
    show Steps p.tables e below (s₁.setTop (mkF m 3 #[oa x, ov (0 : Int32), oi cnt, oa b, oi off] [(.ref x), (.int (Int32.ofNat cnt)), (.int (0 : Int32))])) _
    exact q
  obtain ⟨cq2, kq2, q2a, q2b, q2c⟩ := isOf hZ e0 Ex
  obtain ⟨_, _, ⟨T2, L2, kk2, n2⟩, -, X2, ⟨Lc2, hQ2, l2, y2, z2⟩, st2⟩ := X0.virtualBack hx (y := (⟨"java/lang/String", "length", "()I"⟩ : MethodName)) (z := (⟨"java/lang/String", "length", "()I"⟩ : MethodName)) hown (mvT hZ (hw _ (List.mem_of_getElem? (i := 95) rfl))) (mvT hZ (hw _ (List.mem_of_getElem? (i := 81) rfl))) (notFace_of_selects (args := #[]) (mvT hZ (hw _ (List.mem_of_getElem? (i := 83) rfl)))) (mvT hZ (hw _ (List.mem_of_getElem? (i := 83) rfl))) (mvT hZ (hw _ (List.mem_of_getElem? (i := 82) rfl))) (by decide) (StrChars.Road.lenW (W := 2) hZ hwwordsLen (kI := 4) (hw _ (List.mem_of_getElem? (i := 21) rfl)) Ex Vx Cx Ax (StrChars.Road.codOf rfl (fun c hc => (hOK c hc).2)) (own_bd hOK) (O2.ext X00.2) hzc (Nat.le_trans hc8 (by decide)) (by decide) (by decide)) q2a q2c (g := (mkF m 3 #[oa x, ov (0 : Int32), oi cnt, oa b, oi off] [(.ref x), (.int (Int32.ofNat cnt)), (.int (0 : Int32))])) rfl (by rw [hml]; rfl) (Steps.refl _) (argsL := []) (rest := [(.int (Int32.ofNat cnt)), (.int (0 : Int32))]) (lenOf pd_48321 rfl) rfl (by show 2 * 0 + _ ≤ _; exact Nat.le_of_eq rfl) (hb hby d_jdk_42_method_61_3) (fun _ _ => ⟨rfl, e0, (by decide : 0 + 0 ≤ _), (by decide : 0 + 0 ≤ _)⟩)
  dsimp only [Pt.U, Pt.locs, Pt.cells, Pt.slots] at X2 l2 y2 z2 st2 hQ2
  rw [l2, y2, z2] at X2
  obtain ⟨rfl, rfl, hq2⟩ := hQ2
  have N2 := Fr.app N0 (Fr.nil n0)
  have k3_ : ∀ t, Steps p.tables e below (T2.setTop (mkF m 6 #[oa x, ov (0 : Int32), oi cnt, oa b, oi off] [(.int (Int32.ofNat cs.length)), (.int (Int32.ofNat cnt)), (.int (0 : Int32))])) t → G_ t := fun t q => k1_ t (st2.trans q)
  obtain ⟨_, _, ⟨T4, L4, kk4, n4⟩, -, X4, ⟨Lc4, hQ4, l4, y4, z4⟩, st4⟩ := Jvm.LawKit.callS X2 hx (y := (⟨"java/lang/String", "checkBoundsBeginEnd", "(III)V"⟩ : MethodName)) hown (mvT hZ (hw _ (List.mem_of_getElem? (i := 96) rfl))) (mvT hZ (hw _ (List.mem_of_getElem? (i := 97) rfl))) (mvT hZ (hw _ (List.mem_of_getElem? (i := 22) rfl))) (mvT hZ (hw _ (List.mem_of_getElem? (i := 98) rfl))) (by decide) (backOf (W := 0) (rmBB l Z a0 hw [] 0 cnt cs.length fv h0 n0 Zn (Nat.zero_le _) hcs (by omega) O4 rfv X00) hZ (hw _ (List.mem_of_getElem? (i := 98) rfl)) (hw _ (List.mem_of_getElem? (i := 22) rfl)) (by decide) (by decide)) (g := (mkF m 6 #[oa x, ov (0 : Int32), oi cnt, oa b, oi off] [(.int (Int32.ofNat cs.length)), (.int (Int32.ofNat cnt)), (.int (0 : Int32))])) rfl (by rw [hml]; rfl) (argsL := [(.int (0 : Int32)), (.int (Int32.ofNat cnt)), (.int (Int32.ofNat cs.length))]) (rest := []) (lenOf pd_32812 rfl) rfl (by show 2 * 0 + _ ≤ _; exact Nat.le_of_eq rfl) (hb hby d_jdk_42_method_61_6) (fun _ _ => ⟨rfl, hq2, (by decide : 0 + 0 + 0 ≤ _), (by decide : 0 + 0 + 0 ≤ _)⟩)
  dsimp only [Pt.U, Pt.locs, Pt.cells, Pt.slots] at X4 l4 y4 z4 st4 hQ4
  rw [l4, y4, z4] at X4
  obtain ⟨rfl, Nq4, hq4⟩ := hQ4
  have N4 := Fr.app N2 Nq4
  have k5_ : ∀ t, Steps p.tables e below (T4.setTop (mkF m 9 #[oa x, ov (0 : Int32), oi cnt, oa b, oi off] [])) t → G_ t := fun t q => k3_ t (st4 t q)
  have k6_ : ∀ t, Steps p.tables e below (T4.setTop (mkF m 14 #[oa x, ov (0 : Int32), oi cnt, oa b, oi off] [(.int ((Int32.ofNat cnt) - (0 : Int32))), (.int (Int32.ofNat off))])) t → G_ t := by
    intro t q
    refine k5_ _ ?_
    show Steps p.tables e below (T4.setTop (mkF m 9 #[oa x, ov (0 : Int32), oi cnt, oa b, oi off] [])) _
    refine XS.iload X4.here hx rfl (hb hby d_jdk_42_method_61_9) rfl ?_
    refine XS.iloadN X4.here hx rfl (hb hby d_jdk_42_method_61_11) rfl ?_
    refine XS.iloadN X4.here hx rfl (hb hby d_jdk_42_method_61_12) rfl ?_
    refine XS.isub X4.here hx rfl (hb hby d_jdk_42_method_61_13) rfl ?_
    show Steps p.tables e below (T4.setTop (mkF m 14 #[oa x, ov (0 : Int32), oi cnt, oa b, oi off] [(.int ((Int32.ofNat cnt) - (0 : Int32))), (.int (Int32.ofNat off))])) _
    exact q
  have k7_ : ∀ t, Steps p.tables e below (T4.setTop (mkF m 14 #[oa x, ov (0 : Int32), oi cnt, oa b, oi off] [(.int (Int32.ofNat cnt)), (.int (Int32.ofNat off))])) t → G_ t := fun t q => k6_ t (Eq.mp (congrArg (fun z => Steps p.tables e below (T4.setTop (mkF m 14 #[oa x, ov (0 : Int32), oi cnt, oa b, oi off] [(.int z), (.int (Int32.ofNat off))])) t) (show (Int32.ofNat cnt) = ((Int32.ofNat cnt) - (0 : Int32)) from (own_s0 _))) q)
  obtain ⟨cl8, Ar8, q8, S8, M8, H8, G8⟩ := id VB
  have k9_ : ∀ t, Steps p.tables e below (T4.setTop (mkF m 16 #[oa x, ov (0 : Int32), oi cnt, oa b, oi off] [(.int (Int32.ofNat N)), (.int (Int32.ofNat cnt)), (.int (Int32.ofNat off))])) t → G_ t := by
    intro t q
    refine k7_ _ ?_
    show Steps p.tables e below (T4.setTop (mkF m 14 #[oa x, ov (0 : Int32), oi cnt, oa b, oi off] [(.int (Int32.ofNat cnt)), (.int (Int32.ofNat off))])) _
    refine XS.aloadN X4.here hx rfl (hb hby d_jdk_42_method_61_14) rfl rfl ?_
    show Steps p.tables e below (T4.setTop (mkF m 15 #[oa x, ov (0 : Int32), oi cnt, oa b, oi off] [(.ref b), (.int (Int32.ofNat cnt)), (.int (Int32.ofNat off))])) _
    refine X4.arraylength hx (by rw [hq4]; exact Ar8.1) (State.isArrayOf_alike hZ.alike Ar8.2.1) (g := (mkF m 15 #[oa x, ov (0 : Int32), oi cnt, oa b, oi off] [(.ref b), (.int (Int32.ofNat cnt)), (.int (Int32.ofNat off))])) rfl rfl (hb hby d_jdk_42_method_61_15) _ ?_
    rw [len_of S8 M8]
    show Steps p.tables e below (T4.setTop (mkF m 16 #[oa x, ov (0 : Int32), oi cnt, oa b, oi off] [(.int (Int32.ofNat N)), (.int (Int32.ofNat cnt)), (.int (Int32.ofNat off))])) _
    exact q
  obtain ⟨_, _, ⟨T10, L10, kk10, n10⟩, -, X10, ⟨Lc10, hQ10, l10, y10, z10⟩, st10⟩ := Jvm.LawKit.callS X4 hx (y := (⟨"java/lang/String", "checkBoundsOffCount", "(III)I"⟩ : MethodName)) hown (mvT hZ (hw _ (List.mem_of_getElem? (i := 104) rfl))) (mvT hZ (hw _ (List.mem_of_getElem? (i := 105) rfl))) (mvT hZ (hw _ (List.mem_of_getElem? (i := 22) rfl))) (mvT hZ (hw _ (List.mem_of_getElem? (i := 106) rfl))) (by decide) (backOf (W := 0) (rmBO l Z a0 hw [] off cnt N fv h0 n0 Zn hof (by omega) O4 rfv X00) hZ (hw _ (List.mem_of_getElem? (i := 106) rfl)) (hw _ (List.mem_of_getElem? (i := 22) rfl)) (by decide) (by decide)) (g := (mkF m 16 #[oa x, ov (0 : Int32), oi cnt, oa b, oi off] [(.int (Int32.ofNat N)), (.int (Int32.ofNat cnt)), (.int (Int32.ofNat off))])) rfl (by rw [hml]; rfl) (argsL := [(.int (Int32.ofNat off)), (.int (Int32.ofNat cnt)), (.int (Int32.ofNat N))]) (rest := []) (lenOf pd_32799 rfl) rfl (by show 2 * 0 + _ ≤ _; exact Nat.le_of_eq rfl) (hb hby d_jdk_42_method_61_16) (fun _ _ => ⟨rfl, hq4, (by decide : 0 + 0 + 0 + 0 ≤ _), (by decide : 0 + 0 + 0 + 0 ≤ _)⟩)
  dsimp only [Pt.U, Pt.locs, Pt.cells, Pt.slots] at X10 l10 y10 z10 st10 hQ10
  rw [l10, y10, z10] at X10
  obtain ⟨rfl, Nq10, hq10⟩ := hQ10
  have N10 := Fr.app N4 Nq10
  have k11_ : ∀ t, Steps p.tables e below (T10.setTop (mkF m 19 #[oa x, ov (0 : Int32), oi cnt, oa b, oi off] [(.int (Int32.ofNat off))])) t → G_ t := fun t q => k9_ t (st10 t q)
  have k12_ : ∀ t, Steps p.tables e below (T10.setTop (mkF m 21 #[oa x, ov (0 : Int32), oi cnt, oa b, oi off] [(.ref x)])) t → G_ t := by
    intro t q
    refine k11_ _ ?_
    show Steps p.tables e below (T10.setTop (mkF m 19 #[oa x, ov (0 : Int32), oi cnt, oa b, oi off] [(.int (Int32.ofNat off))])) _
    refine XT.pop X10.here hx rfl (hb hby d_jdk_42_method_61_19) rfl rfl ?_
    refine XS.aloadN X10.here hx rfl (hb hby d_jdk_42_method_61_20) rfl rfl ?_
    show Steps p.tables e below (T10.setTop (mkF m 21 #[oa x, ov (0 : Int32), oi cnt, oa b, oi off] [(.ref x)])) _
    exact q
  obtain ⟨cq13, kq13, q13a, q13b, q13c⟩ := isOf hZ hq10 Ex
  obtain ⟨_, _, ⟨T13, L13, kk13, n13⟩, -, X13, ⟨Lc13, hQ13, l13, y13, z13⟩, st13⟩ := X10.virtualBack hx (y := (⟨"java/lang/String", "isLatin1", "()Z"⟩ : MethodName)) (z := (⟨"java/lang/String", "isLatin1", "()Z"⟩ : MethodName)) hown (mvT hZ (hw _ (List.mem_of_getElem? (i := 110) rfl))) (mvT hZ (hw _ (List.mem_of_getElem? (i := 111) rfl))) (notFace_of_selects (args := #[]) (mvT hZ (hw _ (List.mem_of_getElem? (i := 113) rfl)))) (mvT hZ (hw _ (List.mem_of_getElem? (i := 113) rfl))) (mvT hZ (hw _ (List.mem_of_getElem? (i := 112) rfl))) (by decide) (backOf (W := 0) (rmIL l Z a0 hw [] x zc h0 n0 Zn Cx O2 hzc X00) hZ (hw _ (List.mem_of_getElem? (i := 114) rfl)) (hw _ (List.mem_of_getElem? (i := 22) rfl)) (by decide) (by decide)) q13a q13c (g := (mkF m 21 #[oa x, ov (0 : Int32), oi cnt, oa b, oi off] [(.ref x)])) rfl (by rw [hml]; rfl) (Steps.refl _) (argsL := []) (rest := []) (lenOf pd_48338 rfl) rfl (by show 2 * 0 + _ ≤ _; exact Nat.le_of_eq rfl) (hb hby d_jdk_42_method_61_21) (fun _ _ => ⟨rfl, hq10, (by decide : 0 + 0 + 0 + 0 + 0 ≤ _), (by decide : 0 + 0 + 0 + 0 + 0 ≤ _)⟩)
  dsimp only [Pt.U, Pt.locs, Pt.cells, Pt.slots] at X13 l13 y13 z13 st13 hQ13
  rw [l13, y13, z13] at X13
  obtain ⟨rfl, Nq13, hq13⟩ := hQ13
  have N13 := Fr.app N10 Nq13
  have k14_ : ∀ t, Steps p.tables e below (T13.setTop (mkF m 24 #[oa x, ov (0 : Int32), oi cnt, oa b, oi off] [(.int (1 : Int32))])) t → G_ t := fun t q => k12_ t (st13.trans q)
  have k15_ : ∀ t, Steps p.tables e below (T13.setTop (mkF m 27 #[oa x, ov (0 : Int32), oi cnt, oa b, oi off] [])) t → G_ t := by
    intro t q
    refine k14_ _ ?_
    show Steps p.tables e below (T13.setTop (mkF m 24 #[oa x, ov (0 : Int32), oi cnt, oa b, oi off] [(.int (1 : Int32))])) _
    refine XS.ifNo X13.here hx rfl (hb hby d_jdk_42_method_61_24) rfl ((if0 _ _).trans (feq (by decide)).1) ?_
    show Steps p.tables e below (T13.setTop (mkF m 27 #[oa x, ov (0 : Int32), oi cnt, oa b, oi off] [])) _
    exact q
  have k16_ : ∀ t, Steps p.tables e below (T13.setTop (mkF m 28 #[oa x, ov (0 : Int32), oi cnt, oa b, oi off] [(.ref x)])) t → G_ t := by
    intro t q
    refine k15_ _ ?_
    show Steps p.tables e below (T13.setTop (mkF m 27 #[oa x, ov (0 : Int32), oi cnt, oa b, oi off] [])) _
    refine XS.aloadN X13.here hx rfl (hb hby d_jdk_42_method_61_27) rfl rfl ?_
    show Steps p.tables e below (T13.setTop (mkF m 28 #[oa x, ov (0 : Int32), oi cnt, oa b, oi off] [(.ref x)])) _
    exact q
  obtain ⟨T17, X17, e17, st17⟩ := getF X13 hx hZ hown (host := "") (Or.inl (hw _ (List.mem_of_getElem? (i := 47) rfl))) Via.refl hq13 Vx (g := (mkF m 28 #[oa x, ov (0 : Int32), oi cnt, oa b, oi off] [(.ref x)])) rfl rfl (hb hby d_jdk_42_method_61_28)
  have k18_ : ∀ t, Steps p.tables e below (T17.setTop (mkF m 31 #[oa x, ov (0 : Int32), oi cnt, oa b, oi off] [(.ref tt)])) t → G_ t := fun t q => k16_ t (st17 t q)
  have k19_ : ∀ t, Steps p.tables e below (T17.setTop (mkF m 36 #[oa x, ov (0 : Int32), oi cnt, oa b, oi off] [(.int (Int32.ofNat off)), (.ref b), (.int (Int32.ofNat cnt)), (.int (0 : Int32)), (.ref tt)])) t → G_ t := by
    intro t q
    refine k18_ _ ?_
    show Steps p.tables e below (T17.setTop (mkF m 31 #[oa x, ov (0 : Int32), oi cnt, oa b, oi off] [(.ref tt)])) _
    refine XS.iloadN X17.here hx rfl (hb hby d_jdk_42_method_61_31) rfl ?_
    refine XS.iloadN X17.here hx rfl (hb hby d_jdk_42_method_61_32) rfl ?_
    refine XS.aloadN X17.here hx rfl (hb hby d_jdk_42_method_61_33) rfl rfl ?_
    refine XS.iload X17.here hx rfl (hb hby d_jdk_42_method_61_34) rfl ?_
    show Steps p.tables e below (T17.setTop (mkF m 36 #[oa x, ov (0 : Int32), oi cnt, oa b, oi off] [(.int (Int32.ofNat off)), (.ref b), (.int (Int32.ofNat cnt)), (.int (0 : Int32)), (.ref tt)])) _
    exact q
  obtain ⟨_, _, ⟨T20, L20, kk20, n20⟩, -, X20, ⟨Lc20, hQ20, l20, y20, z20⟩, st20⟩ := Jvm.LawKit.callS X17 hx (y := (⟨"java/lang/StringLatin1", "getChars", "([BII[CI)V"⟩ : MethodName)) hown (mvT hZ (hw _ (List.mem_of_getElem? (i := 115) rfl))) (mvT hZ (hw _ (List.mem_of_getElem? (i := 116) rfl))) (mvT hZ (hw _ (List.mem_of_getElem? (i := 117) rfl))) (mvT hZ (hw _ (List.mem_of_getElem? (i := 118) rfl))) (by decide) (backOf (W := 0) (rmLG l Z a0 hw [] tt b kb kB cs off cnt N xs h0 n0 Zn hcs hof hN hc8 hOK gb hxs nt Ax VB) hZ (hw _ (List.mem_of_getElem? (i := 118) rfl)) (hw _ (List.mem_of_getElem? (i := 117) rfl)) (by decide) (by decide)) (g := (mkF m 36 #[oa x, ov (0 : Int32), oi cnt, oa b, oi off] [(.int (Int32.ofNat off)), (.ref b), (.int (Int32.ofNat cnt)), (.int (0 : Int32)), (.ref tt)])) rfl (by rw [hml]; rfl) (argsL := [(.ref tt), (.int (0 : Int32)), (.int (Int32.ofNat cnt)), (.ref b), (.int (Int32.ofNat off))]) (rest := []) (lenOf pd_61102 rfl) rfl (by show 2 * 0 + _ ≤ _; exact Nat.le_of_eq rfl) (hb hby d_jdk_42_method_61_36) (fun _ _ => ⟨rfl, e17, (by decide : 0 + 0 + 0 + 0 + 0 + 0 ≤ _), (by decide : 0 + 0 + 0 + 0 + 0 + 0 ≤ _)⟩)
  dsimp only [Pt.U, Pt.locs, Pt.cells, Pt.slots] at X20 l20 y20 z20 st20 hQ20
  rw [l20, y20, z20] at X20
  obtain ⟨rfl, Nq20, KI, VI⟩ := hQ20
  have N20 := Fr.app N13 Nq20
  have k21_ : ∀ t, Steps p.tables e below (T20.setTop (mkF m 39 #[oa x, ov (0 : Int32), oi cnt, oa b, oi off] [])) t → G_ t := fun t q => k19_ t (st20 t q)
  have k22_ : ∀ t, Steps p.tables e below (T20.setTop (mkF m 54 #[oa x, ov (0 : Int32), oi cnt, oa b, oi off] [])) t → G_ t := by
    intro t q
    refine k21_ _ ?_
    show Steps p.tables e below (T20.setTop (mkF m 39 #[oa x, ov (0 : Int32), oi cnt, oa b, oi off] [])) _
    refine XS.goto X20.here hx rfl (pc0 := 39) (pc' := 54) rfl (hb hby d_jdk_42_method_61_39) (by decide) (by decide) ?_
    show Steps p.tables e below (T20.setTop (mkF m 54 #[oa x, ov (0 : Int32), oi cnt, oa b, oi off] [])) _
    exact q
  obtain ⟨fs, hr, hrun, hended, hW, hsame⟩ := X20.leave (v := none) (fun _ => rfl)
  refine ⟨_, _, pre0 _ (k22_ _ ?_), hrun, hended, _, _, rfl, ?_, ⟨_, rfl⟩, hW, hsame.mono (by decide) (by decide)⟩
  · show Steps p.tables e below (T20.setTop (mkF m 54 #[oa x, ov (0 : Int32), oi cnt, oa b, oi off] [])) _
    exact X20.returnOut hx Bd.returns (hb hby d_jdk_42_method_61_54) hr
  · show QJ Z x kk b kB cs off cnt N xs zc fv h0 n0 _ T20.heap _
    exact ⟨rfl, N20, KI, VI⟩
def QV (Z : State) (x : Addr) (b : Addr) (h0 : Heap) (n0 : Nat) (v : Option Value) (h : Heap) (L : List Loc) : Prop := v = none ∧ Fr n0 L ∧ Keep h0 h [x] ∧ own_Sb Z h.size h x []
theorem ef_V (m : MethodId) (x0 : Addr) (x1 : Addr) (x2 : Int32) (x3 : Int32) : entryFrame m #[(.ref x0), (.ref x1), (.int x2), (.int x3), .null] 6 = mkF m 0 #[.val (.ref x0), .val (.ref x1), .val (.int x2), .val (.int x3), .val .null, .unset] [] := by first | (simp [entryFrame, mkF, argsToLocals, Value.category]; done) | rfl
theorem d_jdk_42_method_149_0 : decode jdk_42_method_149_code 0 = .ok (.aload_n 0, 1) := by decide +kernel
theorem d_jdk_42_method_149_1 : decode jdk_42_method_149_code 1 = .ok (.invokespecial 1, 3) := by decide +kernel
theorem d_jdk_42_method_149_4 : decode jdk_42_method_149_code 4 = .ok (.iload_n 3, 1) := by decide +kernel
theorem d_jdk_42_method_149_5 : decode jdk_42_method_149_code 5 = .ok (.ifCond .ne 22, 3) := by decide +kernel
theorem d_jdk_42_method_149_8 : decode jdk_42_method_149_code 8 = .ok (.aload_n 0, 1) := by decide +kernel
theorem d_jdk_42_method_149_9 : decode jdk_42_method_149_code 9 = .ok (.ldc 7, 2) := by decide +kernel
theorem d_jdk_42_method_149_11 : decode jdk_42_method_149_code 11 = .ok (.getfield 9, 3) := by decide +kernel
theorem d_jdk_42_method_149_14 : decode jdk_42_method_149_code 14 = .ok (.putfield 9, 3) := by decide +kernel
theorem d_jdk_42_method_149_17 : decode jdk_42_method_149_code 17 = .ok (.aload_n 0, 1) := by decide +kernel
theorem d_jdk_42_method_149_18 : decode jdk_42_method_149_code 18 = .ok (.ldc 7, 2) := by decide +kernel
theorem d_jdk_42_method_149_20 : decode jdk_42_method_149_code 20 = .ok (.getfield 15, 3) := by decide +kernel
theorem d_jdk_42_method_149_23 : decode jdk_42_method_149_code 23 = .ok (.putfield 15, 3) := by decide +kernel
theorem d_jdk_42_method_149_26 : decode jdk_42_method_149_code 26 = .ok (.return_, 1) := by decide +kernel
set_option maxRecDepth 65536 in
set_option maxHeartbeats 40000000 in
theorem rmV (l : Launch) (Z : State) (a0 : Array Value) (hw : ∀ d ∈ tables_1, d.before a0 Z = true) (ws : List Jvm.Cond) (x : Addr) (b : Addr) (h0 : Heap) (n0 : Nat) (Z0 : n0 ≤ h0.size) (E : Exa Z h0 x "java/lang/String") (V : Fld Z h0 x "java/lang/String" "value" "[B" .null) (Co : Fld Z h0 x "java/lang/String" "coder" "B" (.int (0 : Int32))) (gx : n0 ≤ x) (wS : ∀ a ∈ Bundle.stringAtoms, a.before a0 Z = true) (hEL : EW Z a0 own_EL) :
    MetFree l (⟨"java/lang/String", "<init>", "([CIILjava/lang/Void;)V"⟩ : MethodName) (head1 (Jvm.Cond.code (⟨"java/lang/String", "<init>", "([CIILjava/lang/Void;)V"⟩ : MethodName) jdk_42_method_149_code 6 none :: ws) ({ frames := 1, cells := 2, slots := 4, locals := 12 } : Room)) (fun a_ U_ => a_ = #[(.ref x), (.ref b), (.int (0 : Int32)), (.int (0 : Int32)), .null] ∧ Z.Warmed39 U_.vm ∧ U_.heap = h0 ∧ CHv Z own_EL U_.vm h0) (fun _ _ _ _ _ => True) (fun _ U_ o_ E_ => ∃ v_ L_, o_ = .returned v_ ∧ QV Z x b h0 n0 v_ E_.heap L_ ∧ CHr Z own_EL U_.vm U_.heap E_.vm E_.heap ∧ ReturnedEndW U_ o_ E_ L_ ({ frames := 1, cells := 2, slots := 4, locals := 12 } : Room).cells ({ frames := 1, cells := 2, slots := 4, locals := 12 } : Room).slots) := by
  refine MetFree.of_bodySF (plainFor_of_name pn_String) hisR ?_
  intro p e s m args below meth c s₁ Bd hml0 hP hK
  obtain ⟨rfl, hZ, hh, hCH0⟩ := hP
  have hx := Bd.exec
  have hby := Bd.bytes
  have hml : c.maxLocals = 6 := hml0
  have hown : (s.setVm s.vm).vm.findClass "java/lang/String" = some m.cls := findClass_of_methodNamed Bd.named
  have hnm := (name_of_methodNamed Bd.named Bd.method).1
  replace hZ : Z.Warmed39 (s.setVm s.vm).vm := hZ
  have X0 : Stand p l e ({ frames := 1, cells := 2, slots := 4, locals := 12 } : Room) (s.setVm s.vm) m #[(.ref x), (.ref b), (.int (0 : Int32)), (.int (0 : Int32)), .null] below meth c s₁ [] 0 0 := Stand.of_body Bd
  have e0 : s₁.heap = h0 := by rw [← hh, Bd.state]; rfl
  have N0 := Fr.nil n0
  have Zn := Z0
  have hS : s.Since s.vm s.heap.size := (State.WarmedH.refl s).since _
  have hk : s.heap.size ≤ h0.size := by rw [hh]; exact Nat.le_refl _
  have hCH : CHr Z own_EL s.vm h0 s.vm h0 := CHr.refl hCH0
  have pre0 : ∀ t, Steps p.tables e below (s₁.setTop (mkF m 0 #[.val (.ref x), .val (.ref b), .val (.int (0 : Int32)), .val (.int (0 : Int32)), .val .null, .unset] [])) t → Steps p.tables e below (s₁.setTop (entryFrame m #[(.ref x), (.ref b), (.int (0 : Int32)), (.int (0 : Int32)), .null] 6)) t := fun t q => castTop (ef_V m x b (0 : Int32) (0 : Int32)) q
  have k0 : ∀ t, Steps p.tables e below (s₁.setTop (mkF m 0 #[.val (.ref x), .val (.ref b), .val (.int (0 : Int32)), .val (.int (0 : Int32)), .val .null, .unset] [])) t → Steps p.tables e below (s₁.setTop (mkF m 0 #[.val (.ref x), .val (.ref b), .val (.int (0 : Int32)), .val (.int (0 : Int32)), .val .null, .unset] [])) t := fun t q => q
  let G_ : State → Prop := fun t => Steps p.tables e below (s₁.setTop (mkF m 0 #[.val (.ref x), .val (.ref b), .val (.int (0 : Int32)), .val (.int (0 : Int32)), .val .null, .unset] [])) t
  have SX : Safe Z own_EL s.vm h0 x := own_safe hZ.alike E V
  have lx := E.lt
  have KP := Keep.refl h0 [x]
  have k1_ : ∀ t, Steps p.tables e below (s₁.setTop (mkF m 1 #[oa x, oa b, ov (0 : Int32), ov (0 : Int32), .val .null, .unset] [(.ref x)])) t → G_ t := by
    intro t q
    refine k0 _ ?_
    show Steps p.tables e below (s₁.setTop (mkF m 0 #[oa x, oa b, ov (0 : Int32), ov (0 : Int32), .val .null, .unset] [])) _
    refine XS.aloadN X0.here hx rfl (hb hby d_jdk_42_method_149_0) rfl rfl ?_
    show Steps p.tables e below (s₁.setTop (mkF m 1 #[oa x, oa b, ov (0 : Int32), ov (0 : Int32), .val .null, .unset] [(.ref x)])) _
    exact q
  obtain ⟨T2, X2, e2, st2⟩ := initO X0 hx hZ hown (hw _ (List.mem_of_getElem? (i := 30) rfl)) (hw _ (List.mem_of_getElem? (i := 31) rfl)) (hw _ (List.mem_of_getElem? (i := 32) rfl)) e0 (g := (mkF m 1 #[oa x, oa b, ov (0 : Int32), ov (0 : Int32), .val .null, .unset] [(.ref x)])) rfl (by rw [hml]; rfl) rfl (hb hby d_jdk_42_method_149_1) (by decide) (W := 0) (by show 2 * 0 + _ ≤ _; exact Nat.le_of_eq rfl) (by decide)
  have k3_ : ∀ t, Steps p.tables e below (T2.setTop (mkF m 4 #[oa x, oa b, ov (0 : Int32), ov (0 : Int32), .val .null, .unset] [])) t → G_ t := fun t q => k1_ t (st2 t q)
  have k4_ : ∀ t, Steps p.tables e below (T2.setTop (mkF m 5 #[oa x, oa b, ov (0 : Int32), ov (0 : Int32), .val .null, .unset] [(.int (0 : Int32))])) t → G_ t := by
    intro t q
    refine k3_ _ ?_
    show Steps p.tables e below (T2.setTop (mkF m 4 #[oa x, oa b, ov (0 : Int32), ov (0 : Int32), .val .null, .unset] [])) _
    refine XS.iloadN X2.here hx rfl (hb hby d_jdk_42_method_149_4) rfl ?_
    show Steps p.tables e below (T2.setTop (mkF m 5 #[oa x, oa b, ov (0 : Int32), ov (0 : Int32), .val .null, .unset] [(.int (0 : Int32))])) _
    exact q
  have k5_ : ∀ t, Steps p.tables e below (T2.setTop (mkF m 8 #[oa x, oa b, ov (0 : Int32), ov (0 : Int32), .val .null, .unset] [])) t → G_ t := by
    intro t q
    refine k4_ _ ?_
    show Steps p.tables e below (T2.setTop (mkF m 5 #[oa x, oa b, ov (0 : Int32), ov (0 : Int32), .val .null, .unset] [(.int (0 : Int32))])) _
    refine XS.ifNo X2.here hx rfl (hb hby d_jdk_42_method_149_5) rfl ((if0 _ _).trans (teq rfl).2) ?_
    show Steps p.tables e below (T2.setTop (mkF m 8 #[oa x, oa b, ov (0 : Int32), ov (0 : Int32), .val .null, .unset] [])) _
    exact q
  have k6_ : ∀ t, Steps p.tables e below (T2.setTop (mkF m 9 #[oa x, oa b, ov (0 : Int32), ov (0 : Int32), .val .null, .unset] [(.ref x)])) t → G_ t := by
    intro t q
    refine k5_ _ ?_
    show Steps p.tables e below (T2.setTop (mkF m 8 #[oa x, oa b, ov (0 : Int32), ov (0 : Int32), .val .null, .unset] [])) _
    refine XS.aloadN X2.here hx rfl (hb hby d_jdk_42_method_149_8) rfl rfl ?_
    show Steps p.tables e below (T2.setTop (mkF m 9 #[oa x, oa b, ov (0 : Int32), ov (0 : Int32), .val .null, .unset] [(.ref x)])) _
    exact q
  obtain ⟨a_em, T7, h7, kk7, b_em, kc_em, X7, e7, E7, hS7, hk7, hZ7, hown7, EA_em, FC_em, FV_em, VB_em, -, -, hc7, LT_em, SF_em, st7⟩ := ldcCH (s := s) (vm0 := s.vm) (EL := own_EL) X2 hx hZ hown (hw _ (List.mem_of_getElem? (i := 49) rfl)) wS e2 hS hk hEL (List.mem_of_getElem? (i := 0) rfl) hCH.1 (vs := []) (z := (0 : Int32)) ⟨by decide, by decide⟩ (by decide) rfl (g := (mkF m 9 #[oa x, oa b, ov (0 : Int32), ov (0 : Int32), .val .null, .unset] [(.ref x)])) rfl (hb hby d_jdk_42_method_149_9) (n := 0) (by decide) (by decide) (by decide) (by decide)
  replace hS := hS7
  replace hZ := hZ7
  replace hown := hown7
  replace hCH := hCH.trans hc7
  replace Zn := Nat.le_trans Zn E7.1
  replace hk := hk7
  replace E := E.ext E7
  replace V := V.ext E7
  replace Co := Co.ext E7
  have k8_ : ∀ t, Steps p.tables e below (T7.setTop (mkF m 11 #[oa x, oa b, ov (0 : Int32), ov (0 : Int32), .val .null, .unset] [(.ref a_em), (.ref x)])) t → G_ t := fun t q => k6_ t (st7 t q)
  replace SX := hc7.safe lx SX
  replace KP := KP.ext E7
  obtain ⟨nx1, nx2⟩ := SF_em x SX
  obtain ⟨T9, X9, e9, st9⟩ := getF X7 hx hZ hown (host := "") (Or.inl (hw _ (List.mem_of_getElem? (i := 47) rfl))) Via.refl e7 FV_em (g := (mkF m 11 #[oa x, oa b, ov (0 : Int32), ov (0 : Int32), .val .null, .unset] [(.ref a_em), (.ref x)])) rfl rfl (hb hby d_jdk_42_method_149_11)
  have k10_ : ∀ t, Steps p.tables e below (T9.setTop (mkF m 14 #[oa x, oa b, ov (0 : Int32), ov (0 : Int32), .val .null, .unset] [(.ref b_em), (.ref x)])) t → G_ t := fun t q => k8_ t (st9 t q)
  obtain ⟨T11, h11, X11, e11, W11, st11⟩ := putF X9 hx hZ hown (host := "") (Or.inl (hw _ (List.mem_of_getElem? (i := 47) rfl))) Via.refl e9 V E (Or.inr ⟨(hw _ (List.mem_of_getElem? (i := 48) rfl)), rfl, hnm⟩) (hw _ (List.mem_of_getElem? (i := 21) rfl)) (ty := (.array .byte)) (by decide) rfl rfl (g := (mkF m 14 #[oa x, oa b, ov (0 : Int32), ov (0 : Int32), .val .null, .unset] [(.ref b_em), (.ref x)])) rfl rfl (hb hby d_jdk_42_method_149_14)
  have k12_ : ∀ t, Steps p.tables e below (T11.setTop (mkF m 17 #[oa x, oa b, ov (0 : Int32), ov (0 : Int32), .val .null, .unset] [])) t → G_ t := fun t q => k10_ t (st11 t q)
  have N11 := Fr.snoc X11 N0 gx
  replace Zn := Nat.le_trans Zn (Keep.of_wr W11).1
  replace hk := Nat.le_trans hk (Keep.of_wr W11).1
  replace E := E.wr W11
  replace Co := Co.other W11 (Or.inr (slot_ne (Or.inr (hw _ (List.mem_of_getElem? (i := 46) rfl))) (Or.inr (hw _ (List.mem_of_getElem? (i := 48) rfl))) (by decide) (t := .byte) (t' := (.array .byte)) (by decide) (by decide)))
  replace EA_em := EA_em.wr W11
  replace FC_em := FC_em.other W11 (Or.inl (Ne.symm nx1))
  replace FV_em := FV_em.other W11 (Or.inl (Ne.symm nx1))
  replace VB_em := VB_em.other W11 (Ne.symm nx2)
  replace V := V.same W11
  replace KP := KP.wr W11 (Or.inl (List.mem_of_getElem? (i := 0) rfl))
  have SX' := Safe.wr W11 SX hCH.1 SX
  replace hCH := hCH.trans (CHr.wr W11 SX hCH.1)
  replace SX := SX'
  have k13_ : ∀ t, Steps p.tables e below (T11.setTop (mkF m 18 #[oa x, oa b, ov (0 : Int32), ov (0 : Int32), .val .null, .unset] [(.ref x)])) t → G_ t := by
    intro t q
    refine k12_ _ ?_
    show Steps p.tables e below (T11.setTop (mkF m 17 #[oa x, oa b, ov (0 : Int32), ov (0 : Int32), .val .null, .unset] [])) _
    refine XS.aloadN X11.here hx rfl (hb hby d_jdk_42_method_149_17) rfl rfl ?_
    show Steps p.tables e below (T11.setTop (mkF m 18 #[oa x, oa b, ov (0 : Int32), ov (0 : Int32), .val .null, .unset] [(.ref x)])) _
    exact q
  have k14_ : ∀ t, Steps p.tables e below (T11.setTop (mkF m 20 #[oa x, oa b, ov (0 : Int32), ov (0 : Int32), .val .null, .unset] [(.ref a_em), (.ref x)])) t → G_ t := fun t q => k13_ t (ldcAgain (s := s) (vm0 := T7.vm) X11 hx hZ hown (hw _ (List.mem_of_getElem? (i := 49) rfl)) LT_em (g := (mkF m 18 #[oa x, oa b, ov (0 : Int32), ov (0 : Int32), .val .null, .unset] [(.ref x)])) rfl (hb hby d_jdk_42_method_149_18) t q)
  obtain ⟨T15, X15, e15, st15⟩ := getF X11 hx hZ hown (host := "") (Or.inl (hw _ (List.mem_of_getElem? (i := 45) rfl))) Via.refl e11 FC_em (g := (mkF m 20 #[oa x, oa b, ov (0 : Int32), ov (0 : Int32), .val .null, .unset] [(.ref a_em), (.ref x)])) rfl rfl (hb hby d_jdk_42_method_149_20)
  have k16_ : ∀ t, Steps p.tables e below (T15.setTop (mkF m 23 #[oa x, oa b, ov (0 : Int32), ov (0 : Int32), .val .null, .unset] [(.int (0 : Int32)), (.ref x)])) t → G_ t := fun t q => k14_ t (st15 t q)
  obtain ⟨T17, h17, X17, e17, W17, st17⟩ := putF X15 hx hZ hown (host := "") (Or.inl (hw _ (List.mem_of_getElem? (i := 45) rfl))) Via.refl e15 Co E (Or.inr ⟨(hw _ (List.mem_of_getElem? (i := 46) rfl)), rfl, hnm⟩) (hw _ (List.mem_of_getElem? (i := 21) rfl)) (ty := .byte) (by decide) rfl rfl (g := (mkF m 23 #[oa x, oa b, ov (0 : Int32), ov (0 : Int32), .val .null, .unset] [(.int (0 : Int32)), (.ref x)])) rfl rfl (hb hby d_jdk_42_method_149_23)
  have k18_ : ∀ t, Steps p.tables e below (T17.setTop (mkF m 26 #[oa x, oa b, ov (0 : Int32), ov (0 : Int32), .val .null, .unset] [])) t → G_ t := fun t q => k16_ t (st17 t q)
  have N17 := Fr.snoc X17 N11 gx
  replace Zn := Nat.le_trans Zn (Keep.of_wr W17).1
  replace hk := Nat.le_trans hk (Keep.of_wr W17).1
  replace E := E.wr W17
  replace V := V.other W17 (Or.inr (slot_ne (Or.inr (hw _ (List.mem_of_getElem? (i := 48) rfl))) (Or.inr (hw _ (List.mem_of_getElem? (i := 46) rfl))) (by decide) (t := (.array .byte)) (t' := .byte) (by decide) (by decide)))
  replace EA_em := EA_em.wr W17
  replace FC_em := FC_em.other W17 (Or.inl (Ne.symm nx1))
  replace FV_em := FV_em.other W17 (Or.inl (Ne.symm nx1))
  replace VB_em := VB_em.other W17 (Ne.symm nx2)
  replace Co := Co.same W17
  replace KP := KP.wr W17 (Or.inl (List.mem_of_getElem? (i := 0) rfl))
  replace hCH := hCH.trans (CHr.wr W17 SX hCH.1)
  obtain ⟨fs, hr, hrun, hended, r1, r2, r3, r4⟩ := Stand.leaveW (s := s) (vm₁ := T7.vm) X17 hS (by rw [e17]; exact hk) (v := none) (fun _ => rfl)
  refine ⟨_, _, pre0 _ (k18_ _ ?_), hrun, hended, _, _, rfl, ?_, ?_, r1, r2, r3, r4.mono (by decide) (by decide)⟩
  · show Steps p.tables e below (T17.setTop (mkF m 26 #[oa x, oa b, ov (0 : Int32), ov (0 : Int32), .val .null, .unset] [])) _
    exact X17.returnOut hx Bd.returns (hb hby d_jdk_42_method_149_26) hr
  · show QV Z x b h0 n0 _ T17.heap _
    rw [e17]
    exact ⟨rfl, N17, KP, E, Co, b_em, kc_em, V, VB_em, E.lt, VB_em.lt⟩
  · show CHr Z own_EL s.vm s.heap T17.vm T17.heap
    rw [hh, e17]
    exact hCH.trans (CHv.at (s := s) X17 hZ hEL hCH.1)
def QS (Z : State) (x : Addr) (b : Addr) (kB : ClassId) (h0 : Heap) (n0 : Nat) (v : Option Value) (h : Heap) (L : List Loc) : Prop := v = none ∧ Fr n0 L ∧ Keep h0 h [x] ∧ own_Sb Z h.size h x []
theorem ef_S (m : MethodId) (x0 : Addr) (x1 : Addr) : entryFrame m #[(.ref x0), (.ref x1)] 2 = mkF m 0 #[.val (.ref x0), .val (.ref x1)] [] := by first | (simp [entryFrame, mkF, argsToLocals, Value.category]; done) | rfl
theorem d_jdk_42_method_3_0 : decode jdk_42_method_3_code 0 = .ok (.aload_n 0, 1) := by decide +kernel
theorem d_jdk_42_method_3_1 : decode jdk_42_method_3_code 1 = .ok (.aload_n 1, 1) := by decide +kernel
theorem d_jdk_42_method_3_2 : decode jdk_42_method_3_code 2 = .ok (.iconst 0, 1) := by decide +kernel
theorem d_jdk_42_method_3_3 : decode jdk_42_method_3_code 3 = .ok (.aload_n 1, 1) := by decide +kernel
theorem d_jdk_42_method_3_4 : decode jdk_42_method_3_code 4 = .ok (.arraylength, 1) := by decide +kernel
theorem d_jdk_42_method_3_5 : decode jdk_42_method_3_code 5 = .ok (.aconst_null, 1) := by decide +kernel
theorem pd_41319 : parseMethodDescriptor "([CIILjava/lang/Void;)V" = some ⟨[(.array .char), .int, .int, (.object "java/lang/Void")], none⟩ := by decide +kernel
theorem d_jdk_42_method_3_6 : decode jdk_42_method_3_code 6 = .ok (.invokespecial 27, 3) := by decide +kernel
theorem d_jdk_42_method_3_9 : decode jdk_42_method_3_code 9 = .ok (.return_, 1) := by decide +kernel
set_option maxRecDepth 65536 in
set_option maxHeartbeats 40000000 in
theorem rmS (l : Launch) (Z : State) (a0 : Array Value) (hw : ∀ d ∈ tables_1, d.before a0 Z = true) (ws : List Jvm.Cond) (x : Addr) (b : Addr) (kB : ClassId) (h0 : Heap) (n0 : Nat) (Z0 : n0 ≤ h0.size) (E : Exa Z h0 x "java/lang/String") (V : Fld Z h0 x "java/lang/String" "value" "[B" .null) (Co : Fld Z h0 x "java/lang/String" "coder" "B" (.int (0 : Int32))) (gx : n0 ≤ x) (VB : Arv Z h0 b kB .char (0 : Int32) [] (.int (0 : Int32))) (wS : ∀ a ∈ Bundle.stringAtoms, a.before a0 Z = true) (hEL : EW Z a0 own_EL) :
    MetFree l (⟨"java/lang/String", "<init>", "([C)V"⟩ : MethodName) (head1 (Jvm.Cond.code (⟨"java/lang/String", "<init>", "([C)V"⟩ : MethodName) jdk_42_method_3_code 2 none :: ws) ({ frames := 2, cells := 2, slots := 4, locals := 29 } : Room)) (fun a_ U_ => a_ = #[(.ref x), (.ref b)] ∧ Z.Warmed39 U_.vm ∧ U_.heap = h0 ∧ CHv Z own_EL U_.vm h0) (fun _ _ _ _ _ => True) (fun _ U_ o_ E_ => ∃ v_ L_, o_ = .returned v_ ∧ QS Z x b kB h0 n0 v_ E_.heap L_ ∧ CHr Z own_EL U_.vm U_.heap E_.vm E_.heap ∧ ReturnedEndW U_ o_ E_ L_ ({ frames := 2, cells := 2, slots := 4, locals := 29 } : Room).cells ({ frames := 2, cells := 2, slots := 4, locals := 29 } : Room).slots) := by
  refine MetFree.of_bodySF (plainFor_of_name pn_String) hisR ?_
  intro p e s m args below meth c s₁ Bd hml0 hP hK
  obtain ⟨rfl, hZ, hh, hCH0⟩ := hP
  have hx := Bd.exec
  have hby := Bd.bytes
  have hml : c.maxLocals = 2 := hml0
  have hown : (s.setVm s.vm).vm.findClass "java/lang/String" = some m.cls := findClass_of_methodNamed Bd.named
  have hnm := (name_of_methodNamed Bd.named Bd.method).1
  replace hZ : Z.Warmed39 (s.setVm s.vm).vm := hZ
  have X0 : Stand p l e ({ frames := 2, cells := 2, slots := 4, locals := 29 } : Room) (s.setVm s.vm) m #[(.ref x), (.ref b)] below meth c s₁ [] 0 0 := Stand.of_body Bd
  have e0 : s₁.heap = h0 := by rw [← hh, Bd.state]; rfl
  have N0 := Fr.nil n0
  have Zn := Z0
  have hS : s.Since s.vm s.heap.size := (State.WarmedH.refl s).since _
  have hk : s.heap.size ≤ h0.size := by rw [hh]; exact Nat.le_refl _
  have hCH : CHr Z own_EL s.vm h0 s.vm h0 := CHr.refl hCH0
  have pre0 : ∀ t, Steps p.tables e below (s₁.setTop (mkF m 0 #[.val (.ref x), .val (.ref b)] [])) t → Steps p.tables e below (s₁.setTop (entryFrame m #[(.ref x), (.ref b)] 2)) t := fun t q => castTop (ef_S m x b) q
  have k0 : ∀ t, Steps p.tables e below (s₁.setTop (mkF m 0 #[.val (.ref x), .val (.ref b)] [])) t → Steps p.tables e below (s₁.setTop (mkF m 0 #[.val (.ref x), .val (.ref b)] [])) t := fun t q => q
  let G_ : State → Prop := fun t => Steps p.tables e below (s₁.setTop (mkF m 0 #[.val (.ref x), .val (.ref b)] [])) t
  obtain ⟨cl1, Ar1, q1, S1, M1, H1, G1⟩ := id VB
  have k2_ : ∀ t, Steps p.tables e below (s₁.setTop (mkF m 6 #[oa x, oa b] [.null, (.int (0 : Int32)), (.int (0 : Int32)), (.ref b), (.ref x)])) t → G_ t := by
    intro t q
    refine k0 _ ?_
    show Steps p.tables e below (s₁.setTop (mkF m 0 #[oa x, oa b] [])) _
    refine XS.aloadN X0.here hx rfl (hb hby d_jdk_42_method_3_0) rfl rfl ?_
    refine XS.aloadN X0.here hx rfl (hb hby d_jdk_42_method_3_1) rfl rfl ?_
    refine XS.iconst X0.here hx rfl (hb hby d_jdk_42_method_3_2) ?_
    refine XS.aloadN X0.here hx rfl (hb hby d_jdk_42_method_3_3) rfl rfl ?_
    show Steps p.tables e below (s₁.setTop (mkF m 4 #[oa x, oa b] [(.ref b), (.int (0 : Int32)), (.ref b), (.ref x)])) _
    refine X0.arraylength hx (by rw [e0]; exact Ar1.1) (State.isArrayOf_alike hZ.alike Ar1.2.1) (g := (mkF m 4 #[oa x, oa b] [(.ref b), (.int (0 : Int32)), (.ref b), (.ref x)])) rfl rfl (hb hby d_jdk_42_method_3_4) _ ?_
    rw [len_of S1 M1]
    refine XS.aconstNull X0.here hx rfl (hb hby d_jdk_42_method_3_5) ?_
    show Steps p.tables e below (s₁.setTop (mkF m 6 #[oa x, oa b] [.null, (.int (0 : Int32)), (.int (0 : Int32)), (.ref b), (.ref x)])) _
    exact q
  obtain ⟨_, _, ⟨T3, L3, kk3, n3⟩, -, X3_, hs3, hG3, ⟨Lc3, hQ3, l3, y3, z3, hc3⟩, st3⟩ := X0.specialBackS hx (y := (⟨"java/lang/String", "<init>", "([CIILjava/lang/Void;)V"⟩ : MethodName)) rfl hown (mvT hZ (hw _ (List.mem_of_getElem? (i := 26) rfl))) (mvT hZ (hw _ (List.mem_of_getElem? (i := 27) rfl))) (mvT hZ (hw _ (List.mem_of_getElem? (i := 29) rfl))) (by decide) (backOfSH (s := s) (vm0 := s.vm) (EL := own_EL) (W := 0) (rmV l Z a0 hw [] x b h0 n0 Zn E V Co gx wS hEL) hZ (hw _ (List.mem_of_getElem? (i := 29) rfl)) (hw _ (List.mem_of_getElem? (i := 22) rfl)) (by decide) (by decide) hEL hCH.1) (g := (mkF m 6 #[oa x, oa b] [.null, (.int (0 : Int32)), (.int (0 : Int32)), (.ref b), (.ref x)])) rfl (by rw [hml]; rfl) (Steps.refl _) (a := x) (argsL := [(.ref b), (.int (0 : Int32)), (.int (0 : Int32)), .null]) (rest := []) (lenOf pd_41319 rfl) rfl (by show 2 * 0 + _ ≤ _; exact Nat.le_of_eq rfl) (hb hby d_jdk_42_method_3_6) (fun _ _ => ⟨rfl, e0, (by decide : 0 + 2 ≤ _), (by decide : 0 + 4 ≤ _)⟩)
  dsimp only [Pt.U, Pt.locs, Pt.cells, Pt.slots] at X3_ l3 y3 z3 st3 hQ3 hG3 hs3 hc3
  rw [l3, y3, z3] at X3_
  obtain ⟨X3, hS3, hZ3, hown3⟩ := rebS (s := s) (vm0 := s.vm) hS (by rw [e0]; exact hk) X3_ hs3 hG3 hZ hown
  replace hS := hS3
  replace hZ := hZ3
  replace hown := hown3
  replace hCH := hCH.trans hc3
  replace hk : T3.heap.size ≤ T3.heap.size := Nat.le_refl _
  obtain ⟨rfl, Nq3, KI, SI⟩ := hQ3
  have N3 := Fr.app N0 Nq3
  have k4_ : ∀ t, Steps p.tables e below (T3.setTop (mkF m 9 #[oa x, oa b] [])) t → G_ t := fun t q => k2_ t (st3.trans q)
  obtain ⟨fs, hr, hrun, hended, r1, r2, r3, r4⟩ := Stand.leaveW (s := s) (vm₁ := T3.vm) X3 hS hk (v := none) (fun _ => rfl)
  refine ⟨_, _, pre0 _ (k4_ _ ?_), hrun, hended, _, _, rfl, ?_, ?_, r1, r2, r3, r4.mono (by decide) (by decide)⟩
  · show Steps p.tables e below (T3.setTop (mkF m 9 #[oa x, oa b] [])) _
    exact X3.returnOut hx Bd.returns (hb hby d_jdk_42_method_3_9) hr
  · show QS Z x b kB h0 n0 _ T3.heap _
    exact ⟨rfl, N3, KI, SI⟩
  · show CHr Z own_EL s.vm s.heap T3.vm T3.heap
    rw [hh]
    exact hCH.trans (CHv.at (s := s) X3 hZ hEL hCH.1)
theorem own_tk0 (Rl : List Int32) : Rl.take 0 = [] := rfl
theorem own_tk1 {Rl : List Int32} (h : Rl.length = 2) : Rl.take 1 = [Rl.getD 0 0] := by
  match Rl, h with
  | [_, _], _ => rfl
theorem own_tk2 {Rl : List Int32} (h : Rl.length = 2) : Rl.take 2 = [Rl.getD 0 0, Rl.getD 1 0] := by
  match Rl, h with
  | [_, _], _ => rfl
theorem own_tkOK {Rl : List Int32} (h : own_OK Rl) (n : Nat) : own_OK (Rl.take n) := fun c hc => h c (List.mem_of_mem_take hc)
def QRe (Z : State) (lv : Nat) (rb : Addr) (Rl : List Int32) (kR : ClassId) (zc : Int32) (h0 : Heap) (n0 : Nat) (v : Option Value) (h : Heap) (L : List Loc) : Prop := ∃ sa, v = some (.ref sa) ∧ Fr n0 L ∧ Keep h0 h [] ∧ own_Sb Z h.size h sa (Rl.take lv)
theorem ef_Re (m : MethodId) (x0 : Int32) (x1 : Addr) : entryFrame m #[(.int x0), (.ref x1)] 2 = mkF m 0 #[.val (.int x0), .val (.ref x1)] [] := by first | (simp [entryFrame, mkF, argsToLocals, Value.category]; done) | rfl
theorem d_method_4_0 : decode method_4_code 0 = .ok (.iload_n 0, 1) := by decide +kernel
theorem d_method_4_1 : decode method_4_code 1 = .ok (.ifCond .ne 14, 3) := by decide +kernel
theorem d_method_4_4 : decode method_4_code 4 = .ok (.new 47, 3) := by decide +kernel
theorem d_method_4_7 : decode method_4_code 7 = .ok (.dup, 1) := by decide +kernel
theorem d_method_4_8 : decode method_4_code 8 = .ok (.iconst 0, 1) := by decide +kernel
theorem d_method_4_9 : decode method_4_code 9 = .ok (.newarray .char, 2) := by decide +kernel
theorem pd_20902 : parseMethodDescriptor "([C)V" = some ⟨[(.array .char)], none⟩ := by decide +kernel
theorem d_method_4_11 : decode method_4_code 11 = .ok (.invokespecial 49, 3) := by decide +kernel
theorem d_method_4_14 : decode method_4_code 14 = .ok (.areturn, 1) := by decide +kernel
theorem d_method_4_15 : decode method_4_code 15 = .ok (.iload_n 0, 1) := by decide +kernel
theorem d_method_4_16 : decode method_4_code 16 = .ok (.iconst 1, 1) := by decide +kernel
theorem d_method_4_17 : decode method_4_code 17 = .ok (.if_icmp .ne 20, 3) := by decide +kernel
theorem d_method_4_20 : decode method_4_code 20 = .ok (.new 47, 3) := by decide +kernel
theorem d_method_4_23 : decode method_4_code 23 = .ok (.dup, 1) := by decide +kernel
theorem d_method_4_24 : decode method_4_code 24 = .ok (.iconst 1, 1) := by decide +kernel
theorem d_method_4_25 : decode method_4_code 25 = .ok (.newarray .char, 2) := by decide +kernel
theorem d_method_4_27 : decode method_4_code 27 = .ok (.dup, 1) := by decide +kernel
theorem d_method_4_28 : decode method_4_code 28 = .ok (.iconst 0, 1) := by decide +kernel
theorem d_method_4_29 : decode method_4_code 29 = .ok (.aload_n 1, 1) := by decide +kernel
theorem d_method_4_30 : decode method_4_code 30 = .ok (.iconst 0, 1) := by decide +kernel
theorem d_method_4_31 : decode method_4_code 31 = .ok (.caload, 1) := by decide +kernel
theorem d_method_4_32 : decode method_4_code 32 = .ok (.castore, 1) := by decide +kernel
theorem d_method_4_33 : decode method_4_code 33 = .ok (.invokespecial 49, 3) := by decide +kernel
theorem d_method_4_36 : decode method_4_code 36 = .ok (.areturn, 1) := by decide +kernel
theorem d_method_4_37 : decode method_4_code 37 = .ok (.new 47, 3) := by decide +kernel
theorem d_method_4_40 : decode method_4_code 40 = .ok (.dup, 1) := by decide +kernel
theorem d_method_4_41 : decode method_4_code 41 = .ok (.iconst 2, 1) := by decide +kernel
theorem d_method_4_42 : decode method_4_code 42 = .ok (.newarray .char, 2) := by decide +kernel
theorem d_method_4_44 : decode method_4_code 44 = .ok (.dup, 1) := by decide +kernel
theorem d_method_4_45 : decode method_4_code 45 = .ok (.iconst 0, 1) := by decide +kernel
theorem d_method_4_46 : decode method_4_code 46 = .ok (.aload_n 1, 1) := by decide +kernel
theorem d_method_4_47 : decode method_4_code 47 = .ok (.iconst 0, 1) := by decide +kernel
theorem d_method_4_48 : decode method_4_code 48 = .ok (.caload, 1) := by decide +kernel
theorem d_method_4_49 : decode method_4_code 49 = .ok (.castore, 1) := by decide +kernel
theorem d_method_4_50 : decode method_4_code 50 = .ok (.dup, 1) := by decide +kernel
theorem d_method_4_51 : decode method_4_code 51 = .ok (.iconst 1, 1) := by decide +kernel
theorem d_method_4_52 : decode method_4_code 52 = .ok (.aload_n 1, 1) := by decide +kernel
theorem d_method_4_53 : decode method_4_code 53 = .ok (.iconst 1, 1) := by decide +kernel
theorem d_method_4_54 : decode method_4_code 54 = .ok (.caload, 1) := by decide +kernel
theorem d_method_4_55 : decode method_4_code 55 = .ok (.castore, 1) := by decide +kernel
theorem d_method_4_56 : decode method_4_code 56 = .ok (.invokespecial 49, 3) := by decide +kernel
theorem d_method_4_59 : decode method_4_code 59 = .ok (.areturn, 1) := by decide +kernel
set_option maxRecDepth 65536 in
set_option maxHeartbeats 40000000 in
theorem rmRe (l : Launch) (Z : State) (a0 : Array Value) (hw : ∀ d ∈ tables_1, d.before a0 Z = true) (ws : List Jvm.Cond) (lv : Nat) (rb : Addr) (Rl : List Int32) (kR : ClassId) (zc : Int32) (h0 : Heap) (n0 : Nat) (Z0 : n0 ≤ h0.size) (hl : lv < 3) (VR : Arv Z h0 rb kR .char (2 : Int32) (Rl.map Value.int) (.int 0)) (hR : own_OK Rl) (hR2 : Rl.length = 2) (O2 : Sta Z Z.heap "java/lang/String" "COMPACT_STRINGS" "Z" (.int zc)) (hzc : ¬ zc = (0 : Int32)) (X00 : Old Z n0 h0) (wS : ∀ a ∈ Bundle.stringAtoms, a.before a0 Z = true) (hEL : EW Z a0 own_EL) :
    MetFree l (⟨"com/example/haku/haku/index/UnitPathsAddPinLaw", "rest", "(I[C)Ljava/lang/String;"⟩ : MethodName) (head1 (Jvm.Cond.code (⟨"com/example/haku/haku/index/UnitPathsAddPinLaw", "rest", "(I[C)Ljava/lang/String;"⟩ : MethodName) method_4_code 2 (some (.object "java/lang/String")) :: ws) ({ frames := 4, cells := 4, slots := 10, locals := 66 } : Room)) (fun a_ U_ => a_ = #[(.int (Int32.ofNat lv)), (.ref rb)] ∧ Z.Warmed39 U_.vm ∧ U_.heap = h0 ∧ CHv Z own_EL U_.vm h0) (fun _ _ _ _ _ => True) (fun _ U_ o_ E_ => ∃ v_ L_, o_ = .returned v_ ∧ QRe Z lv rb Rl kR zc h0 n0 v_ E_.heap L_ ∧ CHr Z own_EL U_.vm U_.heap E_.vm E_.heap ∧ ReturnedEndW U_ o_ E_ L_ ({ frames := 4, cells := 4, slots := 10, locals := 66 } : Room).cells ({ frames := 4, cells := 4, slots := 10, locals := 66 } : Room).slots) := by
  refine MetFree.of_bodySF (plainFor_of_name pn_UnitPathsAddPinLaw) hisR ?_
  intro p e s m args below meth c s₁ Bd hml0 hP hK
  obtain ⟨rfl, hZ, hh, hCH0⟩ := hP
  have hx := Bd.exec
  have hby := Bd.bytes
  have hml : c.maxLocals = 2 := hml0
  have hown : (s.setVm s.vm).vm.findClass "com/example/haku/haku/index/UnitPathsAddPinLaw" = some m.cls := findClass_of_methodNamed Bd.named
  have hnm := (name_of_methodNamed Bd.named Bd.method).1
  replace hZ : Z.Warmed39 (s.setVm s.vm).vm := hZ
  have X0 : Stand p l e ({ frames := 4, cells := 4, slots := 10, locals := 66 } : Room) (s.setVm s.vm) m #[(.int (Int32.ofNat lv)), (.ref rb)] below meth c s₁ [] 0 0 := Stand.of_body Bd
  have e0 : s₁.heap = h0 := by rw [← hh, Bd.state]; rfl
  have N0 := Fr.nil n0
  have Zn := Z0
  have hS : s.Since s.vm s.heap.size := (State.WarmedH.refl s).since _
  have hk : s.heap.size ≤ h0.size := by rw [hh]; exact Nat.le_refl _
  have hCH : CHr Z own_EL s.vm h0 s.vm h0 := CHr.refl hCH0
  have pre0 : ∀ t, Steps p.tables e below (s₁.setTop (mkF m 0 #[.val (.int (Int32.ofNat lv)), .val (.ref rb)] [])) t → Steps p.tables e below (s₁.setTop (entryFrame m #[(.int (Int32.ofNat lv)), (.ref rb)] 2)) t := fun t q => castTop (ef_Re m (Int32.ofNat lv) rb) q
  have k0 : ∀ t, Steps p.tables e below (s₁.setTop (mkF m 0 #[.val (.int (Int32.ofNat lv)), .val (.ref rb)] [])) t → Steps p.tables e below (s₁.setTop (mkF m 0 #[.val (.int (Int32.ofNat lv)), .val (.ref rb)] [])) t := fun t q => q
  let G_ : State → Prop := fun t => Steps p.tables e below (s₁.setTop (mkF m 0 #[.val (.int (Int32.ofNat lv)), .val (.ref rb)] [])) t
  have hwwords : ∀ d ∈ StrChars.Road.words, d.before a0 Z = true := fun d hd => hw d ((by decide +kernel : ∀ d ∈ StrChars.Road.words, d ∈ tables_1) d hd)
  have KP := Keep.refl h0 []
  have k1_ : ∀ t, Steps p.tables e below (s₁.setTop (mkF m 1 #[oi lv, oa rb] [(.int (Int32.ofNat lv))])) t → G_ t := by
    intro t q
    refine k0 _ ?_
    show Steps p.tables e below (s₁.setTop (mkF m 0 #[oi lv, oa rb] [])) _
    refine XS.iloadN X0.here hx rfl (hb hby d_method_4_0) rfl ?_
    show Steps p.tables e below (s₁.setTop (mkF m 1 #[oi lv, oa rb] [(.int (Int32.ofNat lv))])) _
    exact q
  by_cases hn0 : (Int32.ofNat lv) = (0 : Int32)
  · have k2_ : ∀ t, Steps p.tables e below (s₁.setTop (mkF m 4 #[oi lv, oa rb] [])) t → G_ t := by
      intro t q
      refine k1_ _ ?_
      show Steps p.tables e below (s₁.setTop (mkF m 1 #[oi lv, oa rb] [(.int (Int32.ofNat lv))])) _
      refine XS.ifNo X0.here hx rfl (hb hby d_method_4_1) rfl ((if0 _ _).trans (teq hn0).2) ?_
      show Steps p.tables e below (s₁.setTop (mkF m 4 #[oi lv, oa rb] [])) _
      exact q
    have hlv : lv = 0 := own_oi (i := lv) (j := 0) (by omega) (by decide) hn0
    obtain ⟨T3, h3, X3, e3, E3, A3, D3, -, st3⟩ := newO X0 hx hZ hown (hw _ (List.mem_of_getElem? (i := 20) rfl)) (hw _ (List.mem_of_getElem? (i := 21) rfl)) (hw _ (List.mem_of_getElem? (i := 22) rfl)) e0 (g := (mkF m 4 #[oi lv, oa rb] [])) rfl (hb hby d_method_4_4) (by decide) (by decide)
    obtain ⟨b3, g3⟩ : ∃ z, z = h0.size := ⟨_, rfl⟩
    rw [← g3] at A3 D3 st3
    have k4_ : ∀ t, Steps p.tables e below (T3.setTop (mkF m 7 #[oi lv, oa rb] [(.ref b3)])) t → G_ t := fun t q => k2_ t (st3 t q)
    have ne_rb_b3 : rb ≠ b3 := Nat.ne_of_lt (Nat.lt_of_lt_of_le VR.lt (Nat.le_of_eq g3.symm))
    have g_b3 : n0 ≤ b3 := Nat.le_trans Zn (Nat.le_of_eq g3.symm)
    replace Zn := Nat.le_trans Zn E3.1
    replace hk := Nat.le_trans hk E3.1
    replace VR := VR.ext E3
    have z_b3 : h0.size ≤ b3 := by rw [g3]; exact KP.1
    replace KP := KP.ext E3
    replace X00 := X00.ext E3
    replace hCH := hCH.trans (CHr.ext E3 hCH.1)
    have Vs : Fld Z h3 b3 "java/lang/String" "value" "[B" .null := D3 (Or.inr (hw _ (List.mem_of_getElem? (i := 48) rfl))) (ty := (.array .byte)) (by decide)
    have Cs : Fld Z h3 b3 "java/lang/String" "coder" "B" (.int (0 : Int32)) := D3 (Or.inr (hw _ (List.mem_of_getElem? (i := 46) rfl))) (ty := .byte) (by decide)
    have As := A3
    have k5_ : ∀ t, Steps p.tables e below (T3.setTop (mkF m 9 #[oi lv, oa rb] [(.int (0 : Int32)), (.ref b3), (.ref b3)])) t → G_ t := by
      intro t q
      refine k4_ _ ?_
      show Steps p.tables e below (T3.setTop (mkF m 7 #[oi lv, oa rb] [(.ref b3)])) _
      refine XS.dup X3.here hx rfl (hb hby d_method_4_7) rfl rfl ?_
      refine XS.iconst X3.here hx rfl (hb hby d_method_4_8) ?_
      show Steps p.tables e below (T3.setTop (mkF m 9 #[oi lv, oa rb] [(.int (0 : Int32)), (.ref b3), (.ref b3)])) _
      exact q
    obtain ⟨T6, h6, c6, X6, e6, E6, A6, st6⟩ := newP X3 hx hZ (hw _ (List.mem_of_getElem? (i := 4) rfl)) e3 (g := (mkF m 9 #[oi lv, oa rb] [(.int (0 : Int32)), (.ref b3), (.ref b3)])) rfl (hb hby d_method_4_9) rfl (by decide) (cap := 0) (by decide) (by decide) (by decide) (by decide)
    obtain ⟨b6, g6⟩ : ∃ z, z = h3.size := ⟨_, rfl⟩
    rw [← g6] at A6 st6
    have k7_ : ∀ t, Steps p.tables e below (T6.setTop (mkF m 11 #[oi lv, oa rb] [(.ref b6), (.ref b3), (.ref b3)])) t → G_ t := fun t q => k5_ t (st6 t q)
    have ne_rb_b6 : rb ≠ b6 := Nat.ne_of_lt (Nat.lt_of_lt_of_le VR.lt (Nat.le_of_eq g6.symm))
    have ne_b3_b6 : b3 ≠ b6 := Nat.ne_of_lt (Nat.lt_of_lt_of_le Vs.lt (Nat.le_of_eq g6.symm))
    have g_b6 : n0 ≤ b6 := Nat.le_trans Zn (Nat.le_of_eq g6.symm)
    replace Zn := Nat.le_trans Zn E6.1
    replace hk := Nat.le_trans hk E6.1
    replace VR := VR.ext E6
    replace Vs := Vs.ext E6
    replace Cs := Cs.ext E6
    replace As := As.ext E6
    have V_b6 : Arv Z h6 b6 c6 .char (0 : Int32) [] (.int (0 : Int32)) := (Arv.new A6 (by decide)).pad (pad_rep [] (.int (0 : Int32)) 0)
    have z_b6 : h0.size ≤ b6 := by rw [g6]; exact KP.1
    replace KP := KP.ext E6
    replace X00 := X00.ext E6
    replace hCH := hCH.trans (CHr.ext E6 hCH.1)
    obtain ⟨_, _, ⟨T8, L8, kk8, n8⟩, -, X8_, hs8, hG8, ⟨Lc8, hQ8, l8, y8, z8, hc8⟩, st8⟩ := X6.specialBackS hx (y := (⟨"java/lang/String", "<init>", "([C)V"⟩ : MethodName)) rfl hown (mvT hZ (hw _ (List.mem_of_getElem? (i := 23) rfl))) (mvT hZ (hw _ (List.mem_of_getElem? (i := 24) rfl))) (mvT hZ (hw _ (List.mem_of_getElem? (i := 25) rfl))) (by decide) (backOfSH (s := s) (vm0 := s.vm) (EL := own_EL) (W := 1) (rmS l Z a0 hw [] b3 b6 c6 h6 n0 Zn As Vs Cs g_b3 V_b6 wS hEL) hZ (hw _ (List.mem_of_getElem? (i := 25) rfl)) (hw _ (List.mem_of_getElem? (i := 22) rfl)) (by decide) (by decide) hEL hCH.1) (g := (mkF m 11 #[oi lv, oa rb] [(.ref b6), (.ref b3), (.ref b3)])) rfl (by rw [hml]; rfl) (Steps.refl _) (a := b3) (argsL := [(.ref b6)]) (rest := [(.ref b3)]) (lenOf pd_20902 rfl) rfl (by show 2 * 0 + _ ≤ _; exact Nat.le_of_eq rfl) (hb hby d_method_4_11) (fun _ _ => ⟨rfl, e6, (by decide : 0 + 1 + 1 + 2 ≤ _), (by decide : 0 + 4 + 0 + 4 ≤ _)⟩)
    dsimp only [Pt.U, Pt.locs, Pt.cells, Pt.slots] at X8_ l8 y8 z8 st8 hQ8 hG8 hs8 hc8
    rw [l8, y8, z8] at X8_
    obtain ⟨X8, hS8, hZ8, hown8⟩ := rebS (s := s) (vm0 := s.vm) hS (by rw [e6]; exact hk) X8_ hs8 hG8 hZ hown
    replace hS := hS8
    replace hZ := hZ8
    replace hown := hown8
    replace hCH := hCH.trans hc8
    replace hk : T8.heap.size ≤ T8.heap.size := Nat.le_refl _
    obtain ⟨rfl, Nq8, KI, SI⟩ := hQ8
    have N8 := Fr.app N0 Nq8
    have k9_ : ∀ t, Steps p.tables e below (T8.setTop (mkF m 14 #[oi lv, oa rb] [(.ref b3)])) t → G_ t := fun t q => k7_ t (st8.trans q)
    replace KP := KP.trans KI (fun y hy => Or.inr (by cases List.mem_singleton.mp hy; exact z_b3))
    obtain ⟨fs, hr, hrun, hended, r1, r2, r3, r4⟩ := Stand.leaveW (s := s) (vm₁ := T8.vm) X8 hS hk (v := some (.ref b3)) (fun h => by rw [Bd.returns] at h; cases h)
    refine ⟨_, _, pre0 _ (k9_ _ ?_), hrun, hended, _, _, rfl, ?_, ?_, r1, r2, r3, r4.mono (by decide) (by decide)⟩
    · show Steps p.tables e below (T8.setTop (mkF m 14 #[oi lv, oa rb] [(.ref b3)])) _
      jvm_step X8.here [X8.here.top, hx, (hb hby d_method_4_14), X8.method', Bd.returns, Value.isRef, FieldType.isReference]
      first | (intro acts; rw [hr _ acts rfl rfl rfl]) | rw [hr _ _ rfl rfl rfl]
      exact Steps.refl _
    · show QRe Z lv rb Rl kR zc h0 n0 _ T8.heap _
      exact ⟨b3, rfl, N8, KP, by rw [hlv, own_tk0]; exact SI⟩
    · show CHr Z own_EL s.vm s.heap T8.vm T8.heap
      rw [hh]
      exact hCH.trans (CHv.at (s := s) X8 hZ hEL hCH.1)
  · have k10_ : ∀ t, Steps p.tables e below (s₁.setTop (mkF m 15 #[oi lv, oa rb] [])) t → G_ t := by
      intro t q
      refine k1_ _ ?_
      show Steps p.tables e below (s₁.setTop (mkF m 1 #[oi lv, oa rb] [(.int (Int32.ofNat lv))])) _
      refine XS.ifYes X0.here hx rfl (pc0 := 1) (pc' := 15) rfl (hb hby d_method_4_1) rfl ((if0 _ _).trans (feq hn0).2) (by decide) (by decide) ?_
      show Steps p.tables e below (s₁.setTop (mkF m 15 #[oi lv, oa rb] [])) _
      exact q
    have k11_ : ∀ t, Steps p.tables e below (s₁.setTop (mkF m 17 #[oi lv, oa rb] [(.int (1 : Int32)), (.int (Int32.ofNat lv))])) t → G_ t := by
      intro t q
      refine k10_ _ ?_
      show Steps p.tables e below (s₁.setTop (mkF m 15 #[oi lv, oa rb] [])) _
      refine XS.iloadN X0.here hx rfl (hb hby d_method_4_15) rfl ?_
      refine XS.iconst X0.here hx rfl (hb hby d_method_4_16) ?_
      show Steps p.tables e below (s₁.setTop (mkF m 17 #[oi lv, oa rb] [(.int (1 : Int32)), (.int (Int32.ofNat lv))])) _
      exact q
    by_cases hn1 : (Int32.ofNat lv) = (1 : Int32)
    · have k12_ : ∀ t, Steps p.tables e below (s₁.setTop (mkF m 20 #[oi lv, oa rb] [])) t → G_ t := by
        intro t q
        refine k11_ _ ?_
        show Steps p.tables e below (s₁.setTop (mkF m 17 #[oi lv, oa rb] [(.int (1 : Int32)), (.int (Int32.ofNat lv))])) _
        refine XS.icmpNo X0.here hx rfl (hb hby d_method_4_17) rfl (teq hn1).2 ?_
        show Steps p.tables e below (s₁.setTop (mkF m 20 #[oi lv, oa rb] [])) _
        exact q
      have hlv : lv = 1 := own_oi (i := lv) (j := 1) (by omega) (by decide) hn1
      obtain ⟨T13, h13, X13, e13, E13, A13, D13, -, st13⟩ := newO X0 hx hZ hown (hw _ (List.mem_of_getElem? (i := 20) rfl)) (hw _ (List.mem_of_getElem? (i := 21) rfl)) (hw _ (List.mem_of_getElem? (i := 22) rfl)) e0 (g := (mkF m 20 #[oi lv, oa rb] [])) rfl (hb hby d_method_4_20) (by decide) (by decide)
      obtain ⟨b13, g13⟩ : ∃ z, z = h0.size := ⟨_, rfl⟩
      rw [← g13] at A13 D13 st13
      have k14_ : ∀ t, Steps p.tables e below (T13.setTop (mkF m 23 #[oi lv, oa rb] [(.ref b13)])) t → G_ t := fun t q => k12_ t (st13 t q)
      have ne_rb_b13 : rb ≠ b13 := Nat.ne_of_lt (Nat.lt_of_lt_of_le VR.lt (Nat.le_of_eq g13.symm))
      have g_b13 : n0 ≤ b13 := Nat.le_trans Zn (Nat.le_of_eq g13.symm)
      replace Zn := Nat.le_trans Zn E13.1
      replace hk := Nat.le_trans hk E13.1
      replace VR := VR.ext E13
      have z_b13 : h0.size ≤ b13 := by rw [g13]; exact KP.1
      replace KP := KP.ext E13
      replace X00 := X00.ext E13
      replace hCH := hCH.trans (CHr.ext E13 hCH.1)
      have Vs : Fld Z h13 b13 "java/lang/String" "value" "[B" .null := D13 (Or.inr (hw _ (List.mem_of_getElem? (i := 48) rfl))) (ty := (.array .byte)) (by decide)
      have Cs : Fld Z h13 b13 "java/lang/String" "coder" "B" (.int (0 : Int32)) := D13 (Or.inr (hw _ (List.mem_of_getElem? (i := 46) rfl))) (ty := .byte) (by decide)
      have As := A13
      have k15_ : ∀ t, Steps p.tables e below (T13.setTop (mkF m 25 #[oi lv, oa rb] [(.int (1 : Int32)), (.ref b13), (.ref b13)])) t → G_ t := by
        intro t q
        refine k14_ _ ?_
        show Steps p.tables e below (T13.setTop (mkF m 23 #[oi lv, oa rb] [(.ref b13)])) _
        refine XS.dup X13.here hx rfl (hb hby d_method_4_23) rfl rfl ?_
        refine XS.iconst X13.here hx rfl (hb hby d_method_4_24) ?_
        show Steps p.tables e below (T13.setTop (mkF m 25 #[oi lv, oa rb] [(.int (1 : Int32)), (.ref b13), (.ref b13)])) _
        exact q
      obtain ⟨T16, h16, c16, X16, e16, E16, A16, st16⟩ := newP X13 hx hZ (hw _ (List.mem_of_getElem? (i := 4) rfl)) e13 (g := (mkF m 25 #[oi lv, oa rb] [(.int (1 : Int32)), (.ref b13), (.ref b13)])) rfl (hb hby d_method_4_25) rfl (by decide) (cap := 1) (by decide) (by decide) (by decide) (by decide)
      obtain ⟨b16, g16⟩ : ∃ z, z = h13.size := ⟨_, rfl⟩
      rw [← g16] at A16 st16
      have k17_ : ∀ t, Steps p.tables e below (T16.setTop (mkF m 27 #[oi lv, oa rb] [(.ref b16), (.ref b13), (.ref b13)])) t → G_ t := fun t q => k15_ t (st16 t q)
      have ne_rb_b16 : rb ≠ b16 := Nat.ne_of_lt (Nat.lt_of_lt_of_le VR.lt (Nat.le_of_eq g16.symm))
      have ne_b13_b16 : b13 ≠ b16 := Nat.ne_of_lt (Nat.lt_of_lt_of_le Vs.lt (Nat.le_of_eq g16.symm))
      have g_b16 : n0 ≤ b16 := Nat.le_trans Zn (Nat.le_of_eq g16.symm)
      replace Zn := Nat.le_trans Zn E16.1
      replace hk := Nat.le_trans hk E16.1
      replace VR := VR.ext E16
      replace Vs := Vs.ext E16
      replace Cs := Cs.ext E16
      replace As := As.ext E16
      have V_b16 : Arv Z h16 b16 c16 .char (1 : Int32) [(.int (0 : Int32))] (.int (0 : Int32)) := (Arv.new A16 (by decide)).pad (pad_rep [] (.int (0 : Int32)) 1)
      have z_b16 : h0.size ≤ b16 := by rw [g16]; exact KP.1
      replace KP := KP.ext E16
      replace X00 := X00.ext E16
      replace hCH := hCH.trans (CHr.ext E16 hCH.1)
      obtain ⟨cl18, Ar18, q18, S18, M18, H18, G18⟩ := id VR
      have k19_ : ∀ t, Steps p.tables e below (T16.setTop (mkF m 32 #[oi lv, oa rb] [(.int (Rl.getD 0 0)), (.int (0 : Int32)), (.ref b16), (.ref b16), (.ref b13), (.ref b13)])) t → G_ t := by
        intro t q
        refine k17_ _ ?_
        show Steps p.tables e below (T16.setTop (mkF m 27 #[oi lv, oa rb] [(.ref b16), (.ref b13), (.ref b13)])) _
        refine XS.dup X16.here hx rfl (hb hby d_method_4_27) rfl rfl ?_
        refine XS.iconst X16.here hx rfl (hb hby d_method_4_28) ?_
        refine XS.aloadN X16.here hx rfl (hb hby d_method_4_29) rfl rfl ?_
        refine XS.iconst X16.here hx rfl (hb hby d_method_4_30) ?_
        show Steps p.tables e below (T16.setTop (mkF m 31 #[oi lv, oa rb] [(.int (0 : Int32)), (.ref rb), (.int (0 : Int32)), (.ref b16), (.ref b16), (.ref b13), (.ref b13)])) _
        refine X16.caload hx (j := (0 : Int32)) (v := (.int (Rl.getD 0 0))) (by rw [e16]; exact Ar18.1) (State.isArrayOf_alike hZ.alike Ar18.2.1) Ar18.2.2 (inb_of S18 (own_inr (n := 2) (i := 0) (by decide) (by decide))) (Has.at H18 (inb_of S18 (own_inr (n := 2) (i := 0) (by decide) (by decide))) (own_gi _ (by decide))) (g := (mkF m 31 #[oi lv, oa rb] [(.int (0 : Int32)), (.ref rb), (.int (0 : Int32)), (.ref b16), (.ref b16), (.ref b13), (.ref b13)])) rfl rfl (hb hby d_method_4_31) _ ?_
        show Steps p.tables e below (T16.setTop (mkF m 32 #[oi lv, oa rb] [(.int (Rl.getD 0 0)), (.int (0 : Int32)), (.ref b16), (.ref b16), (.ref b13), (.ref b13)])) _
        exact q
      obtain ⟨cl20, Ar20, q20, S20, M20, H20, G20⟩ := V_b16
      obtain ⟨T21, h21, X21, e21, W21, st21⟩ := stC X16 hx hZ e16 Ar20 (j := (0 : Int32)) (inb_of S20 ⟨by decide, by decide⟩) (g := (mkF m 32 #[oi lv, oa rb] [(.int (Rl.getD 0 0)), (.int (0 : Int32)), (.ref b16), (.ref b16), (.ref b13), (.ref b13)])) rfl rfl (hb hby d_method_4_32)
      have k22_ : ∀ t, Steps p.tables e below (T21.setTop (mkF m 33 #[oi lv, oa rb] [(.ref b16), (.ref b13), (.ref b13)])) t → G_ t := fun t q => k19_ t (st21 t q)
      have N21 := Fr.snoc X21 N0 g_b16
      rw [own_nc (own_OK_get hR 0)] at W21
      replace Zn := Nat.le_trans Zn (Keep.of_wr W21).1
      replace hk := Nat.le_trans hk (Keep.of_wr W21).1
      replace VR := VR.other W21 ne_rb_b16
      replace Vs := Vs.other W21 (Or.inl ne_b13_b16)
      replace Cs := Cs.other W21 (Or.inl ne_b13_b16)
      replace As := As.wr W21
      have V_b16 : Arv Z h21 b16 c16 .char (1 : Int32) [(.int (Rl.getD 0 0))] (.int (0 : Int32)) := Arv.set Ar20 q20 S20 M20 H20 G20 (by have q := fits_nar_char (Rl.getD 0 0); rw [own_nc (own_OK_get hR 0)] at q; exact q) W21 0 rfl (Nat.le_of_ble_eq_true rfl)
      replace KP := KP.wr W21 (Or.inr z_b16)
      replace X00 := X00.wr W21 g_b16
      replace hCH := hCH.trans (CHr.wr W21 (Safe.arr hZ.alike Ar20 (fun h => by cases h)) hCH.1)
      have hp : ∀ c ∈ ([Rl.getD 0 0] : List Int32), ¬ c < 0 ∧ ¬ (255 : Int32) < c := fun c hc => own_tkOK hR 1 c (by rw [own_tk1 hR2]; exact hc)
      have V0 : Arv Z h21 b16 c16 .char (1 : Int32) (([Rl.getD 0 0] : List Int32).map Value.int) (.int 0) := V_b16
      obtain ⟨_, _, ⟨T23, L23, kk23, n23⟩, -, X23, ⟨Lc23, hQ23, l23, y23, z23⟩, st23⟩ := X21.specialBack hx (y := (⟨"java/lang/String", "<init>", "([C)V"⟩ : MethodName)) rfl hown (mvT hZ (hw _ (List.mem_of_getElem? (i := 23) rfl))) (mvT hZ (hw _ (List.mem_of_getElem? (i := 24) rfl))) (mvT hZ (hw _ (List.mem_of_getElem? (i := 25) rfl))) (by decide) (StrChars.Road.backV (W := 1) hZ hwwords (kI := 4) (hw _ (List.mem_of_getElem? (i := 21) rfl)) (cs := ([Rl.getD 0 0] : List Int32)) (bs := ([Rl.getD 0 0] : List Int32).map (fun c => c.toInt8.toInt32)) (n := 1) g_b13 Zn As Vs Cs V0 (O2.ext X00.2) hzc rfl rfl (by decide) (by decide) hp rfl (by decide) (by decide)) (g := (mkF m 33 #[oi lv, oa rb] [(.ref b16), (.ref b13), (.ref b13)])) rfl (by rw [hml]; rfl) (Steps.refl _) (a := b13) (argsL := [(.ref b16)]) (rest := [(.ref b13)]) (lenOf pd_20902 rfl) rfl (by show 2 * 0 + _ ≤ _; exact Nat.le_of_eq rfl) (hb hby d_method_4_33) (fun _ _ => ⟨rfl, e21, (by decide : 0 + 1 + 1 + 1 ≤ _), (by decide : 0 + 4 + 1 + 1 ≤ _)⟩)
      dsimp only [Pt.U, Pt.locs, Pt.cells, Pt.slots] at X23 l23 y23 z23 st23 hQ23
      rw [l23, y23, z23] at X23
      obtain ⟨rfl, Nq23, KI, EI, CI, tt, kb, -, -, -, VI, AI⟩ := hQ23
      have N23 := Fr.app N21 Nq23
      have k24_ : ∀ t, Steps p.tables e below (T23.setTop (mkF m 36 #[oi lv, oa rb] [(.ref b13)])) t → G_ t := fun t q => k22_ t (st23.trans q)
      replace hk := Nat.le_trans hk KI.1
      have SV : Safe Z own_EL s.vm h21 b13 := own_safe hZ.alike As Vs
      replace hCH := hCH.trans (CHr.keep KI (sfS SV sf0) hCH.1)
      replace KP := KP.trans KI (fun y hy => Or.inr (by cases List.mem_singleton.mp hy; exact z_b13))
      obtain ⟨fs, hr, hrun, hended, r1, r2, r3, r4⟩ := Stand.leaveW (s := s) (vm₁ := s.vm) X23 hS hk (v := some (.ref b13)) (fun h => by rw [Bd.returns] at h; cases h)
      refine ⟨_, _, pre0 _ (k24_ _ ?_), hrun, hended, _, _, rfl, ?_, ?_, r1, r2, r3, r4.mono (by decide) (by decide)⟩
      · show Steps p.tables e below (T23.setTop (mkF m 36 #[oi lv, oa rb] [(.ref b13)])) _
        jvm_step X23.here [X23.here.top, hx, (hb hby d_method_4_36), X23.method', Bd.returns, Value.isRef, FieldType.isReference]
        first | (intro acts; rw [hr _ acts rfl rfl rfl]) | rw [hr _ _ rfl rfl rfl]
        exact Steps.refl _
      · show QRe Z lv rb Rl kR zc h0 n0 _ T23.heap _
        exact ⟨b13, rfl, N23, KP, by rw [hlv, own_tk1 hR2]; exact ⟨EI, CI, tt, kb, VI, AI, EI.lt, AI.lt⟩⟩
      · show CHr Z own_EL s.vm s.heap T23.vm T23.heap
        rw [hh]
        exact hCH.trans (CHv.at (s := s) X23 hZ hEL hCH.1)
    · have k25_ : ∀ t, Steps p.tables e below (s₁.setTop (mkF m 37 #[oi lv, oa rb] [])) t → G_ t := by
        intro t q
        refine k11_ _ ?_
        show Steps p.tables e below (s₁.setTop (mkF m 17 #[oi lv, oa rb] [(.int (1 : Int32)), (.int (Int32.ofNat lv))])) _
        refine XS.icmpYes X0.here hx rfl (pc0 := 17) (pc' := 37) rfl (hb hby d_method_4_17) rfl (feq hn1).2 (by decide) (by decide) ?_
        show Steps p.tables e below (s₁.setTop (mkF m 37 #[oi lv, oa rb] [])) _
        exact q
      have hlv : lv = 2 := by have a0_ : ¬ lv = 0 := fun z => hn0 (by rw [z]; rfl); have a1_ : ¬ lv = 1 := fun z => hn1 (by rw [z]; rfl); omega
      obtain ⟨T26, h26, X26, e26, E26, A26, D26, -, st26⟩ := newO X0 hx hZ hown (hw _ (List.mem_of_getElem? (i := 20) rfl)) (hw _ (List.mem_of_getElem? (i := 21) rfl)) (hw _ (List.mem_of_getElem? (i := 22) rfl)) e0 (g := (mkF m 37 #[oi lv, oa rb] [])) rfl (hb hby d_method_4_37) (by decide) (by decide)
      obtain ⟨b26, g26⟩ : ∃ z, z = h0.size := ⟨_, rfl⟩
      rw [← g26] at A26 D26 st26
      have k27_ : ∀ t, Steps p.tables e below (T26.setTop (mkF m 40 #[oi lv, oa rb] [(.ref b26)])) t → G_ t := fun t q => k25_ t (st26 t q)
      have ne_rb_b26 : rb ≠ b26 := Nat.ne_of_lt (Nat.lt_of_lt_of_le VR.lt (Nat.le_of_eq g26.symm))
      have g_b26 : n0 ≤ b26 := Nat.le_trans Zn (Nat.le_of_eq g26.symm)
      replace Zn := Nat.le_trans Zn E26.1
      replace hk := Nat.le_trans hk E26.1
      replace VR := VR.ext E26
      have z_b26 : h0.size ≤ b26 := by rw [g26]; exact KP.1
      replace KP := KP.ext E26
      replace X00 := X00.ext E26
      replace hCH := hCH.trans (CHr.ext E26 hCH.1)
      have Vs : Fld Z h26 b26 "java/lang/String" "value" "[B" .null := D26 (Or.inr (hw _ (List.mem_of_getElem? (i := 48) rfl))) (ty := (.array .byte)) (by decide)
      have Cs : Fld Z h26 b26 "java/lang/String" "coder" "B" (.int (0 : Int32)) := D26 (Or.inr (hw _ (List.mem_of_getElem? (i := 46) rfl))) (ty := .byte) (by decide)
      have As := A26
      have k28_ : ∀ t, Steps p.tables e below (T26.setTop (mkF m 42 #[oi lv, oa rb] [(.int (2 : Int32)), (.ref b26), (.ref b26)])) t → G_ t := by
        intro t q
        refine k27_ _ ?_
        show Steps p.tables e below (T26.setTop (mkF m 40 #[oi lv, oa rb] [(.ref b26)])) _
        refine XS.dup X26.here hx rfl (hb hby d_method_4_40) rfl rfl ?_
        refine XS.iconst X26.here hx rfl (hb hby d_method_4_41) ?_
        show Steps p.tables e below (T26.setTop (mkF m 42 #[oi lv, oa rb] [(.int (2 : Int32)), (.ref b26), (.ref b26)])) _
        exact q
      obtain ⟨T29, h29, c29, X29, e29, E29, A29, st29⟩ := newP X26 hx hZ (hw _ (List.mem_of_getElem? (i := 4) rfl)) e26 (g := (mkF m 42 #[oi lv, oa rb] [(.int (2 : Int32)), (.ref b26), (.ref b26)])) rfl (hb hby d_method_4_42) rfl (by decide) (cap := 2) (by decide) (by decide) (by decide) (by decide)
      obtain ⟨b29, g29⟩ : ∃ z, z = h26.size := ⟨_, rfl⟩
      rw [← g29] at A29 st29
      have k30_ : ∀ t, Steps p.tables e below (T29.setTop (mkF m 44 #[oi lv, oa rb] [(.ref b29), (.ref b26), (.ref b26)])) t → G_ t := fun t q => k28_ t (st29 t q)
      have ne_rb_b29 : rb ≠ b29 := Nat.ne_of_lt (Nat.lt_of_lt_of_le VR.lt (Nat.le_of_eq g29.symm))
      have ne_b26_b29 : b26 ≠ b29 := Nat.ne_of_lt (Nat.lt_of_lt_of_le Vs.lt (Nat.le_of_eq g29.symm))
      have g_b29 : n0 ≤ b29 := Nat.le_trans Zn (Nat.le_of_eq g29.symm)
      replace Zn := Nat.le_trans Zn E29.1
      replace hk := Nat.le_trans hk E29.1
      replace VR := VR.ext E29
      replace Vs := Vs.ext E29
      replace Cs := Cs.ext E29
      replace As := As.ext E29
      have V_b29 : Arv Z h29 b29 c29 .char (2 : Int32) [(.int (0 : Int32)), (.int (0 : Int32))] (.int (0 : Int32)) := (Arv.new A29 (by decide)).pad (pad_rep [] (.int (0 : Int32)) 2)
      have z_b29 : h0.size ≤ b29 := by rw [g29]; exact KP.1
      replace KP := KP.ext E29
      replace X00 := X00.ext E29
      replace hCH := hCH.trans (CHr.ext E29 hCH.1)
      obtain ⟨cl31, Ar31, q31, S31, M31, H31, G31⟩ := id VR
      have k32_ : ∀ t, Steps p.tables e below (T29.setTop (mkF m 49 #[oi lv, oa rb] [(.int (Rl.getD 0 0)), (.int (0 : Int32)), (.ref b29), (.ref b29), (.ref b26), (.ref b26)])) t → G_ t := by
        intro t q
        refine k30_ _ ?_
        show Steps p.tables e below (T29.setTop (mkF m 44 #[oi lv, oa rb] [(.ref b29), (.ref b26), (.ref b26)])) _
        refine XS.dup X29.here hx rfl (hb hby d_method_4_44) rfl rfl ?_
        refine XS.iconst X29.here hx rfl (hb hby d_method_4_45) ?_
        refine XS.aloadN X29.here hx rfl (hb hby d_method_4_46) rfl rfl ?_
        refine XS.iconst X29.here hx rfl (hb hby d_method_4_47) ?_
        show Steps p.tables e below (T29.setTop (mkF m 48 #[oi lv, oa rb] [(.int (0 : Int32)), (.ref rb), (.int (0 : Int32)), (.ref b29), (.ref b29), (.ref b26), (.ref b26)])) _
        refine X29.caload hx (j := (0 : Int32)) (v := (.int (Rl.getD 0 0))) (by rw [e29]; exact Ar31.1) (State.isArrayOf_alike hZ.alike Ar31.2.1) Ar31.2.2 (inb_of S31 (own_inr (n := 2) (i := 0) (by decide) (by decide))) (Has.at H31 (inb_of S31 (own_inr (n := 2) (i := 0) (by decide) (by decide))) (own_gi _ (by decide))) (g := (mkF m 48 #[oi lv, oa rb] [(.int (0 : Int32)), (.ref rb), (.int (0 : Int32)), (.ref b29), (.ref b29), (.ref b26), (.ref b26)])) rfl rfl (hb hby d_method_4_48) _ ?_
        show Steps p.tables e below (T29.setTop (mkF m 49 #[oi lv, oa rb] [(.int (Rl.getD 0 0)), (.int (0 : Int32)), (.ref b29), (.ref b29), (.ref b26), (.ref b26)])) _
        exact q
      obtain ⟨cl33, Ar33, q33, S33, M33, H33, G33⟩ := V_b29
      obtain ⟨T34, h34, X34, e34, W34, st34⟩ := stC X29 hx hZ e29 Ar33 (j := (0 : Int32)) (inb_of S33 ⟨by decide, by decide⟩) (g := (mkF m 49 #[oi lv, oa rb] [(.int (Rl.getD 0 0)), (.int (0 : Int32)), (.ref b29), (.ref b29), (.ref b26), (.ref b26)])) rfl rfl (hb hby d_method_4_49)
      have k35_ : ∀ t, Steps p.tables e below (T34.setTop (mkF m 50 #[oi lv, oa rb] [(.ref b29), (.ref b26), (.ref b26)])) t → G_ t := fun t q => k32_ t (st34 t q)
      have N34 := Fr.snoc X34 N0 g_b29
      rw [own_nc (own_OK_get hR 0)] at W34
      replace Zn := Nat.le_trans Zn (Keep.of_wr W34).1
      replace hk := Nat.le_trans hk (Keep.of_wr W34).1
      replace VR := VR.other W34 ne_rb_b29
      replace Vs := Vs.other W34 (Or.inl ne_b26_b29)
      replace Cs := Cs.other W34 (Or.inl ne_b26_b29)
      replace As := As.wr W34
      have V_b29 : Arv Z h34 b29 c29 .char (2 : Int32) [(.int (Rl.getD 0 0)), (.int (0 : Int32))] (.int (0 : Int32)) := Arv.set Ar33 q33 S33 M33 H33 G33 (by have q := fits_nar_char (Rl.getD 0 0); rw [own_nc (own_OK_get hR 0)] at q; exact q) W34 0 rfl (Nat.le_of_ble_eq_true rfl)
      replace KP := KP.wr W34 (Or.inr z_b29)
      replace X00 := X00.wr W34 g_b29
      replace hCH := hCH.trans (CHr.wr W34 (Safe.arr hZ.alike Ar33 (fun h => by cases h)) hCH.1)
      obtain ⟨cl36, Ar36, q36, S36, M36, H36, G36⟩ := id VR
      have k37_ : ∀ t, Steps p.tables e below (T34.setTop (mkF m 55 #[oi lv, oa rb] [(.int (Rl.getD 1 0)), (.int (1 : Int32)), (.ref b29), (.ref b29), (.ref b26), (.ref b26)])) t → G_ t := by
        intro t q
        refine k35_ _ ?_
        show Steps p.tables e below (T34.setTop (mkF m 50 #[oi lv, oa rb] [(.ref b29), (.ref b26), (.ref b26)])) _
        refine XS.dup X34.here hx rfl (hb hby d_method_4_50) rfl rfl ?_
        refine XS.iconst X34.here hx rfl (hb hby d_method_4_51) ?_
        refine XS.aloadN X34.here hx rfl (hb hby d_method_4_52) rfl rfl ?_
        refine XS.iconst X34.here hx rfl (hb hby d_method_4_53) ?_
        show Steps p.tables e below (T34.setTop (mkF m 54 #[oi lv, oa rb] [(.int (1 : Int32)), (.ref rb), (.int (1 : Int32)), (.ref b29), (.ref b29), (.ref b26), (.ref b26)])) _
        refine X34.caload hx (j := (1 : Int32)) (v := (.int (Rl.getD 1 0))) (by rw [e34]; exact Ar36.1) (State.isArrayOf_alike hZ.alike Ar36.2.1) Ar36.2.2 (inb_of S36 (own_inr (n := 2) (i := 1) (by decide) (by decide))) (Has.at H36 (inb_of S36 (own_inr (n := 2) (i := 1) (by decide) (by decide))) (own_gi _ (by decide))) (g := (mkF m 54 #[oi lv, oa rb] [(.int (1 : Int32)), (.ref rb), (.int (1 : Int32)), (.ref b29), (.ref b29), (.ref b26), (.ref b26)])) rfl rfl (hb hby d_method_4_54) _ ?_
        show Steps p.tables e below (T34.setTop (mkF m 55 #[oi lv, oa rb] [(.int (Rl.getD 1 0)), (.int (1 : Int32)), (.ref b29), (.ref b29), (.ref b26), (.ref b26)])) _
        exact q
      obtain ⟨cl38, Ar38, q38, S38, M38, H38, G38⟩ := V_b29
      obtain ⟨T39, h39, X39, e39, W39, st39⟩ := stC X34 hx hZ e34 Ar38 (j := (1 : Int32)) (inb_of S38 ⟨by decide, by decide⟩) (g := (mkF m 55 #[oi lv, oa rb] [(.int (Rl.getD 1 0)), (.int (1 : Int32)), (.ref b29), (.ref b29), (.ref b26), (.ref b26)])) rfl rfl (hb hby d_method_4_55)
      have k40_ : ∀ t, Steps p.tables e below (T39.setTop (mkF m 56 #[oi lv, oa rb] [(.ref b29), (.ref b26), (.ref b26)])) t → G_ t := fun t q => k37_ t (st39 t q)
      have N39 := Fr.snoc X39 N34 g_b29
      rw [own_nc (own_OK_get hR 1)] at W39
      replace Zn := Nat.le_trans Zn (Keep.of_wr W39).1
      replace hk := Nat.le_trans hk (Keep.of_wr W39).1
      replace VR := VR.other W39 ne_rb_b29
      replace Vs := Vs.other W39 (Or.inl ne_b26_b29)
      replace Cs := Cs.other W39 (Or.inl ne_b26_b29)
      replace As := As.wr W39
      have V_b29 : Arv Z h39 b29 c29 .char (2 : Int32) [(.int (Rl.getD 0 0)), (.int (Rl.getD 1 0))] (.int (0 : Int32)) := Arv.set Ar38 q38 S38 M38 H38 G38 (by have q := fits_nar_char (Rl.getD 1 0); rw [own_nc (own_OK_get hR 1)] at q; exact q) W39 1 rfl (Nat.le_of_ble_eq_true rfl)
      replace KP := KP.wr W39 (Or.inr z_b29)
      replace X00 := X00.wr W39 g_b29
      replace hCH := hCH.trans (CHr.wr W39 (Safe.arr hZ.alike Ar38 (fun h => by cases h)) hCH.1)
      have hp : ∀ c ∈ ([Rl.getD 0 0, Rl.getD 1 0] : List Int32), ¬ c < 0 ∧ ¬ (255 : Int32) < c := fun c hc => own_tkOK hR 2 c (by rw [own_tk2 hR2]; exact hc)
      have V0 : Arv Z h39 b29 c29 .char (2 : Int32) (([Rl.getD 0 0, Rl.getD 1 0] : List Int32).map Value.int) (.int 0) := V_b29
      obtain ⟨_, _, ⟨T41, L41, kk41, n41⟩, -, X41, ⟨Lc41, hQ41, l41, y41, z41⟩, st41⟩ := X39.specialBack hx (y := (⟨"java/lang/String", "<init>", "([C)V"⟩ : MethodName)) rfl hown (mvT hZ (hw _ (List.mem_of_getElem? (i := 23) rfl))) (mvT hZ (hw _ (List.mem_of_getElem? (i := 24) rfl))) (mvT hZ (hw _ (List.mem_of_getElem? (i := 25) rfl))) (by decide) (StrChars.Road.backV (W := 1) hZ hwwords (kI := 4) (hw _ (List.mem_of_getElem? (i := 21) rfl)) (cs := ([Rl.getD 0 0, Rl.getD 1 0] : List Int32)) (bs := ([Rl.getD 0 0, Rl.getD 1 0] : List Int32).map (fun c => c.toInt8.toInt32)) (n := 2) g_b26 Zn As Vs Cs V0 (O2.ext X00.2) hzc rfl rfl (by decide) (by decide) hp rfl (by decide) (by decide)) (g := (mkF m 56 #[oi lv, oa rb] [(.ref b29), (.ref b26), (.ref b26)])) rfl (by rw [hml]; rfl) (Steps.refl _) (a := b26) (argsL := [(.ref b29)]) (rest := [(.ref b26)]) (lenOf pd_20902 rfl) rfl (by show 2 * 0 + _ ≤ _; exact Nat.le_of_eq rfl) (hb hby d_method_4_56) (fun _ _ => ⟨rfl, e39, (by decide : 0 + 1 + 1 + 1 ≤ _), (by decide : 0 + 4 + 2 + 2 ≤ _)⟩)
      dsimp only [Pt.U, Pt.locs, Pt.cells, Pt.slots] at X41 l41 y41 z41 st41 hQ41
      rw [l41, y41, z41] at X41
      obtain ⟨rfl, Nq41, KI, EI, CI, tt, kb, -, -, -, VI, AI⟩ := hQ41
      have N41 := Fr.app N39 Nq41
      have k42_ : ∀ t, Steps p.tables e below (T41.setTop (mkF m 59 #[oi lv, oa rb] [(.ref b26)])) t → G_ t := fun t q => k40_ t (st41.trans q)
      replace hk := Nat.le_trans hk KI.1
      have SV : Safe Z own_EL s.vm h39 b26 := own_safe hZ.alike As Vs
      replace hCH := hCH.trans (CHr.keep KI (sfS SV sf0) hCH.1)
      replace KP := KP.trans KI (fun y hy => Or.inr (by cases List.mem_singleton.mp hy; exact z_b26))
      obtain ⟨fs, hr, hrun, hended, r1, r2, r3, r4⟩ := Stand.leaveW (s := s) (vm₁ := s.vm) X41 hS hk (v := some (.ref b26)) (fun h => by rw [Bd.returns] at h; cases h)
      refine ⟨_, _, pre0 _ (k42_ _ ?_), hrun, hended, _, _, rfl, ?_, ?_, r1, r2, r3, r4.mono (by decide) (by decide)⟩
      · show Steps p.tables e below (T41.setTop (mkF m 59 #[oi lv, oa rb] [(.ref b26)])) _
        jvm_step X41.here [X41.here.top, hx, (hb hby d_method_4_59), X41.method', Bd.returns, Value.isRef, FieldType.isReference]
        first | (intro acts; rw [hr _ acts rfl rfl rfl]) | rw [hr _ _ rfl rfl rfl]
        exact Steps.refl _
      · show QRe Z lv rb Rl kR zc h0 n0 _ T41.heap _
        exact ⟨b26, rfl, N41, KP, by rw [hlv, own_tk2 hR2]; exact ⟨EI, CI, tt, kb, VI, AI, EI.lt, AI.lt⟩⟩
      · show CHr Z own_EL s.vm s.heap T41.vm T41.heap
        rw [hh]
        exact hCH.trans (CHv.at (s := s) X41 hZ hEL hCH.1)
theorem own_sb1 {n : Nat} (h : n < 100) (h0 : 0 < n) : Int32.ofNat (n - 1) = Int32.ofNat n - (1 : Int32) := own_sbn (j := 1) h h0
def own_U (Z : State) (n0 kk : Nat) (h : Heap) (up sb rb hq : Addr) (n : Nat) (Sh Ho Ln : Nat → Nat) (E Rr : Nat → List Int32) (A : Nat → Addr) : Prop :=
  ∃ (sh ho : List Int32) (rs : List Value), Exa Z h up "com/example/haku/haku/index/UnitPaths" ∧ Fld Z h up "com/example/haku/haku/index/UnitPaths" "shared" "[I" (.ref sb) ∧ Fld Z h up "com/example/haku/haku/index/UnitPaths" "rests" "[Ljava/lang/String;" (.ref rb) ∧ Fld Z h up "com/example/haku/haku/index/UnitPaths" "holders" "[I" (.ref hq) ∧ Fld Z h up "com/example/haku/haku/index/UnitPaths" "size" "I" (.int (Int32.ofNat n)) ∧
  (∃ k, Arv Z h sb k .int 4 (sh.map Value.int) (.int 0)) ∧ (∃ k, Arv Z h rb k (.object "java/lang/String") 4 rs .null ∧ Ovr Z k "java/lang/String") ∧ (∃ k, Arv Z h hq k .int 4 (ho.map Value.int) (.int 0)) ∧
  (sh.length = 4 ∧ ho.length = 4 ∧ rs.length = 4) ∧ (∀ u, u < n → sh.getD u 0 = Int32.ofNat (Sh u) ∧ (0 < Sh u → ho.getD u 0 = Int32.ofNat (Ho u)) ∧ rs.getD u .null = .ref (A u) ∧ own_Sb Z kk h (A u) (Rr u)) ∧
  own_V n Sh Ho Ln E Rr ∧ (up ≠ sb ∧ up ≠ rb ∧ up ≠ hq ∧ sb ≠ rb ∧ sb ≠ hq ∧ rb ≠ hq) ∧ (kk ≤ up ∧ kk ≤ sb ∧ kk ≤ rb ∧ kk ≤ hq) ∧ n0 ≤ kk
theorem own_U_keep {Z : State} {n0 kk : Nat} {h h' : Heap} {up sb rb hq : Addr} {n : Nat} {Sh Ho Ln : Nat → Nat} {E Rr : Nat → List Int32} {A : Nat → Addr} {ws : List Addr} (H : own_U Z n0 kk h up sb rb hq n Sh Ho Ln E Rr A) (K : Keep h h' ws) (q : ∀ x ∈ ws, h.size ≤ x ∨ (kk ≤ x ∧ x ≠ up ∧ x ≠ sb ∧ x ≠ rb ∧ x ≠ hq)) (hkk : kk ≤ h.size) : own_U Z n0 kk h' up sb rb hq n Sh Ho Ln E Rr A := by
  obtain ⟨sh, ho, rs, E1, F1, F2, F3, F4, ⟨k1, V1⟩, ⟨k2, V2, O2⟩, ⟨k3, V3⟩, hl, hu, hv, hd, hk, hn⟩ := H
  have nin : ∀ x : Addr, x < h.size → (x = up ∨ x = sb ∨ x = rb ∨ x = hq) → x ∉ ws := fun x h1 h2 h3 => by
    rcases q x h3 with z | ⟨z1, z2, z3, z4, z5⟩
    · exact absurd h1 (Nat.not_lt.mpr z)
    · rcases h2 with e | e | e | e
      · exact z2 e
      · exact z3 e
      · exact z4 e
      · exact z5 e
  have nu := nin up E1.lt (Or.inl rfl)
  refine ⟨sh, ho, rs, E1.keep K, F1.keep K nu, F2.keep K nu, F3.keep K nu, F4.keep K nu, ⟨k1, V1.keep K (nin _ V1.lt (Or.inr (Or.inl rfl)))⟩, ⟨k2, V2.keep K (nin _ V2.lt (Or.inr (Or.inr (Or.inl rfl)))), O2⟩, ⟨k3, V3.keep K (nin _ V3.lt (Or.inr (Or.inr (Or.inr rfl))))⟩, hl, fun u hun => ?_, hv, hd, hk, hn⟩
  obtain ⟨a1, a2, a3, a4⟩ := hu u hun
  exact ⟨a1, a2, a3, own_Sb_keep a4 K fun x hx => (q x hx).elim (fun z => Nat.le_trans hkk z) fun z => z.1⟩
def QU (Z : State) (up : Addr) (kk : Nat) (h0 : Heap) (n0 : Nat) (v : Option Value) (h : Heap) (L : List Loc) : Prop := v = none ∧ Fr n0 L ∧ Keep h0 h [up] ∧ ∃ sb rb hq, (h0.size ≤ sb ∧ h0.size ≤ rb ∧ h0.size ≤ hq) ∧ own_U Z n0 kk h up sb rb hq 0 (fun _ => 0) (fun _ => 0) (fun _ => 0) (fun _ => []) (fun _ => []) (fun _ => 0)
theorem ef_U (m : MethodId) (x0 : Addr) (x1 : Int32) : entryFrame m #[(.ref x0), (.int x1)] 2 = mkF m 0 #[.val (.ref x0), .val (.int x1)] [] := by first | (simp [entryFrame, mkF, argsToLocals, Value.category]; done) | rfl
theorem pn_UnitPaths : plainName "com/example/haku/haku/index/UnitPaths" = true := by first | (simp [plainName, overriddenIn]; done) | decide +kernel
theorem d_prog_85_method_1_0 : decode prog_85_method_1_code 0 = .ok (.aload_n 0, 1) := by decide +kernel
theorem d_prog_85_method_1_1 : decode prog_85_method_1_code 1 = .ok (.invokespecial 1, 3) := by decide +kernel
theorem d_prog_85_method_1_4 : decode prog_85_method_1_code 4 = .ok (.aload_n 0, 1) := by decide +kernel
theorem d_prog_85_method_1_5 : decode prog_85_method_1_code 5 = .ok (.iload_n 1, 1) := by decide +kernel
theorem d_prog_85_method_1_6 : decode prog_85_method_1_code 6 = .ok (.newarray .int, 2) := by decide +kernel
theorem d_prog_85_method_1_8 : decode prog_85_method_1_code 8 = .ok (.putfield 7, 3) := by decide +kernel
theorem d_prog_85_method_1_11 : decode prog_85_method_1_code 11 = .ok (.aload_n 0, 1) := by decide +kernel
theorem d_prog_85_method_1_12 : decode prog_85_method_1_code 12 = .ok (.iload_n 1, 1) := by decide +kernel
theorem d_prog_85_method_1_13 : decode prog_85_method_1_code 13 = .ok (.anewarray 13, 3) := by decide +kernel
theorem d_prog_85_method_1_16 : decode prog_85_method_1_code 16 = .ok (.putfield 15, 3) := by decide +kernel
theorem d_prog_85_method_1_19 : decode prog_85_method_1_code 19 = .ok (.aload_n 0, 1) := by decide +kernel
theorem d_prog_85_method_1_20 : decode prog_85_method_1_code 20 = .ok (.iload_n 1, 1) := by decide +kernel
theorem d_prog_85_method_1_21 : decode prog_85_method_1_code 21 = .ok (.newarray .int, 2) := by decide +kernel
theorem d_prog_85_method_1_23 : decode prog_85_method_1_code 23 = .ok (.putfield 19, 3) := by decide +kernel
theorem d_prog_85_method_1_26 : decode prog_85_method_1_code 26 = .ok (.return_, 1) := by decide +kernel
set_option maxRecDepth 65536 in
set_option maxHeartbeats 40000000 in
theorem rmU (l : Launch) (Z : State) (a0 : Array Value) (hw : ∀ d ∈ tables_1, d.before a0 Z = true) (ws : List Jvm.Cond) (up : Addr) (kk : Nat) (h0 : Heap) (n0 : Nat) (Z0 : n0 ≤ h0.size) (EA : Exa Z h0 up "com/example/haku/haku/index/UnitPaths") (F1 : Fld Z h0 up "com/example/haku/haku/index/UnitPaths" "shared" "[I" .null) (F2 : Fld Z h0 up "com/example/haku/haku/index/UnitPaths" "rests" "[Ljava/lang/String;" .null) (F3 : Fld Z h0 up "com/example/haku/haku/index/UnitPaths" "holders" "[I" .null) (F4 : Fld Z h0 up "com/example/haku/haku/index/UnitPaths" "size" "I" (.int (0 : Int32))) (hku : kk ≤ up) (hkh : kk ≤ h0.size) (hnk : n0 ≤ kk) :
    MetFree l (⟨"com/example/haku/haku/index/UnitPaths", "<init>", "(I)V"⟩ : MethodName) (head1 (Jvm.Cond.code (⟨"com/example/haku/haku/index/UnitPaths", "<init>", "(I)V"⟩ : MethodName) prog_85_method_1_code 2 none :: ws) ({ frames := 1, cells := 3, slots := 12, locals := 12 } : Room)) (fun a_ U_ => a_ = #[(.ref up), (.int (4 : Int32))] ∧ Z.Warmed39 U_.vm ∧ U_.heap = h0) (fun _ _ _ _ _ => True) (fun _ U_ o_ E_ => ∃ v_ L_, o_ = .returned v_ ∧ QU Z up kk h0 n0 v_ E_.heap L_ ∧ FrameEnd U_ o_ E_ L_ ({ frames := 1, cells := 3, slots := 12, locals := 12 } : Room).cells ({ frames := 1, cells := 3, slots := 12, locals := 12 } : Room).slots) := by
  refine MetFree.of_bodySF (plainFor_of_name pn_UnitPaths) hisR ?_
  intro p e s m args below meth c s₁ Bd hml0 hP hK
  obtain ⟨rfl, hZ, hh⟩ := hP
  have hx := Bd.exec
  have hby := Bd.bytes
  have hml : c.maxLocals = 2 := hml0
  have hown : s.vm.findClass "com/example/haku/haku/index/UnitPaths" = some m.cls := findClass_of_methodNamed Bd.named
  have hnm := (name_of_methodNamed Bd.named Bd.method).1
  have X0 : Stand p l e ({ frames := 1, cells := 3, slots := 12, locals := 12 } : Room) s m #[(.ref up), (.int (4 : Int32))] below meth c s₁ [] 0 0 := Stand.of_body Bd
  have e0 : s₁.heap = h0 := by rw [← hh, Bd.state]; rfl
  have N0 := Fr.nil n0
  have Zn := Z0
  have pre0 : ∀ t, Steps p.tables e below (s₁.setTop (mkF m 0 #[.val (.ref up), .val (.int (4 : Int32))] [])) t → Steps p.tables e below (s₁.setTop (entryFrame m #[(.ref up), (.int (4 : Int32))] 2)) t := fun t q => castTop (ef_U m up (4 : Int32)) q
  have k0 : ∀ t, Steps p.tables e below (s₁.setTop (mkF m 0 #[.val (.ref up), .val (.int (4 : Int32))] [])) t → Steps p.tables e below (s₁.setTop (mkF m 0 #[.val (.ref up), .val (.int (4 : Int32))] [])) t := fun t q => q
  let G_ : State → Prop := fun t => Steps p.tables e below (s₁.setTop (mkF m 0 #[.val (.ref up), .val (.int (4 : Int32))] [])) t
  have k1_ : ∀ t, Steps p.tables e below (s₁.setTop (mkF m 1 #[oa up, ov (4 : Int32)] [(.ref up)])) t → G_ t := by
    intro t q
    refine k0 _ ?_
    show Steps p.tables e below (s₁.setTop (mkF m 0 #[oa up, ov (4 : Int32)] [])) _
    refine XS.aloadN X0.here hx rfl (hb hby d_prog_85_method_1_0) rfl rfl ?_
    show Steps p.tables e below (s₁.setTop (mkF m 1 #[oa up, ov (4 : Int32)] [(.ref up)])) _
    exact q
  obtain ⟨T2, X2, e2, st2⟩ := initO X0 hx hZ hown (hw _ (List.mem_of_getElem? (i := 58) rfl)) (hw _ (List.mem_of_getElem? (i := 31) rfl)) (hw _ (List.mem_of_getElem? (i := 32) rfl)) e0 (g := (mkF m 1 #[oa up, ov (4 : Int32)] [(.ref up)])) rfl (by rw [hml]; rfl) rfl (hb hby d_prog_85_method_1_1) (by decide) (W := 0) (by show 2 * 0 + _ ≤ _; exact Nat.le_of_eq rfl) (by decide)
  have k3_ : ∀ t, Steps p.tables e below (T2.setTop (mkF m 4 #[oa up, ov (4 : Int32)] [])) t → G_ t := fun t q => k1_ t (st2 t q)
  have KP := Keep.refl h0 [up]
  have ga := Nat.le_trans hnk hku
  have k4_ : ∀ t, Steps p.tables e below (T2.setTop (mkF m 6 #[oa up, ov (4 : Int32)] [(.int (4 : Int32)), (.ref up)])) t → G_ t := by
    intro t q
    refine k3_ _ ?_
    show Steps p.tables e below (T2.setTop (mkF m 4 #[oa up, ov (4 : Int32)] [])) _
    refine XS.aloadN X2.here hx rfl (hb hby d_prog_85_method_1_4) rfl rfl ?_
    refine XS.iloadN X2.here hx rfl (hb hby d_prog_85_method_1_5) rfl ?_
    show Steps p.tables e below (T2.setTop (mkF m 6 #[oa up, ov (4 : Int32)] [(.int (4 : Int32)), (.ref up)])) _
    exact q
  obtain ⟨T5, h5, c5, X5, e5, E5, A5, st5⟩ := newP X2 hx hZ (hw _ (List.mem_of_getElem? (i := 59) rfl)) e2 (g := (mkF m 6 #[oa up, ov (4 : Int32)] [(.int (4 : Int32)), (.ref up)])) rfl (hb hby d_prog_85_method_1_6) rfl (by decide) (cap := 4) (by decide) (by decide) (by decide) (by decide)
  obtain ⟨b5, g5⟩ : ∃ z, z = h0.size := ⟨_, rfl⟩
  rw [← g5] at A5 st5
  have k6_ : ∀ t, Steps p.tables e below (T5.setTop (mkF m 8 #[oa up, ov (4 : Int32)] [(.ref b5), (.ref up)])) t → G_ t := fun t q => k4_ t (st5 t q)
  have ne_up_b5 : up ≠ b5 := Nat.ne_of_lt (Nat.lt_of_lt_of_le EA.lt (Nat.le_of_eq g5.symm))
  have g_b5 : n0 ≤ b5 := Nat.le_trans Zn (Nat.le_of_eq g5.symm)
  replace Zn := Nat.le_trans Zn E5.1
  replace EA := EA.ext E5
  replace F1 := F1.ext E5
  replace F2 := F2.ext E5
  replace F3 := F3.ext E5
  replace F4 := F4.ext E5
  have V_b5 : Arv Z h5 b5 c5 .int (4 : Int32) [(.int (0 : Int32)), (.int (0 : Int32)), (.int (0 : Int32)), (.int (0 : Int32))] (.int (0 : Int32)) := (Arv.new A5 (by decide)).pad (pad_rep [] (.int (0 : Int32)) 4)
  have z_b5 : h0.size ≤ b5 := by rw [g5]; exact KP.1
  replace KP := KP.ext E5
  obtain ⟨T7, h7, X7, e7, W7, st7⟩ := putF X5 hx hZ hown (host := "") (Or.inl (hw _ (List.mem_of_getElem? (i := 60) rfl))) Via.refl e5 F1 EA (Or.inr ⟨(hw _ (List.mem_of_getElem? (i := 61) rfl)), rfl, hnm⟩) (hw _ (List.mem_of_getElem? (i := 53) rfl)) (ty := (.array .int)) (by decide) rfl rfl (g := (mkF m 8 #[oa up, ov (4 : Int32)] [(.ref b5), (.ref up)])) rfl rfl (hb hby d_prog_85_method_1_8)
  have k8_ : ∀ t, Steps p.tables e below (T7.setTop (mkF m 11 #[oa up, ov (4 : Int32)] [])) t → G_ t := fun t q => k6_ t (st7 t q)
  have N7 := Fr.snoc X7 N0 ga
  replace Zn := Nat.le_trans Zn (Keep.of_wr W7).1
  replace EA := EA.wr W7
  replace F2 := F2.other W7 (Or.inr (slot_ne (Or.inr (hw _ (List.mem_of_getElem? (i := 65) rfl))) (Or.inr (hw _ (List.mem_of_getElem? (i := 61) rfl))) (by decide) (t := (.array (.object "java/lang/String"))) (t' := (.array .int)) (by decide) (by decide)))
  replace F3 := F3.other W7 (Or.inr (slot_ne (Or.inr (hw _ (List.mem_of_getElem? (i := 67) rfl))) (Or.inr (hw _ (List.mem_of_getElem? (i := 61) rfl))) (by decide) (t := (.array .int)) (t' := (.array .int)) (by decide) (by decide)))
  replace F4 := F4.other W7 (Or.inr (slot_ne (Or.inl (hw _ (List.mem_of_getElem? (i := 74) rfl))) (Or.inr (hw _ (List.mem_of_getElem? (i := 61) rfl))) (by decide) (t := .int) (t' := (.array .int)) (by decide) (by decide)))
  replace V_b5 := V_b5.other W7 (Ne.symm ne_up_b5)
  replace F1 := F1.same W7
  replace KP := KP.wr W7 (Or.inl (List.mem_of_getElem? (i := 0) rfl))
  have k9_ : ∀ t, Steps p.tables e below (T7.setTop (mkF m 13 #[oa up, ov (4 : Int32)] [(.int (4 : Int32)), (.ref up)])) t → G_ t := by
    intro t q
    refine k8_ _ ?_
    show Steps p.tables e below (T7.setTop (mkF m 11 #[oa up, ov (4 : Int32)] [])) _
    refine XS.aloadN X7.here hx rfl (hb hby d_prog_85_method_1_11) rfl rfl ?_
    refine XS.iloadN X7.here hx rfl (hb hby d_prog_85_method_1_12) rfl ?_
    show Steps p.tables e below (T7.setTop (mkF m 13 #[oa up, ov (4 : Int32)] [(.int (4 : Int32)), (.ref up)])) _
    exact q
  obtain ⟨T10, h10, c10, X10, e10, E10, A10, O10, st10⟩ := newR X7 hx hZ hown (hw _ (List.mem_of_getElem? (i := 62) rfl)) (hw _ (List.mem_of_getElem? (i := 63) rfl)) e7 (g := (mkF m 13 #[oa up, ov (4 : Int32)] [(.int (4 : Int32)), (.ref up)])) rfl (hb hby d_prog_85_method_1_13) rfl (by decide) (cap := 4) (by decide) (by decide) (by decide) (by decide)
  obtain ⟨b10, g10⟩ : ∃ z, z = h7.size := ⟨_, rfl⟩
  rw [← g10] at A10 st10
  have k11_ : ∀ t, Steps p.tables e below (T10.setTop (mkF m 16 #[oa up, ov (4 : Int32)] [(.ref b10), (.ref up)])) t → G_ t := fun t q => k9_ t (st10 t q)
  have ne_up_b10 : up ≠ b10 := Nat.ne_of_lt (Nat.lt_of_lt_of_le EA.lt (Nat.le_of_eq g10.symm))
  have ne_b5_b10 : b5 ≠ b10 := Nat.ne_of_lt (Nat.lt_of_lt_of_le V_b5.lt (Nat.le_of_eq g10.symm))
  have g_b10 : n0 ≤ b10 := Nat.le_trans Zn (Nat.le_of_eq g10.symm)
  replace Zn := Nat.le_trans Zn E10.1
  replace EA := EA.ext E10
  replace F1 := F1.ext E10
  replace F2 := F2.ext E10
  replace F3 := F3.ext E10
  replace F4 := F4.ext E10
  replace V_b5 := V_b5.ext E10
  have V_b10 : Arv Z h10 b10 c10 (.object "java/lang/String") (4 : Int32) [.null, .null, .null, .null] .null := (Arv.new A10 (by decide)).pad (pad_rep [] .null 4)
  have z_b10 : h0.size ≤ b10 := by rw [g10]; exact KP.1
  replace KP := KP.ext E10
  obtain ⟨T12, h12, X12, e12, W12, st12⟩ := putF X10 hx hZ hown (host := "") (Or.inl (hw _ (List.mem_of_getElem? (i := 64) rfl))) Via.refl e10 F2 EA (Or.inr ⟨(hw _ (List.mem_of_getElem? (i := 65) rfl)), rfl, hnm⟩) (hw _ (List.mem_of_getElem? (i := 53) rfl)) (ty := (.array (.object "java/lang/String"))) (by decide) rfl rfl (g := (mkF m 16 #[oa up, ov (4 : Int32)] [(.ref b10), (.ref up)])) rfl rfl (hb hby d_prog_85_method_1_16)
  have k13_ : ∀ t, Steps p.tables e below (T12.setTop (mkF m 19 #[oa up, ov (4 : Int32)] [])) t → G_ t := fun t q => k11_ t (st12 t q)
  have N12 := Fr.snoc X12 N7 ga
  replace Zn := Nat.le_trans Zn (Keep.of_wr W12).1
  replace EA := EA.wr W12
  replace F1 := F1.other W12 (Or.inr (slot_ne (Or.inr (hw _ (List.mem_of_getElem? (i := 61) rfl))) (Or.inr (hw _ (List.mem_of_getElem? (i := 65) rfl))) (by decide) (t := (.array .int)) (t' := (.array (.object "java/lang/String"))) (by decide) (by decide)))
  replace F3 := F3.other W12 (Or.inr (slot_ne (Or.inr (hw _ (List.mem_of_getElem? (i := 67) rfl))) (Or.inr (hw _ (List.mem_of_getElem? (i := 65) rfl))) (by decide) (t := (.array .int)) (t' := (.array (.object "java/lang/String"))) (by decide) (by decide)))
  replace F4 := F4.other W12 (Or.inr (slot_ne (Or.inl (hw _ (List.mem_of_getElem? (i := 74) rfl))) (Or.inr (hw _ (List.mem_of_getElem? (i := 65) rfl))) (by decide) (t := .int) (t' := (.array (.object "java/lang/String"))) (by decide) (by decide)))
  replace V_b5 := V_b5.other W12 (Ne.symm ne_up_b5)
  replace V_b10 := V_b10.other W12 (Ne.symm ne_up_b10)
  replace F2 := F2.same W12
  replace KP := KP.wr W12 (Or.inl (List.mem_of_getElem? (i := 0) rfl))
  have k14_ : ∀ t, Steps p.tables e below (T12.setTop (mkF m 21 #[oa up, ov (4 : Int32)] [(.int (4 : Int32)), (.ref up)])) t → G_ t := by
    intro t q
    refine k13_ _ ?_
    show Steps p.tables e below (T12.setTop (mkF m 19 #[oa up, ov (4 : Int32)] [])) _
    refine XS.aloadN X12.here hx rfl (hb hby d_prog_85_method_1_19) rfl rfl ?_
    refine XS.iloadN X12.here hx rfl (hb hby d_prog_85_method_1_20) rfl ?_
    show Steps p.tables e below (T12.setTop (mkF m 21 #[oa up, ov (4 : Int32)] [(.int (4 : Int32)), (.ref up)])) _
    exact q
  obtain ⟨T15, h15, c15, X15, e15, E15, A15, st15⟩ := newP X12 hx hZ (hw _ (List.mem_of_getElem? (i := 59) rfl)) e12 (g := (mkF m 21 #[oa up, ov (4 : Int32)] [(.int (4 : Int32)), (.ref up)])) rfl (hb hby d_prog_85_method_1_21) rfl (by decide) (cap := 4) (by decide) (by decide) (by decide) (by decide)
  obtain ⟨b15, g15⟩ : ∃ z, z = h12.size := ⟨_, rfl⟩
  rw [← g15] at A15 st15
  have k16_ : ∀ t, Steps p.tables e below (T15.setTop (mkF m 23 #[oa up, ov (4 : Int32)] [(.ref b15), (.ref up)])) t → G_ t := fun t q => k14_ t (st15 t q)
  have ne_up_b15 : up ≠ b15 := Nat.ne_of_lt (Nat.lt_of_lt_of_le EA.lt (Nat.le_of_eq g15.symm))
  have ne_b5_b15 : b5 ≠ b15 := Nat.ne_of_lt (Nat.lt_of_lt_of_le V_b5.lt (Nat.le_of_eq g15.symm))
  have ne_b10_b15 : b10 ≠ b15 := Nat.ne_of_lt (Nat.lt_of_lt_of_le V_b10.lt (Nat.le_of_eq g15.symm))
  have g_b15 : n0 ≤ b15 := Nat.le_trans Zn (Nat.le_of_eq g15.symm)
  replace Zn := Nat.le_trans Zn E15.1
  replace EA := EA.ext E15
  replace F1 := F1.ext E15
  replace F2 := F2.ext E15
  replace F3 := F3.ext E15
  replace F4 := F4.ext E15
  replace V_b5 := V_b5.ext E15
  replace V_b10 := V_b10.ext E15
  have V_b15 : Arv Z h15 b15 c15 .int (4 : Int32) [(.int (0 : Int32)), (.int (0 : Int32)), (.int (0 : Int32)), (.int (0 : Int32))] (.int (0 : Int32)) := (Arv.new A15 (by decide)).pad (pad_rep [] (.int (0 : Int32)) 4)
  have z_b15 : h0.size ≤ b15 := by rw [g15]; exact KP.1
  replace KP := KP.ext E15
  obtain ⟨T17, h17, X17, e17, W17, st17⟩ := putF X15 hx hZ hown (host := "") (Or.inl (hw _ (List.mem_of_getElem? (i := 66) rfl))) Via.refl e15 F3 EA (Or.inr ⟨(hw _ (List.mem_of_getElem? (i := 67) rfl)), rfl, hnm⟩) (hw _ (List.mem_of_getElem? (i := 53) rfl)) (ty := (.array .int)) (by decide) rfl rfl (g := (mkF m 23 #[oa up, ov (4 : Int32)] [(.ref b15), (.ref up)])) rfl rfl (hb hby d_prog_85_method_1_23)
  have k18_ : ∀ t, Steps p.tables e below (T17.setTop (mkF m 26 #[oa up, ov (4 : Int32)] [])) t → G_ t := fun t q => k16_ t (st17 t q)
  have N17 := Fr.snoc X17 N12 ga
  replace Zn := Nat.le_trans Zn (Keep.of_wr W17).1
  replace EA := EA.wr W17
  replace F1 := F1.other W17 (Or.inr (slot_ne (Or.inr (hw _ (List.mem_of_getElem? (i := 61) rfl))) (Or.inr (hw _ (List.mem_of_getElem? (i := 67) rfl))) (by decide) (t := (.array .int)) (t' := (.array .int)) (by decide) (by decide)))
  replace F2 := F2.other W17 (Or.inr (slot_ne (Or.inr (hw _ (List.mem_of_getElem? (i := 65) rfl))) (Or.inr (hw _ (List.mem_of_getElem? (i := 67) rfl))) (by decide) (t := (.array (.object "java/lang/String"))) (t' := (.array .int)) (by decide) (by decide)))
  replace F4 := F4.other W17 (Or.inr (slot_ne (Or.inl (hw _ (List.mem_of_getElem? (i := 74) rfl))) (Or.inr (hw _ (List.mem_of_getElem? (i := 67) rfl))) (by decide) (t := .int) (t' := (.array .int)) (by decide) (by decide)))
  replace V_b5 := V_b5.other W17 (Ne.symm ne_up_b5)
  replace V_b10 := V_b10.other W17 (Ne.symm ne_up_b10)
  replace V_b15 := V_b15.other W17 (Ne.symm ne_up_b15)
  replace F3 := F3.same W17
  replace KP := KP.wr W17 (Or.inl (List.mem_of_getElem? (i := 0) rfl))
  obtain ⟨fs, hr, hrun, hended, hW, hsame⟩ := X17.leave (v := none) (fun _ => rfl)
  refine ⟨_, _, pre0 _ (k18_ _ ?_), hrun, hended, _, _, rfl, ?_, ⟨_, rfl⟩, hW, hsame.mono (by decide) (by decide)⟩
  · show Steps p.tables e below (T17.setTop (mkF m 26 #[oa up, ov (4 : Int32)] [])) _
    exact X17.returnOut hx Bd.returns (hb hby d_prog_85_method_1_26) hr
  · show QU Z up kk h0 n0 _ T17.heap _
    rw [e17]
    exact ⟨rfl, N17, KP, b5, b10, b15, ⟨z_b5, z_b10, z_b15⟩, [0, 0, 0, 0], [0, 0, 0, 0], [.null, .null, .null, .null], EA, F1, F2, F3, F4, ⟨_, V_b5⟩, ⟨_, V_b10, O10⟩, ⟨_, V_b15⟩, ⟨rfl, rfl, rfl⟩, fun u hu => absurd hu (Nat.not_lt_zero _), fun u hu => absurd hu (Nat.not_lt_zero _), ⟨ne_up_b5, ne_up_b10, ne_up_b15, ne_b5_b10, ne_b5_b15, ne_b10_b15⟩, ⟨hku, Nat.le_trans hkh z_b5, Nat.le_trans hkh z_b10, Nat.le_trans hkh z_b15⟩, hnk⟩
theorem d_prog_85_method_2_13 : decode prog_85_method_2_code 13 = .ok (.aload_n 0, 1) := by decide +kernel
theorem d_prog_85_method_2_14 : decode prog_85_method_2_code 14 = .ok (.getfield 7, 3) := by decide +kernel
theorem d_prog_85_method_2_17 : decode prog_85_method_2_code 17 = .ok (.iload_n 3, 1) := by decide +kernel
theorem d_prog_85_method_2_18 : decode prog_85_method_2_code 18 = .ok (.iaload, 1) := by decide +kernel
theorem d_prog_85_method_2_19 : decode prog_85_method_2_code 19 = .ok (.iload_n 1, 1) := by decide +kernel
theorem d_prog_85_method_2_20 : decode prog_85_method_2_code 20 = .ok (.if_icmp .lt 13, 3) := by decide +kernel
theorem d_prog_85_method_2_23 : decode prog_85_method_2_code 23 = .ok (.aload_n 0, 1) := by decide +kernel
theorem d_prog_85_method_2_24 : decode prog_85_method_2_code 24 = .ok (.getfield 19, 3) := by decide +kernel
theorem d_prog_85_method_2_27 : decode prog_85_method_2_code 27 = .ok (.iload_n 3, 1) := by decide +kernel
theorem d_prog_85_method_2_28 : decode prog_85_method_2_code 28 = .ok (.iaload, 1) := by decide +kernel
theorem d_prog_85_method_2_29 : decode prog_85_method_2_code 29 = .ok (.istore_n 3, 1) := by decide +kernel
theorem d_prog_85_method_2_30 : decode prog_85_method_2_code 30 = .ok (.goto (-17), 3) := by decide +kernel
set_option maxRecDepth 65536 in
set_option maxHeartbeats 40000000 in
theorem lpD {p : Program} {l : Launch} {e : Env} {R : Room} {s : State} {m : MethodId} {args : Array Value} {below : List Frame} {meth : Method} {c : Code} (Z : State) (a0 : Array Value) (hw : ∀ d ∈ tables_1, d.before a0 Z = true) (hx : p.tables.exec = Jvm.exec) (hZ : Z.Warmed39 s.vm) (hby : c.code = prog_85_method_2_code) (hml : c.maxLocals = 4) (hown : s.vm.findClass "com/example/haku/haku/index/UnitPaths" = some m.cls) (n0 : Nat) (up : Addr) (sb : Addr) (rb : Addr) (hq : Addr) (kk : Nat) (n : Nat) (Sh : Nat → Nat) (Ho : Nat → Nat) (Ln : Nat → Nat) (E : Nat → List Int32) (Rr : Nat → List Int32) (A : Nat → Addr) (su : Nat) (x : Addr) (h0 : Heap) (hU : own_U Z n0 kk h0 up sb rb hq n Sh Ho Ln E Rr A) (hn4 : n ≤ 4) (hs8 : su ≤ 8) (hs0 : 0 < su) (lc0 : List Loc) (ce so : Nat) : ∀ (ff hh : Nat) (s₁ : State), hh < ff → hh < n → su ≤ Ln hh → Stand p l e R s m args below meth c s₁ lc0 ce so → s₁.heap = h0 → ∃ (T' : State) (ho' : Nat), Stand p l e R s m args below meth c T' lc0 ce so ∧ T'.heap = h0 ∧ ho' < n ∧ Sh ho' < su ∧ su ≤ Ln ho' ∧ (∀ j, j < su → (E hh).getD j 0 = (E ho').getD j 0) ∧ ∀ t, Steps p.tables e below (T'.setTop (mkF m 33 #[oa up, oi su, oa x, ov (Int32.ofNat ho')] [])) t → Steps p.tables e below (s₁.setTop (mkF m 13 #[oa up, oi su, oa x, oi hh] [])) t := by
  intro ff
  induction ff with
  | zero => intro hh s₁ hf; exact absurd hf (Nat.not_lt_zero _)
  | succ ff ih =>
    intro hh s₁ hf hhn hsl X0 e0
    have k0 : ∀ t, Steps p.tables e below (s₁.setTop (mkF m 13 #[oa up, oi su, oa x, oi hh] [])) t → Steps p.tables e below (s₁.setTop (mkF m 13 #[oa up, oi su, oa x, oi hh] [])) t := fun t q => q
    let G_ : State → Prop := fun t => Steps p.tables e below (s₁.setTop (mkF m 13 #[oa up, oi su, oa x, oi hh] [])) t
    obtain ⟨sh, ho, rs, EA, F1, F2, F3, F4, ⟨k1, V1⟩, ⟨k2, V2, O2s⟩, ⟨k3, V3⟩, ⟨l1, l2, l3⟩, hu, hv, ⟨d1, d2, d3, d4, d5, d6⟩, ⟨c1, c2, c3, c4⟩, hnk⟩ := id hU
    obtain ⟨u1, u2, -, -⟩ := hu hh hhn
    obtain ⟨v1, v2, v3, v4, v5, v6, v7⟩ := hv hh hhn
    have r4 := own_inr (n := 4) (i := hh) (by omega) (by decide)
    obtain ⟨cl1, Ar1, q1, S1, M1, H1, G1⟩ := id V1
    obtain ⟨cl2, Ar2, q2, S2, M2, H2, G2⟩ := id V3
    have k3_ : ∀ t, Steps p.tables e below (s₁.setTop (mkF m 14 #[oa up, oi su, oa x, oi hh] [(.ref up)])) t → G_ t := by
      intro t q
      refine k0 _ ?_
      show Steps p.tables e below (s₁.setTop (mkF m 13 #[oa up, oi su, oa x, oi hh] [])) _
      refine XS.aloadN X0.here hx rfl (hb hby d_prog_85_method_2_13) rfl rfl ?_
      show Steps p.tables e below (s₁.setTop (mkF m 14 #[oa up, oi su, oa x, oi hh] [(.ref up)])) _
      exact q
    obtain ⟨T4, X4, e4, st4⟩ := getF X0 hx hZ hown (host := "") (Or.inl (hw _ (List.mem_of_getElem? (i := 60) rfl))) Via.refl e0 F1 (g := (mkF m 14 #[oa up, oi su, oa x, oi hh] [(.ref up)])) rfl rfl (hb hby d_prog_85_method_2_14)
    have k5_ : ∀ t, Steps p.tables e below (T4.setTop (mkF m 17 #[oa up, oi su, oa x, oi hh] [(.ref sb)])) t → G_ t := fun t q => k3_ t (st4 t q)
    have k6_ : ∀ t, Steps p.tables e below (T4.setTop (mkF m 19 #[oa up, oi su, oa x, oi hh] [(.int (sh.getD hh 0))])) t → G_ t := by
      intro t q
      refine k5_ _ ?_
      show Steps p.tables e below (T4.setTop (mkF m 17 #[oa up, oi su, oa x, oi hh] [(.ref sb)])) _
      refine XS.iloadN X4.here hx rfl (hb hby d_prog_85_method_2_17) rfl ?_
      refine X4.iaload hx (j := (Int32.ofNat hh)) (v := (.int (sh.getD hh 0))) (by rw [e4]; exact Ar1.1) (State.isArrayOf_alike hZ.alike Ar1.2.1) Ar1.2.2 (inb_of S1 r4) (Has.at H1 (inb_of S1 r4) (own_gi _ (by omega))) (g := (mkF m 18 #[oa up, oi su, oa x, oi hh] [(.int (Int32.ofNat hh)), (.ref sb)])) rfl rfl (hb hby d_prog_85_method_2_18) _ ?_
      show Steps p.tables e below (T4.setTop (mkF m 19 #[oa up, oi su, oa x, oi hh] [(.int (sh.getD hh 0))])) _
      exact q
    have k7_ : ∀ t, Steps p.tables e below (T4.setTop (mkF m 19 #[oa up, oi su, oa x, oi hh] [(.int (Int32.ofNat (Sh hh)))])) t → G_ t := fun t q => k6_ t (Eq.mp (congrArg (fun z => Steps p.tables e below (T4.setTop (mkF m 19 #[oa up, oi su, oa x, oi hh] [(.int z)])) t) (show (Int32.ofNat (Sh hh)) = (sh.getD hh 0) from u1.symm)) q)
    have k8_ : ∀ t, Steps p.tables e below (T4.setTop (mkF m 20 #[oa up, oi su, oa x, oi hh] [(.int (Int32.ofNat su)), (.int (Int32.ofNat (Sh hh)))])) t → G_ t := by
      intro t q
      refine k7_ _ ?_
      show Steps p.tables e below (T4.setTop (mkF m 19 #[oa up, oi su, oa x, oi hh] [(.int (Int32.ofNat (Sh hh)))])) _
      refine XS.iloadN X4.here hx rfl (hb hby d_prog_85_method_2_19) rfl ?_
      show Steps p.tables e below (T4.setTop (mkF m 20 #[oa up, oi su, oa x, oi hh] [(.int (Int32.ofNat su)), (.int (Int32.ofNat (Sh hh)))])) _
      exact q
    by_cases hca : (Int32.ofNat (Sh hh)) < (Int32.ofNat su)
    · have k9_ : ∀ t, Steps p.tables e below (T4.setTop (mkF m 33 #[oa up, oi su, oa x, oi hh] [])) t → G_ t := by
        intro t q
        refine k8_ _ ?_
        show Steps p.tables e below (T4.setTop (mkF m 20 #[oa up, oi su, oa x, oi hh] [(.int (Int32.ofNat su)), (.int (Int32.ofNat (Sh hh)))])) _
        refine XS.icmpYes X4.here hx rfl (pc0 := 20) (pc' := 33) rfl (hb hby d_prog_85_method_2_20) rfl (tlt hca).1 (by decide) (by decide) ?_
        show Steps p.tables e below (T4.setTop (mkF m 33 #[oa up, oi su, oa x, oi hh] [])) _
        exact q
      exact ⟨_, hh, X4, e4, hhn, (own_cmp (by omega) (by omega)).mp hca, hsl, fun _ _ => rfl, k9_⟩
    · have k10_ : ∀ t, Steps p.tables e below (T4.setTop (mkF m 23 #[oa up, oi su, oa x, oi hh] [])) t → G_ t := by
        intro t q
        refine k8_ _ ?_
        show Steps p.tables e below (T4.setTop (mkF m 20 #[oa up, oi su, oa x, oi hh] [(.int (Int32.ofNat su)), (.int (Int32.ofNat (Sh hh)))])) _
        refine XS.icmpNo X4.here hx rfl (hb hby d_prog_85_method_2_20) rfl (flt hca).1 ?_
        show Steps p.tables e below (T4.setTop (mkF m 23 #[oa up, oi su, oa x, oi hh] [])) _
        exact q
      have hge : su ≤ Sh hh := Nat.le_of_not_lt fun z => hca ((own_cmp (by omega) (by omega)).mpr z)
      obtain ⟨w1, w2, w3, w4⟩ := v7 (by omega)
      have k11_ : ∀ t, Steps p.tables e below (T4.setTop (mkF m 24 #[oa up, oi su, oa x, oi hh] [(.ref up)])) t → G_ t := by
        intro t q
        refine k10_ _ ?_
        show Steps p.tables e below (T4.setTop (mkF m 23 #[oa up, oi su, oa x, oi hh] [])) _
        refine XS.aloadN X4.here hx rfl (hb hby d_prog_85_method_2_23) rfl rfl ?_
        show Steps p.tables e below (T4.setTop (mkF m 24 #[oa up, oi su, oa x, oi hh] [(.ref up)])) _
        exact q
      obtain ⟨T12, X12, e12, st12⟩ := getF X4 hx hZ hown (host := "") (Or.inl (hw _ (List.mem_of_getElem? (i := 66) rfl))) Via.refl e4 F3 (g := (mkF m 24 #[oa up, oi su, oa x, oi hh] [(.ref up)])) rfl rfl (hb hby d_prog_85_method_2_24)
      have k13_ : ∀ t, Steps p.tables e below (T12.setTop (mkF m 27 #[oa up, oi su, oa x, oi hh] [(.ref hq)])) t → G_ t := fun t q => k11_ t (st12 t q)
      have k14_ : ∀ t, Steps p.tables e below (T12.setTop (mkF m 29 #[oa up, oi su, oa x, oi hh] [(.int (ho.getD hh 0))])) t → G_ t := by
        intro t q
        refine k13_ _ ?_
        show Steps p.tables e below (T12.setTop (mkF m 27 #[oa up, oi su, oa x, oi hh] [(.ref hq)])) _
        refine XS.iloadN X12.here hx rfl (hb hby d_prog_85_method_2_27) rfl ?_
        refine X12.iaload hx (j := (Int32.ofNat hh)) (v := (.int (ho.getD hh 0))) (by rw [e12]; exact Ar2.1) (State.isArrayOf_alike hZ.alike Ar2.2.1) Ar2.2.2 (inb_of S2 r4) (Has.at H2 (inb_of S2 r4) (own_gi _ (by omega))) (g := (mkF m 28 #[oa up, oi su, oa x, oi hh] [(.int (Int32.ofNat hh)), (.ref hq)])) rfl rfl (hb hby d_prog_85_method_2_28) _ ?_
        show Steps p.tables e below (T12.setTop (mkF m 29 #[oa up, oi su, oa x, oi hh] [(.int (ho.getD hh 0))])) _
        exact q
      have k15_ : ∀ t, Steps p.tables e below (T12.setTop (mkF m 29 #[oa up, oi su, oa x, oi hh] [(.int (Int32.ofNat (Ho hh)))])) t → G_ t := fun t q => k14_ t (Eq.mp (congrArg (fun z => Steps p.tables e below (T12.setTop (mkF m 29 #[oa up, oi su, oa x, oi hh] [(.int z)])) t) (show (Int32.ofNat (Ho hh)) = (ho.getD hh 0) from (u2 (by omega)).symm)) q)
      have k16_ : ∀ t, Steps p.tables e below (T12.setTop (mkF m 13 #[oa up, oi su, oa x, oi (Ho hh)] [])) t → G_ t := by
        intro t q
        refine k15_ _ ?_
        show Steps p.tables e below (T12.setTop (mkF m 29 #[oa up, oi su, oa x, oi hh] [(.int (Int32.ofNat (Ho hh)))])) _
        refine XS.istoreN X12.here hx rfl (hb hby d_prog_85_method_2_29) rfl (l' := #[oa up, oi su, oa x, oi (Ho hh)]) rfl ?_
        refine XS.goto X12.here hx rfl (pc0 := 30) (pc' := 13) rfl (hb hby d_prog_85_method_2_30) (by decide) (by decide) ?_
        show Steps p.tables e below (T12.setTop (mkF m 13 #[oa up, oi su, oa x, oi (Ho hh)] [])) _
        exact q
      obtain ⟨T', ho', X', e', a1, a2, a3, a4, st'⟩ := ih (Ho hh) _ (by omega) (by omega) (by omega) X12 e12
      exact ⟨T', ho', X', e', a1, a2, a3, fun j hj => (w4 j (by omega)).trans (a4 j hj), fun t q => k16_ t (st' t q)⟩
def QD (Z : State) (up : Addr) (sb : Addr) (rb : Addr) (hq : Addr) (kk : Nat) (n : Nat) (Sh : Nat → Nat) (Ho : Nat → Nat) (Ln : Nat → Nat) (E : Nat → List Int32) (Rr : Nat → List Int32) (A : Nat → Addr) (su : Nat) (x : Addr) (e8 : List Int32) (rl : List Int32) (ln : Nat) (h0 : Heap) (n0 : Nat) (v : Option Value) (h : Heap) (L : List Loc) : Prop := v = none ∧ Fr n0 L ∧ Keep h0 h [up, sb, rb, hq] ∧ ∃ ho', own_U Z n0 kk h up sb rb hq (n + 1) (own_uf Sh n su) (own_uf Ho n ho') (own_uf Ln n ln) (own_uf E n e8) (own_uf Rr n rl) (own_uf A n x)
theorem ef_D (m : MethodId) (x0 : Addr) (x1 : Int32) (x2 : Addr) : entryFrame m #[(.ref x0), (.int x1), (.ref x2)] 4 = mkF m 0 #[.val (.ref x0), .val (.int x1), .val (.ref x2), .unset] [] := by first | (simp [entryFrame, mkF, argsToLocals, Value.category]; done) | rfl
theorem d_prog_85_method_2_0 : decode prog_85_method_2_code 0 = .ok (.iconst (-1), 1) := by decide +kernel
theorem d_prog_85_method_2_1 : decode prog_85_method_2_code 1 = .ok (.istore_n 3, 1) := by decide +kernel
theorem d_prog_85_method_2_2 : decode prog_85_method_2_code 2 = .ok (.iload_n 1, 1) := by decide +kernel
theorem own_al1 {kk : Nat} {x : Addr} (h : kk ≤ x) : ∀ y ∈ [x], kk ≤ y := fun y hy => by cases List.mem_singleton.mp hy; exact h
theorem own_al4 {kk : Nat} {x1 x2 x3 x4 : Addr} (h1 : kk ≤ x1) (h2 : kk ≤ x2) (h3 : kk ≤ x3) (h4 : kk ≤ x4) : ∀ y ∈ [x1, x2, x3, x4], kk ≤ y := fun y hy => by
  simp only [List.mem_cons, List.not_mem_nil, or_false] at hy
  rcases hy with rfl | rfl | rfl | rfl <;> assumption
theorem own_gv {ks : List Value} {i j : Nat} {v : Value} (hi : i < ks.length) : (ks.set i v).getD j .null = if i = j then v else ks.getD j .null := by
  simp only [List.getD_eq_getElem?_getD, List.getElem?_set]
  by_cases q : i = j
  · subst q; simp [hi]
  · simp [q]
theorem d_prog_85_method_2_3 : decode prog_85_method_2_code 3 = .ok (.ifCond .le 30, 3) := by decide +kernel
theorem d_prog_85_method_2_6 : decode prog_85_method_2_code 6 = .ok (.aload_n 0, 1) := by decide +kernel
theorem d_prog_85_method_2_7 : decode prog_85_method_2_code 7 = .ok (.getfield 22, 3) := by decide +kernel
theorem d_prog_85_method_2_10 : decode prog_85_method_2_code 10 = .ok (.iconst 1, 1) := by decide +kernel
theorem d_prog_85_method_2_11 : decode prog_85_method_2_code 11 = .ok (.isub, 1) := by decide +kernel
theorem d_prog_85_method_2_12 : decode prog_85_method_2_code 12 = .ok (.istore_n 3, 1) := by decide +kernel
theorem d_prog_85_method_2_33 : decode prog_85_method_2_code 33 = .ok (.aload_n 0, 1) := by decide +kernel
theorem d_prog_85_method_2_34 : decode prog_85_method_2_code 34 = .ok (.getfield 7, 3) := by decide +kernel
theorem d_prog_85_method_2_37 : decode prog_85_method_2_code 37 = .ok (.aload_n 0, 1) := by decide +kernel
theorem d_prog_85_method_2_38 : decode prog_85_method_2_code 38 = .ok (.getfield 22, 3) := by decide +kernel
theorem d_prog_85_method_2_41 : decode prog_85_method_2_code 41 = .ok (.iload_n 1, 1) := by decide +kernel
theorem d_prog_85_method_2_42 : decode prog_85_method_2_code 42 = .ok (.iastore, 1) := by decide +kernel
theorem d_prog_85_method_2_43 : decode prog_85_method_2_code 43 = .ok (.aload_n 0, 1) := by decide +kernel
theorem d_prog_85_method_2_44 : decode prog_85_method_2_code 44 = .ok (.getfield 15, 3) := by decide +kernel
theorem d_prog_85_method_2_47 : decode prog_85_method_2_code 47 = .ok (.aload_n 0, 1) := by decide +kernel
theorem d_prog_85_method_2_48 : decode prog_85_method_2_code 48 = .ok (.getfield 22, 3) := by decide +kernel
theorem d_prog_85_method_2_51 : decode prog_85_method_2_code 51 = .ok (.aload_n 2, 1) := by decide +kernel
theorem d_prog_85_method_2_52 : decode prog_85_method_2_code 52 = .ok (.aastore, 1) := by decide +kernel
theorem d_prog_85_method_2_53 : decode prog_85_method_2_code 53 = .ok (.aload_n 0, 1) := by decide +kernel
theorem d_prog_85_method_2_54 : decode prog_85_method_2_code 54 = .ok (.getfield 19, 3) := by decide +kernel
theorem d_prog_85_method_2_57 : decode prog_85_method_2_code 57 = .ok (.aload_n 0, 1) := by decide +kernel
theorem d_prog_85_method_2_58 : decode prog_85_method_2_code 58 = .ok (.getfield 22, 3) := by decide +kernel
theorem d_prog_85_method_2_61 : decode prog_85_method_2_code 61 = .ok (.iload_n 3, 1) := by decide +kernel
theorem d_prog_85_method_2_62 : decode prog_85_method_2_code 62 = .ok (.iastore, 1) := by decide +kernel
theorem d_prog_85_method_2_63 : decode prog_85_method_2_code 63 = .ok (.aload_n 0, 1) := by decide +kernel
theorem d_prog_85_method_2_64 : decode prog_85_method_2_code 64 = .ok (.dup, 1) := by decide +kernel
theorem d_prog_85_method_2_65 : decode prog_85_method_2_code 65 = .ok (.getfield 22, 3) := by decide +kernel
theorem d_prog_85_method_2_68 : decode prog_85_method_2_code 68 = .ok (.iconst 1, 1) := by decide +kernel
theorem d_prog_85_method_2_69 : decode prog_85_method_2_code 69 = .ok (.iadd, 1) := by decide +kernel
theorem d_prog_85_method_2_70 : decode prog_85_method_2_code 70 = .ok (.putfield 22, 3) := by decide +kernel
theorem d_prog_85_method_2_73 : decode prog_85_method_2_code 73 = .ok (.return_, 1) := by decide +kernel
set_option maxRecDepth 65536 in
set_option maxHeartbeats 40000000 in
theorem rmD (l : Launch) (Z : State) (a0 : Array Value) (hw : ∀ d ∈ tables_1, d.before a0 Z = true) (ws : List Jvm.Cond) (up : Addr) (sb : Addr) (rb : Addr) (hq : Addr) (kk : Nat) (n : Nat) (Sh : Nat → Nat) (Ho : Nat → Nat) (Ln : Nat → Nat) (E : Nat → List Int32) (Rr : Nat → List Int32) (A : Nat → Addr) (su : Nat) (x : Addr) (e8 : List Int32) (rl : List Int32) (ln : Nat) (h0 : Heap) (n0 : Nat) (Z0 : n0 ≤ h0.size) (hU : own_U Z n0 kk h0 up sb rb hq n Sh Ho Ln E Rr A) (hn4 : n < 4) (h1 : su ≤ ln) (h2 : ln ≤ 8) (h3 : e8.length = 8 ∧ own_OK e8) (h4 : rl.length = ln - su) (h5 : own_OK rl) (h6 : ∀ j, su ≤ j → j < ln → e8.getD j 0 = rl.getD (j - su) 0) (h7 : 0 < su → 0 < n ∧ su ≤ Ln (n - 1) ∧ ∀ j, j < su → e8.getD j 0 = (E (n - 1)).getD j 0) (Sx : own_Sb Z kk h0 x rl) :
    MetFree l (⟨"com/example/haku/haku/index/UnitPaths", "add", "(ILjava/lang/String;)V"⟩ : MethodName) (head1 (Jvm.Cond.code (⟨"com/example/haku/haku/index/UnitPaths", "add", "(ILjava/lang/String;)V"⟩ : MethodName) prog_85_method_2_code 4 none :: ws) ({ frames := 0, cells := 0, slots := 0, locals := 0 } : Room)) (fun a_ U_ => a_ = #[(.ref up), (.int (Int32.ofNat su)), (.ref x)] ∧ Z.Warmed39 U_.vm ∧ U_.heap = h0) (fun _ _ _ _ _ => True) (fun _ U_ o_ E_ => ∃ v_ L_, o_ = .returned v_ ∧ QD Z up sb rb hq kk n Sh Ho Ln E Rr A su x e8 rl ln h0 n0 v_ E_.heap L_ ∧ FrameEnd U_ o_ E_ L_ ({ frames := 0, cells := 0, slots := 0, locals := 0 } : Room).cells ({ frames := 0, cells := 0, slots := 0, locals := 0 } : Room).slots) := by
  refine MetFree.of_bodySF (plainFor_of_name pn_UnitPaths) hisR ?_
  intro p e s m args below meth c s₁ Bd hml0 hP hK
  obtain ⟨rfl, hZ, hh⟩ := hP
  have hx := Bd.exec
  have hby := Bd.bytes
  have hml : c.maxLocals = 4 := hml0
  have hown : s.vm.findClass "com/example/haku/haku/index/UnitPaths" = some m.cls := findClass_of_methodNamed Bd.named
  have hnm := (name_of_methodNamed Bd.named Bd.method).1
  have X0 : Stand p l e ({ frames := 0, cells := 0, slots := 0, locals := 0 } : Room) s m #[(.ref up), (.int (Int32.ofNat su)), (.ref x)] below meth c s₁ [] 0 0 := Stand.of_body Bd
  have e0 : s₁.heap = h0 := by rw [← hh, Bd.state]; rfl
  have N0 := Fr.nil n0
  have Zn := Z0
  have pre0 : ∀ t, Steps p.tables e below (s₁.setTop (mkF m 0 #[.val (.ref up), .val (.int (Int32.ofNat su)), .val (.ref x), .unset] [])) t → Steps p.tables e below (s₁.setTop (entryFrame m #[(.ref up), (.int (Int32.ofNat su)), (.ref x)] 4)) t := fun t q => castTop (ef_D m up (Int32.ofNat su) x) q
  have k0 : ∀ t, Steps p.tables e below (s₁.setTop (mkF m 0 #[.val (.ref up), .val (.int (Int32.ofNat su)), .val (.ref x), .unset] [])) t → Steps p.tables e below (s₁.setTop (mkF m 0 #[.val (.ref up), .val (.int (Int32.ofNat su)), .val (.ref x), .unset] [])) t := fun t q => q
  let G_ : State → Prop := fun t => Steps p.tables e below (s₁.setTop (mkF m 0 #[.val (.ref up), .val (.int (Int32.ofNat su)), .val (.ref x), .unset] [])) t
  obtain ⟨sh, ho, rs, EA, F1, F2, F3, F4, ⟨k1, V1⟩, ⟨k2, V2, O2s⟩, ⟨k3, V3⟩, ⟨l1, l2, l3⟩, hu, hv, ⟨d1, d2, d3, d4, d5, d6⟩, ⟨c1, c2, c3, c4⟩, hnk⟩ := id hU
  have KP := Keep.refl h0 [up, sb, rb, hq]
  have r4 := own_inr (n := 4) (i := n) hn4 (by decide)
  obtain ⟨Ex, -⟩ := id Sx
  have k1_ : ∀ t, Steps p.tables e below (s₁.setTop (mkF m 3 #[oa up, oi su, oa x, ov (-1 : Int32)] [(.int (Int32.ofNat su))])) t → G_ t := by
    intro t q
    refine k0 _ ?_
    show Steps p.tables e below (s₁.setTop (mkF m 0 #[oa up, oi su, oa x, .unset] [])) _
    refine XS.iconst X0.here hx rfl (hb hby d_prog_85_method_2_0) ?_
    refine XS.istoreN X0.here hx rfl (hb hby d_prog_85_method_2_1) rfl (l' := #[oa up, oi su, oa x, ov (-1 : Int32)]) rfl ?_
    refine XS.iloadN X0.here hx rfl (hb hby d_prog_85_method_2_2) rfl ?_
    show Steps p.tables e below (s₁.setTop (mkF m 3 #[oa up, oi su, oa x, ov (-1 : Int32)] [(.int (Int32.ofNat su))])) _
    exact q
  by_cases hca : (0 : Int32) < (Int32.ofNat su)
  · have k2_ : ∀ t, Steps p.tables e below (s₁.setTop (mkF m 6 #[oa up, oi su, oa x, ov (-1 : Int32)] [])) t → G_ t := by
      intro t q
      refine k1_ _ ?_
      show Steps p.tables e below (s₁.setTop (mkF m 3 #[oa up, oi su, oa x, ov (-1 : Int32)] [(.int (Int32.ofNat su))])) _
      refine XS.ifNo X0.here hx rfl (hb hby d_prog_85_method_2_3) rfl ((if0 _ _).trans (tlt hca).2.2.2) ?_
      show Steps p.tables e below (s₁.setTop (mkF m 6 #[oa up, oi su, oa x, ov (-1 : Int32)] [])) _
      exact q
    have hs0 : 0 < su := (own_cmp (i := 0) (n := su) (by omega) (by omega)).mp hca
    obtain ⟨p1, p2, p3⟩ := h7 hs0
    have k3_ : ∀ t, Steps p.tables e below (s₁.setTop (mkF m 7 #[oa up, oi su, oa x, ov (-1 : Int32)] [(.ref up)])) t → G_ t := by
      intro t q
      refine k2_ _ ?_
      show Steps p.tables e below (s₁.setTop (mkF m 6 #[oa up, oi su, oa x, ov (-1 : Int32)] [])) _
      refine XS.aloadN X0.here hx rfl (hb hby d_prog_85_method_2_6) rfl rfl ?_
      show Steps p.tables e below (s₁.setTop (mkF m 7 #[oa up, oi su, oa x, ov (-1 : Int32)] [(.ref up)])) _
      exact q
    obtain ⟨T4, X4, e4, st4⟩ := getF X0 hx hZ hown (host := "") (Or.inl (hw _ (List.mem_of_getElem? (i := 73) rfl))) Via.refl e0 F4 (g := (mkF m 7 #[oa up, oi su, oa x, ov (-1 : Int32)] [(.ref up)])) rfl rfl (hb hby d_prog_85_method_2_7)
    have k5_ : ∀ t, Steps p.tables e below (T4.setTop (mkF m 10 #[oa up, oi su, oa x, ov (-1 : Int32)] [(.int (Int32.ofNat n))])) t → G_ t := fun t q => k3_ t (st4 t q)
    have k6_ : ∀ t, Steps p.tables e below (T4.setTop (mkF m 12 #[oa up, oi su, oa x, ov (-1 : Int32)] [(.int ((Int32.ofNat n) - (1 : Int32)))])) t → G_ t := by
      intro t q
      refine k5_ _ ?_
      show Steps p.tables e below (T4.setTop (mkF m 10 #[oa up, oi su, oa x, ov (-1 : Int32)] [(.int (Int32.ofNat n))])) _
      refine XS.iconst X4.here hx rfl (hb hby d_prog_85_method_2_10) ?_
      refine XS.isub X4.here hx rfl (hb hby d_prog_85_method_2_11) rfl ?_
      show Steps p.tables e below (T4.setTop (mkF m 12 #[oa up, oi su, oa x, ov (-1 : Int32)] [(.int ((Int32.ofNat n) - (1 : Int32)))])) _
      exact q
    have k7_ : ∀ t, Steps p.tables e below (T4.setTop (mkF m 12 #[oa up, oi su, oa x, ov (-1 : Int32)] [(.int (Int32.ofNat (n - 1)))])) t → G_ t := fun t q => k6_ t (Eq.mp (congrArg (fun z => Steps p.tables e below (T4.setTop (mkF m 12 #[oa up, oi su, oa x, ov (-1 : Int32)] [(.int z)])) t) (show (Int32.ofNat (n - 1)) = ((Int32.ofNat n) - (1 : Int32)) from (own_sb1 (by omega) (by omega)))) q)
    have k8_ : ∀ t, Steps p.tables e below (T4.setTop (mkF m 13 #[oa up, oi su, oa x, oi (n - 1)] [])) t → G_ t := by
      intro t q
      refine k7_ _ ?_
      show Steps p.tables e below (T4.setTop (mkF m 12 #[oa up, oi su, oa x, ov (-1 : Int32)] [(.int (Int32.ofNat (n - 1)))])) _
      refine XS.istoreN X4.here hx rfl (hb hby d_prog_85_method_2_12) rfl (l' := #[oa up, oi su, oa x, oi (n - 1)]) rfl ?_
      show Steps p.tables e below (T4.setTop (mkF m 13 #[oa up, oi su, oa x, oi (n - 1)] [])) _
      exact q
    obtain ⟨TA, ho', XA, eA, a1, a2, a3, a4, stA⟩ := lpD Z a0 hw hx hZ hby hml hown n0 up sb rb hq kk n Sh Ho Ln E Rr A su x h0 hU (by omega) (by omega) hs0 _ _ _ n (n - 1) _ (by omega) (by omega) p2 X4 e4
    have k9_ : ∀ t, Steps p.tables e below (TA.setTop (mkF m 33 #[oa up, oi su, oa x, ov (Int32.ofNat ho')] [])) t → G_ t := fun t q => k8_ t (stA t q)
    have k10_ : ∀ t, Steps p.tables e below (TA.setTop (mkF m 34 #[oa up, oi su, oa x, ov (Int32.ofNat ho')] [(.ref up)])) t → G_ t := by
      intro t q
      refine k9_ _ ?_
      show Steps p.tables e below (TA.setTop (mkF m 33 #[oa up, oi su, oa x, ov (Int32.ofNat ho')] [])) _
      refine XS.aloadN XA.here hx rfl (hb hby d_prog_85_method_2_33) rfl rfl ?_
      show Steps p.tables e below (TA.setTop (mkF m 34 #[oa up, oi su, oa x, ov (Int32.ofNat ho')] [(.ref up)])) _
      exact q
    obtain ⟨T11, X11, e11, st11⟩ := getF XA hx hZ hown (host := "") (Or.inl (hw _ (List.mem_of_getElem? (i := 60) rfl))) Via.refl eA F1 (g := (mkF m 34 #[oa up, oi su, oa x, ov (Int32.ofNat ho')] [(.ref up)])) rfl rfl (hb hby d_prog_85_method_2_34)
    have k12_ : ∀ t, Steps p.tables e below (T11.setTop (mkF m 37 #[oa up, oi su, oa x, ov (Int32.ofNat ho')] [(.ref sb)])) t → G_ t := fun t q => k10_ t (st11 t q)
    have k13_ : ∀ t, Steps p.tables e below (T11.setTop (mkF m 38 #[oa up, oi su, oa x, ov (Int32.ofNat ho')] [(.ref up), (.ref sb)])) t → G_ t := by
      intro t q
      refine k12_ _ ?_
      show Steps p.tables e below (T11.setTop (mkF m 37 #[oa up, oi su, oa x, ov (Int32.ofNat ho')] [(.ref sb)])) _
      refine XS.aloadN X11.here hx rfl (hb hby d_prog_85_method_2_37) rfl rfl ?_
      show Steps p.tables e below (T11.setTop (mkF m 38 #[oa up, oi su, oa x, ov (Int32.ofNat ho')] [(.ref up), (.ref sb)])) _
      exact q
    obtain ⟨T14, X14, e14, st14⟩ := getF X11 hx hZ hown (host := "") (Or.inl (hw _ (List.mem_of_getElem? (i := 73) rfl))) Via.refl e11 F4 (g := (mkF m 38 #[oa up, oi su, oa x, ov (Int32.ofNat ho')] [(.ref up), (.ref sb)])) rfl rfl (hb hby d_prog_85_method_2_38)
    have k15_ : ∀ t, Steps p.tables e below (T14.setTop (mkF m 41 #[oa up, oi su, oa x, ov (Int32.ofNat ho')] [(.int (Int32.ofNat n)), (.ref sb)])) t → G_ t := fun t q => k13_ t (st14 t q)
    have k16_ : ∀ t, Steps p.tables e below (T14.setTop (mkF m 42 #[oa up, oi su, oa x, ov (Int32.ofNat ho')] [(.int (Int32.ofNat su)), (.int (Int32.ofNat n)), (.ref sb)])) t → G_ t := by
      intro t q
      refine k15_ _ ?_
      show Steps p.tables e below (T14.setTop (mkF m 41 #[oa up, oi su, oa x, ov (Int32.ofNat ho')] [(.int (Int32.ofNat n)), (.ref sb)])) _
      refine XS.iloadN X14.here hx rfl (hb hby d_prog_85_method_2_41) rfl ?_
      show Steps p.tables e below (T14.setTop (mkF m 42 #[oa up, oi su, oa x, ov (Int32.ofNat ho')] [(.int (Int32.ofNat su)), (.int (Int32.ofNat n)), (.ref sb)])) _
      exact q
    obtain ⟨cl17, Ar17, q17, S17, M17, H17, G17⟩ := V1
    obtain ⟨T18, h18, X18, e18, W18, st18⟩ := stI X14 hx hZ e14 Ar17 (j := (Int32.ofNat n)) (inb_of S17 r4) (g := (mkF m 42 #[oa up, oi su, oa x, ov (Int32.ofNat ho')] [(.int (Int32.ofNat su)), (.int (Int32.ofNat n)), (.ref sb)])) rfl rfl (hb hby d_prog_85_method_2_42)
    have k19_ : ∀ t, Steps p.tables e below (T18.setTop (mkF m 43 #[oa up, oi su, oa x, ov (Int32.ofNat ho')] [])) t → G_ t := fun t q => k16_ t (st18 t q)
    have N18 := Fr.snoc X18 N0 (Nat.le_trans hnk c2)
    replace Zn := Nat.le_trans Zn (Keep.of_wr W18).1
    replace EA := EA.wr W18
    replace F1 := F1.other W18 (Or.inl d1)
    replace F2 := F2.other W18 (Or.inl d1)
    replace F3 := F3.other W18 (Or.inl d1)
    replace F4 := F4.other W18 (Or.inl d1)
    replace V2 := V2.other W18 (Ne.symm d4)
    replace V3 := V3.other W18 (Ne.symm d5)
    replace Ex := Ex.wr W18
    have V1 : Arv Z h18 sb k1 .int (4 : Int32) ((sh.set n (Int32.ofNat su)).map Value.int) (.int 0) := by rw [List.map_set]; exact Arv.set Ar17 q17 S17 M17 H17 G17 rfl W18 n (own_ci (by omega)) (own_mapl l1 hn4)
    replace KP := KP.wr W18 (Or.inl (List.mem_of_getElem? (i := 1) rfl))
    replace Sx := own_Sb_keep Sx (Keep.of_wr W18) (own_al1 c2)
    have k20_ : ∀ t, Steps p.tables e below (T18.setTop (mkF m 44 #[oa up, oi su, oa x, ov (Int32.ofNat ho')] [(.ref up)])) t → G_ t := by
      intro t q
      refine k19_ _ ?_
      show Steps p.tables e below (T18.setTop (mkF m 43 #[oa up, oi su, oa x, ov (Int32.ofNat ho')] [])) _
      refine XS.aloadN X18.here hx rfl (hb hby d_prog_85_method_2_43) rfl rfl ?_
      show Steps p.tables e below (T18.setTop (mkF m 44 #[oa up, oi su, oa x, ov (Int32.ofNat ho')] [(.ref up)])) _
      exact q
    obtain ⟨T21, X21, e21, st21⟩ := getF X18 hx hZ hown (host := "") (Or.inl (hw _ (List.mem_of_getElem? (i := 64) rfl))) Via.refl e18 F2 (g := (mkF m 44 #[oa up, oi su, oa x, ov (Int32.ofNat ho')] [(.ref up)])) rfl rfl (hb hby d_prog_85_method_2_44)
    have k22_ : ∀ t, Steps p.tables e below (T21.setTop (mkF m 47 #[oa up, oi su, oa x, ov (Int32.ofNat ho')] [(.ref rb)])) t → G_ t := fun t q => k20_ t (st21 t q)
    have k23_ : ∀ t, Steps p.tables e below (T21.setTop (mkF m 48 #[oa up, oi su, oa x, ov (Int32.ofNat ho')] [(.ref up), (.ref rb)])) t → G_ t := by
      intro t q
      refine k22_ _ ?_
      show Steps p.tables e below (T21.setTop (mkF m 47 #[oa up, oi su, oa x, ov (Int32.ofNat ho')] [(.ref rb)])) _
      refine XS.aloadN X21.here hx rfl (hb hby d_prog_85_method_2_47) rfl rfl ?_
      show Steps p.tables e below (T21.setTop (mkF m 48 #[oa up, oi su, oa x, ov (Int32.ofNat ho')] [(.ref up), (.ref rb)])) _
      exact q
    obtain ⟨T24, X24, e24, st24⟩ := getF X21 hx hZ hown (host := "") (Or.inl (hw _ (List.mem_of_getElem? (i := 73) rfl))) Via.refl e21 F4 (g := (mkF m 48 #[oa up, oi su, oa x, ov (Int32.ofNat ho')] [(.ref up), (.ref rb)])) rfl rfl (hb hby d_prog_85_method_2_48)
    have k25_ : ∀ t, Steps p.tables e below (T24.setTop (mkF m 51 #[oa up, oi su, oa x, ov (Int32.ofNat ho')] [(.int (Int32.ofNat n)), (.ref rb)])) t → G_ t := fun t q => k23_ t (st24 t q)
    have k26_ : ∀ t, Steps p.tables e below (T24.setTop (mkF m 52 #[oa up, oi su, oa x, ov (Int32.ofNat ho')] [(.ref x), (.int (Int32.ofNat n)), (.ref rb)])) t → G_ t := by
      intro t q
      refine k25_ _ ?_
      show Steps p.tables e below (T24.setTop (mkF m 51 #[oa up, oi su, oa x, ov (Int32.ofNat ho')] [(.int (Int32.ofNat n)), (.ref rb)])) _
      refine XS.aloadN X24.here hx rfl (hb hby d_prog_85_method_2_51) rfl rfl ?_
      show Steps p.tables e below (T24.setTop (mkF m 52 #[oa up, oi su, oa x, ov (Int32.ofNat ho')] [(.ref x), (.int (Int32.ofNat n)), (.ref rb)])) _
      exact q
    obtain ⟨cl27, Ar27, q27, S27, M27, H27, G27⟩ := V2
    obtain ⟨T28, h28, X28, e28, W28, st28⟩ := stR X24 hx hZ e24 Ar27 (j := (Int32.ofNat n)) (inb_of S27 r4) rfl (Sto.ofV Ar27 q27 O2s (Ins.self Ex)) (g := (mkF m 52 #[oa up, oi su, oa x, ov (Int32.ofNat ho')] [(.ref x), (.int (Int32.ofNat n)), (.ref rb)])) rfl rfl (hb hby d_prog_85_method_2_52)
    have k29_ : ∀ t, Steps p.tables e below (T28.setTop (mkF m 53 #[oa up, oi su, oa x, ov (Int32.ofNat ho')] [])) t → G_ t := fun t q => k26_ t (st28 t q)
    have N28 := Fr.snoc X28 N18 (Nat.le_trans hnk c3)
    replace Zn := Nat.le_trans Zn (Keep.of_wr W28).1
    replace EA := EA.wr W28
    replace F1 := F1.other W28 (Or.inl d2)
    replace F2 := F2.other W28 (Or.inl d2)
    replace F3 := F3.other W28 (Or.inl d2)
    replace F4 := F4.other W28 (Or.inl d2)
    replace V1 := V1.other W28 d4
    replace V3 := V3.other W28 (Ne.symm d6)
    replace Ex := Ex.wr W28
    have V2 : Arv Z h28 rb k2 (.object "java/lang/String") 4 (rs.set n (.ref x)) .null := Arv.set Ar27 q27 S27 M27 H27 G27 rfl W28 n (own_ci (by omega)) (by rw [l3]; exact hn4)
    replace KP := KP.wr W28 (Or.inl (List.mem_of_getElem? (i := 2) rfl))
    replace Sx := own_Sb_keep Sx (Keep.of_wr W28) (own_al1 c3)
    have k30_ : ∀ t, Steps p.tables e below (T28.setTop (mkF m 54 #[oa up, oi su, oa x, ov (Int32.ofNat ho')] [(.ref up)])) t → G_ t := by
      intro t q
      refine k29_ _ ?_
      show Steps p.tables e below (T28.setTop (mkF m 53 #[oa up, oi su, oa x, ov (Int32.ofNat ho')] [])) _
      refine XS.aloadN X28.here hx rfl (hb hby d_prog_85_method_2_53) rfl rfl ?_
      show Steps p.tables e below (T28.setTop (mkF m 54 #[oa up, oi su, oa x, ov (Int32.ofNat ho')] [(.ref up)])) _
      exact q
    obtain ⟨T31, X31, e31, st31⟩ := getF X28 hx hZ hown (host := "") (Or.inl (hw _ (List.mem_of_getElem? (i := 66) rfl))) Via.refl e28 F3 (g := (mkF m 54 #[oa up, oi su, oa x, ov (Int32.ofNat ho')] [(.ref up)])) rfl rfl (hb hby d_prog_85_method_2_54)
    have k32_ : ∀ t, Steps p.tables e below (T31.setTop (mkF m 57 #[oa up, oi su, oa x, ov (Int32.ofNat ho')] [(.ref hq)])) t → G_ t := fun t q => k30_ t (st31 t q)
    have k33_ : ∀ t, Steps p.tables e below (T31.setTop (mkF m 58 #[oa up, oi su, oa x, ov (Int32.ofNat ho')] [(.ref up), (.ref hq)])) t → G_ t := by
      intro t q
      refine k32_ _ ?_
      show Steps p.tables e below (T31.setTop (mkF m 57 #[oa up, oi su, oa x, ov (Int32.ofNat ho')] [(.ref hq)])) _
      refine XS.aloadN X31.here hx rfl (hb hby d_prog_85_method_2_57) rfl rfl ?_
      show Steps p.tables e below (T31.setTop (mkF m 58 #[oa up, oi su, oa x, ov (Int32.ofNat ho')] [(.ref up), (.ref hq)])) _
      exact q
    obtain ⟨T34, X34, e34, st34⟩ := getF X31 hx hZ hown (host := "") (Or.inl (hw _ (List.mem_of_getElem? (i := 73) rfl))) Via.refl e31 F4 (g := (mkF m 58 #[oa up, oi su, oa x, ov (Int32.ofNat ho')] [(.ref up), (.ref hq)])) rfl rfl (hb hby d_prog_85_method_2_58)
    have k35_ : ∀ t, Steps p.tables e below (T34.setTop (mkF m 61 #[oa up, oi su, oa x, ov (Int32.ofNat ho')] [(.int (Int32.ofNat n)), (.ref hq)])) t → G_ t := fun t q => k33_ t (st34 t q)
    have k36_ : ∀ t, Steps p.tables e below (T34.setTop (mkF m 62 #[oa up, oi su, oa x, ov (Int32.ofNat ho')] [(.int (Int32.ofNat ho')), (.int (Int32.ofNat n)), (.ref hq)])) t → G_ t := by
      intro t q
      refine k35_ _ ?_
      show Steps p.tables e below (T34.setTop (mkF m 61 #[oa up, oi su, oa x, ov (Int32.ofNat ho')] [(.int (Int32.ofNat n)), (.ref hq)])) _
      refine XS.iloadN X34.here hx rfl (hb hby d_prog_85_method_2_61) rfl ?_
      show Steps p.tables e below (T34.setTop (mkF m 62 #[oa up, oi su, oa x, ov (Int32.ofNat ho')] [(.int (Int32.ofNat ho')), (.int (Int32.ofNat n)), (.ref hq)])) _
      exact q
    obtain ⟨cl37, Ar37, q37, S37, M37, H37, G37⟩ := V3
    obtain ⟨T38, h38, X38, e38, W38, st38⟩ := stI X34 hx hZ e34 Ar37 (j := (Int32.ofNat n)) (inb_of S37 r4) (g := (mkF m 62 #[oa up, oi su, oa x, ov (Int32.ofNat ho')] [(.int (Int32.ofNat ho')), (.int (Int32.ofNat n)), (.ref hq)])) rfl rfl (hb hby d_prog_85_method_2_62)
    have k39_ : ∀ t, Steps p.tables e below (T38.setTop (mkF m 63 #[oa up, oi su, oa x, ov (Int32.ofNat ho')] [])) t → G_ t := fun t q => k36_ t (st38 t q)
    have N38 := Fr.snoc X38 N28 (Nat.le_trans hnk c4)
    replace Zn := Nat.le_trans Zn (Keep.of_wr W38).1
    replace EA := EA.wr W38
    replace F1 := F1.other W38 (Or.inl d3)
    replace F2 := F2.other W38 (Or.inl d3)
    replace F3 := F3.other W38 (Or.inl d3)
    replace F4 := F4.other W38 (Or.inl d3)
    replace V1 := V1.other W38 d5
    replace V2 := V2.other W38 d6
    replace Ex := Ex.wr W38
    have V3 : Arv Z h38 hq k3 .int (4 : Int32) ((ho.set n (Int32.ofNat ho')).map Value.int) (.int 0) := by rw [List.map_set]; exact Arv.set Ar37 q37 S37 M37 H37 G37 rfl W38 n (own_ci (by omega)) (own_mapl l2 hn4)
    replace KP := KP.wr W38 (Or.inl (List.mem_of_getElem? (i := 3) rfl))
    replace Sx := own_Sb_keep Sx (Keep.of_wr W38) (own_al1 c4)
    have k40_ : ∀ t, Steps p.tables e below (T38.setTop (mkF m 65 #[oa up, oi su, oa x, ov (Int32.ofNat ho')] [(.ref up), (.ref up)])) t → G_ t := by
      intro t q
      refine k39_ _ ?_
      show Steps p.tables e below (T38.setTop (mkF m 63 #[oa up, oi su, oa x, ov (Int32.ofNat ho')] [])) _
      refine XS.aloadN X38.here hx rfl (hb hby d_prog_85_method_2_63) rfl rfl ?_
      refine XS.dup X38.here hx rfl (hb hby d_prog_85_method_2_64) rfl rfl ?_
      show Steps p.tables e below (T38.setTop (mkF m 65 #[oa up, oi su, oa x, ov (Int32.ofNat ho')] [(.ref up), (.ref up)])) _
      exact q
    obtain ⟨T41, X41, e41, st41⟩ := getF X38 hx hZ hown (host := "") (Or.inl (hw _ (List.mem_of_getElem? (i := 73) rfl))) Via.refl e38 F4 (g := (mkF m 65 #[oa up, oi su, oa x, ov (Int32.ofNat ho')] [(.ref up), (.ref up)])) rfl rfl (hb hby d_prog_85_method_2_65)
    have k42_ : ∀ t, Steps p.tables e below (T41.setTop (mkF m 68 #[oa up, oi su, oa x, ov (Int32.ofNat ho')] [(.int (Int32.ofNat n)), (.ref up)])) t → G_ t := fun t q => k40_ t (st41 t q)
    have k43_ : ∀ t, Steps p.tables e below (T41.setTop (mkF m 70 #[oa up, oi su, oa x, ov (Int32.ofNat ho')] [(.int ((Int32.ofNat n) + (1 : Int32))), (.ref up)])) t → G_ t := by
      intro t q
      refine k42_ _ ?_
      show Steps p.tables e below (T41.setTop (mkF m 68 #[oa up, oi su, oa x, ov (Int32.ofNat ho')] [(.int (Int32.ofNat n)), (.ref up)])) _
      refine XS.iconst X41.here hx rfl (hb hby d_prog_85_method_2_68) ?_
      refine XS.iadd X41.here hx rfl (hb hby d_prog_85_method_2_69) rfl ?_
      show Steps p.tables e below (T41.setTop (mkF m 70 #[oa up, oi su, oa x, ov (Int32.ofNat ho')] [(.int ((Int32.ofNat n) + (1 : Int32))), (.ref up)])) _
      exact q
    have k44_ : ∀ t, Steps p.tables e below (T41.setTop (mkF m 70 #[oa up, oi su, oa x, ov (Int32.ofNat ho')] [(.int (Int32.ofNat (n + 1))), (.ref up)])) t → G_ t := fun t q => k43_ t (Eq.mp (congrArg (fun z => Steps p.tables e below (T41.setTop (mkF m 70 #[oa up, oi su, oa x, ov (Int32.ofNat ho')] [(.int z), (.ref up)])) t) (show (Int32.ofNat (n + 1)) = ((Int32.ofNat n) + (1 : Int32)) from (own_inc (by omega)))) q)
    obtain ⟨T45, h45, X45, e45, W45, st45⟩ := putF X41 hx hZ hown (host := "") (Or.inl (hw _ (List.mem_of_getElem? (i := 73) rfl))) Via.refl e41 F4 EA (Or.inl (hw _ (List.mem_of_getElem? (i := 74) rfl))) (hw _ (List.mem_of_getElem? (i := 53) rfl)) (ty := .int) (by decide) rfl rfl (g := (mkF m 70 #[oa up, oi su, oa x, ov (Int32.ofNat ho')] [(.int (Int32.ofNat (n + 1))), (.ref up)])) rfl rfl (hb hby d_prog_85_method_2_70)
    have k46_ : ∀ t, Steps p.tables e below (T45.setTop (mkF m 73 #[oa up, oi su, oa x, ov (Int32.ofNat ho')] [])) t → G_ t := fun t q => k44_ t (st45 t q)
    have N45 := Fr.snoc X45 N38 (Nat.le_trans hnk c1)
    replace Zn := Nat.le_trans Zn (Keep.of_wr W45).1
    replace EA := EA.wr W45
    replace F1 := F1.other W45 (Or.inr (slot_ne (Or.inr (hw _ (List.mem_of_getElem? (i := 61) rfl))) (Or.inl (hw _ (List.mem_of_getElem? (i := 74) rfl))) (by decide) (t := (.array .int)) (t' := .int) (by decide) (by decide)))
    replace F2 := F2.other W45 (Or.inr (slot_ne (Or.inr (hw _ (List.mem_of_getElem? (i := 65) rfl))) (Or.inl (hw _ (List.mem_of_getElem? (i := 74) rfl))) (by decide) (t := (.array (.object "java/lang/String"))) (t' := .int) (by decide) (by decide)))
    replace F3 := F3.other W45 (Or.inr (slot_ne (Or.inr (hw _ (List.mem_of_getElem? (i := 67) rfl))) (Or.inl (hw _ (List.mem_of_getElem? (i := 74) rfl))) (by decide) (t := (.array .int)) (t' := .int) (by decide) (by decide)))
    replace V1 := V1.other W45 (Ne.symm d1)
    replace V2 := V2.other W45 (Ne.symm d2)
    replace V3 := V3.other W45 (Ne.symm d3)
    replace Ex := Ex.wr W45
    replace F4 := F4.same W45
    replace KP := KP.wr W45 (Or.inl (List.mem_of_getElem? (i := 0) rfl))
    replace Sx := own_Sb_keep Sx (Keep.of_wr W45) (own_al1 c1)
    have hu2 : ∀ u, u < n + 1 → (sh.set n (Int32.ofNat su)).getD u 0 = Int32.ofNat (own_uf Sh n su u) ∧ (0 < own_uf Sh n su u → (ho.set n (Int32.ofNat ho')).getD u 0 = Int32.ofNat (own_uf Ho n ho' u)) ∧ (rs.set n (.ref x)).getD u .null = .ref (own_uf A n x u) ∧ own_Sb Z kk h45 (own_uf A n x u) (own_uf Rr n rl u) := fun u hun => by
      by_cases q : u = n
      · subst q
        rw [own_gs (by omega), own_gs (by omega), if_pos rfl, if_pos rfl, own_gv (by omega), if_pos rfl]
        simp only [own_uf_s]
        exact ⟨trivial, fun _ => trivial, trivial, Sx⟩
      · obtain ⟨b1, b2, b3, b4⟩ := hu u (by omega)
        rw [own_gs (by omega), own_gs (by omega), if_neg (Ne.symm q), if_neg (Ne.symm q), own_gv (by omega), if_neg (Ne.symm q), own_uf_n q, own_uf_n q, own_uf_n q, own_uf_n q]
        exact ⟨b1, b2, b3, own_Sb_keep b4 KP (own_al4 c1 c2 c3 c4)⟩
    obtain ⟨fs, hr, hrun, hended, hW, hsame⟩ := X45.leave (v := none) (fun _ => rfl)
    refine ⟨_, _, pre0 _ (k46_ _ ?_), hrun, hended, _, _, rfl, ?_, ⟨_, rfl⟩, hW, hsame.mono (by decide) (by decide)⟩
    · show Steps p.tables e below (T45.setTop (mkF m 73 #[oa up, oi su, oa x, ov (Int32.ofNat ho')] [])) _
      exact X45.returnOut hx Bd.returns (hb hby d_prog_85_method_2_73) hr
    · show QD Z up sb rb hq kk n Sh Ho Ln E Rr A su x e8 rl ln h0 n0 _ T45.heap _
      rw [e45]
      exact ⟨rfl, N45, KP, ho', sh.set n (Int32.ofNat su), ho.set n (Int32.ofNat ho'), rs.set n (.ref x), EA, F1, F2, F3, F4, ⟨_, V1⟩, ⟨_, V2, O2s⟩, ⟨_, V3⟩, ⟨by rw [List.length_set]; exact l1, by rw [List.length_set]; exact l2, by rw [List.length_set]; exact l3⟩, hu2, own_V_add hv h1 h2 h3 h4 h5 h6 (fun _ => ⟨a1, a2, a3, fun j hj => (p3 j hj).trans (a4 j hj)⟩), ⟨d1, d2, d3, d4, d5, d6⟩, ⟨c1, c2, c3, c4⟩, hnk⟩
  · have k47_ : ∀ t, Steps p.tables e below (s₁.setTop (mkF m 33 #[oa up, oi su, oa x, ov (-1 : Int32)] [])) t → G_ t := by
      intro t q
      refine k1_ _ ?_
      show Steps p.tables e below (s₁.setTop (mkF m 3 #[oa up, oi su, oa x, ov (-1 : Int32)] [(.int (Int32.ofNat su))])) _
      refine XS.ifYes X0.here hx rfl (pc0 := 3) (pc' := 33) rfl (hb hby d_prog_85_method_2_3) rfl ((if0 _ _).trans (flt hca).2.2.2) (by decide) (by decide) ?_
      show Steps p.tables e below (s₁.setTop (mkF m 33 #[oa up, oi su, oa x, ov (-1 : Int32)] [])) _
      exact q
    have hs0 : ¬ 0 < su := fun z => hca ((own_cmp (i := 0) (n := su) (by omega) (by omega)).mpr z)
    have k48_ : ∀ t, Steps p.tables e below (s₁.setTop (mkF m 34 #[oa up, oi su, oa x, ov (-1 : Int32)] [(.ref up)])) t → G_ t := by
      intro t q
      refine k47_ _ ?_
      show Steps p.tables e below (s₁.setTop (mkF m 33 #[oa up, oi su, oa x, ov (-1 : Int32)] [])) _
      refine XS.aloadN X0.here hx rfl (hb hby d_prog_85_method_2_33) rfl rfl ?_
      show Steps p.tables e below (s₁.setTop (mkF m 34 #[oa up, oi su, oa x, ov (-1 : Int32)] [(.ref up)])) _
      exact q
    obtain ⟨T49, X49, e49, st49⟩ := getF X0 hx hZ hown (host := "") (Or.inl (hw _ (List.mem_of_getElem? (i := 60) rfl))) Via.refl e0 F1 (g := (mkF m 34 #[oa up, oi su, oa x, ov (-1 : Int32)] [(.ref up)])) rfl rfl (hb hby d_prog_85_method_2_34)
    have k50_ : ∀ t, Steps p.tables e below (T49.setTop (mkF m 37 #[oa up, oi su, oa x, ov (-1 : Int32)] [(.ref sb)])) t → G_ t := fun t q => k48_ t (st49 t q)
    have k51_ : ∀ t, Steps p.tables e below (T49.setTop (mkF m 38 #[oa up, oi su, oa x, ov (-1 : Int32)] [(.ref up), (.ref sb)])) t → G_ t := by
      intro t q
      refine k50_ _ ?_
      show Steps p.tables e below (T49.setTop (mkF m 37 #[oa up, oi su, oa x, ov (-1 : Int32)] [(.ref sb)])) _
      refine XS.aloadN X49.here hx rfl (hb hby d_prog_85_method_2_37) rfl rfl ?_
      show Steps p.tables e below (T49.setTop (mkF m 38 #[oa up, oi su, oa x, ov (-1 : Int32)] [(.ref up), (.ref sb)])) _
      exact q
    obtain ⟨T52, X52, e52, st52⟩ := getF X49 hx hZ hown (host := "") (Or.inl (hw _ (List.mem_of_getElem? (i := 73) rfl))) Via.refl e49 F4 (g := (mkF m 38 #[oa up, oi su, oa x, ov (-1 : Int32)] [(.ref up), (.ref sb)])) rfl rfl (hb hby d_prog_85_method_2_38)
    have k53_ : ∀ t, Steps p.tables e below (T52.setTop (mkF m 41 #[oa up, oi su, oa x, ov (-1 : Int32)] [(.int (Int32.ofNat n)), (.ref sb)])) t → G_ t := fun t q => k51_ t (st52 t q)
    have k54_ : ∀ t, Steps p.tables e below (T52.setTop (mkF m 42 #[oa up, oi su, oa x, ov (-1 : Int32)] [(.int (Int32.ofNat su)), (.int (Int32.ofNat n)), (.ref sb)])) t → G_ t := by
      intro t q
      refine k53_ _ ?_
      show Steps p.tables e below (T52.setTop (mkF m 41 #[oa up, oi su, oa x, ov (-1 : Int32)] [(.int (Int32.ofNat n)), (.ref sb)])) _
      refine XS.iloadN X52.here hx rfl (hb hby d_prog_85_method_2_41) rfl ?_
      show Steps p.tables e below (T52.setTop (mkF m 42 #[oa up, oi su, oa x, ov (-1 : Int32)] [(.int (Int32.ofNat su)), (.int (Int32.ofNat n)), (.ref sb)])) _
      exact q
    obtain ⟨cl55, Ar55, q55, S55, M55, H55, G55⟩ := V1
    obtain ⟨T56, h56, X56, e56, W56, st56⟩ := stI X52 hx hZ e52 Ar55 (j := (Int32.ofNat n)) (inb_of S55 r4) (g := (mkF m 42 #[oa up, oi su, oa x, ov (-1 : Int32)] [(.int (Int32.ofNat su)), (.int (Int32.ofNat n)), (.ref sb)])) rfl rfl (hb hby d_prog_85_method_2_42)
    have k57_ : ∀ t, Steps p.tables e below (T56.setTop (mkF m 43 #[oa up, oi su, oa x, ov (-1 : Int32)] [])) t → G_ t := fun t q => k54_ t (st56 t q)
    have N56 := Fr.snoc X56 N0 (Nat.le_trans hnk c2)
    replace Zn := Nat.le_trans Zn (Keep.of_wr W56).1
    replace EA := EA.wr W56
    replace F1 := F1.other W56 (Or.inl d1)
    replace F2 := F2.other W56 (Or.inl d1)
    replace F3 := F3.other W56 (Or.inl d1)
    replace F4 := F4.other W56 (Or.inl d1)
    replace V2 := V2.other W56 (Ne.symm d4)
    replace V3 := V3.other W56 (Ne.symm d5)
    replace Ex := Ex.wr W56
    have V1 : Arv Z h56 sb k1 .int (4 : Int32) ((sh.set n (Int32.ofNat su)).map Value.int) (.int 0) := by rw [List.map_set]; exact Arv.set Ar55 q55 S55 M55 H55 G55 rfl W56 n (own_ci (by omega)) (own_mapl l1 hn4)
    replace KP := KP.wr W56 (Or.inl (List.mem_of_getElem? (i := 1) rfl))
    replace Sx := own_Sb_keep Sx (Keep.of_wr W56) (own_al1 c2)
    have k58_ : ∀ t, Steps p.tables e below (T56.setTop (mkF m 44 #[oa up, oi su, oa x, ov (-1 : Int32)] [(.ref up)])) t → G_ t := by
      intro t q
      refine k57_ _ ?_
      show Steps p.tables e below (T56.setTop (mkF m 43 #[oa up, oi su, oa x, ov (-1 : Int32)] [])) _
      refine XS.aloadN X56.here hx rfl (hb hby d_prog_85_method_2_43) rfl rfl ?_
      show Steps p.tables e below (T56.setTop (mkF m 44 #[oa up, oi su, oa x, ov (-1 : Int32)] [(.ref up)])) _
      exact q
    obtain ⟨T59, X59, e59, st59⟩ := getF X56 hx hZ hown (host := "") (Or.inl (hw _ (List.mem_of_getElem? (i := 64) rfl))) Via.refl e56 F2 (g := (mkF m 44 #[oa up, oi su, oa x, ov (-1 : Int32)] [(.ref up)])) rfl rfl (hb hby d_prog_85_method_2_44)
    have k60_ : ∀ t, Steps p.tables e below (T59.setTop (mkF m 47 #[oa up, oi su, oa x, ov (-1 : Int32)] [(.ref rb)])) t → G_ t := fun t q => k58_ t (st59 t q)
    have k61_ : ∀ t, Steps p.tables e below (T59.setTop (mkF m 48 #[oa up, oi su, oa x, ov (-1 : Int32)] [(.ref up), (.ref rb)])) t → G_ t := by
      intro t q
      refine k60_ _ ?_
      show Steps p.tables e below (T59.setTop (mkF m 47 #[oa up, oi su, oa x, ov (-1 : Int32)] [(.ref rb)])) _
      refine XS.aloadN X59.here hx rfl (hb hby d_prog_85_method_2_47) rfl rfl ?_
      show Steps p.tables e below (T59.setTop (mkF m 48 #[oa up, oi su, oa x, ov (-1 : Int32)] [(.ref up), (.ref rb)])) _
      exact q
    obtain ⟨T62, X62, e62, st62⟩ := getF X59 hx hZ hown (host := "") (Or.inl (hw _ (List.mem_of_getElem? (i := 73) rfl))) Via.refl e59 F4 (g := (mkF m 48 #[oa up, oi su, oa x, ov (-1 : Int32)] [(.ref up), (.ref rb)])) rfl rfl (hb hby d_prog_85_method_2_48)
    have k63_ : ∀ t, Steps p.tables e below (T62.setTop (mkF m 51 #[oa up, oi su, oa x, ov (-1 : Int32)] [(.int (Int32.ofNat n)), (.ref rb)])) t → G_ t := fun t q => k61_ t (st62 t q)
    have k64_ : ∀ t, Steps p.tables e below (T62.setTop (mkF m 52 #[oa up, oi su, oa x, ov (-1 : Int32)] [(.ref x), (.int (Int32.ofNat n)), (.ref rb)])) t → G_ t := by
      intro t q
      refine k63_ _ ?_
      show Steps p.tables e below (T62.setTop (mkF m 51 #[oa up, oi su, oa x, ov (-1 : Int32)] [(.int (Int32.ofNat n)), (.ref rb)])) _
      refine XS.aloadN X62.here hx rfl (hb hby d_prog_85_method_2_51) rfl rfl ?_
      show Steps p.tables e below (T62.setTop (mkF m 52 #[oa up, oi su, oa x, ov (-1 : Int32)] [(.ref x), (.int (Int32.ofNat n)), (.ref rb)])) _
      exact q
    obtain ⟨cl65, Ar65, q65, S65, M65, H65, G65⟩ := V2
    obtain ⟨T66, h66, X66, e66, W66, st66⟩ := stR X62 hx hZ e62 Ar65 (j := (Int32.ofNat n)) (inb_of S65 r4) rfl (Sto.ofV Ar65 q65 O2s (Ins.self Ex)) (g := (mkF m 52 #[oa up, oi su, oa x, ov (-1 : Int32)] [(.ref x), (.int (Int32.ofNat n)), (.ref rb)])) rfl rfl (hb hby d_prog_85_method_2_52)
    have k67_ : ∀ t, Steps p.tables e below (T66.setTop (mkF m 53 #[oa up, oi su, oa x, ov (-1 : Int32)] [])) t → G_ t := fun t q => k64_ t (st66 t q)
    have N66 := Fr.snoc X66 N56 (Nat.le_trans hnk c3)
    replace Zn := Nat.le_trans Zn (Keep.of_wr W66).1
    replace EA := EA.wr W66
    replace F1 := F1.other W66 (Or.inl d2)
    replace F2 := F2.other W66 (Or.inl d2)
    replace F3 := F3.other W66 (Or.inl d2)
    replace F4 := F4.other W66 (Or.inl d2)
    replace V1 := V1.other W66 d4
    replace V3 := V3.other W66 (Ne.symm d6)
    replace Ex := Ex.wr W66
    have V2 : Arv Z h66 rb k2 (.object "java/lang/String") 4 (rs.set n (.ref x)) .null := Arv.set Ar65 q65 S65 M65 H65 G65 rfl W66 n (own_ci (by omega)) (by rw [l3]; exact hn4)
    replace KP := KP.wr W66 (Or.inl (List.mem_of_getElem? (i := 2) rfl))
    replace Sx := own_Sb_keep Sx (Keep.of_wr W66) (own_al1 c3)
    have k68_ : ∀ t, Steps p.tables e below (T66.setTop (mkF m 54 #[oa up, oi su, oa x, ov (-1 : Int32)] [(.ref up)])) t → G_ t := by
      intro t q
      refine k67_ _ ?_
      show Steps p.tables e below (T66.setTop (mkF m 53 #[oa up, oi su, oa x, ov (-1 : Int32)] [])) _
      refine XS.aloadN X66.here hx rfl (hb hby d_prog_85_method_2_53) rfl rfl ?_
      show Steps p.tables e below (T66.setTop (mkF m 54 #[oa up, oi su, oa x, ov (-1 : Int32)] [(.ref up)])) _
      exact q
    obtain ⟨T69, X69, e69, st69⟩ := getF X66 hx hZ hown (host := "") (Or.inl (hw _ (List.mem_of_getElem? (i := 66) rfl))) Via.refl e66 F3 (g := (mkF m 54 #[oa up, oi su, oa x, ov (-1 : Int32)] [(.ref up)])) rfl rfl (hb hby d_prog_85_method_2_54)
    have k70_ : ∀ t, Steps p.tables e below (T69.setTop (mkF m 57 #[oa up, oi su, oa x, ov (-1 : Int32)] [(.ref hq)])) t → G_ t := fun t q => k68_ t (st69 t q)
    have k71_ : ∀ t, Steps p.tables e below (T69.setTop (mkF m 58 #[oa up, oi su, oa x, ov (-1 : Int32)] [(.ref up), (.ref hq)])) t → G_ t := by
      intro t q
      refine k70_ _ ?_
      show Steps p.tables e below (T69.setTop (mkF m 57 #[oa up, oi su, oa x, ov (-1 : Int32)] [(.ref hq)])) _
      refine XS.aloadN X69.here hx rfl (hb hby d_prog_85_method_2_57) rfl rfl ?_
      show Steps p.tables e below (T69.setTop (mkF m 58 #[oa up, oi su, oa x, ov (-1 : Int32)] [(.ref up), (.ref hq)])) _
      exact q
    obtain ⟨T72, X72, e72, st72⟩ := getF X69 hx hZ hown (host := "") (Or.inl (hw _ (List.mem_of_getElem? (i := 73) rfl))) Via.refl e69 F4 (g := (mkF m 58 #[oa up, oi su, oa x, ov (-1 : Int32)] [(.ref up), (.ref hq)])) rfl rfl (hb hby d_prog_85_method_2_58)
    have k73_ : ∀ t, Steps p.tables e below (T72.setTop (mkF m 61 #[oa up, oi su, oa x, ov (-1 : Int32)] [(.int (Int32.ofNat n)), (.ref hq)])) t → G_ t := fun t q => k71_ t (st72 t q)
    have k74_ : ∀ t, Steps p.tables e below (T72.setTop (mkF m 62 #[oa up, oi su, oa x, ov (-1 : Int32)] [(.int (-1 : Int32)), (.int (Int32.ofNat n)), (.ref hq)])) t → G_ t := by
      intro t q
      refine k73_ _ ?_
      show Steps p.tables e below (T72.setTop (mkF m 61 #[oa up, oi su, oa x, ov (-1 : Int32)] [(.int (Int32.ofNat n)), (.ref hq)])) _
      refine XS.iloadN X72.here hx rfl (hb hby d_prog_85_method_2_61) rfl ?_
      show Steps p.tables e below (T72.setTop (mkF m 62 #[oa up, oi su, oa x, ov (-1 : Int32)] [(.int (-1 : Int32)), (.int (Int32.ofNat n)), (.ref hq)])) _
      exact q
    obtain ⟨cl75, Ar75, q75, S75, M75, H75, G75⟩ := V3
    obtain ⟨T76, h76, X76, e76, W76, st76⟩ := stI X72 hx hZ e72 Ar75 (j := (Int32.ofNat n)) (inb_of S75 r4) (g := (mkF m 62 #[oa up, oi su, oa x, ov (-1 : Int32)] [(.int (-1 : Int32)), (.int (Int32.ofNat n)), (.ref hq)])) rfl rfl (hb hby d_prog_85_method_2_62)
    have k77_ : ∀ t, Steps p.tables e below (T76.setTop (mkF m 63 #[oa up, oi su, oa x, ov (-1 : Int32)] [])) t → G_ t := fun t q => k74_ t (st76 t q)
    have N76 := Fr.snoc X76 N66 (Nat.le_trans hnk c4)
    replace Zn := Nat.le_trans Zn (Keep.of_wr W76).1
    replace EA := EA.wr W76
    replace F1 := F1.other W76 (Or.inl d3)
    replace F2 := F2.other W76 (Or.inl d3)
    replace F3 := F3.other W76 (Or.inl d3)
    replace F4 := F4.other W76 (Or.inl d3)
    replace V1 := V1.other W76 d5
    replace V2 := V2.other W76 d6
    replace Ex := Ex.wr W76
    have V3 : Arv Z h76 hq k3 .int (4 : Int32) ((ho.set n (-1 : Int32)).map Value.int) (.int 0) := by rw [List.map_set]; exact Arv.set Ar75 q75 S75 M75 H75 G75 rfl W76 n (own_ci (by omega)) (own_mapl l2 hn4)
    replace KP := KP.wr W76 (Or.inl (List.mem_of_getElem? (i := 3) rfl))
    replace Sx := own_Sb_keep Sx (Keep.of_wr W76) (own_al1 c4)
    have k78_ : ∀ t, Steps p.tables e below (T76.setTop (mkF m 65 #[oa up, oi su, oa x, ov (-1 : Int32)] [(.ref up), (.ref up)])) t → G_ t := by
      intro t q
      refine k77_ _ ?_
      show Steps p.tables e below (T76.setTop (mkF m 63 #[oa up, oi su, oa x, ov (-1 : Int32)] [])) _
      refine XS.aloadN X76.here hx rfl (hb hby d_prog_85_method_2_63) rfl rfl ?_
      refine XS.dup X76.here hx rfl (hb hby d_prog_85_method_2_64) rfl rfl ?_
      show Steps p.tables e below (T76.setTop (mkF m 65 #[oa up, oi su, oa x, ov (-1 : Int32)] [(.ref up), (.ref up)])) _
      exact q
    obtain ⟨T79, X79, e79, st79⟩ := getF X76 hx hZ hown (host := "") (Or.inl (hw _ (List.mem_of_getElem? (i := 73) rfl))) Via.refl e76 F4 (g := (mkF m 65 #[oa up, oi su, oa x, ov (-1 : Int32)] [(.ref up), (.ref up)])) rfl rfl (hb hby d_prog_85_method_2_65)
    have k80_ : ∀ t, Steps p.tables e below (T79.setTop (mkF m 68 #[oa up, oi su, oa x, ov (-1 : Int32)] [(.int (Int32.ofNat n)), (.ref up)])) t → G_ t := fun t q => k78_ t (st79 t q)
    have k81_ : ∀ t, Steps p.tables e below (T79.setTop (mkF m 70 #[oa up, oi su, oa x, ov (-1 : Int32)] [(.int ((Int32.ofNat n) + (1 : Int32))), (.ref up)])) t → G_ t := by
      intro t q
      refine k80_ _ ?_
      show Steps p.tables e below (T79.setTop (mkF m 68 #[oa up, oi su, oa x, ov (-1 : Int32)] [(.int (Int32.ofNat n)), (.ref up)])) _
      refine XS.iconst X79.here hx rfl (hb hby d_prog_85_method_2_68) ?_
      refine XS.iadd X79.here hx rfl (hb hby d_prog_85_method_2_69) rfl ?_
      show Steps p.tables e below (T79.setTop (mkF m 70 #[oa up, oi su, oa x, ov (-1 : Int32)] [(.int ((Int32.ofNat n) + (1 : Int32))), (.ref up)])) _
      exact q
    have k82_ : ∀ t, Steps p.tables e below (T79.setTop (mkF m 70 #[oa up, oi su, oa x, ov (-1 : Int32)] [(.int (Int32.ofNat (n + 1))), (.ref up)])) t → G_ t := fun t q => k81_ t (Eq.mp (congrArg (fun z => Steps p.tables e below (T79.setTop (mkF m 70 #[oa up, oi su, oa x, ov (-1 : Int32)] [(.int z), (.ref up)])) t) (show (Int32.ofNat (n + 1)) = ((Int32.ofNat n) + (1 : Int32)) from (own_inc (by omega)))) q)
    obtain ⟨T83, h83, X83, e83, W83, st83⟩ := putF X79 hx hZ hown (host := "") (Or.inl (hw _ (List.mem_of_getElem? (i := 73) rfl))) Via.refl e79 F4 EA (Or.inl (hw _ (List.mem_of_getElem? (i := 74) rfl))) (hw _ (List.mem_of_getElem? (i := 53) rfl)) (ty := .int) (by decide) rfl rfl (g := (mkF m 70 #[oa up, oi su, oa x, ov (-1 : Int32)] [(.int (Int32.ofNat (n + 1))), (.ref up)])) rfl rfl (hb hby d_prog_85_method_2_70)
    have k84_ : ∀ t, Steps p.tables e below (T83.setTop (mkF m 73 #[oa up, oi su, oa x, ov (-1 : Int32)] [])) t → G_ t := fun t q => k82_ t (st83 t q)
    have N83 := Fr.snoc X83 N76 (Nat.le_trans hnk c1)
    replace Zn := Nat.le_trans Zn (Keep.of_wr W83).1
    replace EA := EA.wr W83
    replace F1 := F1.other W83 (Or.inr (slot_ne (Or.inr (hw _ (List.mem_of_getElem? (i := 61) rfl))) (Or.inl (hw _ (List.mem_of_getElem? (i := 74) rfl))) (by decide) (t := (.array .int)) (t' := .int) (by decide) (by decide)))
    replace F2 := F2.other W83 (Or.inr (slot_ne (Or.inr (hw _ (List.mem_of_getElem? (i := 65) rfl))) (Or.inl (hw _ (List.mem_of_getElem? (i := 74) rfl))) (by decide) (t := (.array (.object "java/lang/String"))) (t' := .int) (by decide) (by decide)))
    replace F3 := F3.other W83 (Or.inr (slot_ne (Or.inr (hw _ (List.mem_of_getElem? (i := 67) rfl))) (Or.inl (hw _ (List.mem_of_getElem? (i := 74) rfl))) (by decide) (t := (.array .int)) (t' := .int) (by decide) (by decide)))
    replace V1 := V1.other W83 (Ne.symm d1)
    replace V2 := V2.other W83 (Ne.symm d2)
    replace V3 := V3.other W83 (Ne.symm d3)
    replace Ex := Ex.wr W83
    replace F4 := F4.same W83
    replace KP := KP.wr W83 (Or.inl (List.mem_of_getElem? (i := 0) rfl))
    replace Sx := own_Sb_keep Sx (Keep.of_wr W83) (own_al1 c1)
    have hu2 : ∀ u, u < n + 1 → (sh.set n (Int32.ofNat su)).getD u 0 = Int32.ofNat (own_uf Sh n su u) ∧ (0 < own_uf Sh n su u → (ho.set n (-1 : Int32)).getD u 0 = Int32.ofNat (own_uf Ho n 0 u)) ∧ (rs.set n (.ref x)).getD u .null = .ref (own_uf A n x u) ∧ own_Sb Z kk h83 (own_uf A n x u) (own_uf Rr n rl u) := fun u hun => by
      by_cases q : u = n
      · subst q
        rw [own_gs (by omega), own_gs (by omega), if_pos rfl, if_pos rfl, own_gv (by omega), if_pos rfl]
        simp only [own_uf_s]
        exact ⟨trivial, fun z => absurd z hs0, trivial, Sx⟩
      · obtain ⟨b1, b2, b3, b4⟩ := hu u (by omega)
        rw [own_gs (by omega), own_gs (by omega), if_neg (Ne.symm q), if_neg (Ne.symm q), own_gv (by omega), if_neg (Ne.symm q), own_uf_n q, own_uf_n q, own_uf_n q, own_uf_n q]
        exact ⟨b1, b2, b3, own_Sb_keep b4 KP (own_al4 c1 c2 c3 c4)⟩
    obtain ⟨fs, hr, hrun, hended, hW, hsame⟩ := X83.leave (v := none) (fun _ => rfl)
    refine ⟨_, _, pre0 _ (k84_ _ ?_), hrun, hended, _, _, rfl, ?_, ⟨_, rfl⟩, hW, hsame.mono (by decide) (by decide)⟩
    · show Steps p.tables e below (T83.setTop (mkF m 73 #[oa up, oi su, oa x, ov (-1 : Int32)] [])) _
      exact X83.returnOut hx Bd.returns (hb hby d_prog_85_method_2_73) hr
    · show QD Z up sb rb hq kk n Sh Ho Ln E Rr A su x e8 rl ln h0 n0 _ T83.heap _
      rw [e83]
      exact ⟨rfl, N83, KP, 0, sh.set n (Int32.ofNat su), ho.set n (-1 : Int32), rs.set n (.ref x), EA, F1, F2, F3, F4, ⟨_, V1⟩, ⟨_, V2, O2s⟩, ⟨_, V3⟩, ⟨by rw [List.length_set]; exact l1, by rw [List.length_set]; exact l2, by rw [List.length_set]; exact l3⟩, hu2, own_V_add hv h1 h2 h3 h4 h5 h6 (fun z => absurd z hs0), ⟨d1, d2, d3, d4, d5, d6⟩, ⟨c1, c2, c3, c4⟩, hnk⟩
theorem d_prog_85_method_3_25 : decode prog_85_method_3_code 25 = .ok (.iload_n 3, 1) := by decide +kernel
theorem d_prog_85_method_3_26 : decode prog_85_method_3_code 26 = .ok (.ifCond .le 51, 3) := by decide +kernel
theorem d_prog_85_method_3_29 : decode prog_85_method_3_code 29 = .ok (.aload_n 0, 1) := by decide +kernel
theorem d_prog_85_method_3_30 : decode prog_85_method_3_code 30 = .ok (.getfield 15, 3) := by decide +kernel
theorem d_prog_85_method_3_33 : decode prog_85_method_3_code 33 = .ok (.iload 4, 2) := by decide +kernel
theorem d_prog_85_method_3_35 : decode prog_85_method_3_code 35 = .ok (.aaload, 1) := by decide +kernel
theorem d_prog_85_method_3_36 : decode prog_85_method_3_code 36 = .ok (.iconst 0, 1) := by decide +kernel
theorem d_prog_85_method_3_37 : decode prog_85_method_3_code 37 = .ok (.iload_n 3, 1) := by decide +kernel
theorem d_prog_85_method_3_38 : decode prog_85_method_3_code 38 = .ok (.aload_n 0, 1) := by decide +kernel
theorem d_prog_85_method_3_39 : decode prog_85_method_3_code 39 = .ok (.getfield 7, 3) := by decide +kernel
theorem d_prog_85_method_3_42 : decode prog_85_method_3_code 42 = .ok (.iload 4, 2) := by decide +kernel
theorem d_prog_85_method_3_44 : decode prog_85_method_3_code 44 = .ok (.iaload, 1) := by decide +kernel
theorem d_prog_85_method_3_45 : decode prog_85_method_3_code 45 = .ok (.isub, 1) := by decide +kernel
theorem d_prog_85_method_3_46 : decode prog_85_method_3_code 46 = .ok (.aload_n 2, 1) := by decide +kernel
theorem d_prog_85_method_3_47 : decode prog_85_method_3_code 47 = .ok (.aload_n 0, 1) := by decide +kernel
theorem d_prog_85_method_3_48 : decode prog_85_method_3_code 48 = .ok (.getfield 7, 3) := by decide +kernel
theorem d_prog_85_method_3_51 : decode prog_85_method_3_code 51 = .ok (.iload 4, 2) := by decide +kernel
theorem d_prog_85_method_3_53 : decode prog_85_method_3_code 53 = .ok (.iaload, 1) := by decide +kernel
theorem pd_18129 : parseMethodDescriptor "(II[CI)V" = some ⟨[.int, .int, (.array .char), .int], none⟩ := by decide +kernel
theorem d_prog_85_method_3_54 : decode prog_85_method_3_code 54 = .ok (.invokevirtual 30, 3) := by decide +kernel
theorem d_prog_85_method_3_57 : decode prog_85_method_3_code 57 = .ok (.aload_n 0, 1) := by decide +kernel
theorem d_prog_85_method_3_58 : decode prog_85_method_3_code 58 = .ok (.getfield 7, 3) := by decide +kernel
theorem d_prog_85_method_3_61 : decode prog_85_method_3_code 61 = .ok (.iload 4, 2) := by decide +kernel
theorem d_prog_85_method_3_63 : decode prog_85_method_3_code 63 = .ok (.iaload, 1) := by decide +kernel
theorem d_prog_85_method_3_64 : decode prog_85_method_3_code 64 = .ok (.istore_n 3, 1) := by decide +kernel
theorem d_prog_85_method_3_65 : decode prog_85_method_3_code 65 = .ok (.aload_n 0, 1) := by decide +kernel
theorem d_prog_85_method_3_66 : decode prog_85_method_3_code 66 = .ok (.getfield 19, 3) := by decide +kernel
theorem d_prog_85_method_3_69 : decode prog_85_method_3_code 69 = .ok (.iload 4, 2) := by decide +kernel
theorem d_prog_85_method_3_71 : decode prog_85_method_3_code 71 = .ok (.iaload, 1) := by decide +kernel
theorem d_prog_85_method_3_72 : decode prog_85_method_3_code 72 = .ok (.istore 4, 2) := by decide +kernel
theorem d_prog_85_method_3_74 : decode prog_85_method_3_code 74 = .ok (.goto (-49), 3) := by decide +kernel
set_option maxRecDepth 65536 in
set_option maxHeartbeats 40000000 in
theorem lpT {p : Program} {l : Launch} {e : Env}  {s : State} {m : MethodId} {args : Array Value} {below : List Frame} {meth : Method} {c : Code} (Z : State) (a0 : Array Value) (hw : ∀ d ∈ tables_1, d.before a0 Z = true) (hx : p.tables.exec = Jvm.exec) (hZ : Z.Warmed39 s.vm) (hby : c.code = prog_85_method_3_code) (hml : c.maxLocals = 5) (hown : s.vm.findClass "com/example/haku/haku/index/UnitPaths" = some m.cls) (n0 : Nat) (up : Addr) (sb : Addr) (rb : Addr) (hq : Addr) (kk : Nat) (n : Nat) (Sh : Nat → Nat) (Ho : Nat → Nat) (Ln : Nat → Nat) (E : Nat → List Int32) (Rr : Nat → List Int32) (A : Nat → Addr) (uu N : Nat) (b : Addr) (kB : ClassId) (zc : Int32) (fv : Value) (hn4 : n ≤ 4) (hN : N ≤ 8) (hbk : kk ≤ b) (nb1 : b ≠ up) (nb2 : b ≠ sb) (nb3 : b ≠ rb) (nb4 : b ≠ hq) (O2 : Sta Z Z.heap "java/lang/String" "COMPACT_STRINGS" "Z" (.int zc)) (hzc : ¬ zc = (0 : Int32)) (O4 : Sta Z Z.heap "jdk/internal/util/Preconditions" "SIOOBE_FORMATTER" "Ljava/util/function/BiFunction;" fv) (rfv : fv.isRef = true) : ∀ (ff hh ed : Nat) (xs : List Int32) (s₁ : State) (h0 : Heap) (lc0 : List Loc), hh < ff → hh < n → Sh hh ≤ ed → ed ≤ Ln hh → ed ≤ N → xs.length = N → (∀ j, ed ≤ j → j < N → xs.getD j 0 = (E uu).getD j 0) → (∀ j, j < ed → (E uu).getD j 0 = (E hh).getD j 0) → Stand p l e ({ frames := 4, cells := 4, slots := 20, locals := 66 } : Room) s m args below meth c s₁ lc0 1 8 → s₁.heap = h0 → Fr n0 lc0 → n0 ≤ h0.size → kk ≤ h0.size → Old Z n0 h0 → own_U Z n0 kk h0 up sb rb hq n Sh Ho Ln E Rr A → Arv Z h0 b kB .char (Int32.ofNat N) (xs.map Value.int) (.int 0) → ∃ (T' : State) (h' : Heap) (lc' : List Loc) (xs' : List Int32) (M3 M4 : Slot), Stand p l e ({ frames := 4, cells := 4, slots := 20, locals := 66 } : Room) s m args below meth c T' lc' 1 8 ∧ T'.heap = h' ∧ Fr n0 lc' ∧ Keep h0 h' [b] ∧ Arv Z h' b kB .char (Int32.ofNat N) (xs'.map Value.int) (.int 0) ∧ xs'.length = N ∧ (∀ j, j < N → xs'.getD j 0 = (E uu).getD j 0) ∧ ∀ t, Steps p.tables e below (T'.setTop (mkF m 77 #[.val (.ref up), .val (.int (Int32.ofNat uu)), .val (.ref b), M3, M4] [])) t → Steps p.tables e below (s₁.setTop (mkF m 25 #[oa up, oi uu, oa b, oi ed, oi hh] [])) t := by
  intro ff
  induction ff with
  | zero => intro hh ed xs s₁ h0 lc0 hf; exact absurd hf (Nat.not_lt_zero _)
  | succ ff ih =>
    intro hh ed xs s₁ h0 lc0 hf hhn hse hel heN hxs hg hE X0 e0 N0 Zn hkh X00 hU VB
    have k0 : ∀ t, Steps p.tables e below (s₁.setTop (mkF m 25 #[oa up, oi uu, oa b, oi ed, oi hh] [])) t → Steps p.tables e below (s₁.setTop (mkF m 25 #[oa up, oi uu, oa b, oi ed, oi hh] [])) t := fun t q => q
    let G_ : State → Prop := fun t => Steps p.tables e below (s₁.setTop (mkF m 25 #[oa up, oi uu, oa b, oi ed, oi hh] [])) t
    have k1_ : ∀ t, Steps p.tables e below (s₁.setTop (mkF m 26 #[oa up, oi uu, oa b, oi ed, oi hh] [(.int (Int32.ofNat ed))])) t → G_ t := by
      intro t q
      refine k0 _ ?_
      show Steps p.tables e below (s₁.setTop (mkF m 25 #[oa up, oi uu, oa b, oi ed, oi hh] [])) _
      refine XS.iloadN X0.here hx rfl (hb hby d_prog_85_method_3_25) rfl ?_
      show Steps p.tables e below (s₁.setTop (mkF m 26 #[oa up, oi uu, oa b, oi ed, oi hh] [(.int (Int32.ofNat ed))])) _
      exact q
    by_cases hca : (0 : Int32) < (Int32.ofNat ed)
    · have k2_ : ∀ t, Steps p.tables e below (s₁.setTop (mkF m 29 #[oa up, oi uu, oa b, oi ed, oi hh] [])) t → G_ t := by
        intro t q
        refine k1_ _ ?_
        show Steps p.tables e below (s₁.setTop (mkF m 26 #[oa up, oi uu, oa b, oi ed, oi hh] [(.int (Int32.ofNat ed))])) _
        refine XS.ifNo X0.here hx rfl (hb hby d_prog_85_method_3_26) rfl ((if0 _ _).trans (tlt hca).2.2.2) ?_
        show Steps p.tables e below (s₁.setTop (mkF m 29 #[oa up, oi uu, oa b, oi ed, oi hh] [])) _
        exact q
      obtain ⟨sh, ho, rs, EA, F1, F2, F3, F4, ⟨k1, V1⟩, ⟨k2, V2, O2s⟩, ⟨k3, V3⟩, ⟨l1, l2, l3⟩, hu, hv, ⟨d1, d2, d3, d4, d5, d6⟩, ⟨c1, c2, c3, c4⟩, hnk⟩ := id hU
      have h0e : 0 < ed := (own_cmp (i := 0) (n := ed) (by omega) (by omega)).mp hca
      obtain ⟨u1, u2, u3, u4⟩ := hu hh hhn
      obtain ⟨v1, v2, v3, v4, v5, v6, v7⟩ := hv hh hhn
      have r4 := own_inr (n := 4) (i := hh) (by omega) (by decide)
      have gb : n0 ≤ b := Nat.le_trans hnk hbk
      obtain ⟨cl3, Ar3, q3, S3, M3, H3, G3⟩ := id V2
      obtain ⟨cl4, Ar4, q4, S4, M4, H4, G4⟩ := id V1
      obtain ⟨cl5, Ar5, q5, S5, M5, H5, G5⟩ := id V1
      have k6_ : ∀ t, Steps p.tables e below (s₁.setTop (mkF m 30 #[oa up, oi uu, oa b, oi ed, oi hh] [(.ref up)])) t → G_ t := by
        intro t q
        refine k2_ _ ?_
        show Steps p.tables e below (s₁.setTop (mkF m 29 #[oa up, oi uu, oa b, oi ed, oi hh] [])) _
        refine XS.aloadN X0.here hx rfl (hb hby d_prog_85_method_3_29) rfl rfl ?_
        show Steps p.tables e below (s₁.setTop (mkF m 30 #[oa up, oi uu, oa b, oi ed, oi hh] [(.ref up)])) _
        exact q
      obtain ⟨T7, X7, e7, st7⟩ := getF X0 hx hZ hown (host := "") (Or.inl (hw _ (List.mem_of_getElem? (i := 64) rfl))) Via.refl e0 F2 (g := (mkF m 30 #[oa up, oi uu, oa b, oi ed, oi hh] [(.ref up)])) rfl rfl (hb hby d_prog_85_method_3_30)
      have k8_ : ∀ t, Steps p.tables e below (T7.setTop (mkF m 33 #[oa up, oi uu, oa b, oi ed, oi hh] [(.ref rb)])) t → G_ t := fun t q => k6_ t (st7 t q)
      have k9_ : ∀ t, Steps p.tables e below (T7.setTop (mkF m 39 #[oa up, oi uu, oa b, oi ed, oi hh] [(.ref up), (.int (Int32.ofNat ed)), (.int (0 : Int32)), (.ref (A hh))])) t → G_ t := by
        intro t q
        refine k8_ _ ?_
        show Steps p.tables e below (T7.setTop (mkF m 33 #[oa up, oi uu, oa b, oi ed, oi hh] [(.ref rb)])) _
        refine XS.iload X7.here hx rfl (hb hby d_prog_85_method_3_33) rfl ?_
        refine X7.aaload hx (j := (Int32.ofNat hh)) (v := (.ref (A hh))) (by rw [e7]; exact Ar3.1) (State.isArrayOf_alike hZ.alike Ar3.2.1) rfl Ar3.2.2 (inb_of S3 r4) (Has.at H3 (inb_of S3 r4) (by rw [own_ci (by omega)]; exact u3)) (g := (mkF m 35 #[oa up, oi uu, oa b, oi ed, oi hh] [(.int (Int32.ofNat hh)), (.ref rb)])) rfl rfl (hb hby d_prog_85_method_3_35) _ ?_
        refine XS.iconst X7.here hx rfl (hb hby d_prog_85_method_3_36) ?_
        refine XS.iloadN X7.here hx rfl (hb hby d_prog_85_method_3_37) rfl ?_
        show Steps p.tables e below (T7.setTop (mkF m 38 #[oa up, oi uu, oa b, oi ed, oi hh] [(.int (Int32.ofNat ed)), (.int (0 : Int32)), (.ref (A hh))])) _
        refine XS.aloadN X7.here hx rfl (hb hby d_prog_85_method_3_38) rfl rfl ?_
        show Steps p.tables e below (T7.setTop (mkF m 39 #[oa up, oi uu, oa b, oi ed, oi hh] [(.ref up), (.int (Int32.ofNat ed)), (.int (0 : Int32)), (.ref (A hh))])) _
        exact q
      obtain ⟨T10, X10, e10, st10⟩ := getF X7 hx hZ hown (host := "") (Or.inl (hw _ (List.mem_of_getElem? (i := 60) rfl))) Via.refl e7 F1 (g := (mkF m 39 #[oa up, oi uu, oa b, oi ed, oi hh] [(.ref up), (.int (Int32.ofNat ed)), (.int (0 : Int32)), (.ref (A hh))])) rfl rfl (hb hby d_prog_85_method_3_39)
      have k11_ : ∀ t, Steps p.tables e below (T10.setTop (mkF m 42 #[oa up, oi uu, oa b, oi ed, oi hh] [(.ref sb), (.int (Int32.ofNat ed)), (.int (0 : Int32)), (.ref (A hh))])) t → G_ t := fun t q => k9_ t (st10 t q)
      have k12_ : ∀ t, Steps p.tables e below (T10.setTop (mkF m 45 #[oa up, oi uu, oa b, oi ed, oi hh] [(.int (sh.getD hh 0)), (.int (Int32.ofNat ed)), (.int (0 : Int32)), (.ref (A hh))])) t → G_ t := by
        intro t q
        refine k11_ _ ?_
        show Steps p.tables e below (T10.setTop (mkF m 42 #[oa up, oi uu, oa b, oi ed, oi hh] [(.ref sb), (.int (Int32.ofNat ed)), (.int (0 : Int32)), (.ref (A hh))])) _
        refine XS.iload X10.here hx rfl (hb hby d_prog_85_method_3_42) rfl ?_
        refine X10.iaload hx (j := (Int32.ofNat hh)) (v := (.int (sh.getD hh 0))) (by rw [e10]; exact Ar4.1) (State.isArrayOf_alike hZ.alike Ar4.2.1) Ar4.2.2 (inb_of S4 r4) (Has.at H4 (inb_of S4 r4) (own_gi _ (by omega))) (g := (mkF m 44 #[oa up, oi uu, oa b, oi ed, oi hh] [(.int (Int32.ofNat hh)), (.ref sb), (.int (Int32.ofNat ed)), (.int (0 : Int32)), (.ref (A hh))])) rfl rfl (hb hby d_prog_85_method_3_44) _ ?_
        show Steps p.tables e below (T10.setTop (mkF m 45 #[oa up, oi uu, oa b, oi ed, oi hh] [(.int (sh.getD hh 0)), (.int (Int32.ofNat ed)), (.int (0 : Int32)), (.ref (A hh))])) _
        exact q
      have k13_ : ∀ t, Steps p.tables e below (T10.setTop (mkF m 45 #[oa up, oi uu, oa b, oi ed, oi hh] [(.int (Int32.ofNat (Sh hh))), (.int (Int32.ofNat ed)), (.int (0 : Int32)), (.ref (A hh))])) t → G_ t := fun t q => k12_ t (Eq.mp (congrArg (fun z => Steps p.tables e below (T10.setTop (mkF m 45 #[oa up, oi uu, oa b, oi ed, oi hh] [(.int z), (.int (Int32.ofNat ed)), (.int (0 : Int32)), (.ref (A hh))])) t) (show (Int32.ofNat (Sh hh)) = (sh.getD hh 0) from u1.symm)) q)
      have k14_ : ∀ t, Steps p.tables e below (T10.setTop (mkF m 46 #[oa up, oi uu, oa b, oi ed, oi hh] [(.int ((Int32.ofNat ed) - (Int32.ofNat (Sh hh)))), (.int (0 : Int32)), (.ref (A hh))])) t → G_ t := by
        intro t q
        refine k13_ _ ?_
        show Steps p.tables e below (T10.setTop (mkF m 45 #[oa up, oi uu, oa b, oi ed, oi hh] [(.int (Int32.ofNat (Sh hh))), (.int (Int32.ofNat ed)), (.int (0 : Int32)), (.ref (A hh))])) _
        refine XS.isub X10.here hx rfl (hb hby d_prog_85_method_3_45) rfl ?_
        show Steps p.tables e below (T10.setTop (mkF m 46 #[oa up, oi uu, oa b, oi ed, oi hh] [(.int ((Int32.ofNat ed) - (Int32.ofNat (Sh hh)))), (.int (0 : Int32)), (.ref (A hh))])) _
        exact q
      have k15_ : ∀ t, Steps p.tables e below (T10.setTop (mkF m 46 #[oa up, oi uu, oa b, oi ed, oi hh] [(.int (Int32.ofNat (ed - Sh hh))), (.int (0 : Int32)), (.ref (A hh))])) t → G_ t := fun t q => k14_ t (Eq.mp (congrArg (fun z => Steps p.tables e below (T10.setTop (mkF m 46 #[oa up, oi uu, oa b, oi ed, oi hh] [(.int z), (.int (0 : Int32)), (.ref (A hh))])) t) (show (Int32.ofNat (ed - Sh hh)) = ((Int32.ofNat ed) - (Int32.ofNat (Sh hh))) from (own_sbn (by omega) hse))) q)
      have k16_ : ∀ t, Steps p.tables e below (T10.setTop (mkF m 48 #[oa up, oi uu, oa b, oi ed, oi hh] [(.ref up), (.ref b), (.int (Int32.ofNat (ed - Sh hh))), (.int (0 : Int32)), (.ref (A hh))])) t → G_ t := by
        intro t q
        refine k15_ _ ?_
        show Steps p.tables e below (T10.setTop (mkF m 46 #[oa up, oi uu, oa b, oi ed, oi hh] [(.int (Int32.ofNat (ed - Sh hh))), (.int (0 : Int32)), (.ref (A hh))])) _
        refine XS.aloadN X10.here hx rfl (hb hby d_prog_85_method_3_46) rfl rfl ?_
        refine XS.aloadN X10.here hx rfl (hb hby d_prog_85_method_3_47) rfl rfl ?_
        show Steps p.tables e below (T10.setTop (mkF m 48 #[oa up, oi uu, oa b, oi ed, oi hh] [(.ref up), (.ref b), (.int (Int32.ofNat (ed - Sh hh))), (.int (0 : Int32)), (.ref (A hh))])) _
        exact q
      obtain ⟨T17, X17, e17, st17⟩ := getF X10 hx hZ hown (host := "") (Or.inl (hw _ (List.mem_of_getElem? (i := 60) rfl))) Via.refl e10 F1 (g := (mkF m 48 #[oa up, oi uu, oa b, oi ed, oi hh] [(.ref up), (.ref b), (.int (Int32.ofNat (ed - Sh hh))), (.int (0 : Int32)), (.ref (A hh))])) rfl rfl (hb hby d_prog_85_method_3_48)
      have k18_ : ∀ t, Steps p.tables e below (T17.setTop (mkF m 51 #[oa up, oi uu, oa b, oi ed, oi hh] [(.ref sb), (.ref b), (.int (Int32.ofNat (ed - Sh hh))), (.int (0 : Int32)), (.ref (A hh))])) t → G_ t := fun t q => k16_ t (st17 t q)
      have k19_ : ∀ t, Steps p.tables e below (T17.setTop (mkF m 54 #[oa up, oi uu, oa b, oi ed, oi hh] [(.int (sh.getD hh 0)), (.ref b), (.int (Int32.ofNat (ed - Sh hh))), (.int (0 : Int32)), (.ref (A hh))])) t → G_ t := by
        intro t q
        refine k18_ _ ?_
        show Steps p.tables e below (T17.setTop (mkF m 51 #[oa up, oi uu, oa b, oi ed, oi hh] [(.ref sb), (.ref b), (.int (Int32.ofNat (ed - Sh hh))), (.int (0 : Int32)), (.ref (A hh))])) _
        refine XS.iload X17.here hx rfl (hb hby d_prog_85_method_3_51) rfl ?_
        refine X17.iaload hx (j := (Int32.ofNat hh)) (v := (.int (sh.getD hh 0))) (by rw [e17]; exact Ar5.1) (State.isArrayOf_alike hZ.alike Ar5.2.1) Ar5.2.2 (inb_of S5 r4) (Has.at H5 (inb_of S5 r4) (own_gi _ (by omega))) (g := (mkF m 53 #[oa up, oi uu, oa b, oi ed, oi hh] [(.int (Int32.ofNat hh)), (.ref sb), (.ref b), (.int (Int32.ofNat (ed - Sh hh))), (.int (0 : Int32)), (.ref (A hh))])) rfl rfl (hb hby d_prog_85_method_3_53) _ ?_
        show Steps p.tables e below (T17.setTop (mkF m 54 #[oa up, oi uu, oa b, oi ed, oi hh] [(.int (sh.getD hh 0)), (.ref b), (.int (Int32.ofNat (ed - Sh hh))), (.int (0 : Int32)), (.ref (A hh))])) _
        exact q
      have k20_ : ∀ t, Steps p.tables e below (T17.setTop (mkF m 54 #[oa up, oi uu, oa b, oi ed, oi hh] [(.int (Int32.ofNat (Sh hh))), (.ref b), (.int (Int32.ofNat (ed - Sh hh))), (.int (0 : Int32)), (.ref (A hh))])) t → G_ t := fun t q => k19_ t (Eq.mp (congrArg (fun z => Steps p.tables e below (T17.setTop (mkF m 54 #[oa up, oi uu, oa b, oi ed, oi hh] [(.int z), (.ref b), (.int (Int32.ofNat (ed - Sh hh))), (.int (0 : Int32)), (.ref (A hh))])) t) (show (Int32.ofNat (Sh hh)) = (sh.getD hh 0) from u1.symm)) q)
      obtain ⟨cq21, kq21, q21a, q21b, q21c⟩ := isOf hZ e17 u4.1
      obtain ⟨_, _, ⟨T21, L21, kk21, n21⟩, -, X21, ⟨Lc21, hQ21, l21, y21, z21⟩, st21⟩ := X17.virtualBack hx (y := (⟨"java/lang/String", "getChars", "(II[CI)V"⟩ : MethodName)) (z := (⟨"java/lang/String", "getChars", "(II[CI)V"⟩ : MethodName)) hown (mvT hZ (hw _ (List.mem_of_getElem? (i := 90) rfl))) (mvT hZ (hw _ (List.mem_of_getElem? (i := 91) rfl))) (notFace_of_selects (args := #[]) (mvT hZ (hw _ (List.mem_of_getElem? (i := 93) rfl)))) (mvT hZ (hw _ (List.mem_of_getElem? (i := 93) rfl))) (mvT hZ (hw _ (List.mem_of_getElem? (i := 92) rfl))) (by decide) (backOf (W := 0) (rmJ l Z a0 hw [] (A hh) kk b kB (Rr hh) (Sh hh) (ed - Sh hh) N xs zc fv h0 n0 Zn (by omega) (by omega) hN (by omega) v5 gb hxs u4 hbk VB O2 hzc O4 rfv X00) hZ (hw _ (List.mem_of_getElem? (i := 94) rfl)) (hw _ (List.mem_of_getElem? (i := 22) rfl)) (by decide) (by decide)) q21a q21c (g := (mkF m 54 #[oa up, oi uu, oa b, oi ed, oi hh] [(.int (Int32.ofNat (Sh hh))), (.ref b), (.int (Int32.ofNat (ed - Sh hh))), (.int (0 : Int32)), (.ref (A hh))])) rfl (by rw [hml]; rfl) (Steps.refl _) (argsL := [(.int (0 : Int32)), (.int (Int32.ofNat (ed - Sh hh))), (.ref b), (.int (Int32.ofNat (Sh hh)))]) (rest := []) (lenOf pd_18129 rfl) rfl (by show 2 * 0 + _ ≤ _; exact Nat.le_of_eq rfl) (hb hby d_prog_85_method_3_54) (fun _ _ => ⟨rfl, e17, (by decide : 1 + 0 ≤ _), (by decide : 8 + 0 ≤ _)⟩)
      dsimp only [Pt.U, Pt.locs, Pt.cells, Pt.slots] at X21 l21 y21 z21 st21 hQ21
      rw [l21, y21, z21] at X21
      obtain ⟨rfl, Nq21, KI, VI⟩ := hQ21
      have N21 := Fr.app N0 Nq21
      have k22_ : ∀ t, Steps p.tables e below (T21.setTop (mkF m 57 #[oa up, oi uu, oa b, oi ed, oi hh] [])) t → G_ t := fun t q => k20_ t (st21.trans q)
      have hU1 := own_U_keep hU KI (fun x hx => Or.inr (by cases List.mem_singleton.mp hx; exact ⟨hbk, nb1, nb2, nb3, nb4⟩)) hkh
      replace Zn := Nat.le_trans Zn KI.1
      replace hkh := Nat.le_trans hkh KI.1
      replace X00 := X00.keep KI (allS gb all0)
      have hx1 : (own_fl (Rr hh) (ed - Sh hh) (Sh hh) 0 xs).length = N := by rw [own_fl_len]; exact hxs
      have hg1 : ∀ j, Sh hh ≤ j → j < N → (own_fl (Rr hh) (ed - Sh hh) (Sh hh) 0 xs).getD j 0 = (E uu).getD j 0 := fun j hj hjN => by
        rw [own_fl_get _ _ _ _ _ (by omega)]
        by_cases q : Sh hh ≤ j ∧ j < Sh hh + (ed - Sh hh)
        · rw [if_pos q, Nat.zero_add, ← v6 j hj (by omega), hE j (by omega)]
        · rw [if_neg q]; exact hg j (by omega) hjN
      obtain ⟨sh, ho, rs, EA, F1, F2, F3, F4, ⟨k1, V1⟩, ⟨k2, V2, O2s⟩, ⟨k3, V3⟩, ⟨l1, l2, l3⟩, hu, hv, ⟨d1, d2, d3, d4, d5, d6⟩, ⟨c1, c2, c3, c4⟩, hnk⟩ := id hU1
      obtain ⟨u1, u2, u3, u4⟩ := hu hh hhn
      obtain ⟨cl23, Ar23, q23, S23, M23, H23, G23⟩ := id V1
      obtain ⟨cl24, Ar24, q24, S24, M24, H24, G24⟩ := id V3
      have k25_ : ∀ t, Steps p.tables e below (T21.setTop (mkF m 58 #[oa up, oi uu, oa b, oi ed, oi hh] [(.ref up)])) t → G_ t := by
        intro t q
        refine k22_ _ ?_
        show Steps p.tables e below (T21.setTop (mkF m 57 #[oa up, oi uu, oa b, oi ed, oi hh] [])) _
        refine XS.aloadN X21.here hx rfl (hb hby d_prog_85_method_3_57) rfl rfl ?_
        show Steps p.tables e below (T21.setTop (mkF m 58 #[oa up, oi uu, oa b, oi ed, oi hh] [(.ref up)])) _
        exact q
      obtain ⟨T26, X26, e26, st26⟩ := getF X21 hx hZ hown (host := "") (Or.inl (hw _ (List.mem_of_getElem? (i := 60) rfl))) Via.refl rfl F1 (g := (mkF m 58 #[oa up, oi uu, oa b, oi ed, oi hh] [(.ref up)])) rfl rfl (hb hby d_prog_85_method_3_58)
      have k27_ : ∀ t, Steps p.tables e below (T26.setTop (mkF m 61 #[oa up, oi uu, oa b, oi ed, oi hh] [(.ref sb)])) t → G_ t := fun t q => k25_ t (st26 t q)
      have k28_ : ∀ t, Steps p.tables e below (T26.setTop (mkF m 64 #[oa up, oi uu, oa b, oi ed, oi hh] [(.int (sh.getD hh 0))])) t → G_ t := by
        intro t q
        refine k27_ _ ?_
        show Steps p.tables e below (T26.setTop (mkF m 61 #[oa up, oi uu, oa b, oi ed, oi hh] [(.ref sb)])) _
        refine XS.iload X26.here hx rfl (hb hby d_prog_85_method_3_61) rfl ?_
        refine X26.iaload hx (j := (Int32.ofNat hh)) (v := (.int (sh.getD hh 0))) (by rw [e26]; exact Ar23.1) (State.isArrayOf_alike hZ.alike Ar23.2.1) Ar23.2.2 (inb_of S23 r4) (Has.at H23 (inb_of S23 r4) (own_gi _ (by omega))) (g := (mkF m 63 #[oa up, oi uu, oa b, oi ed, oi hh] [(.int (Int32.ofNat hh)), (.ref sb)])) rfl rfl (hb hby d_prog_85_method_3_63) _ ?_
        show Steps p.tables e below (T26.setTop (mkF m 64 #[oa up, oi uu, oa b, oi ed, oi hh] [(.int (sh.getD hh 0))])) _
        exact q
      have k29_ : ∀ t, Steps p.tables e below (T26.setTop (mkF m 64 #[oa up, oi uu, oa b, oi ed, oi hh] [(.int (Int32.ofNat (Sh hh)))])) t → G_ t := fun t q => k28_ t (Eq.mp (congrArg (fun z => Steps p.tables e below (T26.setTop (mkF m 64 #[oa up, oi uu, oa b, oi ed, oi hh] [(.int z)])) t) (show (Int32.ofNat (Sh hh)) = (sh.getD hh 0) from u1.symm)) q)
      have k30_ : ∀ t, Steps p.tables e below (T26.setTop (mkF m 66 #[oa up, oi uu, oa b, oi (Sh hh), oi hh] [(.ref up)])) t → G_ t := by
        intro t q
        refine k29_ _ ?_
        show Steps p.tables e below (T26.setTop (mkF m 64 #[oa up, oi uu, oa b, oi ed, oi hh] [(.int (Int32.ofNat (Sh hh)))])) _
        refine XS.istoreN X26.here hx rfl (hb hby d_prog_85_method_3_64) rfl (l' := #[oa up, oi uu, oa b, oi (Sh hh), oi hh]) rfl ?_
        refine XS.aloadN X26.here hx rfl (hb hby d_prog_85_method_3_65) rfl rfl ?_
        show Steps p.tables e below (T26.setTop (mkF m 66 #[oa up, oi uu, oa b, oi (Sh hh), oi hh] [(.ref up)])) _
        exact q
      obtain ⟨T31, X31, e31, st31⟩ := getF X26 hx hZ hown (host := "") (Or.inl (hw _ (List.mem_of_getElem? (i := 66) rfl))) Via.refl e26 F3 (g := (mkF m 66 #[oa up, oi uu, oa b, oi (Sh hh), oi hh] [(.ref up)])) rfl rfl (hb hby d_prog_85_method_3_66)
      have k32_ : ∀ t, Steps p.tables e below (T31.setTop (mkF m 69 #[oa up, oi uu, oa b, oi (Sh hh), oi hh] [(.ref hq)])) t → G_ t := fun t q => k30_ t (st31 t q)
      have k33_ : ∀ t, Steps p.tables e below (T31.setTop (mkF m 72 #[oa up, oi uu, oa b, oi (Sh hh), oi hh] [(.int (ho.getD hh 0))])) t → G_ t := by
        intro t q
        refine k32_ _ ?_
        show Steps p.tables e below (T31.setTop (mkF m 69 #[oa up, oi uu, oa b, oi (Sh hh), oi hh] [(.ref hq)])) _
        refine XS.iload X31.here hx rfl (hb hby d_prog_85_method_3_69) rfl ?_
        refine X31.iaload hx (j := (Int32.ofNat hh)) (v := (.int (ho.getD hh 0))) (by rw [e31]; exact Ar24.1) (State.isArrayOf_alike hZ.alike Ar24.2.1) Ar24.2.2 (inb_of S24 r4) (Has.at H24 (inb_of S24 r4) (own_gi _ (by omega))) (g := (mkF m 71 #[oa up, oi uu, oa b, oi (Sh hh), oi hh] [(.int (Int32.ofNat hh)), (.ref hq)])) rfl rfl (hb hby d_prog_85_method_3_71) _ ?_
        show Steps p.tables e below (T31.setTop (mkF m 72 #[oa up, oi uu, oa b, oi (Sh hh), oi hh] [(.int (ho.getD hh 0))])) _
        exact q
      by_cases hz : 0 < Sh hh
      · have k34_ : ∀ t, Steps p.tables e below (T31.setTop (mkF m 72 #[oa up, oi uu, oa b, oi (Sh hh), oi hh] [(.int (Int32.ofNat (Ho hh)))])) t → G_ t := fun t q => k33_ t (Eq.mp (congrArg (fun z => Steps p.tables e below (T31.setTop (mkF m 72 #[oa up, oi uu, oa b, oi (Sh hh), oi hh] [(.int z)])) t) (show (Int32.ofNat (Ho hh)) = (ho.getD hh 0) from (u2 hz).symm)) q)
        have k35_ : ∀ t, Steps p.tables e below (T31.setTop (mkF m 25 #[oa up, oi uu, oa b, oi (Sh hh), oi (Ho hh)] [])) t → G_ t := by
          intro t q
          refine k34_ _ ?_
          show Steps p.tables e below (T31.setTop (mkF m 72 #[oa up, oi uu, oa b, oi (Sh hh), oi hh] [(.int (Int32.ofNat (Ho hh)))])) _
          refine XS.istore X31.here hx rfl (hb hby d_prog_85_method_3_72) rfl (l' := #[oa up, oi uu, oa b, oi (Sh hh), oi (Ho hh)]) rfl ?_
          refine XS.goto X31.here hx rfl (pc0 := 74) (pc' := 25) rfl (hb hby d_prog_85_method_3_74) (by decide) (by decide) ?_
          show Steps p.tables e below (T31.setTop (mkF m 25 #[oa up, oi uu, oa b, oi (Sh hh), oi (Ho hh)] [])) _
          exact q
        obtain ⟨w1, w2, w3, w4⟩ := v7 hz
        obtain ⟨T', h', lc', xs', M3, M4, X', e', N', K', VB', hl', hg', st'⟩ := ih (Ho hh) (Sh hh) _ _ _ _ (by omega) (by omega) (by omega) w3 (by omega) hx1 hg1 (fun j hj => (hE j (by omega)).trans (w4 j hj)) X31 e31 N21 Zn hkh X00 hU1 VI
        exact ⟨T', h', lc', xs', M3, M4, X', e', N', KI.trans K' (fun x hx => Or.inl hx), VB', hl', hg', fun t q => k35_ t (st' t q)⟩
      · have k36_ : ∀ t, Steps p.tables e below (T31.setTop (mkF m 25 #[oa up, oi uu, oa b, oi (Sh hh), ov (ho.getD hh 0)] [])) t → G_ t := by
          intro t q
          refine k33_ _ ?_
          show Steps p.tables e below (T31.setTop (mkF m 72 #[oa up, oi uu, oa b, oi (Sh hh), oi hh] [(.int (ho.getD hh 0))])) _
          refine XS.istore X31.here hx rfl (hb hby d_prog_85_method_3_72) rfl (l' := #[oa up, oi uu, oa b, oi (Sh hh), ov (ho.getD hh 0)]) rfl ?_
          refine XS.goto X31.here hx rfl (pc0 := 74) (pc' := 25) rfl (hb hby d_prog_85_method_3_74) (by decide) (by decide) ?_
          show Steps p.tables e below (T31.setTop (mkF m 25 #[oa up, oi uu, oa b, oi (Sh hh), ov (ho.getD hh 0)] [])) _
          exact q
        have hz0 : Sh hh = 0 := by omega
        have k37_ : ∀ t, Steps p.tables e below (T31.setTop (mkF m 25 #[oa up, oi uu, oa b, oi 0, ov (ho.getD hh 0)] [])) t → G_ t := fun t q => k36_ t (Eq.mp (congrArg (fun z => Steps p.tables e below (T31.setTop (mkF m 25 #[oa up, oi uu, oa b, ov z, ov (ho.getD hh 0)] [])) t) (show (Int32.ofNat 0) = (Int32.ofNat (Sh hh)) from (by rw [hz0]))) q)
        have k38_ : ∀ t, Steps p.tables e below (T31.setTop (mkF m 26 #[oa up, oi uu, oa b, oi 0, ov (ho.getD hh 0)] [(.int (Int32.ofNat 0))])) t → G_ t := by
          intro t q
          refine k37_ _ ?_
          show Steps p.tables e below (T31.setTop (mkF m 25 #[oa up, oi uu, oa b, oi 0, ov (ho.getD hh 0)] [])) _
          refine XS.iloadN X31.here hx rfl (hb hby d_prog_85_method_3_25) rfl ?_
          show Steps p.tables e below (T31.setTop (mkF m 26 #[oa up, oi uu, oa b, oi 0, ov (ho.getD hh 0)] [(.int (Int32.ofNat 0))])) _
          exact q
        have k39_ : ∀ t, Steps p.tables e below (T31.setTop (mkF m 77 #[oa up, oi uu, oa b, oi 0, ov (ho.getD hh 0)] [])) t → G_ t := by
          intro t q
          refine k38_ _ ?_
          show Steps p.tables e below (T31.setTop (mkF m 26 #[oa up, oi uu, oa b, oi 0, ov (ho.getD hh 0)] [(.int (Int32.ofNat 0))])) _
          refine XS.ifYes X31.here hx rfl (pc0 := 26) (pc' := 77) rfl (hb hby d_prog_85_method_3_26) rfl ((if0 _ _).trans (flt (by decide)).2.2.2) (by decide) (by decide) ?_
          show Steps p.tables e below (T31.setTop (mkF m 77 #[oa up, oi uu, oa b, oi 0, ov (ho.getD hh 0)] [])) _
          exact q
        exact ⟨_, _, _, _, _, _, X31, e31, N21, KI, VI, hx1, fun j hj => hg1 j (by omega) hj, k39_⟩
    · have k40_ : ∀ t, Steps p.tables e below (s₁.setTop (mkF m 77 #[oa up, oi uu, oa b, oi ed, oi hh] [])) t → G_ t := by
        intro t q
        refine k1_ _ ?_
        show Steps p.tables e below (s₁.setTop (mkF m 26 #[oa up, oi uu, oa b, oi ed, oi hh] [(.int (Int32.ofNat ed))])) _
        refine XS.ifYes X0.here hx rfl (pc0 := 26) (pc' := 77) rfl (hb hby d_prog_85_method_3_26) rfl ((if0 _ _).trans (flt hca).2.2.2) (by decide) (by decide) ?_
        show Steps p.tables e below (s₁.setTop (mkF m 77 #[oa up, oi uu, oa b, oi ed, oi hh] [])) _
        exact q
      have h0e : ed = 0 := Nat.le_zero.mp (Nat.le_of_not_lt fun z => hca ((own_cmp (i := 0) (n := ed) (by omega) (by omega)).mpr z))
      exact ⟨_, h0, lc0, xs, _, _, X0, e0, N0, Keep.refl _ _, VB, hxs, fun j hj => hg j (by omega) hj, k40_⟩
def QT (Z : State) (up : Addr) (sb : Addr) (rb : Addr) (hq : Addr) (kk : Nat) (n : Nat) (Sh : Nat → Nat) (Ho : Nat → Nat) (Ln : Nat → Nat) (E : Nat → List Int32) (Rr : Nat → List Int32) (A : Nat → Addr) (uu : Nat) (zc : Int32) (fv : Value) (h0 : Heap) (n0 : Nat) (v : Option Value) (h : Heap) (L : List Loc) : Prop := ∃ sa, v = some (.ref sa) ∧ Fr n0 L ∧ Keep h0 h [] ∧ own_Sb Z h.size h sa ((E uu).take (Ln uu))
theorem ef_T (m : MethodId) (x0 : Addr) (x1 : Int32) : entryFrame m #[(.ref x0), (.int x1)] 5 = mkF m 0 #[.val (.ref x0), .val (.int x1), .unset, .unset, .unset] [] := by first | (simp [entryFrame, mkF, argsToLocals, Value.category]; done) | rfl
theorem d_prog_85_method_3_0 : decode prog_85_method_3_code 0 = .ok (.aload_n 0, 1) := by decide +kernel
theorem d_prog_85_method_3_1 : decode prog_85_method_3_code 1 = .ok (.getfield 7, 3) := by decide +kernel
theorem d_prog_85_method_3_4 : decode prog_85_method_3_code 4 = .ok (.iload_n 1, 1) := by decide +kernel
theorem d_prog_85_method_3_5 : decode prog_85_method_3_code 5 = .ok (.iaload, 1) := by decide +kernel
theorem d_prog_85_method_3_6 : decode prog_85_method_3_code 6 = .ok (.aload_n 0, 1) := by decide +kernel
theorem d_prog_85_method_3_7 : decode prog_85_method_3_code 7 = .ok (.getfield 15, 3) := by decide +kernel
theorem d_prog_85_method_3_10 : decode prog_85_method_3_code 10 = .ok (.iload_n 1, 1) := by decide +kernel
theorem d_prog_85_method_3_11 : decode prog_85_method_3_code 11 = .ok (.aaload, 1) := by decide +kernel
theorem d_prog_85_method_3_12 : decode prog_85_method_3_code 12 = .ok (.invokevirtual 26, 3) := by decide +kernel
theorem d_prog_85_method_3_15 : decode prog_85_method_3_code 15 = .ok (.iadd, 1) := by decide +kernel
theorem d_prog_85_method_3_16 : decode prog_85_method_3_code 16 = .ok (.newarray .char, 2) := by decide +kernel
theorem d_prog_85_method_3_18 : decode prog_85_method_3_code 18 = .ok (.astore_n 2, 1) := by decide +kernel
theorem d_prog_85_method_3_19 : decode prog_85_method_3_code 19 = .ok (.aload_n 2, 1) := by decide +kernel
theorem d_prog_85_method_3_20 : decode prog_85_method_3_code 20 = .ok (.arraylength, 1) := by decide +kernel
theorem d_prog_85_method_3_21 : decode prog_85_method_3_code 21 = .ok (.istore_n 3, 1) := by decide +kernel
theorem d_prog_85_method_3_22 : decode prog_85_method_3_code 22 = .ok (.iload_n 1, 1) := by decide +kernel
theorem d_prog_85_method_3_23 : decode prog_85_method_3_code 23 = .ok (.istore 4, 2) := by decide +kernel
theorem d_prog_85_method_3_77 : decode prog_85_method_3_code 77 = .ok (.new 13, 3) := by decide +kernel
theorem d_prog_85_method_3_80 : decode prog_85_method_3_code 80 = .ok (.dup, 1) := by decide +kernel
theorem d_prog_85_method_3_81 : decode prog_85_method_3_code 81 = .ok (.aload_n 2, 1) := by decide +kernel
theorem d_prog_85_method_3_82 : decode prog_85_method_3_code 82 = .ok (.invokespecial 34, 3) := by decide +kernel
theorem d_prog_85_method_3_85 : decode prog_85_method_3_code 85 = .ok (.areturn, 1) := by decide +kernel
set_option maxRecDepth 65536 in
set_option maxHeartbeats 40000000 in
theorem rmT (l : Launch) (Z : State) (a0 : Array Value) (hw : ∀ d ∈ tables_1, d.before a0 Z = true) (ws : List Jvm.Cond) (up : Addr) (sb : Addr) (rb : Addr) (hq : Addr) (kk : Nat) (n : Nat) (Sh : Nat → Nat) (Ho : Nat → Nat) (Ln : Nat → Nat) (E : Nat → List Int32) (Rr : Nat → List Int32) (A : Nat → Addr) (uu : Nat) (zc : Int32) (fv : Value) (h0 : Heap) (n0 : Nat) (Z0 : n0 ≤ h0.size) (hU : own_U Z n0 kk h0 up sb rb hq n Sh Ho Ln E Rr A) (hn4 : n ≤ 4) (huu : uu < n) (hkh : kk ≤ h0.size) (O2 : Sta Z Z.heap "java/lang/String" "COMPACT_STRINGS" "Z" (.int zc)) (hzc : ¬ zc = (0 : Int32)) (O4 : Sta Z Z.heap "jdk/internal/util/Preconditions" "SIOOBE_FORMATTER" "Ljava/util/function/BiFunction;" fv) (rfv : fv.isRef = true) (X00 : Old Z n0 h0) (wS : ∀ a ∈ Bundle.stringAtoms, a.before a0 Z = true) (hEL : EW Z a0 own_EL) :
    MetFree l (⟨"com/example/haku/haku/index/UnitPaths", "get", "(I)Ljava/lang/String;"⟩ : MethodName) (head1 (Jvm.Cond.code (⟨"com/example/haku/haku/index/UnitPaths", "get", "(I)Ljava/lang/String;"⟩ : MethodName) prog_85_method_3_code 5 (some (.object "java/lang/String")) :: ws) ({ frames := 4, cells := 4, slots := 20, locals := 66 } : Room)) (fun a_ U_ => a_ = #[(.ref up), (.int (Int32.ofNat uu))] ∧ Z.Warmed39 U_.vm ∧ U_.heap = h0 ∧ CHv Z own_EL U_.vm h0) (fun _ _ _ _ _ => True) (fun _ U_ o_ E_ => ∃ v_ L_, o_ = .returned v_ ∧ QT Z up sb rb hq kk n Sh Ho Ln E Rr A uu zc fv h0 n0 v_ E_.heap L_ ∧ CHr Z own_EL U_.vm U_.heap E_.vm E_.heap ∧ ReturnedEndW U_ o_ E_ L_ ({ frames := 4, cells := 4, slots := 20, locals := 66 } : Room).cells ({ frames := 4, cells := 4, slots := 20, locals := 66 } : Room).slots) := by
  refine MetFree.of_bodySF (plainFor_of_name pn_UnitPaths) hisR ?_
  intro p e s m args below meth c s₁ Bd hml0 hP hK
  obtain ⟨rfl, hZ, hh, hCH0⟩ := hP
  have hx := Bd.exec
  have hby := Bd.bytes
  have hml : c.maxLocals = 5 := hml0
  have hown : (s.setVm s.vm).vm.findClass "com/example/haku/haku/index/UnitPaths" = some m.cls := findClass_of_methodNamed Bd.named
  have hnm := (name_of_methodNamed Bd.named Bd.method).1
  replace hZ : Z.Warmed39 (s.setVm s.vm).vm := hZ
  have X0 : Stand p l e ({ frames := 4, cells := 4, slots := 20, locals := 66 } : Room) (s.setVm s.vm) m #[(.ref up), (.int (Int32.ofNat uu))] below meth c s₁ [] 0 0 := Stand.of_body Bd
  have e0 : s₁.heap = h0 := by rw [← hh, Bd.state]; rfl
  have N0 := Fr.nil n0
  have Zn := Z0
  have hS : s.Since s.vm s.heap.size := (State.WarmedH.refl s).since _
  have hk : s.heap.size ≤ h0.size := by rw [hh]; exact Nat.le_refl _
  have hCH : CHr Z own_EL s.vm h0 s.vm h0 := CHr.refl hCH0
  have pre0 : ∀ t, Steps p.tables e below (s₁.setTop (mkF m 0 #[.val (.ref up), .val (.int (Int32.ofNat uu)), .unset, .unset, .unset] [])) t → Steps p.tables e below (s₁.setTop (entryFrame m #[(.ref up), (.int (Int32.ofNat uu))] 5)) t := fun t q => castTop (ef_T m up (Int32.ofNat uu)) q
  have k0 : ∀ t, Steps p.tables e below (s₁.setTop (mkF m 0 #[.val (.ref up), .val (.int (Int32.ofNat uu)), .unset, .unset, .unset] [])) t → Steps p.tables e below (s₁.setTop (mkF m 0 #[.val (.ref up), .val (.int (Int32.ofNat uu)), .unset, .unset, .unset] [])) t := fun t q => q
  let G_ : State → Prop := fun t => Steps p.tables e below (s₁.setTop (mkF m 0 #[.val (.ref up), .val (.int (Int32.ofNat uu)), .unset, .unset, .unset] [])) t
  obtain ⟨sh, ho, rs, EA, F1, F2, F3, F4, ⟨k1, V1⟩, ⟨k2, V2, O2s⟩, ⟨k3, V3⟩, ⟨l1, l2, l3⟩, hu, hv, ⟨d1, d2, d3, d4, d5, d6⟩, ⟨c1, c2, c3, c4⟩, hnk⟩ := id hU
  have hwwords : ∀ d ∈ StrChars.Road.words, d.before a0 Z = true := fun d hd => hw d ((by decide +kernel : ∀ d ∈ StrChars.Road.words, d ∈ tables_1) d hd)
  have hwwordsLen : ∀ d ∈ StrChars.Road.wordsLen, d.before a0 Z = true := fun d hd => hw d ((by decide +kernel : ∀ d ∈ StrChars.Road.wordsLen, d ∈ tables_1) d hd)
  have KP := Keep.refl h0 []
  obtain ⟨u1, u2, u3, u4⟩ := hu uu huu
  obtain ⟨v1, v2, v3, v4, v5, v6, v7⟩ := hv uu huu
  have r4 := own_inr (n := 4) (i := uu) (by omega) (by decide)
  obtain ⟨Ex, Cx, tx, kx, Vx, Ax, lx, lt⟩ := id u4
  obtain ⟨cl1, Ar1, q1, S1, M1, H1, G1⟩ := id V1
  obtain ⟨cl2, Ar2, q2, S2, M2, H2, G2⟩ := id V2
  have k3_ : ∀ t, Steps p.tables e below (s₁.setTop (mkF m 1 #[oa up, oi uu, .unset, .unset, .unset] [(.ref up)])) t → G_ t := by
    intro t q
    refine k0 _ ?_
    show Steps p.tables e below (s₁.setTop (mkF m 0 #[oa up, oi uu, .unset, .unset, .unset] [])) _
    refine XS.aloadN X0.here hx rfl (hb hby d_prog_85_method_3_0) rfl rfl ?_
    show Steps p.tables e below (s₁.setTop (mkF m 1 #[oa up, oi uu, .unset, .unset, .unset] [(.ref up)])) _
    exact q
  obtain ⟨T4, X4, e4, st4⟩ := getF X0 hx hZ hown (host := "") (Or.inl (hw _ (List.mem_of_getElem? (i := 60) rfl))) Via.refl e0 F1 (g := (mkF m 1 #[oa up, oi uu, .unset, .unset, .unset] [(.ref up)])) rfl rfl (hb hby d_prog_85_method_3_1)
  have k5_ : ∀ t, Steps p.tables e below (T4.setTop (mkF m 4 #[oa up, oi uu, .unset, .unset, .unset] [(.ref sb)])) t → G_ t := fun t q => k3_ t (st4 t q)
  have k6_ : ∀ t, Steps p.tables e below (T4.setTop (mkF m 6 #[oa up, oi uu, .unset, .unset, .unset] [(.int (sh.getD uu 0))])) t → G_ t := by
    intro t q
    refine k5_ _ ?_
    show Steps p.tables e below (T4.setTop (mkF m 4 #[oa up, oi uu, .unset, .unset, .unset] [(.ref sb)])) _
    refine XS.iloadN X4.here hx rfl (hb hby d_prog_85_method_3_4) rfl ?_
    refine X4.iaload hx (j := (Int32.ofNat uu)) (v := (.int (sh.getD uu 0))) (by rw [e4]; exact Ar1.1) (State.isArrayOf_alike hZ.alike Ar1.2.1) Ar1.2.2 (inb_of S1 r4) (Has.at H1 (inb_of S1 r4) (own_gi _ (by omega))) (g := (mkF m 5 #[oa up, oi uu, .unset, .unset, .unset] [(.int (Int32.ofNat uu)), (.ref sb)])) rfl rfl (hb hby d_prog_85_method_3_5) _ ?_
    show Steps p.tables e below (T4.setTop (mkF m 6 #[oa up, oi uu, .unset, .unset, .unset] [(.int (sh.getD uu 0))])) _
    exact q
  have k7_ : ∀ t, Steps p.tables e below (T4.setTop (mkF m 6 #[oa up, oi uu, .unset, .unset, .unset] [(.int (Int32.ofNat (Sh uu)))])) t → G_ t := fun t q => k6_ t (Eq.mp (congrArg (fun z => Steps p.tables e below (T4.setTop (mkF m 6 #[oa up, oi uu, .unset, .unset, .unset] [(.int z)])) t) (show (Int32.ofNat (Sh uu)) = (sh.getD uu 0) from u1.symm)) q)
  have k8_ : ∀ t, Steps p.tables e below (T4.setTop (mkF m 7 #[oa up, oi uu, .unset, .unset, .unset] [(.ref up), (.int (Int32.ofNat (Sh uu)))])) t → G_ t := by
    intro t q
    refine k7_ _ ?_
    show Steps p.tables e below (T4.setTop (mkF m 6 #[oa up, oi uu, .unset, .unset, .unset] [(.int (Int32.ofNat (Sh uu)))])) _
    refine XS.aloadN X4.here hx rfl (hb hby d_prog_85_method_3_6) rfl rfl ?_
    show Steps p.tables e below (T4.setTop (mkF m 7 #[oa up, oi uu, .unset, .unset, .unset] [(.ref up), (.int (Int32.ofNat (Sh uu)))])) _
    exact q
  obtain ⟨T9, X9, e9, st9⟩ := getF X4 hx hZ hown (host := "") (Or.inl (hw _ (List.mem_of_getElem? (i := 64) rfl))) Via.refl e4 F2 (g := (mkF m 7 #[oa up, oi uu, .unset, .unset, .unset] [(.ref up), (.int (Int32.ofNat (Sh uu)))])) rfl rfl (hb hby d_prog_85_method_3_7)
  have k10_ : ∀ t, Steps p.tables e below (T9.setTop (mkF m 10 #[oa up, oi uu, .unset, .unset, .unset] [(.ref rb), (.int (Int32.ofNat (Sh uu)))])) t → G_ t := fun t q => k8_ t (st9 t q)
  have k11_ : ∀ t, Steps p.tables e below (T9.setTop (mkF m 12 #[oa up, oi uu, .unset, .unset, .unset] [(.ref (A uu)), (.int (Int32.ofNat (Sh uu)))])) t → G_ t := by
    intro t q
    refine k10_ _ ?_
    show Steps p.tables e below (T9.setTop (mkF m 10 #[oa up, oi uu, .unset, .unset, .unset] [(.ref rb), (.int (Int32.ofNat (Sh uu)))])) _
    refine XS.iloadN X9.here hx rfl (hb hby d_prog_85_method_3_10) rfl ?_
    refine X9.aaload hx (j := (Int32.ofNat uu)) (v := (.ref (A uu))) (by rw [e9]; exact Ar2.1) (State.isArrayOf_alike hZ.alike Ar2.2.1) rfl Ar2.2.2 (inb_of S2 r4) (Has.at H2 (inb_of S2 r4) (by rw [own_ci (by omega)]; exact u3)) (g := (mkF m 11 #[oa up, oi uu, .unset, .unset, .unset] [(.int (Int32.ofNat uu)), (.ref rb), (.int (Int32.ofNat (Sh uu)))])) rfl rfl (hb hby d_prog_85_method_3_11) _ ?_
    show Steps p.tables e below (T9.setTop (mkF m 12 #[oa up, oi uu, .unset, .unset, .unset] [(.ref (A uu)), (.int (Int32.ofNat (Sh uu)))])) _
    exact q
  have hOK := v5
  obtain ⟨cq12, kq12, q12a, q12b, q12c⟩ := isOf hZ e9 Ex
  obtain ⟨_, _, ⟨T12, L12, kk12, n12⟩, -, X12, ⟨Lc12, hQ12, l12, y12, z12⟩, st12⟩ := X9.virtualBack hx (y := (⟨"java/lang/String", "length", "()I"⟩ : MethodName)) (z := (⟨"java/lang/String", "length", "()I"⟩ : MethodName)) hown (mvT hZ (hw _ (List.mem_of_getElem? (i := 80) rfl))) (mvT hZ (hw _ (List.mem_of_getElem? (i := 81) rfl))) (notFace_of_selects (args := #[]) (mvT hZ (hw _ (List.mem_of_getElem? (i := 83) rfl)))) (mvT hZ (hw _ (List.mem_of_getElem? (i := 83) rfl))) (mvT hZ (hw _ (List.mem_of_getElem? (i := 82) rfl))) (by decide) (StrChars.Road.lenW (W := 1) hZ hwwordsLen (kI := 4) (hw _ (List.mem_of_getElem? (i := 21) rfl)) Ex Vx Cx Ax (StrChars.Road.codOf rfl (fun c hc => (hOK c hc).2)) (own_bd hOK) (O2.ext X00.2) hzc (Nat.le_trans (show (Rr uu).length ≤ 8 by omega) (by decide)) (by decide) (by decide)) q12a q12c (g := (mkF m 12 #[oa up, oi uu, .unset, .unset, .unset] [(.ref (A uu)), (.int (Int32.ofNat (Sh uu)))])) rfl (by rw [hml]; rfl) (Steps.refl _) (argsL := []) (rest := [(.int (Int32.ofNat (Sh uu)))]) (lenOf pd_48321 rfl) rfl (by show 2 * 0 + _ ≤ _; exact Nat.le_of_eq rfl) (hb hby d_prog_85_method_3_12) (fun _ _ => ⟨rfl, e9, (by decide : 0 + 0 ≤ _), (by decide : 0 + 0 ≤ _)⟩)
  dsimp only [Pt.U, Pt.locs, Pt.cells, Pt.slots] at X12 l12 y12 z12 st12 hQ12
  rw [l12, y12, z12] at X12
  obtain ⟨rfl, rfl, hq12⟩ := hQ12
  have N12 := Fr.app N0 (Fr.nil n0)
  have k13_ : ∀ t, Steps p.tables e below (T12.setTop (mkF m 15 #[oa up, oi uu, .unset, .unset, .unset] [(.int (Int32.ofNat (Rr uu).length)), (.int (Int32.ofNat (Sh uu)))])) t → G_ t := fun t q => k11_ t (st12.trans q)
  have k14_ : ∀ t, Steps p.tables e below (T12.setTop (mkF m 16 #[oa up, oi uu, .unset, .unset, .unset] [(.int ((Int32.ofNat (Sh uu)) + (Int32.ofNat (Rr uu).length)))])) t → G_ t := by
    intro t q
    refine k13_ _ ?_
    show Steps p.tables e below (T12.setTop (mkF m 15 #[oa up, oi uu, .unset, .unset, .unset] [(.int (Int32.ofNat (Rr uu).length)), (.int (Int32.ofNat (Sh uu)))])) _
    refine XS.iadd X12.here hx rfl (hb hby d_prog_85_method_3_15) rfl ?_
    show Steps p.tables e below (T12.setTop (mkF m 16 #[oa up, oi uu, .unset, .unset, .unset] [(.int ((Int32.ofNat (Sh uu)) + (Int32.ofNat (Rr uu).length)))])) _
    exact q
  have k15_ : ∀ t, Steps p.tables e below (T12.setTop (mkF m 16 #[oa up, oi uu, .unset, .unset, .unset] [(.int (Int32.ofNat (Ln uu)))])) t → G_ t := fun t q => k14_ t (Eq.mp (congrArg (fun z => Steps p.tables e below (T12.setTop (mkF m 16 #[oa up, oi uu, .unset, .unset, .unset] [(.int z)])) t) (show (Int32.ofNat (Ln uu)) = ((Int32.ofNat (Sh uu)) + (Int32.ofNat (Rr uu).length)) from (by rw [show Ln uu = Sh uu + (Rr uu).length by omega]; exact own_adn (by omega) (by omega)))) q)
  obtain ⟨T16, h16, c16, X16, e16, E16, A16, st16⟩ := newP X12 hx hZ (hw _ (List.mem_of_getElem? (i := 4) rfl)) hq12 (g := (mkF m 16 #[oa up, oi uu, .unset, .unset, .unset] [(.int (Int32.ofNat (Ln uu)))])) rfl (hb hby d_prog_85_method_3_16) rfl (own_nn (by omega)) (cap := 8) (by rw [own_ci (by omega)]; omega) (by decide) (by decide) (by decide)
  obtain ⟨b16, g16⟩ : ∃ z, z = h0.size := ⟨_, rfl⟩
  rw [← g16] at A16 st16
  have k17_ : ∀ t, Steps p.tables e below (T16.setTop (mkF m 18 #[oa up, oi uu, .unset, .unset, .unset] [(.ref b16)])) t → G_ t := fun t q => k15_ t (st16 t q)
  have VB : Arv Z h16 b16 c16 .char (Int32.ofNat (Ln uu)) ((List.replicate (Ln uu) (0 : Int32)).map Value.int) (.int 0) := by rw [List.map_replicate]; exact (Arv.new A16 (own_nn (by omega))).pad (pad_rep [] (.int (0 : Int32)) (Ln uu))
  have z_b16 : h0.size ≤ b16 := Nat.le_of_eq g16.symm
  have g_b16 : n0 ≤ b16 := Nat.le_trans Zn z_b16
  replace KP := KP.ext E16
  replace X00 := X00.ext E16
  replace Zn := Nat.le_trans Zn E16.1
  replace hk := Nat.le_trans hk E16.1
  have hU1 := own_U_keep hU ((Keep.refl h0 []).ext E16) (fun x hx => nomatch hx) hkh
  have hkh1 := Nat.le_trans hkh E16.1
  replace hCH := hCH.trans (CHr.ext E16 hCH.1)
  obtain ⟨cl18, Ar18, q18, S18, M18, H18, G18⟩ := id VB
  have k19_ : ∀ t, Steps p.tables e below (T16.setTop (mkF m 25 #[oa up, oi uu, oa b16, oi (Ln uu), oi uu] [])) t → G_ t := by
    intro t q
    refine k17_ _ ?_
    show Steps p.tables e below (T16.setTop (mkF m 18 #[oa up, oi uu, .unset, .unset, .unset] [(.ref b16)])) _
    refine XS.astoreN X16.here hx rfl (hb hby d_prog_85_method_3_18) rfl rfl (l' := #[oa up, oi uu, oa b16, .unset, .unset]) rfl ?_
    refine XS.aloadN X16.here hx rfl (hb hby d_prog_85_method_3_19) rfl rfl ?_
    show Steps p.tables e below (T16.setTop (mkF m 20 #[oa up, oi uu, oa b16, .unset, .unset] [(.ref b16)])) _
    refine X16.arraylength hx (by rw [e16]; exact Ar18.1) (State.isArrayOf_alike hZ.alike Ar18.2.1) (g := (mkF m 20 #[oa up, oi uu, oa b16, .unset, .unset] [(.ref b16)])) rfl rfl (hb hby d_prog_85_method_3_20) _ ?_
    rw [len_of S18 M18]
    refine XS.istoreN X16.here hx rfl (hb hby d_prog_85_method_3_21) rfl (l' := #[oa up, oi uu, oa b16, oi (Ln uu), .unset]) rfl ?_
    show Steps p.tables e below (T16.setTop (mkF m 22 #[oa up, oi uu, oa b16, oi (Ln uu), .unset] [])) _
    refine XS.iloadN X16.here hx rfl (hb hby d_prog_85_method_3_22) rfl ?_
    refine XS.istore X16.here hx rfl (hb hby d_prog_85_method_3_23) rfl (l' := #[oa up, oi uu, oa b16, oi (Ln uu), oi uu]) rfl ?_
    show Steps p.tables e below (T16.setTop (mkF m 25 #[oa up, oi uu, oa b16, oi (Ln uu), oi uu] [])) _
    exact q
  obtain ⟨T', h', lc', xs', M3, M4, X', e', N', K', VB', hl', hg', st'⟩ := lpT Z a0 hw hx hZ hby hml hown n0 up sb rb hq kk n Sh Ho Ln E Rr A uu (Ln uu) b16 c16 zc fv hn4 v2 (Nat.le_trans hkh z_b16) (Ne.symm (Nat.ne_of_lt (Nat.lt_of_lt_of_le EA.lt z_b16))) (Ne.symm (Nat.ne_of_lt (Nat.lt_of_lt_of_le V1.lt z_b16))) (Ne.symm (Nat.ne_of_lt (Nat.lt_of_lt_of_le V2.lt z_b16))) (Ne.symm (Nat.ne_of_lt (Nat.lt_of_lt_of_le V3.lt z_b16))) O2 hzc O4 rfv n uu (Ln uu) (List.replicate (Ln uu) 0) _ _ _ huu huu v1 (Nat.le_refl _) (Nat.le_refl _) (by simp) (fun j h1 h2 => absurd h2 (Nat.not_lt.mpr h1)) (fun _ _ => rfl) X16 e16 N12 Zn hkh1 X00 hU1 VB
  have k20_ : ∀ t, Steps p.tables e below (T'.setTop (mkF m 77 #[oa up, oi uu, oa b16, M3, M4] [])) t → G_ t := fun t q => k19_ t (st' t q)
  have exs : xs' = (E uu).take (Ln uu) := own_ext (by rw [hl', List.length_take, v3.1]; omega) (fun j hj => by rw [hg' j (by omega)]; exact (own_take_get (by omega)).symm)
  rw [exs] at VB'
  have hlt : ((E uu).take (Ln uu)).length = Ln uu := by rw [← exs]; exact hl'
  have hOKt : own_OK ((E uu).take (Ln uu)) := own_tkOK v3.2 _
  replace KP := KP.trans K' (fun y hy => Or.inr (by cases List.mem_singleton.mp hy; exact z_b16))
  replace X00 := X00.keep K' (allS g_b16 all0)
  replace Zn := Nat.le_trans Zn K'.1
  replace hk := Nat.le_trans hk K'.1
  replace hCH := hCH.trans (CHr.keep K' (sfS (Safe.arv hZ.alike VB (fun h => by cases h)) sf0) hCH.1)
  obtain ⟨T21, h21, X21, e21, E21, A21, D21, -, st21⟩ := newO X' hx hZ hown (hw _ (List.mem_of_getElem? (i := 62) rfl)) (hw _ (List.mem_of_getElem? (i := 21) rfl)) (hw _ (List.mem_of_getElem? (i := 22) rfl)) e' (g := (mkF m 77 #[oa up, oi uu, oa b16, M3, M4] [])) rfl (hb hby d_prog_85_method_3_77) (by decide) (by decide)
  obtain ⟨b21, g21⟩ : ∃ z, z = h'.size := ⟨_, rfl⟩
  rw [← g21] at A21 D21 st21
  have k22_ : ∀ t, Steps p.tables e below (T21.setTop (mkF m 80 #[oa up, oi uu, oa b16, M3, M4] [(.ref b21)])) t → G_ t := fun t q => k20_ t (st21 t q)
  have ne_b16_b21 : b16 ≠ b21 := Nat.ne_of_lt (Nat.lt_of_lt_of_le VB'.lt (Nat.le_of_eq g21.symm))
  have g_b21 : n0 ≤ b21 := Nat.le_trans Zn (Nat.le_of_eq g21.symm)
  replace Zn := Nat.le_trans Zn E21.1
  replace hk := Nat.le_trans hk E21.1
  replace VB' := VB'.ext E21
  have z_b21 : h0.size ≤ b21 := by rw [g21]; exact KP.1
  replace KP := KP.ext E21
  replace X00 := X00.ext E21
  replace hCH := hCH.trans (CHr.ext E21 hCH.1)
  have Vs : Fld Z h21 b21 "java/lang/String" "value" "[B" .null := D21 (Or.inr (hw _ (List.mem_of_getElem? (i := 48) rfl))) (ty := (.array .byte)) (by decide)
  have Cs : Fld Z h21 b21 "java/lang/String" "coder" "B" (.int (0 : Int32)) := D21 (Or.inr (hw _ (List.mem_of_getElem? (i := 46) rfl))) (ty := .byte) (by decide)
  have As := A21
  have k23_ : ∀ t, Steps p.tables e below (T21.setTop (mkF m 82 #[oa up, oi uu, oa b16, M3, M4] [(.ref b16), (.ref b21), (.ref b21)])) t → G_ t := by
    intro t q
    refine k22_ _ ?_
    show Steps p.tables e below (T21.setTop (mkF m 80 #[oa up, oi uu, oa b16, M3, M4] [(.ref b21)])) _
    refine XS.dup X21.here hx rfl (hb hby d_prog_85_method_3_80) rfl rfl ?_
    refine XS.aloadN X21.here hx rfl (hb hby d_prog_85_method_3_81) rfl rfl ?_
    show Steps p.tables e below (T21.setTop (mkF m 82 #[oa up, oi uu, oa b16, M3, M4] [(.ref b16), (.ref b21), (.ref b21)])) _
    exact q
  by_cases hz : Ln uu = 0
  · have V0 : Arv Z h21 b16 c16 .char (0 : Int32) [] (.int (0 : Int32)) := by have q := VB'; rw [hz] at q; exact q
    obtain ⟨_, _, ⟨T24, L24, kk24, n24⟩, -, X24_, hs24, hG24, ⟨Lc24, hQ24, l24, y24, z24, hc24⟩, st24⟩ := X21.specialBackS hx (y := (⟨"java/lang/String", "<init>", "([C)V"⟩ : MethodName)) rfl hown (mvT hZ (hw _ (List.mem_of_getElem? (i := 122) rfl))) (mvT hZ (hw _ (List.mem_of_getElem? (i := 24) rfl))) (mvT hZ (hw _ (List.mem_of_getElem? (i := 25) rfl))) (by decide) (backOfSH (s := s) (vm0 := s.vm) (EL := own_EL) (W := 1) (rmS l Z a0 hw [] b21 b16 c16 h21 n0 Zn As Vs Cs g_b21 V0 wS hEL) hZ (hw _ (List.mem_of_getElem? (i := 25) rfl)) (hw _ (List.mem_of_getElem? (i := 22) rfl)) (by decide) (by decide) hEL hCH.1) (g := (mkF m 82 #[oa up, oi uu, oa b16, M3, M4] [(.ref b16), (.ref b21), (.ref b21)])) rfl (by rw [hml]; rfl) (Steps.refl _) (a := b21) (argsL := [(.ref b16)]) (rest := [(.ref b21)]) (lenOf pd_20902 rfl) rfl (by show 2 * 0 + _ ≤ _; exact Nat.le_of_eq rfl) (hb hby d_prog_85_method_3_82) (fun _ _ => ⟨rfl, e21, (by decide : 1 + 1 + 2 ≤ _), (by decide : 8 + 4 + 4 ≤ _)⟩)
    dsimp only [Pt.U, Pt.locs, Pt.cells, Pt.slots] at X24_ l24 y24 z24 st24 hQ24 hG24 hs24 hc24
    rw [l24, y24, z24] at X24_
    obtain ⟨X24, hS24, hZ24, hown24⟩ := rebS (s := s) (vm0 := s.vm) hS (by rw [e21]; exact hk) X24_ hs24 hG24 hZ hown
    replace hS := hS24
    replace hZ := hZ24
    replace hown := hown24
    replace hCH := hCH.trans hc24
    replace hk : T24.heap.size ≤ T24.heap.size := Nat.le_refl _
    obtain ⟨rfl, Nq24, KI, SI⟩ := hQ24
    have N24 := Fr.app N' Nq24
    have k25_ : ∀ t, Steps p.tables e below (T24.setTop (mkF m 85 #[oa up, oi uu, oa b16, M3, M4] [(.ref b21)])) t → G_ t := fun t q => k23_ t (st24.trans q)
    replace KP := KP.trans KI (fun y hy => Or.inr (by cases List.mem_singleton.mp hy; exact z_b21))
    obtain ⟨fs, hr, hrun, hended, r1, r2, r3, r4⟩ := Stand.leaveW (s := s) (vm₁ := T24.vm) X24 hS hk (v := some (.ref b21)) (fun h => by rw [Bd.returns] at h; cases h)
    refine ⟨_, _, pre0 _ (k25_ _ ?_), hrun, hended, _, _, rfl, ?_, ?_, r1, r2, r3, r4.mono (by decide) (by decide)⟩
    · show Steps p.tables e below (T24.setTop (mkF m 85 #[oa up, oi uu, oa b16, M3, M4] [(.ref b21)])) _
      jvm_step X24.here [X24.here.top, hx, (hb hby d_prog_85_method_3_85), X24.method', Bd.returns, Value.isRef, FieldType.isReference]
      first | (intro acts; rw [hr _ acts rfl rfl rfl]) | rw [hr _ _ rfl rfl rfl]
      exact Steps.refl _
    · show QT Z up sb rb hq kk n Sh Ho Ln E Rr A uu zc fv h0 n0 _ T24.heap _
      exact ⟨b21, rfl, N24, KP, by rw [hz]; exact SI⟩
    · show CHr Z own_EL s.vm s.heap T24.vm T24.heap
      rw [hh]
      exact hCH.trans (CHv.at (s := s) X24 hZ hEL hCH.1)
  · obtain ⟨_, _, ⟨T26, L26, kk26, n26⟩, -, X26, ⟨Lc26, hQ26, l26, y26, z26⟩, st26⟩ := X21.specialBack hx (y := (⟨"java/lang/String", "<init>", "([C)V"⟩ : MethodName)) rfl hown (mvT hZ (hw _ (List.mem_of_getElem? (i := 122) rfl))) (mvT hZ (hw _ (List.mem_of_getElem? (i := 24) rfl))) (mvT hZ (hw _ (List.mem_of_getElem? (i := 25) rfl))) (by decide) (StrChars.Road.backV (W := 1) hZ hwwords (kI := 4) (hw _ (List.mem_of_getElem? (i := 21) rfl)) (cs := ((E uu).take (Ln uu))) (bs := ((E uu).take (Ln uu)).map (fun c => c.toInt8.toInt32)) (n := (Ln uu)) g_b21 Zn As Vs Cs VB' (O2.ext X00.2) hzc hlt rfl (Nat.pos_of_ne_zero hz) (Nat.le_trans v2 (by decide)) hOKt rfl (by decide) (by decide)) (g := (mkF m 82 #[oa up, oi uu, oa b16, M3, M4] [(.ref b16), (.ref b21), (.ref b21)])) rfl (by rw [hml]; rfl) (Steps.refl _) (a := b21) (argsL := [(.ref b16)]) (rest := [(.ref b21)]) (lenOf pd_20902 rfl) rfl (by show 2 * 0 + _ ≤ _; exact Nat.le_of_eq rfl) (hb hby d_prog_85_method_3_82) (fun _ _ => ⟨rfl, e21, (by decide : 1 + 1 + 1 ≤ _), (Nat.le_trans (Nat.add_le_add_left v2 _) (by decide : 8 + 4 + 8 ≤ _))⟩)
    dsimp only [Pt.U, Pt.locs, Pt.cells, Pt.slots] at X26 l26 y26 z26 st26 hQ26
    rw [l26, y26, z26] at X26
    obtain ⟨rfl, Nq26, KI, EI, CI, tt, kb, -, -, -, VI, AI⟩ := hQ26
    have N26 := Fr.app N' Nq26
    have k27_ : ∀ t, Steps p.tables e below (T26.setTop (mkF m 85 #[oa up, oi uu, oa b16, M3, M4] [(.ref b21)])) t → G_ t := fun t q => k23_ t (st26.trans q)
    replace hk := Nat.le_trans hk KI.1
    have SV : Safe Z own_EL s.vm h21 b21 := own_safe hZ.alike As Vs
    replace hCH := hCH.trans (CHr.keep KI (sfS SV sf0) hCH.1)
    replace KP := KP.trans KI (fun y hy => Or.inr (by cases List.mem_singleton.mp hy; exact z_b21))
    replace X26 := X26.more (Nat.le_refl _) (Nat.add_le_add_left v2 _)
    obtain ⟨fs, hr, hrun, hended, r1, r2, r3, r4⟩ := Stand.leaveW (s := s) (vm₁ := s.vm) X26 hS hk (v := some (.ref b21)) (fun h => by rw [Bd.returns] at h; cases h)
    refine ⟨_, _, pre0 _ (k27_ _ ?_), hrun, hended, _, _, rfl, ?_, ?_, r1, r2, r3, r4.mono (by decide) (by decide)⟩
    · show Steps p.tables e below (T26.setTop (mkF m 85 #[oa up, oi uu, oa b16, M3, M4] [(.ref b21)])) _
      jvm_step X26.here [X26.here.top, hx, (hb hby d_prog_85_method_3_85), X26.method', Bd.returns, Value.isRef, FieldType.isReference]
      first | (intro acts; rw [hr _ acts rfl rfl rfl]) | rw [hr _ _ rfl rfl rfl]
      exact Steps.refl _
    · show QT Z up sb rb hq kk n Sh Ho Ln E Rr A uu zc fv h0 n0 _ T26.heap _
      exact ⟨b21, rfl, N26, KP, EI, CI, tt, kb, by exact VI, by rw [hlt]; exact AI, EI.lt, AI.lt⟩
    · show CHr Z own_EL s.vm s.heap T26.vm T26.heap
      rw [hh]
      exact hCH.trans (CHv.at (s := s) X26 hZ hEL hCH.1)
def QSm (Z : State) (g : Addr) (eb : Addr) (ln : Nat) (kk : Nat) (cs : List Int32) (E : List Int32) (kE : ClassId) (zc : Int32) (fv : Value) (h0 : Heap) (n0 : Nat) (v : Option Value) (h : Heap) (L : List Loc) : Prop := v = some (.int 1) ∧ Fr n0 L ∧ h = h0
theorem ef_Sm (m : MethodId) (x0 : Addr) (x1 : Addr) (x2 : Int32) : entryFrame m #[(.ref x0), (.ref x1), (.int x2)] 3 = mkF m 0 #[.val (.ref x0), .val (.ref x1), .val (.int x2)] [] := by first | (simp [entryFrame, mkF, argsToLocals, Value.category]; done) | rfl
theorem d_method_7_0 : decode method_7_code 0 = .ok (.aload_n 0, 1) := by decide +kernel
theorem d_method_7_1 : decode method_7_code 1 = .ok (.invokevirtual 56, 3) := by decide +kernel
theorem d_method_7_4 : decode method_7_code 4 = .ok (.iload_n 2, 1) := by decide +kernel
theorem d_method_7_5 : decode method_7_code 5 = .ok (.if_icmp .ne 142, 3) := by decide +kernel
theorem d_method_7_8 : decode method_7_code 8 = .ok (.iload_n 2, 1) := by decide +kernel
theorem d_method_7_9 : decode method_7_code 9 = .ok (.iconst 1, 1) := by decide +kernel
theorem d_method_7_10 : decode method_7_code 10 = .ok (.if_icmp .lt 14, 3) := by decide +kernel
theorem d_method_7_24 : decode method_7_code 24 = .ok (.iload_n 2, 1) := by decide +kernel
theorem d_method_7_25 : decode method_7_code 25 = .ok (.iconst 2, 1) := by decide +kernel
theorem d_method_7_26 : decode method_7_code 26 = .ok (.if_icmp .lt 14, 3) := by decide +kernel
theorem d_method_7_40 : decode method_7_code 40 = .ok (.iload_n 2, 1) := by decide +kernel
theorem d_method_7_41 : decode method_7_code 41 = .ok (.iconst 3, 1) := by decide +kernel
theorem d_method_7_42 : decode method_7_code 42 = .ok (.if_icmp .lt 14, 3) := by decide +kernel
theorem d_method_7_56 : decode method_7_code 56 = .ok (.iload_n 2, 1) := by decide +kernel
theorem d_method_7_57 : decode method_7_code 57 = .ok (.iconst 4, 1) := by decide +kernel
theorem d_method_7_58 : decode method_7_code 58 = .ok (.if_icmp .lt 14, 3) := by decide +kernel
theorem d_method_7_72 : decode method_7_code 72 = .ok (.iload_n 2, 1) := by decide +kernel
theorem d_method_7_73 : decode method_7_code 73 = .ok (.iconst 5, 1) := by decide +kernel
theorem d_method_7_74 : decode method_7_code 74 = .ok (.if_icmp .lt 14, 3) := by decide +kernel
theorem d_method_7_88 : decode method_7_code 88 = .ok (.iload_n 2, 1) := by decide +kernel
theorem d_method_7_89 : decode method_7_code 89 = .ok (.bipush 6, 2) := by decide +kernel
theorem d_method_7_91 : decode method_7_code 91 = .ok (.if_icmp .lt 14, 3) := by decide +kernel
theorem d_method_7_105 : decode method_7_code 105 = .ok (.iload_n 2, 1) := by decide +kernel
theorem d_method_7_106 : decode method_7_code 106 = .ok (.bipush 7, 2) := by decide +kernel
theorem d_method_7_108 : decode method_7_code 108 = .ok (.if_icmp .lt 16, 3) := by decide +kernel
theorem d_method_7_124 : decode method_7_code 124 = .ok (.iload_n 2, 1) := by decide +kernel
theorem d_method_7_125 : decode method_7_code 125 = .ok (.bipush 8, 2) := by decide +kernel
theorem d_method_7_127 : decode method_7_code 127 = .ok (.if_icmp .lt 16, 3) := by decide +kernel
theorem d_method_7_143 : decode method_7_code 143 = .ok (.iconst 1, 1) := by decide +kernel
theorem d_method_7_144 : decode method_7_code 144 = .ok (.goto 4, 3) := by decide +kernel
theorem d_method_7_148 : decode method_7_code 148 = .ok (.ireturn, 1) := by decide +kernel
theorem d_method_7_13 : decode method_7_code 13 = .ok (.aload_n 0, 1) := by decide +kernel
theorem d_method_7_14 : decode method_7_code 14 = .ok (.iconst 0, 1) := by decide +kernel
theorem pd_27757 : parseMethodDescriptor "(I)C" = some ⟨[.int], some .char⟩ := by decide +kernel
theorem d_method_7_15 : decode method_7_code 15 = .ok (.invokevirtual 60, 3) := by decide +kernel
theorem d_method_7_18 : decode method_7_code 18 = .ok (.aload_n 1, 1) := by decide +kernel
theorem d_method_7_19 : decode method_7_code 19 = .ok (.iconst 0, 1) := by decide +kernel
theorem d_method_7_20 : decode method_7_code 20 = .ok (.caload, 1) := by decide +kernel
theorem d_method_7_21 : decode method_7_code 21 = .ok (.if_icmp .ne 126, 3) := by decide +kernel
theorem d_method_7_29 : decode method_7_code 29 = .ok (.aload_n 0, 1) := by decide +kernel
theorem d_method_7_30 : decode method_7_code 30 = .ok (.iconst 1, 1) := by decide +kernel
theorem d_method_7_31 : decode method_7_code 31 = .ok (.invokevirtual 60, 3) := by decide +kernel
theorem d_method_7_34 : decode method_7_code 34 = .ok (.aload_n 1, 1) := by decide +kernel
theorem d_method_7_35 : decode method_7_code 35 = .ok (.iconst 1, 1) := by decide +kernel
theorem d_method_7_36 : decode method_7_code 36 = .ok (.caload, 1) := by decide +kernel
theorem d_method_7_37 : decode method_7_code 37 = .ok (.if_icmp .ne 110, 3) := by decide +kernel
theorem d_method_7_45 : decode method_7_code 45 = .ok (.aload_n 0, 1) := by decide +kernel
theorem d_method_7_46 : decode method_7_code 46 = .ok (.iconst 2, 1) := by decide +kernel
theorem d_method_7_47 : decode method_7_code 47 = .ok (.invokevirtual 60, 3) := by decide +kernel
theorem d_method_7_50 : decode method_7_code 50 = .ok (.aload_n 1, 1) := by decide +kernel
theorem d_method_7_51 : decode method_7_code 51 = .ok (.iconst 2, 1) := by decide +kernel
theorem d_method_7_52 : decode method_7_code 52 = .ok (.caload, 1) := by decide +kernel
theorem d_method_7_53 : decode method_7_code 53 = .ok (.if_icmp .ne 94, 3) := by decide +kernel
theorem d_method_7_61 : decode method_7_code 61 = .ok (.aload_n 0, 1) := by decide +kernel
theorem d_method_7_62 : decode method_7_code 62 = .ok (.iconst 3, 1) := by decide +kernel
theorem d_method_7_63 : decode method_7_code 63 = .ok (.invokevirtual 60, 3) := by decide +kernel
theorem d_method_7_66 : decode method_7_code 66 = .ok (.aload_n 1, 1) := by decide +kernel
theorem d_method_7_67 : decode method_7_code 67 = .ok (.iconst 3, 1) := by decide +kernel
theorem d_method_7_68 : decode method_7_code 68 = .ok (.caload, 1) := by decide +kernel
theorem d_method_7_69 : decode method_7_code 69 = .ok (.if_icmp .ne 78, 3) := by decide +kernel
theorem d_method_7_77 : decode method_7_code 77 = .ok (.aload_n 0, 1) := by decide +kernel
theorem d_method_7_78 : decode method_7_code 78 = .ok (.iconst 4, 1) := by decide +kernel
theorem d_method_7_79 : decode method_7_code 79 = .ok (.invokevirtual 60, 3) := by decide +kernel
theorem d_method_7_82 : decode method_7_code 82 = .ok (.aload_n 1, 1) := by decide +kernel
theorem d_method_7_83 : decode method_7_code 83 = .ok (.iconst 4, 1) := by decide +kernel
theorem d_method_7_84 : decode method_7_code 84 = .ok (.caload, 1) := by decide +kernel
theorem d_method_7_85 : decode method_7_code 85 = .ok (.if_icmp .ne 62, 3) := by decide +kernel
theorem d_method_7_94 : decode method_7_code 94 = .ok (.aload_n 0, 1) := by decide +kernel
theorem d_method_7_95 : decode method_7_code 95 = .ok (.iconst 5, 1) := by decide +kernel
theorem d_method_7_96 : decode method_7_code 96 = .ok (.invokevirtual 60, 3) := by decide +kernel
theorem d_method_7_99 : decode method_7_code 99 = .ok (.aload_n 1, 1) := by decide +kernel
theorem d_method_7_100 : decode method_7_code 100 = .ok (.iconst 5, 1) := by decide +kernel
theorem d_method_7_101 : decode method_7_code 101 = .ok (.caload, 1) := by decide +kernel
theorem d_method_7_102 : decode method_7_code 102 = .ok (.if_icmp .ne 45, 3) := by decide +kernel
theorem d_method_7_111 : decode method_7_code 111 = .ok (.aload_n 0, 1) := by decide +kernel
theorem d_method_7_112 : decode method_7_code 112 = .ok (.bipush 6, 2) := by decide +kernel
theorem d_method_7_114 : decode method_7_code 114 = .ok (.invokevirtual 60, 3) := by decide +kernel
theorem d_method_7_117 : decode method_7_code 117 = .ok (.aload_n 1, 1) := by decide +kernel
theorem d_method_7_118 : decode method_7_code 118 = .ok (.bipush 6, 2) := by decide +kernel
theorem d_method_7_120 : decode method_7_code 120 = .ok (.caload, 1) := by decide +kernel
theorem d_method_7_121 : decode method_7_code 121 = .ok (.if_icmp .ne 26, 3) := by decide +kernel
theorem d_method_7_130 : decode method_7_code 130 = .ok (.aload_n 0, 1) := by decide +kernel
theorem d_method_7_131 : decode method_7_code 131 = .ok (.bipush 7, 2) := by decide +kernel
theorem d_method_7_133 : decode method_7_code 133 = .ok (.invokevirtual 60, 3) := by decide +kernel
theorem d_method_7_136 : decode method_7_code 136 = .ok (.aload_n 1, 1) := by decide +kernel
theorem d_method_7_137 : decode method_7_code 137 = .ok (.bipush 7, 2) := by decide +kernel
theorem d_method_7_139 : decode method_7_code 139 = .ok (.caload, 1) := by decide +kernel
theorem d_method_7_140 : decode method_7_code 140 = .ok (.if_icmp .ne 7, 3) := by decide +kernel
set_option maxRecDepth 65536 in
set_option maxHeartbeats 40000000 in
theorem rmSm (l : Launch) (Z : State) (a0 : Array Value) (hw : ∀ d ∈ tables_1, d.before a0 Z = true) (ws : List Jvm.Cond) (g : Addr) (eb : Addr) (ln : Nat) (kk : Nat) (cs : List Int32) (E : List Int32) (kE : ClassId) (zc : Int32) (fv : Value) (h0 : Heap) (n0 : Nat) (Z0 : n0 ≤ h0.size) (S : own_Sb Z kk h0 g cs) (hl : cs.length = ln) (h8 : ln ≤ 8) (hOK : own_OK cs) (VE : Arv Z h0 eb kE .char (8 : Int32) (E.map Value.int) (.int 0)) (hE : ∀ j, j < ln → cs.getD j 0 = E.getD j 0) (O2 : Sta Z Z.heap "java/lang/String" "COMPACT_STRINGS" "Z" (.int zc)) (hzc : ¬ zc = (0 : Int32)) (O4 : Sta Z Z.heap "jdk/internal/util/Preconditions" "SIOOBE_FORMATTER" "Ljava/util/function/BiFunction;" fv) (rfv : fv.isRef = true) (X00 : Old Z n0 h0) :
    MetFree l (⟨"com/example/haku/haku/index/UnitPathsAddPinLaw", "same", "(Ljava/lang/String;[CI)Z"⟩ : MethodName) (head1 (Jvm.Cond.code (⟨"com/example/haku/haku/index/UnitPathsAddPinLaw", "same", "(Ljava/lang/String;[CI)Z"⟩ : MethodName) method_7_code 3 (some .boolean) :: ws) ({ frames := 4, cells := 0, slots := 0, locals := 53 } : Room)) (fun a_ U_ => a_ = #[(.ref g), (.ref eb), (.int (Int32.ofNat ln))] ∧ Z.Warmed39 U_.vm ∧ U_.heap = h0) (fun _ _ _ _ _ => True) (fun _ U_ o_ E_ => ∃ v_ L_, o_ = .returned v_ ∧ QSm Z g eb ln kk cs E kE zc fv h0 n0 v_ E_.heap L_ ∧ FrameEnd U_ o_ E_ L_ ({ frames := 4, cells := 0, slots := 0, locals := 53 } : Room).cells ({ frames := 4, cells := 0, slots := 0, locals := 53 } : Room).slots) := by
  refine MetFree.of_bodySF (plainFor_of_name pn_UnitPathsAddPinLaw) hisR ?_
  intro p e s m args below meth c s₁ Bd hml0 hP hK
  obtain ⟨rfl, hZ, hh⟩ := hP
  have hx := Bd.exec
  have hby := Bd.bytes
  have hml : c.maxLocals = 3 := hml0
  have hown : s.vm.findClass "com/example/haku/haku/index/UnitPathsAddPinLaw" = some m.cls := findClass_of_methodNamed Bd.named
  have hnm := (name_of_methodNamed Bd.named Bd.method).1
  have X0 : Stand p l e ({ frames := 4, cells := 0, slots := 0, locals := 53 } : Room) s m #[(.ref g), (.ref eb), (.int (Int32.ofNat ln))] below meth c s₁ [] 0 0 := Stand.of_body Bd
  have e0 : s₁.heap = h0 := by rw [← hh, Bd.state]; rfl
  have N0 := Fr.nil n0
  have Zn := Z0
  have pre0 : ∀ t, Steps p.tables e below (s₁.setTop (mkF m 0 #[.val (.ref g), .val (.ref eb), .val (.int (Int32.ofNat ln))] [])) t → Steps p.tables e below (s₁.setTop (entryFrame m #[(.ref g), (.ref eb), (.int (Int32.ofNat ln))] 3)) t := fun t q => castTop (ef_Sm m g eb (Int32.ofNat ln)) q
  have k0 : ∀ t, Steps p.tables e below (s₁.setTop (mkF m 0 #[.val (.ref g), .val (.ref eb), .val (.int (Int32.ofNat ln))] [])) t → Steps p.tables e below (s₁.setTop (mkF m 0 #[.val (.ref g), .val (.ref eb), .val (.int (Int32.ofNat ln))] [])) t := fun t q => q
  let G_ : State → Prop := fun t => Steps p.tables e below (s₁.setTop (mkF m 0 #[.val (.ref g), .val (.ref eb), .val (.int (Int32.ofNat ln))] [])) t
  obtain ⟨Ex, Cx, tt, kb, Vx, Ax, lx, lt⟩ := id S
  have hwwordsLen : ∀ d ∈ StrChars.Road.wordsLen, d.before a0 Z = true := fun d hd => hw d ((by decide +kernel : ∀ d ∈ StrChars.Road.wordsLen, d ∈ tables_1) d hd)
  have hwwordsChN : ∀ d ∈ StrChars.Road.wordsChN, d.before a0 Z = true := fun d hd => hw d ((by decide +kernel : ∀ d ∈ StrChars.Road.wordsChN, d ∈ tables_1) d hd)
  have k1_ : ∀ t, Steps p.tables e below (s₁.setTop (mkF m 1 #[oa g, oa eb, oi ln] [(.ref g)])) t → G_ t := by
    intro t q
    refine k0 _ ?_
    show Steps p.tables e below (s₁.setTop (mkF m 0 #[oa g, oa eb, oi ln] [])) _
    refine XS.aloadN X0.here hx rfl (hb hby d_method_7_0) rfl rfl ?_
    show Steps p.tables e below (s₁.setTop (mkF m 1 #[oa g, oa eb, oi ln] [(.ref g)])) _
    exact q
  obtain ⟨cq2, kq2, q2a, q2b, q2c⟩ := isOf hZ e0 Ex
  obtain ⟨_, _, ⟨T2, L2, kk2, n2⟩, -, X2, ⟨Lc2, hQ2, l2, y2, z2⟩, st2⟩ := X0.virtualBack hx (y := (⟨"java/lang/String", "length", "()I"⟩ : MethodName)) (z := (⟨"java/lang/String", "length", "()I"⟩ : MethodName)) hown (mvT hZ (hw _ (List.mem_of_getElem? (i := 126) rfl))) (mvT hZ (hw _ (List.mem_of_getElem? (i := 81) rfl))) (notFace_of_selects (args := #[]) (mvT hZ (hw _ (List.mem_of_getElem? (i := 83) rfl)))) (mvT hZ (hw _ (List.mem_of_getElem? (i := 83) rfl))) (mvT hZ (hw _ (List.mem_of_getElem? (i := 82) rfl))) (by decide) (StrChars.Road.lenW (W := 0) hZ hwwordsLen (kI := 4) (hw _ (List.mem_of_getElem? (i := 21) rfl)) Ex Vx Cx Ax (StrChars.Road.codOf rfl (fun c hc => (hOK c hc).2)) (own_bd hOK) (O2.ext X00.2) hzc (Nat.le_trans (show cs.length ≤ 8 by omega) (by decide)) (by decide) (by decide)) q2a q2c (g := (mkF m 1 #[oa g, oa eb, oi ln] [(.ref g)])) rfl (by rw [hml]; rfl) (Steps.refl _) (argsL := []) (rest := []) (lenOf pd_48321 rfl) rfl (by show 2 * 0 + _ ≤ _; exact Nat.le_of_eq rfl) (hb hby d_method_7_1) (fun _ _ => ⟨rfl, e0, (by decide : 0 + 0 ≤ _), (by decide : 0 + 0 ≤ _)⟩)
  dsimp only [Pt.U, Pt.locs, Pt.cells, Pt.slots] at X2 l2 y2 z2 st2 hQ2
  rw [l2, y2, z2] at X2
  obtain ⟨rfl, rfl, hq2⟩ := hQ2
  have N2 := Fr.app N0 (Fr.nil n0)
  have k3_ : ∀ t, Steps p.tables e below (T2.setTop (mkF m 4 #[oa g, oa eb, oi ln] [(.int (Int32.ofNat cs.length))])) t → G_ t := fun t q => k1_ t (st2.trans q)
  have k4_ : ∀ t, Steps p.tables e below (T2.setTop (mkF m 5 #[oa g, oa eb, oi ln] [(.int (Int32.ofNat ln)), (.int (Int32.ofNat cs.length))])) t → G_ t := by
    intro t q
    refine k3_ _ ?_
    show Steps p.tables e below (T2.setTop (mkF m 4 #[oa g, oa eb, oi ln] [(.int (Int32.ofNat cs.length))])) _
    refine XS.iloadN X2.here hx rfl (hb hby d_method_7_4) rfl ?_
    show Steps p.tables e below (T2.setTop (mkF m 5 #[oa g, oa eb, oi ln] [(.int (Int32.ofNat ln)), (.int (Int32.ofNat cs.length))])) _
    exact q
  have k5_ : ∀ t, Steps p.tables e below (T2.setTop (mkF m 8 #[oa g, oa eb, oi ln] [])) t → G_ t := by
    intro t q
    refine k4_ _ ?_
    show Steps p.tables e below (T2.setTop (mkF m 5 #[oa g, oa eb, oi ln] [(.int (Int32.ofNat ln)), (.int (Int32.ofNat cs.length))])) _
    refine XS.icmpNo X2.here hx rfl (hb hby d_method_7_5) rfl (teq (by rw [hl])).2 ?_
    show Steps p.tables e below (T2.setTop (mkF m 8 #[oa g, oa eb, oi ln] [])) _
    exact q
  have k6_ : ∀ t, Steps p.tables e below (T2.setTop (mkF m 10 #[oa g, oa eb, oi ln] [(.int (1 : Int32)), (.int (Int32.ofNat ln))])) t → G_ t := by
    intro t q
    refine k5_ _ ?_
    show Steps p.tables e below (T2.setTop (mkF m 8 #[oa g, oa eb, oi ln] [])) _
    refine XS.iloadN X2.here hx rfl (hb hby d_method_7_8) rfl ?_
    refine XS.iconst X2.here hx rfl (hb hby d_method_7_9) ?_
    show Steps p.tables e below (T2.setTop (mkF m 10 #[oa g, oa eb, oi ln] [(.int (1 : Int32)), (.int (Int32.ofNat ln))])) _
    exact q
  by_cases hc0_ : (Int32.ofNat ln) < (1 : Int32)
  · have k7_ : ∀ t, Steps p.tables e below (T2.setTop (mkF m 24 #[oa g, oa eb, oi ln] [])) t → G_ t := by
      intro t q
      refine k6_ _ ?_
      show Steps p.tables e below (T2.setTop (mkF m 10 #[oa g, oa eb, oi ln] [(.int (1 : Int32)), (.int (Int32.ofNat ln))])) _
      refine XS.icmpYes X2.here hx rfl (pc0 := 10) (pc' := 24) rfl (hb hby d_method_7_10) rfl (tlt hc0_).1 (by decide) (by decide) ?_
      show Steps p.tables e below (T2.setTop (mkF m 24 #[oa g, oa eb, oi ln] [])) _
      exact q
    have k8_ : ∀ t, Steps p.tables e below (T2.setTop (mkF m 26 #[oa g, oa eb, oi ln] [(.int (2 : Int32)), (.int (Int32.ofNat ln))])) t → G_ t := by
      intro t q
      refine k7_ _ ?_
      show Steps p.tables e below (T2.setTop (mkF m 24 #[oa g, oa eb, oi ln] [])) _
      refine XS.iloadN X2.here hx rfl (hb hby d_method_7_24) rfl ?_
      refine XS.iconst X2.here hx rfl (hb hby d_method_7_25) ?_
      show Steps p.tables e below (T2.setTop (mkF m 26 #[oa g, oa eb, oi ln] [(.int (2 : Int32)), (.int (Int32.ofNat ln))])) _
      exact q
    have k9_ : ∀ t, Steps p.tables e below (T2.setTop (mkF m 40 #[oa g, oa eb, oi ln] [])) t → G_ t := by
      intro t q
      refine k8_ _ ?_
      show Steps p.tables e below (T2.setTop (mkF m 26 #[oa g, oa eb, oi ln] [(.int (2 : Int32)), (.int (Int32.ofNat ln))])) _
      refine XS.icmpYes X2.here hx rfl (pc0 := 26) (pc' := 40) rfl (hb hby d_method_7_26) rfl (tlt ((own_cmp (n := 2) (by omega) (by decide)).mpr (Nat.lt_of_lt_of_le ((own_cmp (n := 1) (by omega) (by decide)).mp hc0_) (by decide)))).1 (by decide) (by decide) ?_
      show Steps p.tables e below (T2.setTop (mkF m 40 #[oa g, oa eb, oi ln] [])) _
      exact q
    have k10_ : ∀ t, Steps p.tables e below (T2.setTop (mkF m 42 #[oa g, oa eb, oi ln] [(.int (3 : Int32)), (.int (Int32.ofNat ln))])) t → G_ t := by
      intro t q
      refine k9_ _ ?_
      show Steps p.tables e below (T2.setTop (mkF m 40 #[oa g, oa eb, oi ln] [])) _
      refine XS.iloadN X2.here hx rfl (hb hby d_method_7_40) rfl ?_
      refine XS.iconst X2.here hx rfl (hb hby d_method_7_41) ?_
      show Steps p.tables e below (T2.setTop (mkF m 42 #[oa g, oa eb, oi ln] [(.int (3 : Int32)), (.int (Int32.ofNat ln))])) _
      exact q
    have k11_ : ∀ t, Steps p.tables e below (T2.setTop (mkF m 56 #[oa g, oa eb, oi ln] [])) t → G_ t := by
      intro t q
      refine k10_ _ ?_
      show Steps p.tables e below (T2.setTop (mkF m 42 #[oa g, oa eb, oi ln] [(.int (3 : Int32)), (.int (Int32.ofNat ln))])) _
      refine XS.icmpYes X2.here hx rfl (pc0 := 42) (pc' := 56) rfl (hb hby d_method_7_42) rfl (tlt ((own_cmp (n := 3) (by omega) (by decide)).mpr (Nat.lt_of_lt_of_le ((own_cmp (n := 1) (by omega) (by decide)).mp hc0_) (by decide)))).1 (by decide) (by decide) ?_
      show Steps p.tables e below (T2.setTop (mkF m 56 #[oa g, oa eb, oi ln] [])) _
      exact q
    have k12_ : ∀ t, Steps p.tables e below (T2.setTop (mkF m 58 #[oa g, oa eb, oi ln] [(.int (4 : Int32)), (.int (Int32.ofNat ln))])) t → G_ t := by
      intro t q
      refine k11_ _ ?_
      show Steps p.tables e below (T2.setTop (mkF m 56 #[oa g, oa eb, oi ln] [])) _
      refine XS.iloadN X2.here hx rfl (hb hby d_method_7_56) rfl ?_
      refine XS.iconst X2.here hx rfl (hb hby d_method_7_57) ?_
      show Steps p.tables e below (T2.setTop (mkF m 58 #[oa g, oa eb, oi ln] [(.int (4 : Int32)), (.int (Int32.ofNat ln))])) _
      exact q
    have k13_ : ∀ t, Steps p.tables e below (T2.setTop (mkF m 72 #[oa g, oa eb, oi ln] [])) t → G_ t := by
      intro t q
      refine k12_ _ ?_
      show Steps p.tables e below (T2.setTop (mkF m 58 #[oa g, oa eb, oi ln] [(.int (4 : Int32)), (.int (Int32.ofNat ln))])) _
      refine XS.icmpYes X2.here hx rfl (pc0 := 58) (pc' := 72) rfl (hb hby d_method_7_58) rfl (tlt ((own_cmp (n := 4) (by omega) (by decide)).mpr (Nat.lt_of_lt_of_le ((own_cmp (n := 1) (by omega) (by decide)).mp hc0_) (by decide)))).1 (by decide) (by decide) ?_
      show Steps p.tables e below (T2.setTop (mkF m 72 #[oa g, oa eb, oi ln] [])) _
      exact q
    have k14_ : ∀ t, Steps p.tables e below (T2.setTop (mkF m 74 #[oa g, oa eb, oi ln] [(.int (5 : Int32)), (.int (Int32.ofNat ln))])) t → G_ t := by
      intro t q
      refine k13_ _ ?_
      show Steps p.tables e below (T2.setTop (mkF m 72 #[oa g, oa eb, oi ln] [])) _
      refine XS.iloadN X2.here hx rfl (hb hby d_method_7_72) rfl ?_
      refine XS.iconst X2.here hx rfl (hb hby d_method_7_73) ?_
      show Steps p.tables e below (T2.setTop (mkF m 74 #[oa g, oa eb, oi ln] [(.int (5 : Int32)), (.int (Int32.ofNat ln))])) _
      exact q
    have k15_ : ∀ t, Steps p.tables e below (T2.setTop (mkF m 88 #[oa g, oa eb, oi ln] [])) t → G_ t := by
      intro t q
      refine k14_ _ ?_
      show Steps p.tables e below (T2.setTop (mkF m 74 #[oa g, oa eb, oi ln] [(.int (5 : Int32)), (.int (Int32.ofNat ln))])) _
      refine XS.icmpYes X2.here hx rfl (pc0 := 74) (pc' := 88) rfl (hb hby d_method_7_74) rfl (tlt ((own_cmp (n := 5) (by omega) (by decide)).mpr (Nat.lt_of_lt_of_le ((own_cmp (n := 1) (by omega) (by decide)).mp hc0_) (by decide)))).1 (by decide) (by decide) ?_
      show Steps p.tables e below (T2.setTop (mkF m 88 #[oa g, oa eb, oi ln] [])) _
      exact q
    have k16_ : ∀ t, Steps p.tables e below (T2.setTop (mkF m 91 #[oa g, oa eb, oi ln] [(.int (6 : Int32)), (.int (Int32.ofNat ln))])) t → G_ t := by
      intro t q
      refine k15_ _ ?_
      show Steps p.tables e below (T2.setTop (mkF m 88 #[oa g, oa eb, oi ln] [])) _
      refine XS.iloadN X2.here hx rfl (hb hby d_method_7_88) rfl ?_
      refine XS.bipush X2.here hx rfl (hb hby d_method_7_89) ?_
      show Steps p.tables e below (T2.setTop (mkF m 91 #[oa g, oa eb, oi ln] [(.int (6 : Int32)), (.int (Int32.ofNat ln))])) _
      exact q
    have k17_ : ∀ t, Steps p.tables e below (T2.setTop (mkF m 105 #[oa g, oa eb, oi ln] [])) t → G_ t := by
      intro t q
      refine k16_ _ ?_
      show Steps p.tables e below (T2.setTop (mkF m 91 #[oa g, oa eb, oi ln] [(.int (6 : Int32)), (.int (Int32.ofNat ln))])) _
      refine XS.icmpYes X2.here hx rfl (pc0 := 91) (pc' := 105) rfl (hb hby d_method_7_91) rfl (tlt ((own_cmp (n := 6) (by omega) (by decide)).mpr (Nat.lt_of_lt_of_le ((own_cmp (n := 1) (by omega) (by decide)).mp hc0_) (by decide)))).1 (by decide) (by decide) ?_
      show Steps p.tables e below (T2.setTop (mkF m 105 #[oa g, oa eb, oi ln] [])) _
      exact q
    have k18_ : ∀ t, Steps p.tables e below (T2.setTop (mkF m 108 #[oa g, oa eb, oi ln] [(.int (7 : Int32)), (.int (Int32.ofNat ln))])) t → G_ t := by
      intro t q
      refine k17_ _ ?_
      show Steps p.tables e below (T2.setTop (mkF m 105 #[oa g, oa eb, oi ln] [])) _
      refine XS.iloadN X2.here hx rfl (hb hby d_method_7_105) rfl ?_
      refine XS.bipush X2.here hx rfl (hb hby d_method_7_106) ?_
      show Steps p.tables e below (T2.setTop (mkF m 108 #[oa g, oa eb, oi ln] [(.int (7 : Int32)), (.int (Int32.ofNat ln))])) _
      exact q
    have k19_ : ∀ t, Steps p.tables e below (T2.setTop (mkF m 124 #[oa g, oa eb, oi ln] [])) t → G_ t := by
      intro t q
      refine k18_ _ ?_
      show Steps p.tables e below (T2.setTop (mkF m 108 #[oa g, oa eb, oi ln] [(.int (7 : Int32)), (.int (Int32.ofNat ln))])) _
      refine XS.icmpYes X2.here hx rfl (pc0 := 108) (pc' := 124) rfl (hb hby d_method_7_108) rfl (tlt ((own_cmp (n := 7) (by omega) (by decide)).mpr (Nat.lt_of_lt_of_le ((own_cmp (n := 1) (by omega) (by decide)).mp hc0_) (by decide)))).1 (by decide) (by decide) ?_
      show Steps p.tables e below (T2.setTop (mkF m 124 #[oa g, oa eb, oi ln] [])) _
      exact q
    have k20_ : ∀ t, Steps p.tables e below (T2.setTop (mkF m 127 #[oa g, oa eb, oi ln] [(.int (8 : Int32)), (.int (Int32.ofNat ln))])) t → G_ t := by
      intro t q
      refine k19_ _ ?_
      show Steps p.tables e below (T2.setTop (mkF m 124 #[oa g, oa eb, oi ln] [])) _
      refine XS.iloadN X2.here hx rfl (hb hby d_method_7_124) rfl ?_
      refine XS.bipush X2.here hx rfl (hb hby d_method_7_125) ?_
      show Steps p.tables e below (T2.setTop (mkF m 127 #[oa g, oa eb, oi ln] [(.int (8 : Int32)), (.int (Int32.ofNat ln))])) _
      exact q
    have k21_ : ∀ t, Steps p.tables e below (T2.setTop (mkF m 143 #[oa g, oa eb, oi ln] [])) t → G_ t := by
      intro t q
      refine k20_ _ ?_
      show Steps p.tables e below (T2.setTop (mkF m 127 #[oa g, oa eb, oi ln] [(.int (8 : Int32)), (.int (Int32.ofNat ln))])) _
      refine XS.icmpYes X2.here hx rfl (pc0 := 127) (pc' := 143) rfl (hb hby d_method_7_127) rfl (tlt ((own_cmp (n := 8) (by omega) (by decide)).mpr (Nat.lt_of_lt_of_le ((own_cmp (n := 1) (by omega) (by decide)).mp hc0_) (by decide)))).1 (by decide) (by decide) ?_
      show Steps p.tables e below (T2.setTop (mkF m 143 #[oa g, oa eb, oi ln] [])) _
      exact q
    have k22_ : ∀ t, Steps p.tables e below (T2.setTop (mkF m 148 #[oa g, oa eb, oi ln] [(.int (1 : Int32))])) t → G_ t := by
      intro t q
      refine k21_ _ ?_
      show Steps p.tables e below (T2.setTop (mkF m 143 #[oa g, oa eb, oi ln] [])) _
      refine XS.iconst X2.here hx rfl (hb hby d_method_7_143) ?_
      refine XS.goto X2.here hx rfl (pc0 := 144) (pc' := 148) rfl (hb hby d_method_7_144) (by decide) (by decide) ?_
      show Steps p.tables e below (T2.setTop (mkF m 148 #[oa g, oa eb, oi ln] [(.int (1 : Int32))])) _
      exact q
    obtain ⟨fs, hr, hrun, hended, hW, hsame⟩ := X2.leave (v := some (.int (1 : Int32))) (fun h => by rw [Bd.returns] at h; cases h)
    refine ⟨_, _, pre0 _ (k22_ _ ?_), hrun, hended, _, _, rfl, ?_, ⟨_, rfl⟩, hW, hsame.mono (by decide) (by decide)⟩
    · show Steps p.tables e below (T2.setTop (mkF m 148 #[oa g, oa eb, oi ln] [(.int (1 : Int32))])) _
      exact retN X2 hx (t := .boolean) Bd.returns (by simp) (hb hby d_method_7_148) hr
    · show QSm Z g eb ln kk cs E kE zc fv h0 n0 _ T2.heap _
      rw [hq2]
      exact ⟨rfl, N2, rfl⟩
  · have k23_ : ∀ t, Steps p.tables e below (T2.setTop (mkF m 13 #[oa g, oa eb, oi ln] [])) t → G_ t := by
      intro t q
      refine k6_ _ ?_
      show Steps p.tables e below (T2.setTop (mkF m 10 #[oa g, oa eb, oi ln] [(.int (1 : Int32)), (.int (Int32.ofNat ln))])) _
      refine XS.icmpNo X2.here hx rfl (hb hby d_method_7_10) rfl (flt hc0_).1 ?_
      show Steps p.tables e below (T2.setTop (mkF m 13 #[oa g, oa eb, oi ln] [])) _
      exact q
    have q0 : 0 < ln := Nat.lt_of_not_le fun z => hc0_ ((own_cmp (n := 1) (by omega) (by decide)).mpr (by omega))
    have k24_ : ∀ t, Steps p.tables e below (T2.setTop (mkF m 15 #[oa g, oa eb, oi ln] [(.int (0 : Int32)), (.ref g)])) t → G_ t := by
      intro t q
      refine k23_ _ ?_
      show Steps p.tables e below (T2.setTop (mkF m 13 #[oa g, oa eb, oi ln] [])) _
      refine XS.aloadN X2.here hx rfl (hb hby d_method_7_13) rfl rfl ?_
      refine XS.iconst X2.here hx rfl (hb hby d_method_7_14) ?_
      show Steps p.tables e below (T2.setTop (mkF m 15 #[oa g, oa eb, oi ln] [(.int (0 : Int32)), (.ref g)])) _
      exact q
    obtain ⟨cq25, kq25, q25a, q25b, q25c⟩ := isOf hZ hq2 Ex
    obtain ⟨_, _, ⟨T25, L25, kk25, n25⟩, -, X25, ⟨Lc25, hQ25, l25, y25, z25⟩, st25⟩ := X2.virtualBack hx (y := (⟨"java/lang/String", "charAt", "(I)C"⟩ : MethodName)) (z := (⟨"java/lang/String", "charAt", "(I)C"⟩ : MethodName)) hown (mvT hZ (hw _ (List.mem_of_getElem? (i := 127) rfl))) (mvT hZ (hw _ (List.mem_of_getElem? (i := 128) rfl))) (notFace_of_selects (args := #[]) (mvT hZ (hw _ (List.mem_of_getElem? (i := 130) rfl)))) (mvT hZ (hw _ (List.mem_of_getElem? (i := 130) rfl))) (mvT hZ (hw _ (List.mem_of_getElem? (i := 129) rfl))) (by decide) (StrChars.Road.chN (W := 0) hZ hwwordsChN (kI := 4) (hw _ (List.mem_of_getElem? (i := 21) rfl)) (i := 0) Ex Vx Cx Ax (StrChars.Road.codOf rfl (fun c hc => (hOK c hc).2)) (own_bd hOK) (O2.ext X00.2) hzc (O4.ext X00.2) rfv (Nat.le_trans (show cs.length ≤ 8 by omega) (by decide)) (by omega) rfl (by decide) (by decide)) q25a q25c (g := (mkF m 15 #[oa g, oa eb, oi ln] [(.int (0 : Int32)), (.ref g)])) rfl (by rw [hml]; rfl) (Steps.refl _) (argsL := [(.int (0 : Int32))]) (rest := []) (lenOf pd_27757 rfl) rfl (by show 2 * 0 + _ ≤ _; exact Nat.le_of_eq rfl) (hb hby d_method_7_15) (fun _ _ => ⟨rfl, hq2, (by decide : 0 + 0 + 0 ≤ _), (by decide : 0 + 0 + 0 ≤ _)⟩)
    dsimp only [Pt.U, Pt.locs, Pt.cells, Pt.slots] at X25 l25 y25 z25 st25 hQ25
    rw [l25, y25, z25] at X25
    obtain ⟨rfl, rfl, hq25⟩ := hQ25
    have N25 := Fr.app N2 (Fr.nil n0)
    have k26_ : ∀ t, Steps p.tables e below (T25.setTop (mkF m 18 #[oa g, oa eb, oi ln] [(.int (cs.getD 0 0))])) t → G_ t := fun t q => k24_ t (st25.trans q)
    obtain ⟨cl27, Ar27, q27, S27, M27, H27, G27⟩ := id VE
    have k28_ : ∀ t, Steps p.tables e below (T25.setTop (mkF m 21 #[oa g, oa eb, oi ln] [(.int (E.getD 0 0)), (.int (cs.getD 0 0))])) t → G_ t := by
      intro t q
      refine k26_ _ ?_
      show Steps p.tables e below (T25.setTop (mkF m 18 #[oa g, oa eb, oi ln] [(.int (cs.getD 0 0))])) _
      refine XS.aloadN X25.here hx rfl (hb hby d_method_7_18) rfl rfl ?_
      refine XS.iconst X25.here hx rfl (hb hby d_method_7_19) ?_
      refine X25.caload hx (j := (0 : Int32)) (v := (.int (E.getD 0 0))) (by rw [hq25]; exact Ar27.1) (State.isArrayOf_alike hZ.alike Ar27.2.1) Ar27.2.2 (inb_of S27 (own_inr (n := 8) (i := 0) (by decide) (by decide))) (Has.at H27 (inb_of S27 (own_inr (n := 8) (i := 0) (by decide) (by decide))) (own_gi _ (by decide))) (g := (mkF m 20 #[oa g, oa eb, oi ln] [(.int (0 : Int32)), (.ref eb), (.int (cs.getD 0 0))])) rfl rfl (hb hby d_method_7_20) _ ?_
      show Steps p.tables e below (T25.setTop (mkF m 21 #[oa g, oa eb, oi ln] [(.int (E.getD 0 0)), (.int (cs.getD 0 0))])) _
      exact q
    have k29_ : ∀ t, Steps p.tables e below (T25.setTop (mkF m 24 #[oa g, oa eb, oi ln] [])) t → G_ t := by
      intro t q
      refine k28_ _ ?_
      show Steps p.tables e below (T25.setTop (mkF m 21 #[oa g, oa eb, oi ln] [(.int (E.getD 0 0)), (.int (cs.getD 0 0))])) _
      refine XS.icmpNo X25.here hx rfl (hb hby d_method_7_21) rfl (teq (hE 0 q0)).2 ?_
      show Steps p.tables e below (T25.setTop (mkF m 24 #[oa g, oa eb, oi ln] [])) _
      exact q
    have k30_ : ∀ t, Steps p.tables e below (T25.setTop (mkF m 26 #[oa g, oa eb, oi ln] [(.int (2 : Int32)), (.int (Int32.ofNat ln))])) t → G_ t := by
      intro t q
      refine k29_ _ ?_
      show Steps p.tables e below (T25.setTop (mkF m 24 #[oa g, oa eb, oi ln] [])) _
      refine XS.iloadN X25.here hx rfl (hb hby d_method_7_24) rfl ?_
      refine XS.iconst X25.here hx rfl (hb hby d_method_7_25) ?_
      show Steps p.tables e below (T25.setTop (mkF m 26 #[oa g, oa eb, oi ln] [(.int (2 : Int32)), (.int (Int32.ofNat ln))])) _
      exact q
    by_cases hc1_ : (Int32.ofNat ln) < (2 : Int32)
    · have k31_ : ∀ t, Steps p.tables e below (T25.setTop (mkF m 40 #[oa g, oa eb, oi ln] [])) t → G_ t := by
        intro t q
        refine k30_ _ ?_
        show Steps p.tables e below (T25.setTop (mkF m 26 #[oa g, oa eb, oi ln] [(.int (2 : Int32)), (.int (Int32.ofNat ln))])) _
        refine XS.icmpYes X25.here hx rfl (pc0 := 26) (pc' := 40) rfl (hb hby d_method_7_26) rfl (tlt hc1_).1 (by decide) (by decide) ?_
        show Steps p.tables e below (T25.setTop (mkF m 40 #[oa g, oa eb, oi ln] [])) _
        exact q
      have k32_ : ∀ t, Steps p.tables e below (T25.setTop (mkF m 42 #[oa g, oa eb, oi ln] [(.int (3 : Int32)), (.int (Int32.ofNat ln))])) t → G_ t := by
        intro t q
        refine k31_ _ ?_
        show Steps p.tables e below (T25.setTop (mkF m 40 #[oa g, oa eb, oi ln] [])) _
        refine XS.iloadN X25.here hx rfl (hb hby d_method_7_40) rfl ?_
        refine XS.iconst X25.here hx rfl (hb hby d_method_7_41) ?_
        show Steps p.tables e below (T25.setTop (mkF m 42 #[oa g, oa eb, oi ln] [(.int (3 : Int32)), (.int (Int32.ofNat ln))])) _
        exact q
      have k33_ : ∀ t, Steps p.tables e below (T25.setTop (mkF m 56 #[oa g, oa eb, oi ln] [])) t → G_ t := by
        intro t q
        refine k32_ _ ?_
        show Steps p.tables e below (T25.setTop (mkF m 42 #[oa g, oa eb, oi ln] [(.int (3 : Int32)), (.int (Int32.ofNat ln))])) _
        refine XS.icmpYes X25.here hx rfl (pc0 := 42) (pc' := 56) rfl (hb hby d_method_7_42) rfl (tlt ((own_cmp (n := 3) (by omega) (by decide)).mpr (Nat.lt_of_lt_of_le ((own_cmp (n := 2) (by omega) (by decide)).mp hc1_) (by decide)))).1 (by decide) (by decide) ?_
        show Steps p.tables e below (T25.setTop (mkF m 56 #[oa g, oa eb, oi ln] [])) _
        exact q
      have k34_ : ∀ t, Steps p.tables e below (T25.setTop (mkF m 58 #[oa g, oa eb, oi ln] [(.int (4 : Int32)), (.int (Int32.ofNat ln))])) t → G_ t := by
        intro t q
        refine k33_ _ ?_
        show Steps p.tables e below (T25.setTop (mkF m 56 #[oa g, oa eb, oi ln] [])) _
        refine XS.iloadN X25.here hx rfl (hb hby d_method_7_56) rfl ?_
        refine XS.iconst X25.here hx rfl (hb hby d_method_7_57) ?_
        show Steps p.tables e below (T25.setTop (mkF m 58 #[oa g, oa eb, oi ln] [(.int (4 : Int32)), (.int (Int32.ofNat ln))])) _
        exact q
      have k35_ : ∀ t, Steps p.tables e below (T25.setTop (mkF m 72 #[oa g, oa eb, oi ln] [])) t → G_ t := by
        intro t q
        refine k34_ _ ?_
        show Steps p.tables e below (T25.setTop (mkF m 58 #[oa g, oa eb, oi ln] [(.int (4 : Int32)), (.int (Int32.ofNat ln))])) _
        refine XS.icmpYes X25.here hx rfl (pc0 := 58) (pc' := 72) rfl (hb hby d_method_7_58) rfl (tlt ((own_cmp (n := 4) (by omega) (by decide)).mpr (Nat.lt_of_lt_of_le ((own_cmp (n := 2) (by omega) (by decide)).mp hc1_) (by decide)))).1 (by decide) (by decide) ?_
        show Steps p.tables e below (T25.setTop (mkF m 72 #[oa g, oa eb, oi ln] [])) _
        exact q
      have k36_ : ∀ t, Steps p.tables e below (T25.setTop (mkF m 74 #[oa g, oa eb, oi ln] [(.int (5 : Int32)), (.int (Int32.ofNat ln))])) t → G_ t := by
        intro t q
        refine k35_ _ ?_
        show Steps p.tables e below (T25.setTop (mkF m 72 #[oa g, oa eb, oi ln] [])) _
        refine XS.iloadN X25.here hx rfl (hb hby d_method_7_72) rfl ?_
        refine XS.iconst X25.here hx rfl (hb hby d_method_7_73) ?_
        show Steps p.tables e below (T25.setTop (mkF m 74 #[oa g, oa eb, oi ln] [(.int (5 : Int32)), (.int (Int32.ofNat ln))])) _
        exact q
      have k37_ : ∀ t, Steps p.tables e below (T25.setTop (mkF m 88 #[oa g, oa eb, oi ln] [])) t → G_ t := by
        intro t q
        refine k36_ _ ?_
        show Steps p.tables e below (T25.setTop (mkF m 74 #[oa g, oa eb, oi ln] [(.int (5 : Int32)), (.int (Int32.ofNat ln))])) _
        refine XS.icmpYes X25.here hx rfl (pc0 := 74) (pc' := 88) rfl (hb hby d_method_7_74) rfl (tlt ((own_cmp (n := 5) (by omega) (by decide)).mpr (Nat.lt_of_lt_of_le ((own_cmp (n := 2) (by omega) (by decide)).mp hc1_) (by decide)))).1 (by decide) (by decide) ?_
        show Steps p.tables e below (T25.setTop (mkF m 88 #[oa g, oa eb, oi ln] [])) _
        exact q
      have k38_ : ∀ t, Steps p.tables e below (T25.setTop (mkF m 91 #[oa g, oa eb, oi ln] [(.int (6 : Int32)), (.int (Int32.ofNat ln))])) t → G_ t := by
        intro t q
        refine k37_ _ ?_
        show Steps p.tables e below (T25.setTop (mkF m 88 #[oa g, oa eb, oi ln] [])) _
        refine XS.iloadN X25.here hx rfl (hb hby d_method_7_88) rfl ?_
        refine XS.bipush X25.here hx rfl (hb hby d_method_7_89) ?_
        show Steps p.tables e below (T25.setTop (mkF m 91 #[oa g, oa eb, oi ln] [(.int (6 : Int32)), (.int (Int32.ofNat ln))])) _
        exact q
      have k39_ : ∀ t, Steps p.tables e below (T25.setTop (mkF m 105 #[oa g, oa eb, oi ln] [])) t → G_ t := by
        intro t q
        refine k38_ _ ?_
        show Steps p.tables e below (T25.setTop (mkF m 91 #[oa g, oa eb, oi ln] [(.int (6 : Int32)), (.int (Int32.ofNat ln))])) _
        refine XS.icmpYes X25.here hx rfl (pc0 := 91) (pc' := 105) rfl (hb hby d_method_7_91) rfl (tlt ((own_cmp (n := 6) (by omega) (by decide)).mpr (Nat.lt_of_lt_of_le ((own_cmp (n := 2) (by omega) (by decide)).mp hc1_) (by decide)))).1 (by decide) (by decide) ?_
        show Steps p.tables e below (T25.setTop (mkF m 105 #[oa g, oa eb, oi ln] [])) _
        exact q
      have k40_ : ∀ t, Steps p.tables e below (T25.setTop (mkF m 108 #[oa g, oa eb, oi ln] [(.int (7 : Int32)), (.int (Int32.ofNat ln))])) t → G_ t := by
        intro t q
        refine k39_ _ ?_
        show Steps p.tables e below (T25.setTop (mkF m 105 #[oa g, oa eb, oi ln] [])) _
        refine XS.iloadN X25.here hx rfl (hb hby d_method_7_105) rfl ?_
        refine XS.bipush X25.here hx rfl (hb hby d_method_7_106) ?_
        show Steps p.tables e below (T25.setTop (mkF m 108 #[oa g, oa eb, oi ln] [(.int (7 : Int32)), (.int (Int32.ofNat ln))])) _
        exact q
      have k41_ : ∀ t, Steps p.tables e below (T25.setTop (mkF m 124 #[oa g, oa eb, oi ln] [])) t → G_ t := by
        intro t q
        refine k40_ _ ?_
        show Steps p.tables e below (T25.setTop (mkF m 108 #[oa g, oa eb, oi ln] [(.int (7 : Int32)), (.int (Int32.ofNat ln))])) _
        refine XS.icmpYes X25.here hx rfl (pc0 := 108) (pc' := 124) rfl (hb hby d_method_7_108) rfl (tlt ((own_cmp (n := 7) (by omega) (by decide)).mpr (Nat.lt_of_lt_of_le ((own_cmp (n := 2) (by omega) (by decide)).mp hc1_) (by decide)))).1 (by decide) (by decide) ?_
        show Steps p.tables e below (T25.setTop (mkF m 124 #[oa g, oa eb, oi ln] [])) _
        exact q
      have k42_ : ∀ t, Steps p.tables e below (T25.setTop (mkF m 127 #[oa g, oa eb, oi ln] [(.int (8 : Int32)), (.int (Int32.ofNat ln))])) t → G_ t := by
        intro t q
        refine k41_ _ ?_
        show Steps p.tables e below (T25.setTop (mkF m 124 #[oa g, oa eb, oi ln] [])) _
        refine XS.iloadN X25.here hx rfl (hb hby d_method_7_124) rfl ?_
        refine XS.bipush X25.here hx rfl (hb hby d_method_7_125) ?_
        show Steps p.tables e below (T25.setTop (mkF m 127 #[oa g, oa eb, oi ln] [(.int (8 : Int32)), (.int (Int32.ofNat ln))])) _
        exact q
      have k43_ : ∀ t, Steps p.tables e below (T25.setTop (mkF m 143 #[oa g, oa eb, oi ln] [])) t → G_ t := by
        intro t q
        refine k42_ _ ?_
        show Steps p.tables e below (T25.setTop (mkF m 127 #[oa g, oa eb, oi ln] [(.int (8 : Int32)), (.int (Int32.ofNat ln))])) _
        refine XS.icmpYes X25.here hx rfl (pc0 := 127) (pc' := 143) rfl (hb hby d_method_7_127) rfl (tlt ((own_cmp (n := 8) (by omega) (by decide)).mpr (Nat.lt_of_lt_of_le ((own_cmp (n := 2) (by omega) (by decide)).mp hc1_) (by decide)))).1 (by decide) (by decide) ?_
        show Steps p.tables e below (T25.setTop (mkF m 143 #[oa g, oa eb, oi ln] [])) _
        exact q
      have k44_ : ∀ t, Steps p.tables e below (T25.setTop (mkF m 148 #[oa g, oa eb, oi ln] [(.int (1 : Int32))])) t → G_ t := by
        intro t q
        refine k43_ _ ?_
        show Steps p.tables e below (T25.setTop (mkF m 143 #[oa g, oa eb, oi ln] [])) _
        refine XS.iconst X25.here hx rfl (hb hby d_method_7_143) ?_
        refine XS.goto X25.here hx rfl (pc0 := 144) (pc' := 148) rfl (hb hby d_method_7_144) (by decide) (by decide) ?_
        show Steps p.tables e below (T25.setTop (mkF m 148 #[oa g, oa eb, oi ln] [(.int (1 : Int32))])) _
        exact q
      obtain ⟨fs, hr, hrun, hended, hW, hsame⟩ := X25.leave (v := some (.int (1 : Int32))) (fun h => by rw [Bd.returns] at h; cases h)
      refine ⟨_, _, pre0 _ (k44_ _ ?_), hrun, hended, _, _, rfl, ?_, ⟨_, rfl⟩, hW, hsame.mono (by decide) (by decide)⟩
      · show Steps p.tables e below (T25.setTop (mkF m 148 #[oa g, oa eb, oi ln] [(.int (1 : Int32))])) _
        exact retN X25 hx (t := .boolean) Bd.returns (by simp) (hb hby d_method_7_148) hr
      · show QSm Z g eb ln kk cs E kE zc fv h0 n0 _ T25.heap _
        rw [hq25]
        exact ⟨rfl, N25, rfl⟩
    · have k45_ : ∀ t, Steps p.tables e below (T25.setTop (mkF m 29 #[oa g, oa eb, oi ln] [])) t → G_ t := by
        intro t q
        refine k30_ _ ?_
        show Steps p.tables e below (T25.setTop (mkF m 26 #[oa g, oa eb, oi ln] [(.int (2 : Int32)), (.int (Int32.ofNat ln))])) _
        refine XS.icmpNo X25.here hx rfl (hb hby d_method_7_26) rfl (flt hc1_).1 ?_
        show Steps p.tables e below (T25.setTop (mkF m 29 #[oa g, oa eb, oi ln] [])) _
        exact q
      have q1 : 1 < ln := Nat.lt_of_not_le fun z => hc1_ ((own_cmp (n := 2) (by omega) (by decide)).mpr (by omega))
      have k46_ : ∀ t, Steps p.tables e below (T25.setTop (mkF m 31 #[oa g, oa eb, oi ln] [(.int (1 : Int32)), (.ref g)])) t → G_ t := by
        intro t q
        refine k45_ _ ?_
        show Steps p.tables e below (T25.setTop (mkF m 29 #[oa g, oa eb, oi ln] [])) _
        refine XS.aloadN X25.here hx rfl (hb hby d_method_7_29) rfl rfl ?_
        refine XS.iconst X25.here hx rfl (hb hby d_method_7_30) ?_
        show Steps p.tables e below (T25.setTop (mkF m 31 #[oa g, oa eb, oi ln] [(.int (1 : Int32)), (.ref g)])) _
        exact q
      obtain ⟨cq47, kq47, q47a, q47b, q47c⟩ := isOf hZ hq25 Ex
      obtain ⟨_, _, ⟨T47, L47, kk47, n47⟩, -, X47, ⟨Lc47, hQ47, l47, y47, z47⟩, st47⟩ := X25.virtualBack hx (y := (⟨"java/lang/String", "charAt", "(I)C"⟩ : MethodName)) (z := (⟨"java/lang/String", "charAt", "(I)C"⟩ : MethodName)) hown (mvT hZ (hw _ (List.mem_of_getElem? (i := 127) rfl))) (mvT hZ (hw _ (List.mem_of_getElem? (i := 128) rfl))) (notFace_of_selects (args := #[]) (mvT hZ (hw _ (List.mem_of_getElem? (i := 130) rfl)))) (mvT hZ (hw _ (List.mem_of_getElem? (i := 130) rfl))) (mvT hZ (hw _ (List.mem_of_getElem? (i := 129) rfl))) (by decide) (StrChars.Road.chN (W := 0) hZ hwwordsChN (kI := 4) (hw _ (List.mem_of_getElem? (i := 21) rfl)) (i := 1) Ex Vx Cx Ax (StrChars.Road.codOf rfl (fun c hc => (hOK c hc).2)) (own_bd hOK) (O2.ext X00.2) hzc (O4.ext X00.2) rfv (Nat.le_trans (show cs.length ≤ 8 by omega) (by decide)) (by omega) rfl (by decide) (by decide)) q47a q47c (g := (mkF m 31 #[oa g, oa eb, oi ln] [(.int (1 : Int32)), (.ref g)])) rfl (by rw [hml]; rfl) (Steps.refl _) (argsL := [(.int (1 : Int32))]) (rest := []) (lenOf pd_27757 rfl) rfl (by show 2 * 0 + _ ≤ _; exact Nat.le_of_eq rfl) (hb hby d_method_7_31) (fun _ _ => ⟨rfl, hq25, (by decide : 0 + 0 + 0 + 0 ≤ _), (by decide : 0 + 0 + 0 + 0 ≤ _)⟩)
      dsimp only [Pt.U, Pt.locs, Pt.cells, Pt.slots] at X47 l47 y47 z47 st47 hQ47
      rw [l47, y47, z47] at X47
      obtain ⟨rfl, rfl, hq47⟩ := hQ47
      have N47 := Fr.app N25 (Fr.nil n0)
      have k48_ : ∀ t, Steps p.tables e below (T47.setTop (mkF m 34 #[oa g, oa eb, oi ln] [(.int (cs.getD 1 0))])) t → G_ t := fun t q => k46_ t (st47.trans q)
      obtain ⟨cl49, Ar49, q49, S49, M49, H49, G49⟩ := id VE
      have k50_ : ∀ t, Steps p.tables e below (T47.setTop (mkF m 37 #[oa g, oa eb, oi ln] [(.int (E.getD 1 0)), (.int (cs.getD 1 0))])) t → G_ t := by
        intro t q
        refine k48_ _ ?_
        show Steps p.tables e below (T47.setTop (mkF m 34 #[oa g, oa eb, oi ln] [(.int (cs.getD 1 0))])) _
        refine XS.aloadN X47.here hx rfl (hb hby d_method_7_34) rfl rfl ?_
        refine XS.iconst X47.here hx rfl (hb hby d_method_7_35) ?_
        refine X47.caload hx (j := (1 : Int32)) (v := (.int (E.getD 1 0))) (by rw [hq47]; exact Ar49.1) (State.isArrayOf_alike hZ.alike Ar49.2.1) Ar49.2.2 (inb_of S49 (own_inr (n := 8) (i := 1) (by decide) (by decide))) (Has.at H49 (inb_of S49 (own_inr (n := 8) (i := 1) (by decide) (by decide))) (own_gi _ (by decide))) (g := (mkF m 36 #[oa g, oa eb, oi ln] [(.int (1 : Int32)), (.ref eb), (.int (cs.getD 1 0))])) rfl rfl (hb hby d_method_7_36) _ ?_
        show Steps p.tables e below (T47.setTop (mkF m 37 #[oa g, oa eb, oi ln] [(.int (E.getD 1 0)), (.int (cs.getD 1 0))])) _
        exact q
      have k51_ : ∀ t, Steps p.tables e below (T47.setTop (mkF m 40 #[oa g, oa eb, oi ln] [])) t → G_ t := by
        intro t q
        refine k50_ _ ?_
        show Steps p.tables e below (T47.setTop (mkF m 37 #[oa g, oa eb, oi ln] [(.int (E.getD 1 0)), (.int (cs.getD 1 0))])) _
        refine XS.icmpNo X47.here hx rfl (hb hby d_method_7_37) rfl (teq (hE 1 q1)).2 ?_
        show Steps p.tables e below (T47.setTop (mkF m 40 #[oa g, oa eb, oi ln] [])) _
        exact q
      have k52_ : ∀ t, Steps p.tables e below (T47.setTop (mkF m 42 #[oa g, oa eb, oi ln] [(.int (3 : Int32)), (.int (Int32.ofNat ln))])) t → G_ t := by
        intro t q
        refine k51_ _ ?_
        show Steps p.tables e below (T47.setTop (mkF m 40 #[oa g, oa eb, oi ln] [])) _
        refine XS.iloadN X47.here hx rfl (hb hby d_method_7_40) rfl ?_
        refine XS.iconst X47.here hx rfl (hb hby d_method_7_41) ?_
        show Steps p.tables e below (T47.setTop (mkF m 42 #[oa g, oa eb, oi ln] [(.int (3 : Int32)), (.int (Int32.ofNat ln))])) _
        exact q
      by_cases hc2_ : (Int32.ofNat ln) < (3 : Int32)
      · have k53_ : ∀ t, Steps p.tables e below (T47.setTop (mkF m 56 #[oa g, oa eb, oi ln] [])) t → G_ t := by
          intro t q
          refine k52_ _ ?_
          show Steps p.tables e below (T47.setTop (mkF m 42 #[oa g, oa eb, oi ln] [(.int (3 : Int32)), (.int (Int32.ofNat ln))])) _
          refine XS.icmpYes X47.here hx rfl (pc0 := 42) (pc' := 56) rfl (hb hby d_method_7_42) rfl (tlt hc2_).1 (by decide) (by decide) ?_
          show Steps p.tables e below (T47.setTop (mkF m 56 #[oa g, oa eb, oi ln] [])) _
          exact q
        have k54_ : ∀ t, Steps p.tables e below (T47.setTop (mkF m 58 #[oa g, oa eb, oi ln] [(.int (4 : Int32)), (.int (Int32.ofNat ln))])) t → G_ t := by
          intro t q
          refine k53_ _ ?_
          show Steps p.tables e below (T47.setTop (mkF m 56 #[oa g, oa eb, oi ln] [])) _
          refine XS.iloadN X47.here hx rfl (hb hby d_method_7_56) rfl ?_
          refine XS.iconst X47.here hx rfl (hb hby d_method_7_57) ?_
          show Steps p.tables e below (T47.setTop (mkF m 58 #[oa g, oa eb, oi ln] [(.int (4 : Int32)), (.int (Int32.ofNat ln))])) _
          exact q
        have k55_ : ∀ t, Steps p.tables e below (T47.setTop (mkF m 72 #[oa g, oa eb, oi ln] [])) t → G_ t := by
          intro t q
          refine k54_ _ ?_
          show Steps p.tables e below (T47.setTop (mkF m 58 #[oa g, oa eb, oi ln] [(.int (4 : Int32)), (.int (Int32.ofNat ln))])) _
          refine XS.icmpYes X47.here hx rfl (pc0 := 58) (pc' := 72) rfl (hb hby d_method_7_58) rfl (tlt ((own_cmp (n := 4) (by omega) (by decide)).mpr (Nat.lt_of_lt_of_le ((own_cmp (n := 3) (by omega) (by decide)).mp hc2_) (by decide)))).1 (by decide) (by decide) ?_
          show Steps p.tables e below (T47.setTop (mkF m 72 #[oa g, oa eb, oi ln] [])) _
          exact q
        have k56_ : ∀ t, Steps p.tables e below (T47.setTop (mkF m 74 #[oa g, oa eb, oi ln] [(.int (5 : Int32)), (.int (Int32.ofNat ln))])) t → G_ t := by
          intro t q
          refine k55_ _ ?_
          show Steps p.tables e below (T47.setTop (mkF m 72 #[oa g, oa eb, oi ln] [])) _
          refine XS.iloadN X47.here hx rfl (hb hby d_method_7_72) rfl ?_
          refine XS.iconst X47.here hx rfl (hb hby d_method_7_73) ?_
          show Steps p.tables e below (T47.setTop (mkF m 74 #[oa g, oa eb, oi ln] [(.int (5 : Int32)), (.int (Int32.ofNat ln))])) _
          exact q
        have k57_ : ∀ t, Steps p.tables e below (T47.setTop (mkF m 88 #[oa g, oa eb, oi ln] [])) t → G_ t := by
          intro t q
          refine k56_ _ ?_
          show Steps p.tables e below (T47.setTop (mkF m 74 #[oa g, oa eb, oi ln] [(.int (5 : Int32)), (.int (Int32.ofNat ln))])) _
          refine XS.icmpYes X47.here hx rfl (pc0 := 74) (pc' := 88) rfl (hb hby d_method_7_74) rfl (tlt ((own_cmp (n := 5) (by omega) (by decide)).mpr (Nat.lt_of_lt_of_le ((own_cmp (n := 3) (by omega) (by decide)).mp hc2_) (by decide)))).1 (by decide) (by decide) ?_
          show Steps p.tables e below (T47.setTop (mkF m 88 #[oa g, oa eb, oi ln] [])) _
          exact q
        have k58_ : ∀ t, Steps p.tables e below (T47.setTop (mkF m 91 #[oa g, oa eb, oi ln] [(.int (6 : Int32)), (.int (Int32.ofNat ln))])) t → G_ t := by
          intro t q
          refine k57_ _ ?_
          show Steps p.tables e below (T47.setTop (mkF m 88 #[oa g, oa eb, oi ln] [])) _
          refine XS.iloadN X47.here hx rfl (hb hby d_method_7_88) rfl ?_
          refine XS.bipush X47.here hx rfl (hb hby d_method_7_89) ?_
          show Steps p.tables e below (T47.setTop (mkF m 91 #[oa g, oa eb, oi ln] [(.int (6 : Int32)), (.int (Int32.ofNat ln))])) _
          exact q
        have k59_ : ∀ t, Steps p.tables e below (T47.setTop (mkF m 105 #[oa g, oa eb, oi ln] [])) t → G_ t := by
          intro t q
          refine k58_ _ ?_
          show Steps p.tables e below (T47.setTop (mkF m 91 #[oa g, oa eb, oi ln] [(.int (6 : Int32)), (.int (Int32.ofNat ln))])) _
          refine XS.icmpYes X47.here hx rfl (pc0 := 91) (pc' := 105) rfl (hb hby d_method_7_91) rfl (tlt ((own_cmp (n := 6) (by omega) (by decide)).mpr (Nat.lt_of_lt_of_le ((own_cmp (n := 3) (by omega) (by decide)).mp hc2_) (by decide)))).1 (by decide) (by decide) ?_
          show Steps p.tables e below (T47.setTop (mkF m 105 #[oa g, oa eb, oi ln] [])) _
          exact q
        have k60_ : ∀ t, Steps p.tables e below (T47.setTop (mkF m 108 #[oa g, oa eb, oi ln] [(.int (7 : Int32)), (.int (Int32.ofNat ln))])) t → G_ t := by
          intro t q
          refine k59_ _ ?_
          show Steps p.tables e below (T47.setTop (mkF m 105 #[oa g, oa eb, oi ln] [])) _
          refine XS.iloadN X47.here hx rfl (hb hby d_method_7_105) rfl ?_
          refine XS.bipush X47.here hx rfl (hb hby d_method_7_106) ?_
          show Steps p.tables e below (T47.setTop (mkF m 108 #[oa g, oa eb, oi ln] [(.int (7 : Int32)), (.int (Int32.ofNat ln))])) _
          exact q
        have k61_ : ∀ t, Steps p.tables e below (T47.setTop (mkF m 124 #[oa g, oa eb, oi ln] [])) t → G_ t := by
          intro t q
          refine k60_ _ ?_
          show Steps p.tables e below (T47.setTop (mkF m 108 #[oa g, oa eb, oi ln] [(.int (7 : Int32)), (.int (Int32.ofNat ln))])) _
          refine XS.icmpYes X47.here hx rfl (pc0 := 108) (pc' := 124) rfl (hb hby d_method_7_108) rfl (tlt ((own_cmp (n := 7) (by omega) (by decide)).mpr (Nat.lt_of_lt_of_le ((own_cmp (n := 3) (by omega) (by decide)).mp hc2_) (by decide)))).1 (by decide) (by decide) ?_
          show Steps p.tables e below (T47.setTop (mkF m 124 #[oa g, oa eb, oi ln] [])) _
          exact q
        have k62_ : ∀ t, Steps p.tables e below (T47.setTop (mkF m 127 #[oa g, oa eb, oi ln] [(.int (8 : Int32)), (.int (Int32.ofNat ln))])) t → G_ t := by
          intro t q
          refine k61_ _ ?_
          show Steps p.tables e below (T47.setTop (mkF m 124 #[oa g, oa eb, oi ln] [])) _
          refine XS.iloadN X47.here hx rfl (hb hby d_method_7_124) rfl ?_
          refine XS.bipush X47.here hx rfl (hb hby d_method_7_125) ?_
          show Steps p.tables e below (T47.setTop (mkF m 127 #[oa g, oa eb, oi ln] [(.int (8 : Int32)), (.int (Int32.ofNat ln))])) _
          exact q
        have k63_ : ∀ t, Steps p.tables e below (T47.setTop (mkF m 143 #[oa g, oa eb, oi ln] [])) t → G_ t := by
          intro t q
          refine k62_ _ ?_
          show Steps p.tables e below (T47.setTop (mkF m 127 #[oa g, oa eb, oi ln] [(.int (8 : Int32)), (.int (Int32.ofNat ln))])) _
          refine XS.icmpYes X47.here hx rfl (pc0 := 127) (pc' := 143) rfl (hb hby d_method_7_127) rfl (tlt ((own_cmp (n := 8) (by omega) (by decide)).mpr (Nat.lt_of_lt_of_le ((own_cmp (n := 3) (by omega) (by decide)).mp hc2_) (by decide)))).1 (by decide) (by decide) ?_
          show Steps p.tables e below (T47.setTop (mkF m 143 #[oa g, oa eb, oi ln] [])) _
          exact q
        have k64_ : ∀ t, Steps p.tables e below (T47.setTop (mkF m 148 #[oa g, oa eb, oi ln] [(.int (1 : Int32))])) t → G_ t := by
          intro t q
          refine k63_ _ ?_
          show Steps p.tables e below (T47.setTop (mkF m 143 #[oa g, oa eb, oi ln] [])) _
          refine XS.iconst X47.here hx rfl (hb hby d_method_7_143) ?_
          refine XS.goto X47.here hx rfl (pc0 := 144) (pc' := 148) rfl (hb hby d_method_7_144) (by decide) (by decide) ?_
          show Steps p.tables e below (T47.setTop (mkF m 148 #[oa g, oa eb, oi ln] [(.int (1 : Int32))])) _
          exact q
        obtain ⟨fs, hr, hrun, hended, hW, hsame⟩ := X47.leave (v := some (.int (1 : Int32))) (fun h => by rw [Bd.returns] at h; cases h)
        refine ⟨_, _, pre0 _ (k64_ _ ?_), hrun, hended, _, _, rfl, ?_, ⟨_, rfl⟩, hW, hsame.mono (by decide) (by decide)⟩
        · show Steps p.tables e below (T47.setTop (mkF m 148 #[oa g, oa eb, oi ln] [(.int (1 : Int32))])) _
          exact retN X47 hx (t := .boolean) Bd.returns (by simp) (hb hby d_method_7_148) hr
        · show QSm Z g eb ln kk cs E kE zc fv h0 n0 _ T47.heap _
          rw [hq47]
          exact ⟨rfl, N47, rfl⟩
      · have k65_ : ∀ t, Steps p.tables e below (T47.setTop (mkF m 45 #[oa g, oa eb, oi ln] [])) t → G_ t := by
          intro t q
          refine k52_ _ ?_
          show Steps p.tables e below (T47.setTop (mkF m 42 #[oa g, oa eb, oi ln] [(.int (3 : Int32)), (.int (Int32.ofNat ln))])) _
          refine XS.icmpNo X47.here hx rfl (hb hby d_method_7_42) rfl (flt hc2_).1 ?_
          show Steps p.tables e below (T47.setTop (mkF m 45 #[oa g, oa eb, oi ln] [])) _
          exact q
        have q2 : 2 < ln := Nat.lt_of_not_le fun z => hc2_ ((own_cmp (n := 3) (by omega) (by decide)).mpr (by omega))
        have k66_ : ∀ t, Steps p.tables e below (T47.setTop (mkF m 47 #[oa g, oa eb, oi ln] [(.int (2 : Int32)), (.ref g)])) t → G_ t := by
          intro t q
          refine k65_ _ ?_
          show Steps p.tables e below (T47.setTop (mkF m 45 #[oa g, oa eb, oi ln] [])) _
          refine XS.aloadN X47.here hx rfl (hb hby d_method_7_45) rfl rfl ?_
          refine XS.iconst X47.here hx rfl (hb hby d_method_7_46) ?_
          show Steps p.tables e below (T47.setTop (mkF m 47 #[oa g, oa eb, oi ln] [(.int (2 : Int32)), (.ref g)])) _
          exact q
        obtain ⟨cq67, kq67, q67a, q67b, q67c⟩ := isOf hZ hq47 Ex
        obtain ⟨_, _, ⟨T67, L67, kk67, n67⟩, -, X67, ⟨Lc67, hQ67, l67, y67, z67⟩, st67⟩ := X47.virtualBack hx (y := (⟨"java/lang/String", "charAt", "(I)C"⟩ : MethodName)) (z := (⟨"java/lang/String", "charAt", "(I)C"⟩ : MethodName)) hown (mvT hZ (hw _ (List.mem_of_getElem? (i := 127) rfl))) (mvT hZ (hw _ (List.mem_of_getElem? (i := 128) rfl))) (notFace_of_selects (args := #[]) (mvT hZ (hw _ (List.mem_of_getElem? (i := 130) rfl)))) (mvT hZ (hw _ (List.mem_of_getElem? (i := 130) rfl))) (mvT hZ (hw _ (List.mem_of_getElem? (i := 129) rfl))) (by decide) (StrChars.Road.chN (W := 0) hZ hwwordsChN (kI := 4) (hw _ (List.mem_of_getElem? (i := 21) rfl)) (i := 2) Ex Vx Cx Ax (StrChars.Road.codOf rfl (fun c hc => (hOK c hc).2)) (own_bd hOK) (O2.ext X00.2) hzc (O4.ext X00.2) rfv (Nat.le_trans (show cs.length ≤ 8 by omega) (by decide)) (by omega) rfl (by decide) (by decide)) q67a q67c (g := (mkF m 47 #[oa g, oa eb, oi ln] [(.int (2 : Int32)), (.ref g)])) rfl (by rw [hml]; rfl) (Steps.refl _) (argsL := [(.int (2 : Int32))]) (rest := []) (lenOf pd_27757 rfl) rfl (by show 2 * 0 + _ ≤ _; exact Nat.le_of_eq rfl) (hb hby d_method_7_47) (fun _ _ => ⟨rfl, hq47, (by decide : 0 + 0 + 0 + 0 + 0 ≤ _), (by decide : 0 + 0 + 0 + 0 + 0 ≤ _)⟩)
        dsimp only [Pt.U, Pt.locs, Pt.cells, Pt.slots] at X67 l67 y67 z67 st67 hQ67
        rw [l67, y67, z67] at X67
        obtain ⟨rfl, rfl, hq67⟩ := hQ67
        have N67 := Fr.app N47 (Fr.nil n0)
        have k68_ : ∀ t, Steps p.tables e below (T67.setTop (mkF m 50 #[oa g, oa eb, oi ln] [(.int (cs.getD 2 0))])) t → G_ t := fun t q => k66_ t (st67.trans q)
        obtain ⟨cl69, Ar69, q69, S69, M69, H69, G69⟩ := id VE
        have k70_ : ∀ t, Steps p.tables e below (T67.setTop (mkF m 53 #[oa g, oa eb, oi ln] [(.int (E.getD 2 0)), (.int (cs.getD 2 0))])) t → G_ t := by
          intro t q
          refine k68_ _ ?_
          show Steps p.tables e below (T67.setTop (mkF m 50 #[oa g, oa eb, oi ln] [(.int (cs.getD 2 0))])) _
          refine XS.aloadN X67.here hx rfl (hb hby d_method_7_50) rfl rfl ?_
          refine XS.iconst X67.here hx rfl (hb hby d_method_7_51) ?_
          refine X67.caload hx (j := (2 : Int32)) (v := (.int (E.getD 2 0))) (by rw [hq67]; exact Ar69.1) (State.isArrayOf_alike hZ.alike Ar69.2.1) Ar69.2.2 (inb_of S69 (own_inr (n := 8) (i := 2) (by decide) (by decide))) (Has.at H69 (inb_of S69 (own_inr (n := 8) (i := 2) (by decide) (by decide))) (own_gi _ (by decide))) (g := (mkF m 52 #[oa g, oa eb, oi ln] [(.int (2 : Int32)), (.ref eb), (.int (cs.getD 2 0))])) rfl rfl (hb hby d_method_7_52) _ ?_
          show Steps p.tables e below (T67.setTop (mkF m 53 #[oa g, oa eb, oi ln] [(.int (E.getD 2 0)), (.int (cs.getD 2 0))])) _
          exact q
        have k71_ : ∀ t, Steps p.tables e below (T67.setTop (mkF m 56 #[oa g, oa eb, oi ln] [])) t → G_ t := by
          intro t q
          refine k70_ _ ?_
          show Steps p.tables e below (T67.setTop (mkF m 53 #[oa g, oa eb, oi ln] [(.int (E.getD 2 0)), (.int (cs.getD 2 0))])) _
          refine XS.icmpNo X67.here hx rfl (hb hby d_method_7_53) rfl (teq (hE 2 q2)).2 ?_
          show Steps p.tables e below (T67.setTop (mkF m 56 #[oa g, oa eb, oi ln] [])) _
          exact q
        have k72_ : ∀ t, Steps p.tables e below (T67.setTop (mkF m 58 #[oa g, oa eb, oi ln] [(.int (4 : Int32)), (.int (Int32.ofNat ln))])) t → G_ t := by
          intro t q
          refine k71_ _ ?_
          show Steps p.tables e below (T67.setTop (mkF m 56 #[oa g, oa eb, oi ln] [])) _
          refine XS.iloadN X67.here hx rfl (hb hby d_method_7_56) rfl ?_
          refine XS.iconst X67.here hx rfl (hb hby d_method_7_57) ?_
          show Steps p.tables e below (T67.setTop (mkF m 58 #[oa g, oa eb, oi ln] [(.int (4 : Int32)), (.int (Int32.ofNat ln))])) _
          exact q
        by_cases hc3_ : (Int32.ofNat ln) < (4 : Int32)
        · have k73_ : ∀ t, Steps p.tables e below (T67.setTop (mkF m 72 #[oa g, oa eb, oi ln] [])) t → G_ t := by
            intro t q
            refine k72_ _ ?_
            show Steps p.tables e below (T67.setTop (mkF m 58 #[oa g, oa eb, oi ln] [(.int (4 : Int32)), (.int (Int32.ofNat ln))])) _
            refine XS.icmpYes X67.here hx rfl (pc0 := 58) (pc' := 72) rfl (hb hby d_method_7_58) rfl (tlt hc3_).1 (by decide) (by decide) ?_
            show Steps p.tables e below (T67.setTop (mkF m 72 #[oa g, oa eb, oi ln] [])) _
            exact q
          have k74_ : ∀ t, Steps p.tables e below (T67.setTop (mkF m 74 #[oa g, oa eb, oi ln] [(.int (5 : Int32)), (.int (Int32.ofNat ln))])) t → G_ t := by
            intro t q
            refine k73_ _ ?_
            show Steps p.tables e below (T67.setTop (mkF m 72 #[oa g, oa eb, oi ln] [])) _
            refine XS.iloadN X67.here hx rfl (hb hby d_method_7_72) rfl ?_
            refine XS.iconst X67.here hx rfl (hb hby d_method_7_73) ?_
            show Steps p.tables e below (T67.setTop (mkF m 74 #[oa g, oa eb, oi ln] [(.int (5 : Int32)), (.int (Int32.ofNat ln))])) _
            exact q
          have k75_ : ∀ t, Steps p.tables e below (T67.setTop (mkF m 88 #[oa g, oa eb, oi ln] [])) t → G_ t := by
            intro t q
            refine k74_ _ ?_
            show Steps p.tables e below (T67.setTop (mkF m 74 #[oa g, oa eb, oi ln] [(.int (5 : Int32)), (.int (Int32.ofNat ln))])) _
            refine XS.icmpYes X67.here hx rfl (pc0 := 74) (pc' := 88) rfl (hb hby d_method_7_74) rfl (tlt ((own_cmp (n := 5) (by omega) (by decide)).mpr (Nat.lt_of_lt_of_le ((own_cmp (n := 4) (by omega) (by decide)).mp hc3_) (by decide)))).1 (by decide) (by decide) ?_
            show Steps p.tables e below (T67.setTop (mkF m 88 #[oa g, oa eb, oi ln] [])) _
            exact q
          have k76_ : ∀ t, Steps p.tables e below (T67.setTop (mkF m 91 #[oa g, oa eb, oi ln] [(.int (6 : Int32)), (.int (Int32.ofNat ln))])) t → G_ t := by
            intro t q
            refine k75_ _ ?_
            show Steps p.tables e below (T67.setTop (mkF m 88 #[oa g, oa eb, oi ln] [])) _
            refine XS.iloadN X67.here hx rfl (hb hby d_method_7_88) rfl ?_
            refine XS.bipush X67.here hx rfl (hb hby d_method_7_89) ?_
            show Steps p.tables e below (T67.setTop (mkF m 91 #[oa g, oa eb, oi ln] [(.int (6 : Int32)), (.int (Int32.ofNat ln))])) _
            exact q
          have k77_ : ∀ t, Steps p.tables e below (T67.setTop (mkF m 105 #[oa g, oa eb, oi ln] [])) t → G_ t := by
            intro t q
            refine k76_ _ ?_
            show Steps p.tables e below (T67.setTop (mkF m 91 #[oa g, oa eb, oi ln] [(.int (6 : Int32)), (.int (Int32.ofNat ln))])) _
            refine XS.icmpYes X67.here hx rfl (pc0 := 91) (pc' := 105) rfl (hb hby d_method_7_91) rfl (tlt ((own_cmp (n := 6) (by omega) (by decide)).mpr (Nat.lt_of_lt_of_le ((own_cmp (n := 4) (by omega) (by decide)).mp hc3_) (by decide)))).1 (by decide) (by decide) ?_
            show Steps p.tables e below (T67.setTop (mkF m 105 #[oa g, oa eb, oi ln] [])) _
            exact q
          have k78_ : ∀ t, Steps p.tables e below (T67.setTop (mkF m 108 #[oa g, oa eb, oi ln] [(.int (7 : Int32)), (.int (Int32.ofNat ln))])) t → G_ t := by
            intro t q
            refine k77_ _ ?_
            show Steps p.tables e below (T67.setTop (mkF m 105 #[oa g, oa eb, oi ln] [])) _
            refine XS.iloadN X67.here hx rfl (hb hby d_method_7_105) rfl ?_
            refine XS.bipush X67.here hx rfl (hb hby d_method_7_106) ?_
            show Steps p.tables e below (T67.setTop (mkF m 108 #[oa g, oa eb, oi ln] [(.int (7 : Int32)), (.int (Int32.ofNat ln))])) _
            exact q
          have k79_ : ∀ t, Steps p.tables e below (T67.setTop (mkF m 124 #[oa g, oa eb, oi ln] [])) t → G_ t := by
            intro t q
            refine k78_ _ ?_
            show Steps p.tables e below (T67.setTop (mkF m 108 #[oa g, oa eb, oi ln] [(.int (7 : Int32)), (.int (Int32.ofNat ln))])) _
            refine XS.icmpYes X67.here hx rfl (pc0 := 108) (pc' := 124) rfl (hb hby d_method_7_108) rfl (tlt ((own_cmp (n := 7) (by omega) (by decide)).mpr (Nat.lt_of_lt_of_le ((own_cmp (n := 4) (by omega) (by decide)).mp hc3_) (by decide)))).1 (by decide) (by decide) ?_
            show Steps p.tables e below (T67.setTop (mkF m 124 #[oa g, oa eb, oi ln] [])) _
            exact q
          have k80_ : ∀ t, Steps p.tables e below (T67.setTop (mkF m 127 #[oa g, oa eb, oi ln] [(.int (8 : Int32)), (.int (Int32.ofNat ln))])) t → G_ t := by
            intro t q
            refine k79_ _ ?_
            show Steps p.tables e below (T67.setTop (mkF m 124 #[oa g, oa eb, oi ln] [])) _
            refine XS.iloadN X67.here hx rfl (hb hby d_method_7_124) rfl ?_
            refine XS.bipush X67.here hx rfl (hb hby d_method_7_125) ?_
            show Steps p.tables e below (T67.setTop (mkF m 127 #[oa g, oa eb, oi ln] [(.int (8 : Int32)), (.int (Int32.ofNat ln))])) _
            exact q
          have k81_ : ∀ t, Steps p.tables e below (T67.setTop (mkF m 143 #[oa g, oa eb, oi ln] [])) t → G_ t := by
            intro t q
            refine k80_ _ ?_
            show Steps p.tables e below (T67.setTop (mkF m 127 #[oa g, oa eb, oi ln] [(.int (8 : Int32)), (.int (Int32.ofNat ln))])) _
            refine XS.icmpYes X67.here hx rfl (pc0 := 127) (pc' := 143) rfl (hb hby d_method_7_127) rfl (tlt ((own_cmp (n := 8) (by omega) (by decide)).mpr (Nat.lt_of_lt_of_le ((own_cmp (n := 4) (by omega) (by decide)).mp hc3_) (by decide)))).1 (by decide) (by decide) ?_
            show Steps p.tables e below (T67.setTop (mkF m 143 #[oa g, oa eb, oi ln] [])) _
            exact q
          have k82_ : ∀ t, Steps p.tables e below (T67.setTop (mkF m 148 #[oa g, oa eb, oi ln] [(.int (1 : Int32))])) t → G_ t := by
            intro t q
            refine k81_ _ ?_
            show Steps p.tables e below (T67.setTop (mkF m 143 #[oa g, oa eb, oi ln] [])) _
            refine XS.iconst X67.here hx rfl (hb hby d_method_7_143) ?_
            refine XS.goto X67.here hx rfl (pc0 := 144) (pc' := 148) rfl (hb hby d_method_7_144) (by decide) (by decide) ?_
            show Steps p.tables e below (T67.setTop (mkF m 148 #[oa g, oa eb, oi ln] [(.int (1 : Int32))])) _
            exact q
          obtain ⟨fs, hr, hrun, hended, hW, hsame⟩ := X67.leave (v := some (.int (1 : Int32))) (fun h => by rw [Bd.returns] at h; cases h)
          refine ⟨_, _, pre0 _ (k82_ _ ?_), hrun, hended, _, _, rfl, ?_, ⟨_, rfl⟩, hW, hsame.mono (by decide) (by decide)⟩
          · show Steps p.tables e below (T67.setTop (mkF m 148 #[oa g, oa eb, oi ln] [(.int (1 : Int32))])) _
            exact retN X67 hx (t := .boolean) Bd.returns (by simp) (hb hby d_method_7_148) hr
          · show QSm Z g eb ln kk cs E kE zc fv h0 n0 _ T67.heap _
            rw [hq67]
            exact ⟨rfl, N67, rfl⟩
        · have k83_ : ∀ t, Steps p.tables e below (T67.setTop (mkF m 61 #[oa g, oa eb, oi ln] [])) t → G_ t := by
            intro t q
            refine k72_ _ ?_
            show Steps p.tables e below (T67.setTop (mkF m 58 #[oa g, oa eb, oi ln] [(.int (4 : Int32)), (.int (Int32.ofNat ln))])) _
            refine XS.icmpNo X67.here hx rfl (hb hby d_method_7_58) rfl (flt hc3_).1 ?_
            show Steps p.tables e below (T67.setTop (mkF m 61 #[oa g, oa eb, oi ln] [])) _
            exact q
          have q3 : 3 < ln := Nat.lt_of_not_le fun z => hc3_ ((own_cmp (n := 4) (by omega) (by decide)).mpr (by omega))
          have k84_ : ∀ t, Steps p.tables e below (T67.setTop (mkF m 63 #[oa g, oa eb, oi ln] [(.int (3 : Int32)), (.ref g)])) t → G_ t := by
            intro t q
            refine k83_ _ ?_
            show Steps p.tables e below (T67.setTop (mkF m 61 #[oa g, oa eb, oi ln] [])) _
            refine XS.aloadN X67.here hx rfl (hb hby d_method_7_61) rfl rfl ?_
            refine XS.iconst X67.here hx rfl (hb hby d_method_7_62) ?_
            show Steps p.tables e below (T67.setTop (mkF m 63 #[oa g, oa eb, oi ln] [(.int (3 : Int32)), (.ref g)])) _
            exact q
          obtain ⟨cq85, kq85, q85a, q85b, q85c⟩ := isOf hZ hq67 Ex
          obtain ⟨_, _, ⟨T85, L85, kk85, n85⟩, -, X85, ⟨Lc85, hQ85, l85, y85, z85⟩, st85⟩ := X67.virtualBack hx (y := (⟨"java/lang/String", "charAt", "(I)C"⟩ : MethodName)) (z := (⟨"java/lang/String", "charAt", "(I)C"⟩ : MethodName)) hown (mvT hZ (hw _ (List.mem_of_getElem? (i := 127) rfl))) (mvT hZ (hw _ (List.mem_of_getElem? (i := 128) rfl))) (notFace_of_selects (args := #[]) (mvT hZ (hw _ (List.mem_of_getElem? (i := 130) rfl)))) (mvT hZ (hw _ (List.mem_of_getElem? (i := 130) rfl))) (mvT hZ (hw _ (List.mem_of_getElem? (i := 129) rfl))) (by decide) (StrChars.Road.chN (W := 0) hZ hwwordsChN (kI := 4) (hw _ (List.mem_of_getElem? (i := 21) rfl)) (i := 3) Ex Vx Cx Ax (StrChars.Road.codOf rfl (fun c hc => (hOK c hc).2)) (own_bd hOK) (O2.ext X00.2) hzc (O4.ext X00.2) rfv (Nat.le_trans (show cs.length ≤ 8 by omega) (by decide)) (by omega) rfl (by decide) (by decide)) q85a q85c (g := (mkF m 63 #[oa g, oa eb, oi ln] [(.int (3 : Int32)), (.ref g)])) rfl (by rw [hml]; rfl) (Steps.refl _) (argsL := [(.int (3 : Int32))]) (rest := []) (lenOf pd_27757 rfl) rfl (by show 2 * 0 + _ ≤ _; exact Nat.le_of_eq rfl) (hb hby d_method_7_63) (fun _ _ => ⟨rfl, hq67, (by decide : 0 + 0 + 0 + 0 + 0 + 0 ≤ _), (by decide : 0 + 0 + 0 + 0 + 0 + 0 ≤ _)⟩)
          dsimp only [Pt.U, Pt.locs, Pt.cells, Pt.slots] at X85 l85 y85 z85 st85 hQ85
          rw [l85, y85, z85] at X85
          obtain ⟨rfl, rfl, hq85⟩ := hQ85
          have N85 := Fr.app N67 (Fr.nil n0)
          have k86_ : ∀ t, Steps p.tables e below (T85.setTop (mkF m 66 #[oa g, oa eb, oi ln] [(.int (cs.getD 3 0))])) t → G_ t := fun t q => k84_ t (st85.trans q)
          obtain ⟨cl87, Ar87, q87, S87, M87, H87, G87⟩ := id VE
          have k88_ : ∀ t, Steps p.tables e below (T85.setTop (mkF m 69 #[oa g, oa eb, oi ln] [(.int (E.getD 3 0)), (.int (cs.getD 3 0))])) t → G_ t := by
            intro t q
            refine k86_ _ ?_
            show Steps p.tables e below (T85.setTop (mkF m 66 #[oa g, oa eb, oi ln] [(.int (cs.getD 3 0))])) _
            refine XS.aloadN X85.here hx rfl (hb hby d_method_7_66) rfl rfl ?_
            refine XS.iconst X85.here hx rfl (hb hby d_method_7_67) ?_
            refine X85.caload hx (j := (3 : Int32)) (v := (.int (E.getD 3 0))) (by rw [hq85]; exact Ar87.1) (State.isArrayOf_alike hZ.alike Ar87.2.1) Ar87.2.2 (inb_of S87 (own_inr (n := 8) (i := 3) (by decide) (by decide))) (Has.at H87 (inb_of S87 (own_inr (n := 8) (i := 3) (by decide) (by decide))) (own_gi _ (by decide))) (g := (mkF m 68 #[oa g, oa eb, oi ln] [(.int (3 : Int32)), (.ref eb), (.int (cs.getD 3 0))])) rfl rfl (hb hby d_method_7_68) _ ?_
            show Steps p.tables e below (T85.setTop (mkF m 69 #[oa g, oa eb, oi ln] [(.int (E.getD 3 0)), (.int (cs.getD 3 0))])) _
            exact q
          have k89_ : ∀ t, Steps p.tables e below (T85.setTop (mkF m 72 #[oa g, oa eb, oi ln] [])) t → G_ t := by
            intro t q
            refine k88_ _ ?_
            show Steps p.tables e below (T85.setTop (mkF m 69 #[oa g, oa eb, oi ln] [(.int (E.getD 3 0)), (.int (cs.getD 3 0))])) _
            refine XS.icmpNo X85.here hx rfl (hb hby d_method_7_69) rfl (teq (hE 3 q3)).2 ?_
            show Steps p.tables e below (T85.setTop (mkF m 72 #[oa g, oa eb, oi ln] [])) _
            exact q
          have k90_ : ∀ t, Steps p.tables e below (T85.setTop (mkF m 74 #[oa g, oa eb, oi ln] [(.int (5 : Int32)), (.int (Int32.ofNat ln))])) t → G_ t := by
            intro t q
            refine k89_ _ ?_
            show Steps p.tables e below (T85.setTop (mkF m 72 #[oa g, oa eb, oi ln] [])) _
            refine XS.iloadN X85.here hx rfl (hb hby d_method_7_72) rfl ?_
            refine XS.iconst X85.here hx rfl (hb hby d_method_7_73) ?_
            show Steps p.tables e below (T85.setTop (mkF m 74 #[oa g, oa eb, oi ln] [(.int (5 : Int32)), (.int (Int32.ofNat ln))])) _
            exact q
          by_cases hc4_ : (Int32.ofNat ln) < (5 : Int32)
          · have k91_ : ∀ t, Steps p.tables e below (T85.setTop (mkF m 88 #[oa g, oa eb, oi ln] [])) t → G_ t := by
              intro t q
              refine k90_ _ ?_
              show Steps p.tables e below (T85.setTop (mkF m 74 #[oa g, oa eb, oi ln] [(.int (5 : Int32)), (.int (Int32.ofNat ln))])) _
              refine XS.icmpYes X85.here hx rfl (pc0 := 74) (pc' := 88) rfl (hb hby d_method_7_74) rfl (tlt hc4_).1 (by decide) (by decide) ?_
              show Steps p.tables e below (T85.setTop (mkF m 88 #[oa g, oa eb, oi ln] [])) _
              exact q
            have k92_ : ∀ t, Steps p.tables e below (T85.setTop (mkF m 91 #[oa g, oa eb, oi ln] [(.int (6 : Int32)), (.int (Int32.ofNat ln))])) t → G_ t := by
              intro t q
              refine k91_ _ ?_
              show Steps p.tables e below (T85.setTop (mkF m 88 #[oa g, oa eb, oi ln] [])) _
              refine XS.iloadN X85.here hx rfl (hb hby d_method_7_88) rfl ?_
              refine XS.bipush X85.here hx rfl (hb hby d_method_7_89) ?_
              show Steps p.tables e below (T85.setTop (mkF m 91 #[oa g, oa eb, oi ln] [(.int (6 : Int32)), (.int (Int32.ofNat ln))])) _
              exact q
            have k93_ : ∀ t, Steps p.tables e below (T85.setTop (mkF m 105 #[oa g, oa eb, oi ln] [])) t → G_ t := by
              intro t q
              refine k92_ _ ?_
              show Steps p.tables e below (T85.setTop (mkF m 91 #[oa g, oa eb, oi ln] [(.int (6 : Int32)), (.int (Int32.ofNat ln))])) _
              refine XS.icmpYes X85.here hx rfl (pc0 := 91) (pc' := 105) rfl (hb hby d_method_7_91) rfl (tlt ((own_cmp (n := 6) (by omega) (by decide)).mpr (Nat.lt_of_lt_of_le ((own_cmp (n := 5) (by omega) (by decide)).mp hc4_) (by decide)))).1 (by decide) (by decide) ?_
              show Steps p.tables e below (T85.setTop (mkF m 105 #[oa g, oa eb, oi ln] [])) _
              exact q
            have k94_ : ∀ t, Steps p.tables e below (T85.setTop (mkF m 108 #[oa g, oa eb, oi ln] [(.int (7 : Int32)), (.int (Int32.ofNat ln))])) t → G_ t := by
              intro t q
              refine k93_ _ ?_
              show Steps p.tables e below (T85.setTop (mkF m 105 #[oa g, oa eb, oi ln] [])) _
              refine XS.iloadN X85.here hx rfl (hb hby d_method_7_105) rfl ?_
              refine XS.bipush X85.here hx rfl (hb hby d_method_7_106) ?_
              show Steps p.tables e below (T85.setTop (mkF m 108 #[oa g, oa eb, oi ln] [(.int (7 : Int32)), (.int (Int32.ofNat ln))])) _
              exact q
            have k95_ : ∀ t, Steps p.tables e below (T85.setTop (mkF m 124 #[oa g, oa eb, oi ln] [])) t → G_ t := by
              intro t q
              refine k94_ _ ?_
              show Steps p.tables e below (T85.setTop (mkF m 108 #[oa g, oa eb, oi ln] [(.int (7 : Int32)), (.int (Int32.ofNat ln))])) _
              refine XS.icmpYes X85.here hx rfl (pc0 := 108) (pc' := 124) rfl (hb hby d_method_7_108) rfl (tlt ((own_cmp (n := 7) (by omega) (by decide)).mpr (Nat.lt_of_lt_of_le ((own_cmp (n := 5) (by omega) (by decide)).mp hc4_) (by decide)))).1 (by decide) (by decide) ?_
              show Steps p.tables e below (T85.setTop (mkF m 124 #[oa g, oa eb, oi ln] [])) _
              exact q
            have k96_ : ∀ t, Steps p.tables e below (T85.setTop (mkF m 127 #[oa g, oa eb, oi ln] [(.int (8 : Int32)), (.int (Int32.ofNat ln))])) t → G_ t := by
              intro t q
              refine k95_ _ ?_
              show Steps p.tables e below (T85.setTop (mkF m 124 #[oa g, oa eb, oi ln] [])) _
              refine XS.iloadN X85.here hx rfl (hb hby d_method_7_124) rfl ?_
              refine XS.bipush X85.here hx rfl (hb hby d_method_7_125) ?_
              show Steps p.tables e below (T85.setTop (mkF m 127 #[oa g, oa eb, oi ln] [(.int (8 : Int32)), (.int (Int32.ofNat ln))])) _
              exact q
            have k97_ : ∀ t, Steps p.tables e below (T85.setTop (mkF m 143 #[oa g, oa eb, oi ln] [])) t → G_ t := by
              intro t q
              refine k96_ _ ?_
              show Steps p.tables e below (T85.setTop (mkF m 127 #[oa g, oa eb, oi ln] [(.int (8 : Int32)), (.int (Int32.ofNat ln))])) _
              refine XS.icmpYes X85.here hx rfl (pc0 := 127) (pc' := 143) rfl (hb hby d_method_7_127) rfl (tlt ((own_cmp (n := 8) (by omega) (by decide)).mpr (Nat.lt_of_lt_of_le ((own_cmp (n := 5) (by omega) (by decide)).mp hc4_) (by decide)))).1 (by decide) (by decide) ?_
              show Steps p.tables e below (T85.setTop (mkF m 143 #[oa g, oa eb, oi ln] [])) _
              exact q
            have k98_ : ∀ t, Steps p.tables e below (T85.setTop (mkF m 148 #[oa g, oa eb, oi ln] [(.int (1 : Int32))])) t → G_ t := by
              intro t q
              refine k97_ _ ?_
              show Steps p.tables e below (T85.setTop (mkF m 143 #[oa g, oa eb, oi ln] [])) _
              refine XS.iconst X85.here hx rfl (hb hby d_method_7_143) ?_
              refine XS.goto X85.here hx rfl (pc0 := 144) (pc' := 148) rfl (hb hby d_method_7_144) (by decide) (by decide) ?_
              show Steps p.tables e below (T85.setTop (mkF m 148 #[oa g, oa eb, oi ln] [(.int (1 : Int32))])) _
              exact q
            obtain ⟨fs, hr, hrun, hended, hW, hsame⟩ := X85.leave (v := some (.int (1 : Int32))) (fun h => by rw [Bd.returns] at h; cases h)
            refine ⟨_, _, pre0 _ (k98_ _ ?_), hrun, hended, _, _, rfl, ?_, ⟨_, rfl⟩, hW, hsame.mono (by decide) (by decide)⟩
            · show Steps p.tables e below (T85.setTop (mkF m 148 #[oa g, oa eb, oi ln] [(.int (1 : Int32))])) _
              exact retN X85 hx (t := .boolean) Bd.returns (by simp) (hb hby d_method_7_148) hr
            · show QSm Z g eb ln kk cs E kE zc fv h0 n0 _ T85.heap _
              rw [hq85]
              exact ⟨rfl, N85, rfl⟩
          · have k99_ : ∀ t, Steps p.tables e below (T85.setTop (mkF m 77 #[oa g, oa eb, oi ln] [])) t → G_ t := by
              intro t q
              refine k90_ _ ?_
              show Steps p.tables e below (T85.setTop (mkF m 74 #[oa g, oa eb, oi ln] [(.int (5 : Int32)), (.int (Int32.ofNat ln))])) _
              refine XS.icmpNo X85.here hx rfl (hb hby d_method_7_74) rfl (flt hc4_).1 ?_
              show Steps p.tables e below (T85.setTop (mkF m 77 #[oa g, oa eb, oi ln] [])) _
              exact q
            have q4 : 4 < ln := Nat.lt_of_not_le fun z => hc4_ ((own_cmp (n := 5) (by omega) (by decide)).mpr (by omega))
            have k100_ : ∀ t, Steps p.tables e below (T85.setTop (mkF m 79 #[oa g, oa eb, oi ln] [(.int (4 : Int32)), (.ref g)])) t → G_ t := by
              intro t q
              refine k99_ _ ?_
              show Steps p.tables e below (T85.setTop (mkF m 77 #[oa g, oa eb, oi ln] [])) _
              refine XS.aloadN X85.here hx rfl (hb hby d_method_7_77) rfl rfl ?_
              refine XS.iconst X85.here hx rfl (hb hby d_method_7_78) ?_
              show Steps p.tables e below (T85.setTop (mkF m 79 #[oa g, oa eb, oi ln] [(.int (4 : Int32)), (.ref g)])) _
              exact q
            obtain ⟨cq101, kq101, q101a, q101b, q101c⟩ := isOf hZ hq85 Ex
            obtain ⟨_, _, ⟨T101, L101, kk101, n101⟩, -, X101, ⟨Lc101, hQ101, l101, y101, z101⟩, st101⟩ := X85.virtualBack hx (y := (⟨"java/lang/String", "charAt", "(I)C"⟩ : MethodName)) (z := (⟨"java/lang/String", "charAt", "(I)C"⟩ : MethodName)) hown (mvT hZ (hw _ (List.mem_of_getElem? (i := 127) rfl))) (mvT hZ (hw _ (List.mem_of_getElem? (i := 128) rfl))) (notFace_of_selects (args := #[]) (mvT hZ (hw _ (List.mem_of_getElem? (i := 130) rfl)))) (mvT hZ (hw _ (List.mem_of_getElem? (i := 130) rfl))) (mvT hZ (hw _ (List.mem_of_getElem? (i := 129) rfl))) (by decide) (StrChars.Road.chN (W := 0) hZ hwwordsChN (kI := 4) (hw _ (List.mem_of_getElem? (i := 21) rfl)) (i := 4) Ex Vx Cx Ax (StrChars.Road.codOf rfl (fun c hc => (hOK c hc).2)) (own_bd hOK) (O2.ext X00.2) hzc (O4.ext X00.2) rfv (Nat.le_trans (show cs.length ≤ 8 by omega) (by decide)) (by omega) rfl (by decide) (by decide)) q101a q101c (g := (mkF m 79 #[oa g, oa eb, oi ln] [(.int (4 : Int32)), (.ref g)])) rfl (by rw [hml]; rfl) (Steps.refl _) (argsL := [(.int (4 : Int32))]) (rest := []) (lenOf pd_27757 rfl) rfl (by show 2 * 0 + _ ≤ _; exact Nat.le_of_eq rfl) (hb hby d_method_7_79) (fun _ _ => ⟨rfl, hq85, (by decide : 0 + 0 + 0 + 0 + 0 + 0 + 0 ≤ _), (by decide : 0 + 0 + 0 + 0 + 0 + 0 + 0 ≤ _)⟩)
            dsimp only [Pt.U, Pt.locs, Pt.cells, Pt.slots] at X101 l101 y101 z101 st101 hQ101
            rw [l101, y101, z101] at X101
            obtain ⟨rfl, rfl, hq101⟩ := hQ101
            have N101 := Fr.app N85 (Fr.nil n0)
            have k102_ : ∀ t, Steps p.tables e below (T101.setTop (mkF m 82 #[oa g, oa eb, oi ln] [(.int (cs.getD 4 0))])) t → G_ t := fun t q => k100_ t (st101.trans q)
            obtain ⟨cl103, Ar103, q103, S103, M103, H103, G103⟩ := id VE
            have k104_ : ∀ t, Steps p.tables e below (T101.setTop (mkF m 85 #[oa g, oa eb, oi ln] [(.int (E.getD 4 0)), (.int (cs.getD 4 0))])) t → G_ t := by
              intro t q
              refine k102_ _ ?_
              show Steps p.tables e below (T101.setTop (mkF m 82 #[oa g, oa eb, oi ln] [(.int (cs.getD 4 0))])) _
              refine XS.aloadN X101.here hx rfl (hb hby d_method_7_82) rfl rfl ?_
              refine XS.iconst X101.here hx rfl (hb hby d_method_7_83) ?_
              refine X101.caload hx (j := (4 : Int32)) (v := (.int (E.getD 4 0))) (by rw [hq101]; exact Ar103.1) (State.isArrayOf_alike hZ.alike Ar103.2.1) Ar103.2.2 (inb_of S103 (own_inr (n := 8) (i := 4) (by decide) (by decide))) (Has.at H103 (inb_of S103 (own_inr (n := 8) (i := 4) (by decide) (by decide))) (own_gi _ (by decide))) (g := (mkF m 84 #[oa g, oa eb, oi ln] [(.int (4 : Int32)), (.ref eb), (.int (cs.getD 4 0))])) rfl rfl (hb hby d_method_7_84) _ ?_
              show Steps p.tables e below (T101.setTop (mkF m 85 #[oa g, oa eb, oi ln] [(.int (E.getD 4 0)), (.int (cs.getD 4 0))])) _
              exact q
            have k105_ : ∀ t, Steps p.tables e below (T101.setTop (mkF m 88 #[oa g, oa eb, oi ln] [])) t → G_ t := by
              intro t q
              refine k104_ _ ?_
              show Steps p.tables e below (T101.setTop (mkF m 85 #[oa g, oa eb, oi ln] [(.int (E.getD 4 0)), (.int (cs.getD 4 0))])) _
              refine XS.icmpNo X101.here hx rfl (hb hby d_method_7_85) rfl (teq (hE 4 q4)).2 ?_
              show Steps p.tables e below (T101.setTop (mkF m 88 #[oa g, oa eb, oi ln] [])) _
              exact q
            have k106_ : ∀ t, Steps p.tables e below (T101.setTop (mkF m 91 #[oa g, oa eb, oi ln] [(.int (6 : Int32)), (.int (Int32.ofNat ln))])) t → G_ t := by
              intro t q
              refine k105_ _ ?_
              show Steps p.tables e below (T101.setTop (mkF m 88 #[oa g, oa eb, oi ln] [])) _
              refine XS.iloadN X101.here hx rfl (hb hby d_method_7_88) rfl ?_
              refine XS.bipush X101.here hx rfl (hb hby d_method_7_89) ?_
              show Steps p.tables e below (T101.setTop (mkF m 91 #[oa g, oa eb, oi ln] [(.int (6 : Int32)), (.int (Int32.ofNat ln))])) _
              exact q
            by_cases hc5_ : (Int32.ofNat ln) < (6 : Int32)
            · have k107_ : ∀ t, Steps p.tables e below (T101.setTop (mkF m 105 #[oa g, oa eb, oi ln] [])) t → G_ t := by
                intro t q
                refine k106_ _ ?_
                show Steps p.tables e below (T101.setTop (mkF m 91 #[oa g, oa eb, oi ln] [(.int (6 : Int32)), (.int (Int32.ofNat ln))])) _
                refine XS.icmpYes X101.here hx rfl (pc0 := 91) (pc' := 105) rfl (hb hby d_method_7_91) rfl (tlt hc5_).1 (by decide) (by decide) ?_
                show Steps p.tables e below (T101.setTop (mkF m 105 #[oa g, oa eb, oi ln] [])) _
                exact q
              have k108_ : ∀ t, Steps p.tables e below (T101.setTop (mkF m 108 #[oa g, oa eb, oi ln] [(.int (7 : Int32)), (.int (Int32.ofNat ln))])) t → G_ t := by
                intro t q
                refine k107_ _ ?_
                show Steps p.tables e below (T101.setTop (mkF m 105 #[oa g, oa eb, oi ln] [])) _
                refine XS.iloadN X101.here hx rfl (hb hby d_method_7_105) rfl ?_
                refine XS.bipush X101.here hx rfl (hb hby d_method_7_106) ?_
                show Steps p.tables e below (T101.setTop (mkF m 108 #[oa g, oa eb, oi ln] [(.int (7 : Int32)), (.int (Int32.ofNat ln))])) _
                exact q
              have k109_ : ∀ t, Steps p.tables e below (T101.setTop (mkF m 124 #[oa g, oa eb, oi ln] [])) t → G_ t := by
                intro t q
                refine k108_ _ ?_
                show Steps p.tables e below (T101.setTop (mkF m 108 #[oa g, oa eb, oi ln] [(.int (7 : Int32)), (.int (Int32.ofNat ln))])) _
                refine XS.icmpYes X101.here hx rfl (pc0 := 108) (pc' := 124) rfl (hb hby d_method_7_108) rfl (tlt ((own_cmp (n := 7) (by omega) (by decide)).mpr (Nat.lt_of_lt_of_le ((own_cmp (n := 6) (by omega) (by decide)).mp hc5_) (by decide)))).1 (by decide) (by decide) ?_
                show Steps p.tables e below (T101.setTop (mkF m 124 #[oa g, oa eb, oi ln] [])) _
                exact q
              have k110_ : ∀ t, Steps p.tables e below (T101.setTop (mkF m 127 #[oa g, oa eb, oi ln] [(.int (8 : Int32)), (.int (Int32.ofNat ln))])) t → G_ t := by
                intro t q
                refine k109_ _ ?_
                show Steps p.tables e below (T101.setTop (mkF m 124 #[oa g, oa eb, oi ln] [])) _
                refine XS.iloadN X101.here hx rfl (hb hby d_method_7_124) rfl ?_
                refine XS.bipush X101.here hx rfl (hb hby d_method_7_125) ?_
                show Steps p.tables e below (T101.setTop (mkF m 127 #[oa g, oa eb, oi ln] [(.int (8 : Int32)), (.int (Int32.ofNat ln))])) _
                exact q
              have k111_ : ∀ t, Steps p.tables e below (T101.setTop (mkF m 143 #[oa g, oa eb, oi ln] [])) t → G_ t := by
                intro t q
                refine k110_ _ ?_
                show Steps p.tables e below (T101.setTop (mkF m 127 #[oa g, oa eb, oi ln] [(.int (8 : Int32)), (.int (Int32.ofNat ln))])) _
                refine XS.icmpYes X101.here hx rfl (pc0 := 127) (pc' := 143) rfl (hb hby d_method_7_127) rfl (tlt ((own_cmp (n := 8) (by omega) (by decide)).mpr (Nat.lt_of_lt_of_le ((own_cmp (n := 6) (by omega) (by decide)).mp hc5_) (by decide)))).1 (by decide) (by decide) ?_
                show Steps p.tables e below (T101.setTop (mkF m 143 #[oa g, oa eb, oi ln] [])) _
                exact q
              have k112_ : ∀ t, Steps p.tables e below (T101.setTop (mkF m 148 #[oa g, oa eb, oi ln] [(.int (1 : Int32))])) t → G_ t := by
                intro t q
                refine k111_ _ ?_
                show Steps p.tables e below (T101.setTop (mkF m 143 #[oa g, oa eb, oi ln] [])) _
                refine XS.iconst X101.here hx rfl (hb hby d_method_7_143) ?_
                refine XS.goto X101.here hx rfl (pc0 := 144) (pc' := 148) rfl (hb hby d_method_7_144) (by decide) (by decide) ?_
                show Steps p.tables e below (T101.setTop (mkF m 148 #[oa g, oa eb, oi ln] [(.int (1 : Int32))])) _
                exact q
              obtain ⟨fs, hr, hrun, hended, hW, hsame⟩ := X101.leave (v := some (.int (1 : Int32))) (fun h => by rw [Bd.returns] at h; cases h)
              refine ⟨_, _, pre0 _ (k112_ _ ?_), hrun, hended, _, _, rfl, ?_, ⟨_, rfl⟩, hW, hsame.mono (by decide) (by decide)⟩
              · show Steps p.tables e below (T101.setTop (mkF m 148 #[oa g, oa eb, oi ln] [(.int (1 : Int32))])) _
                exact retN X101 hx (t := .boolean) Bd.returns (by simp) (hb hby d_method_7_148) hr
              · show QSm Z g eb ln kk cs E kE zc fv h0 n0 _ T101.heap _
                rw [hq101]
                exact ⟨rfl, N101, rfl⟩
            · have k113_ : ∀ t, Steps p.tables e below (T101.setTop (mkF m 94 #[oa g, oa eb, oi ln] [])) t → G_ t := by
                intro t q
                refine k106_ _ ?_
                show Steps p.tables e below (T101.setTop (mkF m 91 #[oa g, oa eb, oi ln] [(.int (6 : Int32)), (.int (Int32.ofNat ln))])) _
                refine XS.icmpNo X101.here hx rfl (hb hby d_method_7_91) rfl (flt hc5_).1 ?_
                show Steps p.tables e below (T101.setTop (mkF m 94 #[oa g, oa eb, oi ln] [])) _
                exact q
              have q5 : 5 < ln := Nat.lt_of_not_le fun z => hc5_ ((own_cmp (n := 6) (by omega) (by decide)).mpr (by omega))
              have k114_ : ∀ t, Steps p.tables e below (T101.setTop (mkF m 96 #[oa g, oa eb, oi ln] [(.int (5 : Int32)), (.ref g)])) t → G_ t := by
                intro t q
                refine k113_ _ ?_
                show Steps p.tables e below (T101.setTop (mkF m 94 #[oa g, oa eb, oi ln] [])) _
                refine XS.aloadN X101.here hx rfl (hb hby d_method_7_94) rfl rfl ?_
                refine XS.iconst X101.here hx rfl (hb hby d_method_7_95) ?_
                show Steps p.tables e below (T101.setTop (mkF m 96 #[oa g, oa eb, oi ln] [(.int (5 : Int32)), (.ref g)])) _
                exact q
              obtain ⟨cq115, kq115, q115a, q115b, q115c⟩ := isOf hZ hq101 Ex
              obtain ⟨_, _, ⟨T115, L115, kk115, n115⟩, -, X115, ⟨Lc115, hQ115, l115, y115, z115⟩, st115⟩ := X101.virtualBack hx (y := (⟨"java/lang/String", "charAt", "(I)C"⟩ : MethodName)) (z := (⟨"java/lang/String", "charAt", "(I)C"⟩ : MethodName)) hown (mvT hZ (hw _ (List.mem_of_getElem? (i := 127) rfl))) (mvT hZ (hw _ (List.mem_of_getElem? (i := 128) rfl))) (notFace_of_selects (args := #[]) (mvT hZ (hw _ (List.mem_of_getElem? (i := 130) rfl)))) (mvT hZ (hw _ (List.mem_of_getElem? (i := 130) rfl))) (mvT hZ (hw _ (List.mem_of_getElem? (i := 129) rfl))) (by decide) (StrChars.Road.chN (W := 0) hZ hwwordsChN (kI := 4) (hw _ (List.mem_of_getElem? (i := 21) rfl)) (i := 5) Ex Vx Cx Ax (StrChars.Road.codOf rfl (fun c hc => (hOK c hc).2)) (own_bd hOK) (O2.ext X00.2) hzc (O4.ext X00.2) rfv (Nat.le_trans (show cs.length ≤ 8 by omega) (by decide)) (by omega) rfl (by decide) (by decide)) q115a q115c (g := (mkF m 96 #[oa g, oa eb, oi ln] [(.int (5 : Int32)), (.ref g)])) rfl (by rw [hml]; rfl) (Steps.refl _) (argsL := [(.int (5 : Int32))]) (rest := []) (lenOf pd_27757 rfl) rfl (by show 2 * 0 + _ ≤ _; exact Nat.le_of_eq rfl) (hb hby d_method_7_96) (fun _ _ => ⟨rfl, hq101, (by decide : 0 + 0 + 0 + 0 + 0 + 0 + 0 + 0 ≤ _), (by decide : 0 + 0 + 0 + 0 + 0 + 0 + 0 + 0 ≤ _)⟩)
              dsimp only [Pt.U, Pt.locs, Pt.cells, Pt.slots] at X115 l115 y115 z115 st115 hQ115
              rw [l115, y115, z115] at X115
              obtain ⟨rfl, rfl, hq115⟩ := hQ115
              have N115 := Fr.app N101 (Fr.nil n0)
              have k116_ : ∀ t, Steps p.tables e below (T115.setTop (mkF m 99 #[oa g, oa eb, oi ln] [(.int (cs.getD 5 0))])) t → G_ t := fun t q => k114_ t (st115.trans q)
              obtain ⟨cl117, Ar117, q117, S117, M117, H117, G117⟩ := id VE
              have k118_ : ∀ t, Steps p.tables e below (T115.setTop (mkF m 102 #[oa g, oa eb, oi ln] [(.int (E.getD 5 0)), (.int (cs.getD 5 0))])) t → G_ t := by
                intro t q
                refine k116_ _ ?_
                show Steps p.tables e below (T115.setTop (mkF m 99 #[oa g, oa eb, oi ln] [(.int (cs.getD 5 0))])) _
                refine XS.aloadN X115.here hx rfl (hb hby d_method_7_99) rfl rfl ?_
                refine XS.iconst X115.here hx rfl (hb hby d_method_7_100) ?_
                refine X115.caload hx (j := (5 : Int32)) (v := (.int (E.getD 5 0))) (by rw [hq115]; exact Ar117.1) (State.isArrayOf_alike hZ.alike Ar117.2.1) Ar117.2.2 (inb_of S117 (own_inr (n := 8) (i := 5) (by decide) (by decide))) (Has.at H117 (inb_of S117 (own_inr (n := 8) (i := 5) (by decide) (by decide))) (own_gi _ (by decide))) (g := (mkF m 101 #[oa g, oa eb, oi ln] [(.int (5 : Int32)), (.ref eb), (.int (cs.getD 5 0))])) rfl rfl (hb hby d_method_7_101) _ ?_
                show Steps p.tables e below (T115.setTop (mkF m 102 #[oa g, oa eb, oi ln] [(.int (E.getD 5 0)), (.int (cs.getD 5 0))])) _
                exact q
              have k119_ : ∀ t, Steps p.tables e below (T115.setTop (mkF m 105 #[oa g, oa eb, oi ln] [])) t → G_ t := by
                intro t q
                refine k118_ _ ?_
                show Steps p.tables e below (T115.setTop (mkF m 102 #[oa g, oa eb, oi ln] [(.int (E.getD 5 0)), (.int (cs.getD 5 0))])) _
                refine XS.icmpNo X115.here hx rfl (hb hby d_method_7_102) rfl (teq (hE 5 q5)).2 ?_
                show Steps p.tables e below (T115.setTop (mkF m 105 #[oa g, oa eb, oi ln] [])) _
                exact q
              have k120_ : ∀ t, Steps p.tables e below (T115.setTop (mkF m 108 #[oa g, oa eb, oi ln] [(.int (7 : Int32)), (.int (Int32.ofNat ln))])) t → G_ t := by
                intro t q
                refine k119_ _ ?_
                show Steps p.tables e below (T115.setTop (mkF m 105 #[oa g, oa eb, oi ln] [])) _
                refine XS.iloadN X115.here hx rfl (hb hby d_method_7_105) rfl ?_
                refine XS.bipush X115.here hx rfl (hb hby d_method_7_106) ?_
                show Steps p.tables e below (T115.setTop (mkF m 108 #[oa g, oa eb, oi ln] [(.int (7 : Int32)), (.int (Int32.ofNat ln))])) _
                exact q
              by_cases hc6_ : (Int32.ofNat ln) < (7 : Int32)
              · have k121_ : ∀ t, Steps p.tables e below (T115.setTop (mkF m 124 #[oa g, oa eb, oi ln] [])) t → G_ t := by
                  intro t q
                  refine k120_ _ ?_
                  show Steps p.tables e below (T115.setTop (mkF m 108 #[oa g, oa eb, oi ln] [(.int (7 : Int32)), (.int (Int32.ofNat ln))])) _
                  refine XS.icmpYes X115.here hx rfl (pc0 := 108) (pc' := 124) rfl (hb hby d_method_7_108) rfl (tlt hc6_).1 (by decide) (by decide) ?_
                  show Steps p.tables e below (T115.setTop (mkF m 124 #[oa g, oa eb, oi ln] [])) _
                  exact q
                have k122_ : ∀ t, Steps p.tables e below (T115.setTop (mkF m 127 #[oa g, oa eb, oi ln] [(.int (8 : Int32)), (.int (Int32.ofNat ln))])) t → G_ t := by
                  intro t q
                  refine k121_ _ ?_
                  show Steps p.tables e below (T115.setTop (mkF m 124 #[oa g, oa eb, oi ln] [])) _
                  refine XS.iloadN X115.here hx rfl (hb hby d_method_7_124) rfl ?_
                  refine XS.bipush X115.here hx rfl (hb hby d_method_7_125) ?_
                  show Steps p.tables e below (T115.setTop (mkF m 127 #[oa g, oa eb, oi ln] [(.int (8 : Int32)), (.int (Int32.ofNat ln))])) _
                  exact q
                have k123_ : ∀ t, Steps p.tables e below (T115.setTop (mkF m 143 #[oa g, oa eb, oi ln] [])) t → G_ t := by
                  intro t q
                  refine k122_ _ ?_
                  show Steps p.tables e below (T115.setTop (mkF m 127 #[oa g, oa eb, oi ln] [(.int (8 : Int32)), (.int (Int32.ofNat ln))])) _
                  refine XS.icmpYes X115.here hx rfl (pc0 := 127) (pc' := 143) rfl (hb hby d_method_7_127) rfl (tlt ((own_cmp (n := 8) (by omega) (by decide)).mpr (Nat.lt_of_lt_of_le ((own_cmp (n := 7) (by omega) (by decide)).mp hc6_) (by decide)))).1 (by decide) (by decide) ?_
                  show Steps p.tables e below (T115.setTop (mkF m 143 #[oa g, oa eb, oi ln] [])) _
                  exact q
                have k124_ : ∀ t, Steps p.tables e below (T115.setTop (mkF m 148 #[oa g, oa eb, oi ln] [(.int (1 : Int32))])) t → G_ t := by
                  intro t q
                  refine k123_ _ ?_
                  show Steps p.tables e below (T115.setTop (mkF m 143 #[oa g, oa eb, oi ln] [])) _
                  refine XS.iconst X115.here hx rfl (hb hby d_method_7_143) ?_
                  refine XS.goto X115.here hx rfl (pc0 := 144) (pc' := 148) rfl (hb hby d_method_7_144) (by decide) (by decide) ?_
                  show Steps p.tables e below (T115.setTop (mkF m 148 #[oa g, oa eb, oi ln] [(.int (1 : Int32))])) _
                  exact q
                obtain ⟨fs, hr, hrun, hended, hW, hsame⟩ := X115.leave (v := some (.int (1 : Int32))) (fun h => by rw [Bd.returns] at h; cases h)
                refine ⟨_, _, pre0 _ (k124_ _ ?_), hrun, hended, _, _, rfl, ?_, ⟨_, rfl⟩, hW, hsame.mono (by decide) (by decide)⟩
                · show Steps p.tables e below (T115.setTop (mkF m 148 #[oa g, oa eb, oi ln] [(.int (1 : Int32))])) _
                  exact retN X115 hx (t := .boolean) Bd.returns (by simp) (hb hby d_method_7_148) hr
                · show QSm Z g eb ln kk cs E kE zc fv h0 n0 _ T115.heap _
                  rw [hq115]
                  exact ⟨rfl, N115, rfl⟩
              · have k125_ : ∀ t, Steps p.tables e below (T115.setTop (mkF m 111 #[oa g, oa eb, oi ln] [])) t → G_ t := by
                  intro t q
                  refine k120_ _ ?_
                  show Steps p.tables e below (T115.setTop (mkF m 108 #[oa g, oa eb, oi ln] [(.int (7 : Int32)), (.int (Int32.ofNat ln))])) _
                  refine XS.icmpNo X115.here hx rfl (hb hby d_method_7_108) rfl (flt hc6_).1 ?_
                  show Steps p.tables e below (T115.setTop (mkF m 111 #[oa g, oa eb, oi ln] [])) _
                  exact q
                have q6 : 6 < ln := Nat.lt_of_not_le fun z => hc6_ ((own_cmp (n := 7) (by omega) (by decide)).mpr (by omega))
                have k126_ : ∀ t, Steps p.tables e below (T115.setTop (mkF m 114 #[oa g, oa eb, oi ln] [(.int (6 : Int32)), (.ref g)])) t → G_ t := by
                  intro t q
                  refine k125_ _ ?_
                  show Steps p.tables e below (T115.setTop (mkF m 111 #[oa g, oa eb, oi ln] [])) _
                  refine XS.aloadN X115.here hx rfl (hb hby d_method_7_111) rfl rfl ?_
                  refine XS.bipush X115.here hx rfl (hb hby d_method_7_112) ?_
                  show Steps p.tables e below (T115.setTop (mkF m 114 #[oa g, oa eb, oi ln] [(.int (6 : Int32)), (.ref g)])) _
                  exact q
                obtain ⟨cq127, kq127, q127a, q127b, q127c⟩ := isOf hZ hq115 Ex
                obtain ⟨_, _, ⟨T127, L127, kk127, n127⟩, -, X127, ⟨Lc127, hQ127, l127, y127, z127⟩, st127⟩ := X115.virtualBack hx (y := (⟨"java/lang/String", "charAt", "(I)C"⟩ : MethodName)) (z := (⟨"java/lang/String", "charAt", "(I)C"⟩ : MethodName)) hown (mvT hZ (hw _ (List.mem_of_getElem? (i := 127) rfl))) (mvT hZ (hw _ (List.mem_of_getElem? (i := 128) rfl))) (notFace_of_selects (args := #[]) (mvT hZ (hw _ (List.mem_of_getElem? (i := 130) rfl)))) (mvT hZ (hw _ (List.mem_of_getElem? (i := 130) rfl))) (mvT hZ (hw _ (List.mem_of_getElem? (i := 129) rfl))) (by decide) (StrChars.Road.chN (W := 0) hZ hwwordsChN (kI := 4) (hw _ (List.mem_of_getElem? (i := 21) rfl)) (i := 6) Ex Vx Cx Ax (StrChars.Road.codOf rfl (fun c hc => (hOK c hc).2)) (own_bd hOK) (O2.ext X00.2) hzc (O4.ext X00.2) rfv (Nat.le_trans (show cs.length ≤ 8 by omega) (by decide)) (by omega) rfl (by decide) (by decide)) q127a q127c (g := (mkF m 114 #[oa g, oa eb, oi ln] [(.int (6 : Int32)), (.ref g)])) rfl (by rw [hml]; rfl) (Steps.refl _) (argsL := [(.int (6 : Int32))]) (rest := []) (lenOf pd_27757 rfl) rfl (by show 2 * 0 + _ ≤ _; exact Nat.le_of_eq rfl) (hb hby d_method_7_114) (fun _ _ => ⟨rfl, hq115, (by decide : 0 + 0 + 0 + 0 + 0 + 0 + 0 + 0 + 0 ≤ _), (by decide : 0 + 0 + 0 + 0 + 0 + 0 + 0 + 0 + 0 ≤ _)⟩)
                dsimp only [Pt.U, Pt.locs, Pt.cells, Pt.slots] at X127 l127 y127 z127 st127 hQ127
                rw [l127, y127, z127] at X127
                obtain ⟨rfl, rfl, hq127⟩ := hQ127
                have N127 := Fr.app N115 (Fr.nil n0)
                have k128_ : ∀ t, Steps p.tables e below (T127.setTop (mkF m 117 #[oa g, oa eb, oi ln] [(.int (cs.getD 6 0))])) t → G_ t := fun t q => k126_ t (st127.trans q)
                obtain ⟨cl129, Ar129, q129, S129, M129, H129, G129⟩ := id VE
                have k130_ : ∀ t, Steps p.tables e below (T127.setTop (mkF m 121 #[oa g, oa eb, oi ln] [(.int (E.getD 6 0)), (.int (cs.getD 6 0))])) t → G_ t := by
                  intro t q
                  refine k128_ _ ?_
                  show Steps p.tables e below (T127.setTop (mkF m 117 #[oa g, oa eb, oi ln] [(.int (cs.getD 6 0))])) _
                  refine XS.aloadN X127.here hx rfl (hb hby d_method_7_117) rfl rfl ?_
                  refine XS.bipush X127.here hx rfl (hb hby d_method_7_118) ?_
                  refine X127.caload hx (j := (6 : Int32)) (v := (.int (E.getD 6 0))) (by rw [hq127]; exact Ar129.1) (State.isArrayOf_alike hZ.alike Ar129.2.1) Ar129.2.2 (inb_of S129 (own_inr (n := 8) (i := 6) (by decide) (by decide))) (Has.at H129 (inb_of S129 (own_inr (n := 8) (i := 6) (by decide) (by decide))) (own_gi _ (by decide))) (g := (mkF m 120 #[oa g, oa eb, oi ln] [(.int (6 : Int32)), (.ref eb), (.int (cs.getD 6 0))])) rfl rfl (hb hby d_method_7_120) _ ?_
                  show Steps p.tables e below (T127.setTop (mkF m 121 #[oa g, oa eb, oi ln] [(.int (E.getD 6 0)), (.int (cs.getD 6 0))])) _
                  exact q
                have k131_ : ∀ t, Steps p.tables e below (T127.setTop (mkF m 124 #[oa g, oa eb, oi ln] [])) t → G_ t := by
                  intro t q
                  refine k130_ _ ?_
                  show Steps p.tables e below (T127.setTop (mkF m 121 #[oa g, oa eb, oi ln] [(.int (E.getD 6 0)), (.int (cs.getD 6 0))])) _
                  refine XS.icmpNo X127.here hx rfl (hb hby d_method_7_121) rfl (teq (hE 6 q6)).2 ?_
                  show Steps p.tables e below (T127.setTop (mkF m 124 #[oa g, oa eb, oi ln] [])) _
                  exact q
                have k132_ : ∀ t, Steps p.tables e below (T127.setTop (mkF m 127 #[oa g, oa eb, oi ln] [(.int (8 : Int32)), (.int (Int32.ofNat ln))])) t → G_ t := by
                  intro t q
                  refine k131_ _ ?_
                  show Steps p.tables e below (T127.setTop (mkF m 124 #[oa g, oa eb, oi ln] [])) _
                  refine XS.iloadN X127.here hx rfl (hb hby d_method_7_124) rfl ?_
                  refine XS.bipush X127.here hx rfl (hb hby d_method_7_125) ?_
                  show Steps p.tables e below (T127.setTop (mkF m 127 #[oa g, oa eb, oi ln] [(.int (8 : Int32)), (.int (Int32.ofNat ln))])) _
                  exact q
                by_cases hc7_ : (Int32.ofNat ln) < (8 : Int32)
                · have k133_ : ∀ t, Steps p.tables e below (T127.setTop (mkF m 143 #[oa g, oa eb, oi ln] [])) t → G_ t := by
                    intro t q
                    refine k132_ _ ?_
                    show Steps p.tables e below (T127.setTop (mkF m 127 #[oa g, oa eb, oi ln] [(.int (8 : Int32)), (.int (Int32.ofNat ln))])) _
                    refine XS.icmpYes X127.here hx rfl (pc0 := 127) (pc' := 143) rfl (hb hby d_method_7_127) rfl (tlt hc7_).1 (by decide) (by decide) ?_
                    show Steps p.tables e below (T127.setTop (mkF m 143 #[oa g, oa eb, oi ln] [])) _
                    exact q
                  have k134_ : ∀ t, Steps p.tables e below (T127.setTop (mkF m 148 #[oa g, oa eb, oi ln] [(.int (1 : Int32))])) t → G_ t := by
                    intro t q
                    refine k133_ _ ?_
                    show Steps p.tables e below (T127.setTop (mkF m 143 #[oa g, oa eb, oi ln] [])) _
                    refine XS.iconst X127.here hx rfl (hb hby d_method_7_143) ?_
                    refine XS.goto X127.here hx rfl (pc0 := 144) (pc' := 148) rfl (hb hby d_method_7_144) (by decide) (by decide) ?_
                    show Steps p.tables e below (T127.setTop (mkF m 148 #[oa g, oa eb, oi ln] [(.int (1 : Int32))])) _
                    exact q
                  obtain ⟨fs, hr, hrun, hended, hW, hsame⟩ := X127.leave (v := some (.int (1 : Int32))) (fun h => by rw [Bd.returns] at h; cases h)
                  refine ⟨_, _, pre0 _ (k134_ _ ?_), hrun, hended, _, _, rfl, ?_, ⟨_, rfl⟩, hW, hsame.mono (by decide) (by decide)⟩
                  · show Steps p.tables e below (T127.setTop (mkF m 148 #[oa g, oa eb, oi ln] [(.int (1 : Int32))])) _
                    exact retN X127 hx (t := .boolean) Bd.returns (by simp) (hb hby d_method_7_148) hr
                  · show QSm Z g eb ln kk cs E kE zc fv h0 n0 _ T127.heap _
                    rw [hq127]
                    exact ⟨rfl, N127, rfl⟩
                · have k135_ : ∀ t, Steps p.tables e below (T127.setTop (mkF m 130 #[oa g, oa eb, oi ln] [])) t → G_ t := by
                    intro t q
                    refine k132_ _ ?_
                    show Steps p.tables e below (T127.setTop (mkF m 127 #[oa g, oa eb, oi ln] [(.int (8 : Int32)), (.int (Int32.ofNat ln))])) _
                    refine XS.icmpNo X127.here hx rfl (hb hby d_method_7_127) rfl (flt hc7_).1 ?_
                    show Steps p.tables e below (T127.setTop (mkF m 130 #[oa g, oa eb, oi ln] [])) _
                    exact q
                  have q7 : 7 < ln := Nat.lt_of_not_le fun z => hc7_ ((own_cmp (n := 8) (by omega) (by decide)).mpr (by omega))
                  have k136_ : ∀ t, Steps p.tables e below (T127.setTop (mkF m 133 #[oa g, oa eb, oi ln] [(.int (7 : Int32)), (.ref g)])) t → G_ t := by
                    intro t q
                    refine k135_ _ ?_
                    show Steps p.tables e below (T127.setTop (mkF m 130 #[oa g, oa eb, oi ln] [])) _
                    refine XS.aloadN X127.here hx rfl (hb hby d_method_7_130) rfl rfl ?_
                    refine XS.bipush X127.here hx rfl (hb hby d_method_7_131) ?_
                    show Steps p.tables e below (T127.setTop (mkF m 133 #[oa g, oa eb, oi ln] [(.int (7 : Int32)), (.ref g)])) _
                    exact q
                  obtain ⟨cq137, kq137, q137a, q137b, q137c⟩ := isOf hZ hq127 Ex
                  obtain ⟨_, _, ⟨T137, L137, kk137, n137⟩, -, X137, ⟨Lc137, hQ137, l137, y137, z137⟩, st137⟩ := X127.virtualBack hx (y := (⟨"java/lang/String", "charAt", "(I)C"⟩ : MethodName)) (z := (⟨"java/lang/String", "charAt", "(I)C"⟩ : MethodName)) hown (mvT hZ (hw _ (List.mem_of_getElem? (i := 127) rfl))) (mvT hZ (hw _ (List.mem_of_getElem? (i := 128) rfl))) (notFace_of_selects (args := #[]) (mvT hZ (hw _ (List.mem_of_getElem? (i := 130) rfl)))) (mvT hZ (hw _ (List.mem_of_getElem? (i := 130) rfl))) (mvT hZ (hw _ (List.mem_of_getElem? (i := 129) rfl))) (by decide) (StrChars.Road.chN (W := 0) hZ hwwordsChN (kI := 4) (hw _ (List.mem_of_getElem? (i := 21) rfl)) (i := 7) Ex Vx Cx Ax (StrChars.Road.codOf rfl (fun c hc => (hOK c hc).2)) (own_bd hOK) (O2.ext X00.2) hzc (O4.ext X00.2) rfv (Nat.le_trans (show cs.length ≤ 8 by omega) (by decide)) (by omega) rfl (by decide) (by decide)) q137a q137c (g := (mkF m 133 #[oa g, oa eb, oi ln] [(.int (7 : Int32)), (.ref g)])) rfl (by rw [hml]; rfl) (Steps.refl _) (argsL := [(.int (7 : Int32))]) (rest := []) (lenOf pd_27757 rfl) rfl (by show 2 * 0 + _ ≤ _; exact Nat.le_of_eq rfl) (hb hby d_method_7_133) (fun _ _ => ⟨rfl, hq127, (by decide : 0 + 0 + 0 + 0 + 0 + 0 + 0 + 0 + 0 + 0 ≤ _), (by decide : 0 + 0 + 0 + 0 + 0 + 0 + 0 + 0 + 0 + 0 ≤ _)⟩)
                  dsimp only [Pt.U, Pt.locs, Pt.cells, Pt.slots] at X137 l137 y137 z137 st137 hQ137
                  rw [l137, y137, z137] at X137
                  obtain ⟨rfl, rfl, hq137⟩ := hQ137
                  have N137 := Fr.app N127 (Fr.nil n0)
                  have k138_ : ∀ t, Steps p.tables e below (T137.setTop (mkF m 136 #[oa g, oa eb, oi ln] [(.int (cs.getD 7 0))])) t → G_ t := fun t q => k136_ t (st137.trans q)
                  obtain ⟨cl139, Ar139, q139, S139, M139, H139, G139⟩ := id VE
                  have k140_ : ∀ t, Steps p.tables e below (T137.setTop (mkF m 140 #[oa g, oa eb, oi ln] [(.int (E.getD 7 0)), (.int (cs.getD 7 0))])) t → G_ t := by
                    intro t q
                    refine k138_ _ ?_
                    show Steps p.tables e below (T137.setTop (mkF m 136 #[oa g, oa eb, oi ln] [(.int (cs.getD 7 0))])) _
                    refine XS.aloadN X137.here hx rfl (hb hby d_method_7_136) rfl rfl ?_
                    refine XS.bipush X137.here hx rfl (hb hby d_method_7_137) ?_
                    refine X137.caload hx (j := (7 : Int32)) (v := (.int (E.getD 7 0))) (by rw [hq137]; exact Ar139.1) (State.isArrayOf_alike hZ.alike Ar139.2.1) Ar139.2.2 (inb_of S139 (own_inr (n := 8) (i := 7) (by decide) (by decide))) (Has.at H139 (inb_of S139 (own_inr (n := 8) (i := 7) (by decide) (by decide))) (own_gi _ (by decide))) (g := (mkF m 139 #[oa g, oa eb, oi ln] [(.int (7 : Int32)), (.ref eb), (.int (cs.getD 7 0))])) rfl rfl (hb hby d_method_7_139) _ ?_
                    show Steps p.tables e below (T137.setTop (mkF m 140 #[oa g, oa eb, oi ln] [(.int (E.getD 7 0)), (.int (cs.getD 7 0))])) _
                    exact q
                  have k141_ : ∀ t, Steps p.tables e below (T137.setTop (mkF m 143 #[oa g, oa eb, oi ln] [])) t → G_ t := by
                    intro t q
                    refine k140_ _ ?_
                    show Steps p.tables e below (T137.setTop (mkF m 140 #[oa g, oa eb, oi ln] [(.int (E.getD 7 0)), (.int (cs.getD 7 0))])) _
                    refine XS.icmpNo X137.here hx rfl (hb hby d_method_7_140) rfl (teq (hE 7 q7)).2 ?_
                    show Steps p.tables e below (T137.setTop (mkF m 143 #[oa g, oa eb, oi ln] [])) _
                    exact q
                  have k142_ : ∀ t, Steps p.tables e below (T137.setTop (mkF m 148 #[oa g, oa eb, oi ln] [(.int (1 : Int32))])) t → G_ t := by
                    intro t q
                    refine k141_ _ ?_
                    show Steps p.tables e below (T137.setTop (mkF m 143 #[oa g, oa eb, oi ln] [])) _
                    refine XS.iconst X137.here hx rfl (hb hby d_method_7_143) ?_
                    refine XS.goto X137.here hx rfl (pc0 := 144) (pc' := 148) rfl (hb hby d_method_7_144) (by decide) (by decide) ?_
                    show Steps p.tables e below (T137.setTop (mkF m 148 #[oa g, oa eb, oi ln] [(.int (1 : Int32))])) _
                    exact q
                  obtain ⟨fs, hr, hrun, hended, hW, hsame⟩ := X137.leave (v := some (.int (1 : Int32))) (fun h => by rw [Bd.returns] at h; cases h)
                  refine ⟨_, _, pre0 _ (k142_ _ ?_), hrun, hended, _, _, rfl, ?_, ⟨_, rfl⟩, hW, hsame.mono (by decide) (by decide)⟩
                  · show Steps p.tables e below (T137.setTop (mkF m 148 #[oa g, oa eb, oi ln] [(.int (1 : Int32))])) _
                    exact retN X137 hx (t := .boolean) Bd.returns (by simp) (hb hby d_method_7_148) hr
                  · show QSm Z g eb ln kk cs E kE zc fv h0 n0 _ T137.heap _
                    rw [hq137]
                    exact ⟨rfl, N137, rfl⟩
theorem own_sf4 {Z : State} {n0 kk : Nat} {h : Heap} {up sb rb hq : Addr} {n : Nat} {Sh Ho Ln : Nat → Nat} {E Rr : Nat → List Int32} {A : Nat → Addr} {EL : List (String × Nat)} {vm : Vm} (hal : Z.vm.Alike vm) (H : own_U Z n0 kk h up sb rb hq n Sh Ho Ln E Rr A) : ∀ y ∈ [up, sb, rb, hq], Safe Z EL vm h y := by
  obtain ⟨sh, ho, rs, E1, F1, F2, F3, F4, ⟨k1, V1⟩, ⟨k2, V2, O2⟩, ⟨k3, V3⟩, -⟩ := H
  exact sfS (Safe.exa hal E1 (by decide) (by decide)) (sfS (Safe.arv hal V1 (fun h => by cases h)) (sfS (Safe.arv hal V2 (fun h => by cases h)) (sfS (Safe.arv hal V3 (fun h => by cases h)) sf0)))
theorem own_mn3 (x : Int32) : ∃ n : Nat, n < 3 ∧ Int32.ofNat n = own_mn (x &&& (3 : Int32)) (2 : Int32) := by
  have h := c_mask x 3 2 (by decide) (by decide)
  have e : ((2 ^ 2 : Nat) : Int) = 4 := rfl
  rw [e] at h
  have e2 : (2 : Int32).toInt = 2 := rfl
  unfold own_mn
  split
  · exact ⟨2, by decide, rfl⟩
  · rename_i q
    rw [Int32.lt_iff_toInt_lt] at q
    refine ⟨(x &&& (3 : Int32)).toInt.toNat, by omega, Int32.toInt_inj.mp ?_⟩
    rw [own_toInt_ofNat (by omega)]; omega
theorem own_remn (x : Int32) (m : Nat) (hm : m < 50) : ∃ n : Nat, n < m + 1 ∧ Int32.ofNat n = own_rem (x &&& (2147483647 : Int32)) (Int32.ofNat (m + 1)) := by
  have h0 := c_mask x 2147483647 31 (by decide) (by decide)
  have e : ((2 ^ 31 : Nat) : Int) = 2147483648 := rfl
  rw [e] at h0
  have h2 : (own_rem (x &&& (2147483647 : Int32)) (Int32.ofNat (m + 1))).toInt = (x &&& 2147483647).toInt.tmod (Int32.ofNat (m + 1)).toInt := rem_toInt _ _
  have e1 := own_toInt_ofNat (n := m + 1) (by omega)
  rw [e1, Int.tmod_eq_emod_of_nonneg (by omega)] at h2
  have a1 := Int.emod_nonneg (x &&& (2147483647 : Int32)).toInt (b := ((m + 1 : Nat) : Int)) (by omega)
  have a2 := Int.emod_lt_of_pos (x &&& (2147483647 : Int32)).toInt (b := ((m + 1 : Nat) : Int)) (by omega)
  refine ⟨((x &&& (2147483647 : Int32)).toInt % ((m + 1 : Nat) : Int)).toNat, by omega, Int32.toInt_inj.mp ?_⟩
  rw [own_toInt_ofNat (by omega), h2]; omega
theorem own_ofn0 {m : Nat} (h : m < 100) (h0 : 0 < m) : ¬ Int32.ofNat m = 0 := fun z => by
  have := own_oi (i := m) (j := 0) h (by decide) z; omega
theorem own_lo {E Rl : List Int32} {su : Nat} (hs : su ≤ 8) : ∀ j, j < su → (own_nxt E su Rl).getD j 0 = E.getD j 0 := fun j hj => by
  rw [own_nxt_at (by omega)]; unfold own_at; rw [if_pos hj]
theorem own_hi {E Rl : List Int32} {su lv : Nat} (h8 : su + lv ≤ 8) (hl : lv < 3) : ∀ j, su ≤ j → j < su + lv → (own_nxt E su Rl).getD j 0 = (Rl.take lv).getD (j - su) 0 := fun j h1 h2 => by
  rw [own_nxt_at (by omega), own_take_get (by omega)]; unfold own_at; rw [if_neg (by omega), if_pos (by omega)]
theorem own_z8 : own_OK [0, 0, 0, 0, 0, 0, 0, 0] := fun c hc => by
  simp only [List.mem_cons, List.not_mem_nil, or_false, or_self] at hc
  subst hc; decide
theorem own_p2 (x : Int64) (i j : Int32) : own_OK [own_chl x i, own_chl x j] := fun c hc => by
  simp only [List.mem_cons, List.not_mem_nil, or_false] at hc
  rcases hc with rfl | rfl <;> exact own_chl_r _ _
theorem own_tkl {Rl : List Int32} {n : Nat} (h : Rl.length = 2) (hn : n < 3) : (Rl.take n).length = n := by rw [List.length_take, h]; omega
def Q0 (Z : State) (p0 : Int64) (p1 : Int32) (p2 : Int32) (p3 : Int32) (p4 : Int32) (zc : Int32) (fv : Value) (h0 : Heap) (n0 : Nat) (v : Option Value) (h : Heap) (L : List Loc) : Prop := True
theorem ef_0 (m : MethodId) (x0 : Int64) (x1 : Int32) (x2 : Int32) (x3 : Int32) (x4 : Int32) : entryFrame m #[(.long x0), (.int x1), (.int x2), (.int x3), (.int x4)] maxLocals = mkF m 0 #[.val (.long x0), .second, .val (.int x1), .val (.int x2), .val (.int x3), .val (.int x4), .unset, .unset, .unset, .unset, .unset, .unset, .unset, .unset, .unset, .unset, .unset, .unset, .unset, .unset, .unset, .unset, .unset, .unset, .unset, .unset, .unset, .unset, .unset, .unset] [] := by first | (simp [entryFrame, mkF, argsToLocals, Value.category, maxLocals]; done) | rfl
theorem pd_90420 : parseMethodDescriptor "(II)I" = some ⟨[.int, .int], some .int⟩ := by decide +kernel
theorem pd_20205 : parseMethodDescriptor "(JI)C" = some ⟨[.long, .int], some .char⟩ := by decide +kernel
theorem pd_86934 : parseMethodDescriptor "([CI[C)[C" = some ⟨[(.array .char), .int, (.array .char)], some (.array .char)⟩ := by decide +kernel
theorem pd_95507 : parseMethodDescriptor "(I[C)Ljava/lang/String;" = some ⟨[.int, (.array .char)], some (.object "java/lang/String")⟩ := by decide +kernel
theorem pd_27776 : parseMethodDescriptor "(I)V" = some ⟨[.int], none⟩ := by decide +kernel
theorem pd_96973 : parseMethodDescriptor "(ILjava/lang/String;)V" = some ⟨[.int, (.object "java/lang/String")], none⟩ := by decide +kernel
theorem pd_88406 : parseMethodDescriptor "(I)Ljava/lang/String;" = some ⟨[.int], some (.object "java/lang/String")⟩ := by decide +kernel
theorem pd_38289 : parseMethodDescriptor "(Ljava/lang/String;[CI)Z" = some ⟨[(.object "java/lang/String"), (.array .char), .int], some .boolean⟩ := by decide +kernel
set_option maxRecDepth 65536 in
set_option maxHeartbeats 40000000 in
theorem rm0 (l : Launch) (Z : State) (a0 : Array Value) (hw : ∀ d ∈ tables_1, d.before a0 Z = true) (ws : List Jvm.Cond) (p0 : Int64) (p1 : Int32) (p2 : Int32) (p3 : Int32) (p4 : Int32) (zc : Int32) (fv : Value) (h0 : Heap) (n0 : Nat) (Z0 : n0 ≤ h0.size) (hn0 : n0 = Z.heap.size) (O2 : Sta Z Z.heap "java/lang/String" "COMPACT_STRINGS" "Z" (.int zc)) (hzc : ¬ zc = (0 : Int32)) (O4 : Sta Z Z.heap "jdk/internal/util/Preconditions" "SIOOBE_FORMATTER" "Ljava/util/function/BiFunction;" fv) (rfv : fv.isRef = true) (wS : ∀ a ∈ Bundle.stringAtoms, a.before a0 Z = true) (hEL : EW Z a0 own_EL) (hCH0 : CHv Z own_EL Z.vm Z.heap) :
    MetFree l x (head1 (Jvm.Cond.code x code maxLocals ret :: ws) room_1) (fun a_ U_ => a_ = #[(.long p0), (.int p1), (.int p2), (.int p3), (.int p4)] ∧ U_ = Z ∧ U_.heap = h0) (fun _ _ _ _ _ => True) (fun _ U_ o_ E_ => ∃ L_, o_ = .returned (some (.int 1)) ∧ Fr n0 L_ ∧ ReturnedEndW U_ o_ E_ L_ room_1.cells room_1.slots) := by
  refine MetFree.of_bodySF (plainFor_of_name pn_UnitPathsAddPinLaw) hisR ?_
  intro p e s m args below meth c s₁ Bd hml0 hP hK
  obtain ⟨rfl, hU, hh⟩ := hP
  have hZ : Z.Warmed39 s.vm := by rw [hU]; exact State.Warmed39.refl Z
  have hS : s.Since s.vm s.heap.size := (State.WarmedH.refl s).since _
  have hI : IB Z s.vm [] := by rw [hU]; exact IB.start
  have hkeep : ∀ (b : Addr) (cl : Cell), Z.heap[b]? = some cl → s.heap[b]? = some cl := by rw [hU]; exact fun _ _ h => h
  have hx := Bd.exec
  have hby := Bd.bytes
  have hml : c.maxLocals = 30 := hml0
  have hown : s.vm.findClass "com/example/haku/haku/index/UnitPathsAddPinLaw" = some m.cls := findClass_of_methodNamed Bd.named
  have hnm := (name_of_methodNamed Bd.named Bd.method).1
  have X0 : Stand p l e room_1 s m #[(.long p0), (.int p1), (.int p2), (.int p3), (.int p4)] below meth c s₁ [] 0 0 := Stand.of_body Bd
  have e0 : s₁.heap = h0 := by rw [← hh, Bd.state]; rfl
  have N0 := Fr.nil n0
  have Zn := Z0
  have pre0 : ∀ t, Steps p.tables e below (s₁.setTop (mkF m 0 #[.val (.long p0), .second, .val (.int p1), .val (.int p2), .val (.int p3), .val (.int p4), .unset, .unset, .unset, .unset, .unset, .unset, .unset, .unset, .unset, .unset, .unset, .unset, .unset, .unset, .unset, .unset, .unset, .unset, .unset, .unset, .unset, .unset, .unset, .unset] [])) t → Steps p.tables e below (s₁.setTop (entryFrame m #[(.long p0), (.int p1), (.int p2), (.int p3), (.int p4)] maxLocals)) t := fun t q => castTop (ef_0 m p0 p1 p2 p3 p4) q
  have k0 : ∀ t, Steps p.tables e below (s₁.setTop (mkF m 0 #[.val (.long p0), .second, .val (.int p1), .val (.int p2), .val (.int p3), .val (.int p4), .unset, .unset, .unset, .unset, .unset, .unset, .unset, .unset, .unset, .unset, .unset, .unset, .unset, .unset, .unset, .unset, .unset, .unset, .unset, .unset, .unset, .unset, .unset, .unset] [])) t → Steps p.tables e below (s₁.setTop (mkF m 0 #[.val (.long p0), .second, .val (.int p1), .val (.int p2), .val (.int p3), .val (.int p4), .unset, .unset, .unset, .unset, .unset, .unset, .unset, .unset, .unset, .unset, .unset, .unset, .unset, .unset, .unset, .unset, .unset, .unset, .unset, .unset, .unset, .unset, .unset, .unset] [])) t := fun t q => q
  let G_ : State → Prop := fun t => Steps p.tables e below (s₁.setTop (mkF m 0 #[.val (.long p0), .second, .val (.int p1), .val (.int p2), .val (.int p3), .val (.int p4), .unset, .unset, .unset, .unset, .unset, .unset, .unset, .unset, .unset, .unset, .unset, .unset, .unset, .unset, .unset, .unset, .unset, .unset, .unset, .unset, .unset, .unset, .unset, .unset] [])) t
  have hk : s.heap.size ≤ h0.size := by rw [hh]; exact Nat.le_refl _
  have hCH : CHr Z own_EL s.vm h0 s.vm h0 := CHr.refl (by rw [← hh, hU]; exact hCH0)
  have X0 : Stand p l e room_1 (s.setVm s.vm) m #[(.long p0), (.int p1), (.int p2), (.int p3), (.int p4)] below meth c s₁ [] 0 0 := X0
  replace hZ : Z.Warmed39 (s.setVm s.vm).vm := hZ
  replace hown : (s.setVm s.vm).vm.findClass "com/example/haku/haku/index/UnitPathsAddPinLaw" = some m.cls := hown
  have X00 : Old Z n0 h0 := by rw [hn0, ← hh, hU]; exact Old.start Z
  have KP := Keep.refl h0 []
  have k1_ : ∀ t, Steps p.tables e below (s₁.setTop (mkF m 4 #[.val (.long p0), .second, ov p1, ov p2, ov p3, ov p4, .unset, .unset, .unset, .unset, .unset, .unset, .unset, .unset, .unset, .unset, .unset, .unset, .unset, .unset, .unset, .unset, .unset, .unset, .unset, .unset, .unset, .unset, .unset, .unset] [(.int (2 : Int32)), (.int (p1 &&& (3 : Int32)))])) t → G_ t := by
    intro t q
    refine k0 _ ?_
    show Steps p.tables e below (s₁.setTop (mkF m 0 #[.val (.long p0), .second, ov p1, ov p2, ov p3, ov p4, .unset, .unset, .unset, .unset, .unset, .unset, .unset, .unset, .unset, .unset, .unset, .unset, .unset, .unset, .unset, .unset, .unset, .unset, .unset, .unset, .unset, .unset, .unset, .unset] [])) _
    refine XS.iloadN X0.here hx rfl (hb hby at_0) rfl ?_
    refine XS.iconst X0.here hx rfl (hb hby at_1) ?_
    refine XS.iand X0.here hx rfl (hb hby at_2) rfl ?_
    refine XS.iconst X0.here hx rfl (hb hby at_3) ?_
    show Steps p.tables e below (s₁.setTop (mkF m 4 #[.val (.long p0), .second, ov p1, ov p2, ov p3, ov p4, .unset, .unset, .unset, .unset, .unset, .unset, .unset, .unset, .unset, .unset, .unset, .unset, .unset, .unset, .unset, .unset, .unset, .unset, .unset, .unset, .unset, .unset, .unset, .unset] [(.int (2 : Int32)), (.int (p1 &&& (3 : Int32)))])) _
    exact q
  obtain ⟨_, _, ⟨T2, L2, kk2, n2⟩, -, X2, ⟨Lc2, hQ2, l2, y2, z2⟩, st2⟩ := Jvm.LawKit.callS X0 hx (y := (⟨"java/lang/Math", "min", "(II)I"⟩ : MethodName)) hown (mvT hZ (hw _ (List.mem_of_getElem? (i := 0) rfl))) (mvT hZ (hw _ (List.mem_of_getElem? (i := 1) rfl))) (mvT hZ (hw _ (List.mem_of_getElem? (i := 2) rfl))) (mvT hZ (hw _ (List.mem_of_getElem? (i := 3) rfl))) (by decide) (backOf (W := 0) (rmMi l Z a0 hw [] (p1 &&& (3 : Int32)) (2 : Int32) h0 n0 Zn) hZ (hw _ (List.mem_of_getElem? (i := 3) rfl)) (hw _ (List.mem_of_getElem? (i := 2) rfl)) (by decide) (by decide)) (g := (mkF m 4 #[.val (.long p0), .second, ov p1, ov p2, ov p3, ov p4, .unset, .unset, .unset, .unset, .unset, .unset, .unset, .unset, .unset, .unset, .unset, .unset, .unset, .unset, .unset, .unset, .unset, .unset, .unset, .unset, .unset, .unset, .unset, .unset] [(.int (2 : Int32)), (.int (p1 &&& (3 : Int32)))])) rfl (by rw [hml]; rfl) (argsL := [(.int (p1 &&& (3 : Int32))), (.int (2 : Int32))]) (rest := []) (lenOf pd_90420 rfl) rfl (by show 2 * 0 + _ ≤ _; exact Nat.le_of_eq rfl) (hb hby at_4) (fun _ _ => ⟨rfl, e0, (by decide : 0 + 0 ≤ _), (by decide : 0 + 0 ≤ _)⟩)
  dsimp only [Pt.U, Pt.locs, Pt.cells, Pt.slots] at X2 l2 y2 z2 st2 hQ2
  rw [l2, y2, z2] at X2
  obtain ⟨rfl, Nq2, hq2⟩ := hQ2
  have N2 := Fr.app N0 Nq2
  have k3_ : ∀ t, Steps p.tables e below (T2.setTop (mkF m 7 #[.val (.long p0), .second, ov p1, ov p2, ov p3, ov p4, .unset, .unset, .unset, .unset, .unset, .unset, .unset, .unset, .unset, .unset, .unset, .unset, .unset, .unset, .unset, .unset, .unset, .unset, .unset, .unset, .unset, .unset, .unset, .unset] [(.int (own_mn (p1 &&& (3 : Int32)) (2 : Int32)))])) t → G_ t := fun t q => k1_ t (st2 t q)
  obtain ⟨l0_, h_l0_, e_l0_⟩ := own_mn3 p1
  have k4_ : ∀ t, Steps p.tables e below (T2.setTop (mkF m 7 #[.val (.long p0), .second, ov p1, ov p2, ov p3, ov p4, .unset, .unset, .unset, .unset, .unset, .unset, .unset, .unset, .unset, .unset, .unset, .unset, .unset, .unset, .unset, .unset, .unset, .unset, .unset, .unset, .unset, .unset, .unset, .unset] [(.int (Int32.ofNat l0_))])) t → G_ t := fun t q => k3_ t (Eq.mp (congrArg (fun z => Steps p.tables e below (T2.setTop (mkF m 7 #[.val (.long p0), .second, ov p1, ov p2, ov p3, ov p4, .unset, .unset, .unset, .unset, .unset, .unset, .unset, .unset, .unset, .unset, .unset, .unset, .unset, .unset, .unset, .unset, .unset, .unset, .unset, .unset, .unset, .unset, .unset, .unset] [(.int z)])) t) (show (Int32.ofNat l0_) = (own_mn (p1 &&& (3 : Int32)) (2 : Int32)) from e_l0_)) q)
  have k5_ : ∀ t, Steps p.tables e below (T2.setTop (mkF m 15 #[.val (.long p0), .second, ov p1, ov p2, ov p3, ov p4, oi l0_, .unset, .unset, .unset, .unset, .unset, .unset, .unset, .unset, .unset, .unset, .unset, .unset, .unset, .unset, .unset, .unset, .unset, .unset, .unset, .unset, .unset, .unset, .unset] [(.int (2 : Int32)), (.int (((p1.toUInt32 >>> ((2 : Int32) &&& 31).toUInt32).toInt32) &&& (3 : Int32)))])) t → G_ t := by
    intro t q
    refine k4_ _ ?_
    show Steps p.tables e below (T2.setTop (mkF m 7 #[.val (.long p0), .second, ov p1, ov p2, ov p3, ov p4, .unset, .unset, .unset, .unset, .unset, .unset, .unset, .unset, .unset, .unset, .unset, .unset, .unset, .unset, .unset, .unset, .unset, .unset, .unset, .unset, .unset, .unset, .unset, .unset] [(.int (Int32.ofNat l0_))])) _
    refine XS.istore X2.here hx rfl (hb hby at_7) rfl (l' := #[.val (.long p0), .second, ov p1, ov p2, ov p3, ov p4, oi l0_, .unset, .unset, .unset, .unset, .unset, .unset, .unset, .unset, .unset, .unset, .unset, .unset, .unset, .unset, .unset, .unset, .unset, .unset, .unset, .unset, .unset, .unset, .unset]) rfl ?_
    refine XS.iloadN X2.here hx rfl (hb hby at_9) rfl ?_
    refine XS.iconst X2.here hx rfl (hb hby at_10) ?_
    refine XS.iushr X2.here hx rfl (hb hby at_11) rfl ?_
    refine XS.iconst X2.here hx rfl (hb hby at_12) ?_
    refine XS.iand X2.here hx rfl (hb hby at_13) rfl ?_
    show Steps p.tables e below (T2.setTop (mkF m 14 #[.val (.long p0), .second, ov p1, ov p2, ov p3, ov p4, oi l0_, .unset, .unset, .unset, .unset, .unset, .unset, .unset, .unset, .unset, .unset, .unset, .unset, .unset, .unset, .unset, .unset, .unset, .unset, .unset, .unset, .unset, .unset, .unset] [(.int (((p1.toUInt32 >>> ((2 : Int32) &&& 31).toUInt32).toInt32) &&& (3 : Int32)))])) _
    refine XS.iconst X2.here hx rfl (hb hby at_14) ?_
    show Steps p.tables e below (T2.setTop (mkF m 15 #[.val (.long p0), .second, ov p1, ov p2, ov p3, ov p4, oi l0_, .unset, .unset, .unset, .unset, .unset, .unset, .unset, .unset, .unset, .unset, .unset, .unset, .unset, .unset, .unset, .unset, .unset, .unset, .unset, .unset, .unset, .unset, .unset] [(.int (2 : Int32)), (.int (((p1.toUInt32 >>> ((2 : Int32) &&& 31).toUInt32).toInt32) &&& (3 : Int32)))])) _
    exact q
  obtain ⟨_, _, ⟨T6, L6, kk6, n6⟩, -, X6, ⟨Lc6, hQ6, l6, y6, z6⟩, st6⟩ := Jvm.LawKit.callS X2 hx (y := (⟨"java/lang/Math", "min", "(II)I"⟩ : MethodName)) hown (mvT hZ (hw _ (List.mem_of_getElem? (i := 0) rfl))) (mvT hZ (hw _ (List.mem_of_getElem? (i := 1) rfl))) (mvT hZ (hw _ (List.mem_of_getElem? (i := 2) rfl))) (mvT hZ (hw _ (List.mem_of_getElem? (i := 3) rfl))) (by decide) (backOf (W := 0) (rmMi l Z a0 hw [] (((p1.toUInt32 >>> ((2 : Int32) &&& 31).toUInt32).toInt32) &&& (3 : Int32)) (2 : Int32) h0 n0 Zn) hZ (hw _ (List.mem_of_getElem? (i := 3) rfl)) (hw _ (List.mem_of_getElem? (i := 2) rfl)) (by decide) (by decide)) (g := (mkF m 15 #[.val (.long p0), .second, ov p1, ov p2, ov p3, ov p4, oi l0_, .unset, .unset, .unset, .unset, .unset, .unset, .unset, .unset, .unset, .unset, .unset, .unset, .unset, .unset, .unset, .unset, .unset, .unset, .unset, .unset, .unset, .unset, .unset] [(.int (2 : Int32)), (.int (((p1.toUInt32 >>> ((2 : Int32) &&& 31).toUInt32).toInt32) &&& (3 : Int32)))])) rfl (by rw [hml]; rfl) (argsL := [(.int (((p1.toUInt32 >>> ((2 : Int32) &&& 31).toUInt32).toInt32) &&& (3 : Int32))), (.int (2 : Int32))]) (rest := []) (lenOf pd_90420 rfl) rfl (by show 2 * 0 + _ ≤ _; exact Nat.le_of_eq rfl) (hb hby at_15) (fun _ _ => ⟨rfl, hq2, (by decide : 0 + 0 + 0 ≤ _), (by decide : 0 + 0 + 0 ≤ _)⟩)
  dsimp only [Pt.U, Pt.locs, Pt.cells, Pt.slots] at X6 l6 y6 z6 st6 hQ6
  rw [l6, y6, z6] at X6
  obtain ⟨rfl, Nq6, hq6⟩ := hQ6
  have N6 := Fr.app N2 Nq6
  have k7_ : ∀ t, Steps p.tables e below (T6.setTop (mkF m 18 #[.val (.long p0), .second, ov p1, ov p2, ov p3, ov p4, oi l0_, .unset, .unset, .unset, .unset, .unset, .unset, .unset, .unset, .unset, .unset, .unset, .unset, .unset, .unset, .unset, .unset, .unset, .unset, .unset, .unset, .unset, .unset, .unset] [(.int (own_mn (((p1.toUInt32 >>> ((2 : Int32) &&& 31).toUInt32).toInt32) &&& (3 : Int32)) (2 : Int32)))])) t → G_ t := fun t q => k5_ t (st6 t q)
  obtain ⟨l1_, h_l1_, e_l1_⟩ := own_mn3 ((p1.toUInt32 >>> ((2 : Int32) &&& 31).toUInt32).toInt32)
  have k8_ : ∀ t, Steps p.tables e below (T6.setTop (mkF m 18 #[.val (.long p0), .second, ov p1, ov p2, ov p3, ov p4, oi l0_, .unset, .unset, .unset, .unset, .unset, .unset, .unset, .unset, .unset, .unset, .unset, .unset, .unset, .unset, .unset, .unset, .unset, .unset, .unset, .unset, .unset, .unset, .unset] [(.int (Int32.ofNat l1_))])) t → G_ t := fun t q => k7_ t (Eq.mp (congrArg (fun z => Steps p.tables e below (T6.setTop (mkF m 18 #[.val (.long p0), .second, ov p1, ov p2, ov p3, ov p4, oi l0_, .unset, .unset, .unset, .unset, .unset, .unset, .unset, .unset, .unset, .unset, .unset, .unset, .unset, .unset, .unset, .unset, .unset, .unset, .unset, .unset, .unset, .unset, .unset] [(.int z)])) t) (show (Int32.ofNat l1_) = (own_mn (((p1.toUInt32 >>> ((2 : Int32) &&& 31).toUInt32).toInt32) &&& (3 : Int32)) (2 : Int32)) from e_l1_)) q)
  have k9_ : ∀ t, Steps p.tables e below (T6.setTop (mkF m 26 #[.val (.long p0), .second, ov p1, ov p2, ov p3, ov p4, oi l0_, oi l1_, .unset, .unset, .unset, .unset, .unset, .unset, .unset, .unset, .unset, .unset, .unset, .unset, .unset, .unset, .unset, .unset, .unset, .unset, .unset, .unset, .unset, .unset] [(.int (2 : Int32)), (.int (((p1.toUInt32 >>> ((4 : Int32) &&& 31).toUInt32).toInt32) &&& (3 : Int32)))])) t → G_ t := by
    intro t q
    refine k8_ _ ?_
    show Steps p.tables e below (T6.setTop (mkF m 18 #[.val (.long p0), .second, ov p1, ov p2, ov p3, ov p4, oi l0_, .unset, .unset, .unset, .unset, .unset, .unset, .unset, .unset, .unset, .unset, .unset, .unset, .unset, .unset, .unset, .unset, .unset, .unset, .unset, .unset, .unset, .unset, .unset] [(.int (Int32.ofNat l1_))])) _
    refine XS.istore X6.here hx rfl (hb hby at_18) rfl (l' := #[.val (.long p0), .second, ov p1, ov p2, ov p3, ov p4, oi l0_, oi l1_, .unset, .unset, .unset, .unset, .unset, .unset, .unset, .unset, .unset, .unset, .unset, .unset, .unset, .unset, .unset, .unset, .unset, .unset, .unset, .unset, .unset, .unset]) rfl ?_
    refine XS.iloadN X6.here hx rfl (hb hby at_20) rfl ?_
    refine XS.iconst X6.here hx rfl (hb hby at_21) ?_
    refine XS.iushr X6.here hx rfl (hb hby at_22) rfl ?_
    refine XS.iconst X6.here hx rfl (hb hby at_23) ?_
    refine XS.iand X6.here hx rfl (hb hby at_24) rfl ?_
    show Steps p.tables e below (T6.setTop (mkF m 25 #[.val (.long p0), .second, ov p1, ov p2, ov p3, ov p4, oi l0_, oi l1_, .unset, .unset, .unset, .unset, .unset, .unset, .unset, .unset, .unset, .unset, .unset, .unset, .unset, .unset, .unset, .unset, .unset, .unset, .unset, .unset, .unset, .unset] [(.int (((p1.toUInt32 >>> ((4 : Int32) &&& 31).toUInt32).toInt32) &&& (3 : Int32)))])) _
    refine XS.iconst X6.here hx rfl (hb hby at_25) ?_
    show Steps p.tables e below (T6.setTop (mkF m 26 #[.val (.long p0), .second, ov p1, ov p2, ov p3, ov p4, oi l0_, oi l1_, .unset, .unset, .unset, .unset, .unset, .unset, .unset, .unset, .unset, .unset, .unset, .unset, .unset, .unset, .unset, .unset, .unset, .unset, .unset, .unset, .unset, .unset] [(.int (2 : Int32)), (.int (((p1.toUInt32 >>> ((4 : Int32) &&& 31).toUInt32).toInt32) &&& (3 : Int32)))])) _
    exact q
  obtain ⟨_, _, ⟨T10, L10, kk10, n10⟩, -, X10, ⟨Lc10, hQ10, l10, y10, z10⟩, st10⟩ := Jvm.LawKit.callS X6 hx (y := (⟨"java/lang/Math", "min", "(II)I"⟩ : MethodName)) hown (mvT hZ (hw _ (List.mem_of_getElem? (i := 0) rfl))) (mvT hZ (hw _ (List.mem_of_getElem? (i := 1) rfl))) (mvT hZ (hw _ (List.mem_of_getElem? (i := 2) rfl))) (mvT hZ (hw _ (List.mem_of_getElem? (i := 3) rfl))) (by decide) (backOf (W := 0) (rmMi l Z a0 hw [] (((p1.toUInt32 >>> ((4 : Int32) &&& 31).toUInt32).toInt32) &&& (3 : Int32)) (2 : Int32) h0 n0 Zn) hZ (hw _ (List.mem_of_getElem? (i := 3) rfl)) (hw _ (List.mem_of_getElem? (i := 2) rfl)) (by decide) (by decide)) (g := (mkF m 26 #[.val (.long p0), .second, ov p1, ov p2, ov p3, ov p4, oi l0_, oi l1_, .unset, .unset, .unset, .unset, .unset, .unset, .unset, .unset, .unset, .unset, .unset, .unset, .unset, .unset, .unset, .unset, .unset, .unset, .unset, .unset, .unset, .unset] [(.int (2 : Int32)), (.int (((p1.toUInt32 >>> ((4 : Int32) &&& 31).toUInt32).toInt32) &&& (3 : Int32)))])) rfl (by rw [hml]; rfl) (argsL := [(.int (((p1.toUInt32 >>> ((4 : Int32) &&& 31).toUInt32).toInt32) &&& (3 : Int32))), (.int (2 : Int32))]) (rest := []) (lenOf pd_90420 rfl) rfl (by show 2 * 0 + _ ≤ _; exact Nat.le_of_eq rfl) (hb hby at_26) (fun _ _ => ⟨rfl, hq6, (by decide : 0 + 0 + 0 + 0 ≤ _), (by decide : 0 + 0 + 0 + 0 ≤ _)⟩)
  dsimp only [Pt.U, Pt.locs, Pt.cells, Pt.slots] at X10 l10 y10 z10 st10 hQ10
  rw [l10, y10, z10] at X10
  obtain ⟨rfl, Nq10, hq10⟩ := hQ10
  have N10 := Fr.app N6 Nq10
  have k11_ : ∀ t, Steps p.tables e below (T10.setTop (mkF m 29 #[.val (.long p0), .second, ov p1, ov p2, ov p3, ov p4, oi l0_, oi l1_, .unset, .unset, .unset, .unset, .unset, .unset, .unset, .unset, .unset, .unset, .unset, .unset, .unset, .unset, .unset, .unset, .unset, .unset, .unset, .unset, .unset, .unset] [(.int (own_mn (((p1.toUInt32 >>> ((4 : Int32) &&& 31).toUInt32).toInt32) &&& (3 : Int32)) (2 : Int32)))])) t → G_ t := fun t q => k9_ t (st10 t q)
  obtain ⟨l2_, h_l2_, e_l2_⟩ := own_mn3 ((p1.toUInt32 >>> ((4 : Int32) &&& 31).toUInt32).toInt32)
  have k12_ : ∀ t, Steps p.tables e below (T10.setTop (mkF m 29 #[.val (.long p0), .second, ov p1, ov p2, ov p3, ov p4, oi l0_, oi l1_, .unset, .unset, .unset, .unset, .unset, .unset, .unset, .unset, .unset, .unset, .unset, .unset, .unset, .unset, .unset, .unset, .unset, .unset, .unset, .unset, .unset, .unset] [(.int (Int32.ofNat l2_))])) t → G_ t := fun t q => k11_ t (Eq.mp (congrArg (fun z => Steps p.tables e below (T10.setTop (mkF m 29 #[.val (.long p0), .second, ov p1, ov p2, ov p3, ov p4, oi l0_, oi l1_, .unset, .unset, .unset, .unset, .unset, .unset, .unset, .unset, .unset, .unset, .unset, .unset, .unset, .unset, .unset, .unset, .unset, .unset, .unset, .unset, .unset, .unset] [(.int z)])) t) (show (Int32.ofNat l2_) = (own_mn (((p1.toUInt32 >>> ((4 : Int32) &&& 31).toUInt32).toInt32) &&& (3 : Int32)) (2 : Int32)) from e_l2_)) q)
  have k13_ : ∀ t, Steps p.tables e below (T10.setTop (mkF m 38 #[.val (.long p0), .second, ov p1, ov p2, ov p3, ov p4, oi l0_, oi l1_, oi l2_, .unset, .unset, .unset, .unset, .unset, .unset, .unset, .unset, .unset, .unset, .unset, .unset, .unset, .unset, .unset, .unset, .unset, .unset, .unset, .unset, .unset] [(.int (2 : Int32)), (.int (((p1.toUInt32 >>> ((6 : Int32) &&& 31).toUInt32).toInt32) &&& (3 : Int32)))])) t → G_ t := by
    intro t q
    refine k12_ _ ?_
    show Steps p.tables e below (T10.setTop (mkF m 29 #[.val (.long p0), .second, ov p1, ov p2, ov p3, ov p4, oi l0_, oi l1_, .unset, .unset, .unset, .unset, .unset, .unset, .unset, .unset, .unset, .unset, .unset, .unset, .unset, .unset, .unset, .unset, .unset, .unset, .unset, .unset, .unset, .unset] [(.int (Int32.ofNat l2_))])) _
    refine XS.istore X10.here hx rfl (hb hby at_29) rfl (l' := #[.val (.long p0), .second, ov p1, ov p2, ov p3, ov p4, oi l0_, oi l1_, oi l2_, .unset, .unset, .unset, .unset, .unset, .unset, .unset, .unset, .unset, .unset, .unset, .unset, .unset, .unset, .unset, .unset, .unset, .unset, .unset, .unset, .unset]) rfl ?_
    refine XS.iloadN X10.here hx rfl (hb hby at_31) rfl ?_
    refine XS.bipush X10.here hx rfl (hb hby at_32) ?_
    refine XS.iushr X10.here hx rfl (hb hby at_34) rfl ?_
    refine XS.iconst X10.here hx rfl (hb hby at_35) ?_
    refine XS.iand X10.here hx rfl (hb hby at_36) rfl ?_
    show Steps p.tables e below (T10.setTop (mkF m 37 #[.val (.long p0), .second, ov p1, ov p2, ov p3, ov p4, oi l0_, oi l1_, oi l2_, .unset, .unset, .unset, .unset, .unset, .unset, .unset, .unset, .unset, .unset, .unset, .unset, .unset, .unset, .unset, .unset, .unset, .unset, .unset, .unset, .unset] [(.int (((p1.toUInt32 >>> ((6 : Int32) &&& 31).toUInt32).toInt32) &&& (3 : Int32)))])) _
    refine XS.iconst X10.here hx rfl (hb hby at_37) ?_
    show Steps p.tables e below (T10.setTop (mkF m 38 #[.val (.long p0), .second, ov p1, ov p2, ov p3, ov p4, oi l0_, oi l1_, oi l2_, .unset, .unset, .unset, .unset, .unset, .unset, .unset, .unset, .unset, .unset, .unset, .unset, .unset, .unset, .unset, .unset, .unset, .unset, .unset, .unset, .unset] [(.int (2 : Int32)), (.int (((p1.toUInt32 >>> ((6 : Int32) &&& 31).toUInt32).toInt32) &&& (3 : Int32)))])) _
    exact q
  obtain ⟨_, _, ⟨T14, L14, kk14, n14⟩, -, X14, ⟨Lc14, hQ14, l14, y14, z14⟩, st14⟩ := Jvm.LawKit.callS X10 hx (y := (⟨"java/lang/Math", "min", "(II)I"⟩ : MethodName)) hown (mvT hZ (hw _ (List.mem_of_getElem? (i := 0) rfl))) (mvT hZ (hw _ (List.mem_of_getElem? (i := 1) rfl))) (mvT hZ (hw _ (List.mem_of_getElem? (i := 2) rfl))) (mvT hZ (hw _ (List.mem_of_getElem? (i := 3) rfl))) (by decide) (backOf (W := 0) (rmMi l Z a0 hw [] (((p1.toUInt32 >>> ((6 : Int32) &&& 31).toUInt32).toInt32) &&& (3 : Int32)) (2 : Int32) h0 n0 Zn) hZ (hw _ (List.mem_of_getElem? (i := 3) rfl)) (hw _ (List.mem_of_getElem? (i := 2) rfl)) (by decide) (by decide)) (g := (mkF m 38 #[.val (.long p0), .second, ov p1, ov p2, ov p3, ov p4, oi l0_, oi l1_, oi l2_, .unset, .unset, .unset, .unset, .unset, .unset, .unset, .unset, .unset, .unset, .unset, .unset, .unset, .unset, .unset, .unset, .unset, .unset, .unset, .unset, .unset] [(.int (2 : Int32)), (.int (((p1.toUInt32 >>> ((6 : Int32) &&& 31).toUInt32).toInt32) &&& (3 : Int32)))])) rfl (by rw [hml]; rfl) (argsL := [(.int (((p1.toUInt32 >>> ((6 : Int32) &&& 31).toUInt32).toInt32) &&& (3 : Int32))), (.int (2 : Int32))]) (rest := []) (lenOf pd_90420 rfl) rfl (by show 2 * 0 + _ ≤ _; exact Nat.le_of_eq rfl) (hb hby at_38) (fun _ _ => ⟨rfl, hq10, (by decide : 0 + 0 + 0 + 0 + 0 ≤ _), (by decide : 0 + 0 + 0 + 0 + 0 ≤ _)⟩)
  dsimp only [Pt.U, Pt.locs, Pt.cells, Pt.slots] at X14 l14 y14 z14 st14 hQ14
  rw [l14, y14, z14] at X14
  obtain ⟨rfl, Nq14, hq14⟩ := hQ14
  have N14 := Fr.app N10 Nq14
  have k15_ : ∀ t, Steps p.tables e below (T14.setTop (mkF m 41 #[.val (.long p0), .second, ov p1, ov p2, ov p3, ov p4, oi l0_, oi l1_, oi l2_, .unset, .unset, .unset, .unset, .unset, .unset, .unset, .unset, .unset, .unset, .unset, .unset, .unset, .unset, .unset, .unset, .unset, .unset, .unset, .unset, .unset] [(.int (own_mn (((p1.toUInt32 >>> ((6 : Int32) &&& 31).toUInt32).toInt32) &&& (3 : Int32)) (2 : Int32)))])) t → G_ t := fun t q => k13_ t (st14 t q)
  obtain ⟨l3_, h_l3_, e_l3_⟩ := own_mn3 ((p1.toUInt32 >>> ((6 : Int32) &&& 31).toUInt32).toInt32)
  have k16_ : ∀ t, Steps p.tables e below (T14.setTop (mkF m 41 #[.val (.long p0), .second, ov p1, ov p2, ov p3, ov p4, oi l0_, oi l1_, oi l2_, .unset, .unset, .unset, .unset, .unset, .unset, .unset, .unset, .unset, .unset, .unset, .unset, .unset, .unset, .unset, .unset, .unset, .unset, .unset, .unset, .unset] [(.int (Int32.ofNat l3_))])) t → G_ t := fun t q => k15_ t (Eq.mp (congrArg (fun z => Steps p.tables e below (T14.setTop (mkF m 41 #[.val (.long p0), .second, ov p1, ov p2, ov p3, ov p4, oi l0_, oi l1_, oi l2_, .unset, .unset, .unset, .unset, .unset, .unset, .unset, .unset, .unset, .unset, .unset, .unset, .unset, .unset, .unset, .unset, .unset, .unset, .unset, .unset, .unset] [(.int z)])) t) (show (Int32.ofNat l3_) = (own_mn (((p1.toUInt32 >>> ((6 : Int32) &&& 31).toUInt32).toInt32) &&& (3 : Int32)) (2 : Int32)) from e_l3_)) q)
  have k17_ : ∀ t, Steps p.tables e below (T14.setTop (mkF m 44 #[.val (.long p0), .second, ov p1, ov p2, ov p3, ov p4, oi l0_, oi l1_, oi l2_, oi l3_, .unset, .unset, .unset, .unset, .unset, .unset, .unset, .unset, .unset, .unset, .unset, .unset, .unset, .unset, .unset, .unset, .unset, .unset, .unset, .unset] [(.int (2 : Int32))])) t → G_ t := by
    intro t q
    refine k16_ _ ?_
    show Steps p.tables e below (T14.setTop (mkF m 41 #[.val (.long p0), .second, ov p1, ov p2, ov p3, ov p4, oi l0_, oi l1_, oi l2_, .unset, .unset, .unset, .unset, .unset, .unset, .unset, .unset, .unset, .unset, .unset, .unset, .unset, .unset, .unset, .unset, .unset, .unset, .unset, .unset, .unset] [(.int (Int32.ofNat l3_))])) _
    refine XS.istore X14.here hx rfl (hb hby at_41) rfl (l' := #[.val (.long p0), .second, ov p1, ov p2, ov p3, ov p4, oi l0_, oi l1_, oi l2_, oi l3_, .unset, .unset, .unset, .unset, .unset, .unset, .unset, .unset, .unset, .unset, .unset, .unset, .unset, .unset, .unset, .unset, .unset, .unset, .unset, .unset]) rfl ?_
    refine XS.iconst X14.here hx rfl (hb hby at_43) ?_
    show Steps p.tables e below (T14.setTop (mkF m 44 #[.val (.long p0), .second, ov p1, ov p2, ov p3, ov p4, oi l0_, oi l1_, oi l2_, oi l3_, .unset, .unset, .unset, .unset, .unset, .unset, .unset, .unset, .unset, .unset, .unset, .unset, .unset, .unset, .unset, .unset, .unset, .unset, .unset, .unset] [(.int (2 : Int32))])) _
    exact q
  obtain ⟨T18, h18, c18, X18, e18, E18, A18, st18⟩ := newP X14 hx hZ (hw _ (List.mem_of_getElem? (i := 4) rfl)) hq14 (g := (mkF m 44 #[.val (.long p0), .second, ov p1, ov p2, ov p3, ov p4, oi l0_, oi l1_, oi l2_, oi l3_, .unset, .unset, .unset, .unset, .unset, .unset, .unset, .unset, .unset, .unset, .unset, .unset, .unset, .unset, .unset, .unset, .unset, .unset, .unset, .unset] [(.int (2 : Int32))])) rfl (hb hby at_44) rfl (by decide) (cap := 2) (by decide) (by decide) (by decide) (by decide)
  obtain ⟨b18, g18⟩ : ∃ z, z = h0.size := ⟨_, rfl⟩
  rw [← g18] at A18 st18
  have k19_ : ∀ t, Steps p.tables e below (T18.setTop (mkF m 46 #[.val (.long p0), .second, ov p1, ov p2, ov p3, ov p4, oi l0_, oi l1_, oi l2_, oi l3_, .unset, .unset, .unset, .unset, .unset, .unset, .unset, .unset, .unset, .unset, .unset, .unset, .unset, .unset, .unset, .unset, .unset, .unset, .unset, .unset] [(.ref b18)])) t → G_ t := fun t q => k17_ t (st18 t q)
  have g_b18 : n0 ≤ b18 := Nat.le_trans Zn (Nat.le_of_eq g18.symm)
  replace Zn := Nat.le_trans Zn E18.1
  replace hk := Nat.le_trans hk E18.1
  have V_b18 : Arv Z h18 b18 c18 .char (2 : Int32) [(.int (0 : Int32)), (.int (0 : Int32))] (.int (0 : Int32)) := (Arv.new A18 (by decide)).pad (pad_rep [] (.int (0 : Int32)) 2)
  have z_b18 : h0.size ≤ b18 := by rw [g18]; exact KP.1
  replace KP := KP.ext E18
  replace X00 := X00.ext E18
  replace hCH := hCH.trans (CHr.ext E18 hCH.1)
  have k20_ : ∀ t, Steps p.tables e below (T18.setTop (mkF m 50 #[.val (.long p0), .second, ov p1, ov p2, ov p3, ov p4, oi l0_, oi l1_, oi l2_, oi l3_, .unset, .unset, .unset, .unset, .unset, .unset, .unset, .unset, .unset, .unset, .unset, .unset, .unset, .unset, .unset, .unset, .unset, .unset, .unset, .unset] [(.int (0 : Int32)), (.long p0), (.int (0 : Int32)), (.ref b18), (.ref b18)])) t → G_ t := by
    intro t q
    refine k19_ _ ?_
    show Steps p.tables e below (T18.setTop (mkF m 46 #[.val (.long p0), .second, ov p1, ov p2, ov p3, ov p4, oi l0_, oi l1_, oi l2_, oi l3_, .unset, .unset, .unset, .unset, .unset, .unset, .unset, .unset, .unset, .unset, .unset, .unset, .unset, .unset, .unset, .unset, .unset, .unset, .unset, .unset] [(.ref b18)])) _
    refine XS.dup X18.here hx rfl (hb hby at_46) rfl rfl ?_
    refine XS.iconst X18.here hx rfl (hb hby at_47) ?_
    refine XS.lloadN X18.here hx rfl (hb hby at_48) rfl ?_
    refine XS.iconst X18.here hx rfl (hb hby at_49) ?_
    show Steps p.tables e below (T18.setTop (mkF m 50 #[.val (.long p0), .second, ov p1, ov p2, ov p3, ov p4, oi l0_, oi l1_, oi l2_, oi l3_, .unset, .unset, .unset, .unset, .unset, .unset, .unset, .unset, .unset, .unset, .unset, .unset, .unset, .unset, .unset, .unset, .unset, .unset, .unset, .unset] [(.int (0 : Int32)), (.long p0), (.int (0 : Int32)), (.ref b18), (.ref b18)])) _
    exact q
  obtain ⟨_, _, ⟨T21, L21, kk21, n21⟩, -, X21, ⟨Lc21, hQ21, l21, y21, z21⟩, st21⟩ := Jvm.LawKit.callS X18 hx (y := (⟨"com/example/haku/haku/index/UnitPathsAddPinLaw", "ch", "(JI)C"⟩ : MethodName)) hown (mvT hZ (hw _ (List.mem_of_getElem? (i := 5) rfl))) (mvT hZ (hw _ (List.mem_of_getElem? (i := 6) rfl))) (mvT hZ (hw _ (List.mem_of_getElem? (i := 7) rfl))) (mvT hZ (hw _ (List.mem_of_getElem? (i := 8) rfl))) (by decide) (backOf (W := 3) (rmK l Z a0 hw [] p0 (0 : Int32) h18 n0 Zn) hZ (hw _ (List.mem_of_getElem? (i := 8) rfl)) (hw _ (List.mem_of_getElem? (i := 7) rfl)) (by decide) (by decide)) (g := (mkF m 50 #[.val (.long p0), .second, ov p1, ov p2, ov p3, ov p4, oi l0_, oi l1_, oi l2_, oi l3_, .unset, .unset, .unset, .unset, .unset, .unset, .unset, .unset, .unset, .unset, .unset, .unset, .unset, .unset, .unset, .unset, .unset, .unset, .unset, .unset] [(.int (0 : Int32)), (.long p0), (.int (0 : Int32)), (.ref b18), (.ref b18)])) rfl (by rw [hml]; rfl) (argsL := [(.long p0), (.int (0 : Int32))]) (rest := [(.int (0 : Int32)), (.ref b18), (.ref b18)]) (lenOf pd_20205 rfl) rfl (by show 2 * 0 + _ ≤ _; exact Nat.le_of_eq rfl) (hb hby at_50) (fun _ _ => ⟨rfl, e18, (by decide : 0 + 0 + 0 + 0 + 0 + 1 + 0 ≤ _), (by decide : 0 + 0 + 0 + 0 + 0 + 2 + 0 ≤ _)⟩)
  dsimp only [Pt.U, Pt.locs, Pt.cells, Pt.slots] at X21 l21 y21 z21 st21 hQ21
  rw [l21, y21, z21] at X21
  obtain ⟨rfl, Nq21, hq21⟩ := hQ21
  have N21 := Fr.app N14 Nq21
  have k22_ : ∀ t, Steps p.tables e below (T21.setTop (mkF m 53 #[.val (.long p0), .second, ov p1, ov p2, ov p3, ov p4, oi l0_, oi l1_, oi l2_, oi l3_, .unset, .unset, .unset, .unset, .unset, .unset, .unset, .unset, .unset, .unset, .unset, .unset, .unset, .unset, .unset, .unset, .unset, .unset, .unset, .unset] [(.int (own_chl p0 (0 : Int32))), (.int (0 : Int32)), (.ref b18), (.ref b18)])) t → G_ t := fun t q => k20_ t (st21 t q)
  obtain ⟨cl23, Ar23, q23, S23, M23, H23, G23⟩ := V_b18
  obtain ⟨T24, h24, X24, e24, W24, st24⟩ := stC X21 hx hZ hq21 Ar23 (j := (0 : Int32)) (inb_of S23 ⟨by decide, by decide⟩) (g := (mkF m 53 #[.val (.long p0), .second, ov p1, ov p2, ov p3, ov p4, oi l0_, oi l1_, oi l2_, oi l3_, .unset, .unset, .unset, .unset, .unset, .unset, .unset, .unset, .unset, .unset, .unset, .unset, .unset, .unset, .unset, .unset, .unset, .unset, .unset, .unset] [(.int (own_chl p0 (0 : Int32))), (.int (0 : Int32)), (.ref b18), (.ref b18)])) rfl rfl (hb hby at_53)
  have k25_ : ∀ t, Steps p.tables e below (T24.setTop (mkF m 54 #[.val (.long p0), .second, ov p1, ov p2, ov p3, ov p4, oi l0_, oi l1_, oi l2_, oi l3_, .unset, .unset, .unset, .unset, .unset, .unset, .unset, .unset, .unset, .unset, .unset, .unset, .unset, .unset, .unset, .unset, .unset, .unset, .unset, .unset] [(.ref b18)])) t → G_ t := fun t q => k22_ t (st24 t q)
  have N24 := Fr.snoc X24 N21 g_b18
  rw [own_nc (own_chl_r p0 (0 : Int32))] at W24
  replace Zn := Nat.le_trans Zn (Keep.of_wr W24).1
  replace hk := Nat.le_trans hk (Keep.of_wr W24).1
  have V_b18 : Arv Z h24 b18 c18 .char (2 : Int32) [(.int (own_chl p0 (0 : Int32))), (.int (0 : Int32))] (.int (0 : Int32)) := Arv.set Ar23 q23 S23 M23 H23 G23 (by have q := fits_nar_char (own_chl p0 (0 : Int32)); rw [own_nc (own_chl_r p0 (0 : Int32))] at q; exact q) W24 0 rfl (Nat.le_of_ble_eq_true rfl)
  replace KP := KP.wr W24 (Or.inr z_b18)
  replace X00 := X00.wr W24 g_b18
  replace hCH := hCH.trans (CHr.wr W24 (Safe.arr hZ.alike Ar23 (fun h => by cases h)) hCH.1)
  have k26_ : ∀ t, Steps p.tables e below (T24.setTop (mkF m 58 #[.val (.long p0), .second, ov p1, ov p2, ov p3, ov p4, oi l0_, oi l1_, oi l2_, oi l3_, .unset, .unset, .unset, .unset, .unset, .unset, .unset, .unset, .unset, .unset, .unset, .unset, .unset, .unset, .unset, .unset, .unset, .unset, .unset, .unset] [(.int (1 : Int32)), (.long p0), (.int (1 : Int32)), (.ref b18), (.ref b18)])) t → G_ t := by
    intro t q
    refine k25_ _ ?_
    show Steps p.tables e below (T24.setTop (mkF m 54 #[.val (.long p0), .second, ov p1, ov p2, ov p3, ov p4, oi l0_, oi l1_, oi l2_, oi l3_, .unset, .unset, .unset, .unset, .unset, .unset, .unset, .unset, .unset, .unset, .unset, .unset, .unset, .unset, .unset, .unset, .unset, .unset, .unset, .unset] [(.ref b18)])) _
    refine XS.dup X24.here hx rfl (hb hby at_54) rfl rfl ?_
    refine XS.iconst X24.here hx rfl (hb hby at_55) ?_
    refine XS.lloadN X24.here hx rfl (hb hby at_56) rfl ?_
    refine XS.iconst X24.here hx rfl (hb hby at_57) ?_
    show Steps p.tables e below (T24.setTop (mkF m 58 #[.val (.long p0), .second, ov p1, ov p2, ov p3, ov p4, oi l0_, oi l1_, oi l2_, oi l3_, .unset, .unset, .unset, .unset, .unset, .unset, .unset, .unset, .unset, .unset, .unset, .unset, .unset, .unset, .unset, .unset, .unset, .unset, .unset, .unset] [(.int (1 : Int32)), (.long p0), (.int (1 : Int32)), (.ref b18), (.ref b18)])) _
    exact q
  obtain ⟨_, _, ⟨T27, L27, kk27, n27⟩, -, X27, ⟨Lc27, hQ27, l27, y27, z27⟩, st27⟩ := Jvm.LawKit.callS X24 hx (y := (⟨"com/example/haku/haku/index/UnitPathsAddPinLaw", "ch", "(JI)C"⟩ : MethodName)) hown (mvT hZ (hw _ (List.mem_of_getElem? (i := 5) rfl))) (mvT hZ (hw _ (List.mem_of_getElem? (i := 6) rfl))) (mvT hZ (hw _ (List.mem_of_getElem? (i := 7) rfl))) (mvT hZ (hw _ (List.mem_of_getElem? (i := 8) rfl))) (by decide) (backOf (W := 3) (rmK l Z a0 hw [] p0 (1 : Int32) h24 n0 Zn) hZ (hw _ (List.mem_of_getElem? (i := 8) rfl)) (hw _ (List.mem_of_getElem? (i := 7) rfl)) (by decide) (by decide)) (g := (mkF m 58 #[.val (.long p0), .second, ov p1, ov p2, ov p3, ov p4, oi l0_, oi l1_, oi l2_, oi l3_, .unset, .unset, .unset, .unset, .unset, .unset, .unset, .unset, .unset, .unset, .unset, .unset, .unset, .unset, .unset, .unset, .unset, .unset, .unset, .unset] [(.int (1 : Int32)), (.long p0), (.int (1 : Int32)), (.ref b18), (.ref b18)])) rfl (by rw [hml]; rfl) (argsL := [(.long p0), (.int (1 : Int32))]) (rest := [(.int (1 : Int32)), (.ref b18), (.ref b18)]) (lenOf pd_20205 rfl) rfl (by show 2 * 0 + _ ≤ _; exact Nat.le_of_eq rfl) (hb hby at_58) (fun _ _ => ⟨rfl, e24, (by decide : 0 + 0 + 0 + 0 + 0 + 1 + 0 + 0 ≤ _), (by decide : 0 + 0 + 0 + 0 + 0 + 2 + 0 + 0 ≤ _)⟩)
  dsimp only [Pt.U, Pt.locs, Pt.cells, Pt.slots] at X27 l27 y27 z27 st27 hQ27
  rw [l27, y27, z27] at X27
  obtain ⟨rfl, Nq27, hq27⟩ := hQ27
  have N27 := Fr.app N24 Nq27
  have k28_ : ∀ t, Steps p.tables e below (T27.setTop (mkF m 61 #[.val (.long p0), .second, ov p1, ov p2, ov p3, ov p4, oi l0_, oi l1_, oi l2_, oi l3_, .unset, .unset, .unset, .unset, .unset, .unset, .unset, .unset, .unset, .unset, .unset, .unset, .unset, .unset, .unset, .unset, .unset, .unset, .unset, .unset] [(.int (own_chl p0 (1 : Int32))), (.int (1 : Int32)), (.ref b18), (.ref b18)])) t → G_ t := fun t q => k26_ t (st27 t q)
  obtain ⟨cl29, Ar29, q29, S29, M29, H29, G29⟩ := V_b18
  obtain ⟨T30, h30, X30, e30, W30, st30⟩ := stC X27 hx hZ hq27 Ar29 (j := (1 : Int32)) (inb_of S29 ⟨by decide, by decide⟩) (g := (mkF m 61 #[.val (.long p0), .second, ov p1, ov p2, ov p3, ov p4, oi l0_, oi l1_, oi l2_, oi l3_, .unset, .unset, .unset, .unset, .unset, .unset, .unset, .unset, .unset, .unset, .unset, .unset, .unset, .unset, .unset, .unset, .unset, .unset, .unset, .unset] [(.int (own_chl p0 (1 : Int32))), (.int (1 : Int32)), (.ref b18), (.ref b18)])) rfl rfl (hb hby at_61)
  have k31_ : ∀ t, Steps p.tables e below (T30.setTop (mkF m 62 #[.val (.long p0), .second, ov p1, ov p2, ov p3, ov p4, oi l0_, oi l1_, oi l2_, oi l3_, .unset, .unset, .unset, .unset, .unset, .unset, .unset, .unset, .unset, .unset, .unset, .unset, .unset, .unset, .unset, .unset, .unset, .unset, .unset, .unset] [(.ref b18)])) t → G_ t := fun t q => k28_ t (st30 t q)
  have N30 := Fr.snoc X30 N27 g_b18
  rw [own_nc (own_chl_r p0 (1 : Int32))] at W30
  replace Zn := Nat.le_trans Zn (Keep.of_wr W30).1
  replace hk := Nat.le_trans hk (Keep.of_wr W30).1
  have V_b18 : Arv Z h30 b18 c18 .char (2 : Int32) [(.int (own_chl p0 (0 : Int32))), (.int (own_chl p0 (1 : Int32)))] (.int (0 : Int32)) := Arv.set Ar29 q29 S29 M29 H29 G29 (by have q := fits_nar_char (own_chl p0 (1 : Int32)); rw [own_nc (own_chl_r p0 (1 : Int32))] at q; exact q) W30 1 rfl (Nat.le_of_ble_eq_true rfl)
  replace KP := KP.wr W30 (Or.inr z_b18)
  replace X00 := X00.wr W30 g_b18
  replace hCH := hCH.trans (CHr.wr W30 (Safe.arr hZ.alike Ar29 (fun h => by cases h)) hCH.1)
  have k32_ : ∀ t, Steps p.tables e below (T30.setTop (mkF m 65 #[.val (.long p0), .second, ov p1, ov p2, ov p3, ov p4, oi l0_, oi l1_, oi l2_, oi l3_, oa b18, .unset, .unset, .unset, .unset, .unset, .unset, .unset, .unset, .unset, .unset, .unset, .unset, .unset, .unset, .unset, .unset, .unset, .unset, .unset] [(.int (2 : Int32))])) t → G_ t := by
    intro t q
    refine k31_ _ ?_
    show Steps p.tables e below (T30.setTop (mkF m 62 #[.val (.long p0), .second, ov p1, ov p2, ov p3, ov p4, oi l0_, oi l1_, oi l2_, oi l3_, .unset, .unset, .unset, .unset, .unset, .unset, .unset, .unset, .unset, .unset, .unset, .unset, .unset, .unset, .unset, .unset, .unset, .unset, .unset, .unset] [(.ref b18)])) _
    refine XS.astore X30.here hx rfl (hb hby at_62) rfl rfl (l' := #[.val (.long p0), .second, ov p1, ov p2, ov p3, ov p4, oi l0_, oi l1_, oi l2_, oi l3_, oa b18, .unset, .unset, .unset, .unset, .unset, .unset, .unset, .unset, .unset, .unset, .unset, .unset, .unset, .unset, .unset, .unset, .unset, .unset, .unset]) rfl ?_
    refine XS.iconst X30.here hx rfl (hb hby at_64) ?_
    show Steps p.tables e below (T30.setTop (mkF m 65 #[.val (.long p0), .second, ov p1, ov p2, ov p3, ov p4, oi l0_, oi l1_, oi l2_, oi l3_, oa b18, .unset, .unset, .unset, .unset, .unset, .unset, .unset, .unset, .unset, .unset, .unset, .unset, .unset, .unset, .unset, .unset, .unset, .unset, .unset] [(.int (2 : Int32))])) _
    exact q
  obtain ⟨T33, h33, c33, X33, e33, E33, A33, st33⟩ := newP X30 hx hZ (hw _ (List.mem_of_getElem? (i := 4) rfl)) e30 (g := (mkF m 65 #[.val (.long p0), .second, ov p1, ov p2, ov p3, ov p4, oi l0_, oi l1_, oi l2_, oi l3_, oa b18, .unset, .unset, .unset, .unset, .unset, .unset, .unset, .unset, .unset, .unset, .unset, .unset, .unset, .unset, .unset, .unset, .unset, .unset, .unset] [(.int (2 : Int32))])) rfl (hb hby at_65) rfl (by decide) (cap := 2) (by decide) (by decide) (by decide) (by decide)
  obtain ⟨b33, g33⟩ : ∃ z, z = h30.size := ⟨_, rfl⟩
  rw [← g33] at A33 st33
  have k34_ : ∀ t, Steps p.tables e below (T33.setTop (mkF m 67 #[.val (.long p0), .second, ov p1, ov p2, ov p3, ov p4, oi l0_, oi l1_, oi l2_, oi l3_, oa b18, .unset, .unset, .unset, .unset, .unset, .unset, .unset, .unset, .unset, .unset, .unset, .unset, .unset, .unset, .unset, .unset, .unset, .unset, .unset] [(.ref b33)])) t → G_ t := fun t q => k32_ t (st33 t q)
  have ne_b18_b33 : b18 ≠ b33 := Nat.ne_of_lt (Nat.lt_of_lt_of_le V_b18.lt (Nat.le_of_eq g33.symm))
  have g_b33 : n0 ≤ b33 := Nat.le_trans Zn (Nat.le_of_eq g33.symm)
  replace Zn := Nat.le_trans Zn E33.1
  replace hk := Nat.le_trans hk E33.1
  replace V_b18 := V_b18.ext E33
  have V_b33 : Arv Z h33 b33 c33 .char (2 : Int32) [(.int (0 : Int32)), (.int (0 : Int32))] (.int (0 : Int32)) := (Arv.new A33 (by decide)).pad (pad_rep [] (.int (0 : Int32)) 2)
  have z_b33 : h0.size ≤ b33 := by rw [g33]; exact KP.1
  replace KP := KP.ext E33
  replace X00 := X00.ext E33
  replace hCH := hCH.trans (CHr.ext E33 hCH.1)
  have k35_ : ∀ t, Steps p.tables e below (T33.setTop (mkF m 71 #[.val (.long p0), .second, ov p1, ov p2, ov p3, ov p4, oi l0_, oi l1_, oi l2_, oi l3_, oa b18, .unset, .unset, .unset, .unset, .unset, .unset, .unset, .unset, .unset, .unset, .unset, .unset, .unset, .unset, .unset, .unset, .unset, .unset, .unset] [(.int (2 : Int32)), (.long p0), (.int (0 : Int32)), (.ref b33), (.ref b33)])) t → G_ t := by
    intro t q
    refine k34_ _ ?_
    show Steps p.tables e below (T33.setTop (mkF m 67 #[.val (.long p0), .second, ov p1, ov p2, ov p3, ov p4, oi l0_, oi l1_, oi l2_, oi l3_, oa b18, .unset, .unset, .unset, .unset, .unset, .unset, .unset, .unset, .unset, .unset, .unset, .unset, .unset, .unset, .unset, .unset, .unset, .unset, .unset] [(.ref b33)])) _
    refine XS.dup X33.here hx rfl (hb hby at_67) rfl rfl ?_
    refine XS.iconst X33.here hx rfl (hb hby at_68) ?_
    refine XS.lloadN X33.here hx rfl (hb hby at_69) rfl ?_
    refine XS.iconst X33.here hx rfl (hb hby at_70) ?_
    show Steps p.tables e below (T33.setTop (mkF m 71 #[.val (.long p0), .second, ov p1, ov p2, ov p3, ov p4, oi l0_, oi l1_, oi l2_, oi l3_, oa b18, .unset, .unset, .unset, .unset, .unset, .unset, .unset, .unset, .unset, .unset, .unset, .unset, .unset, .unset, .unset, .unset, .unset, .unset, .unset] [(.int (2 : Int32)), (.long p0), (.int (0 : Int32)), (.ref b33), (.ref b33)])) _
    exact q
  obtain ⟨_, _, ⟨T36, L36, kk36, n36⟩, -, X36, ⟨Lc36, hQ36, l36, y36, z36⟩, st36⟩ := Jvm.LawKit.callS X33 hx (y := (⟨"com/example/haku/haku/index/UnitPathsAddPinLaw", "ch", "(JI)C"⟩ : MethodName)) hown (mvT hZ (hw _ (List.mem_of_getElem? (i := 5) rfl))) (mvT hZ (hw _ (List.mem_of_getElem? (i := 6) rfl))) (mvT hZ (hw _ (List.mem_of_getElem? (i := 7) rfl))) (mvT hZ (hw _ (List.mem_of_getElem? (i := 8) rfl))) (by decide) (backOf (W := 3) (rmK l Z a0 hw [] p0 (2 : Int32) h33 n0 Zn) hZ (hw _ (List.mem_of_getElem? (i := 8) rfl)) (hw _ (List.mem_of_getElem? (i := 7) rfl)) (by decide) (by decide)) (g := (mkF m 71 #[.val (.long p0), .second, ov p1, ov p2, ov p3, ov p4, oi l0_, oi l1_, oi l2_, oi l3_, oa b18, .unset, .unset, .unset, .unset, .unset, .unset, .unset, .unset, .unset, .unset, .unset, .unset, .unset, .unset, .unset, .unset, .unset, .unset, .unset] [(.int (2 : Int32)), (.long p0), (.int (0 : Int32)), (.ref b33), (.ref b33)])) rfl (by rw [hml]; rfl) (argsL := [(.long p0), (.int (2 : Int32))]) (rest := [(.int (0 : Int32)), (.ref b33), (.ref b33)]) (lenOf pd_20205 rfl) rfl (by show 2 * 0 + _ ≤ _; exact Nat.le_of_eq rfl) (hb hby at_71) (fun _ _ => ⟨rfl, e33, (by decide : 0 + 0 + 0 + 0 + 0 + 1 + 0 + 0 + 1 + 0 ≤ _), (by decide : 0 + 0 + 0 + 0 + 0 + 2 + 0 + 0 + 2 + 0 ≤ _)⟩)
  dsimp only [Pt.U, Pt.locs, Pt.cells, Pt.slots] at X36 l36 y36 z36 st36 hQ36
  rw [l36, y36, z36] at X36
  obtain ⟨rfl, Nq36, hq36⟩ := hQ36
  have N36 := Fr.app N30 Nq36
  have k37_ : ∀ t, Steps p.tables e below (T36.setTop (mkF m 74 #[.val (.long p0), .second, ov p1, ov p2, ov p3, ov p4, oi l0_, oi l1_, oi l2_, oi l3_, oa b18, .unset, .unset, .unset, .unset, .unset, .unset, .unset, .unset, .unset, .unset, .unset, .unset, .unset, .unset, .unset, .unset, .unset, .unset, .unset] [(.int (own_chl p0 (2 : Int32))), (.int (0 : Int32)), (.ref b33), (.ref b33)])) t → G_ t := fun t q => k35_ t (st36 t q)
  obtain ⟨cl38, Ar38, q38, S38, M38, H38, G38⟩ := V_b33
  obtain ⟨T39, h39, X39, e39, W39, st39⟩ := stC X36 hx hZ hq36 Ar38 (j := (0 : Int32)) (inb_of S38 ⟨by decide, by decide⟩) (g := (mkF m 74 #[.val (.long p0), .second, ov p1, ov p2, ov p3, ov p4, oi l0_, oi l1_, oi l2_, oi l3_, oa b18, .unset, .unset, .unset, .unset, .unset, .unset, .unset, .unset, .unset, .unset, .unset, .unset, .unset, .unset, .unset, .unset, .unset, .unset, .unset] [(.int (own_chl p0 (2 : Int32))), (.int (0 : Int32)), (.ref b33), (.ref b33)])) rfl rfl (hb hby at_74)
  have k40_ : ∀ t, Steps p.tables e below (T39.setTop (mkF m 75 #[.val (.long p0), .second, ov p1, ov p2, ov p3, ov p4, oi l0_, oi l1_, oi l2_, oi l3_, oa b18, .unset, .unset, .unset, .unset, .unset, .unset, .unset, .unset, .unset, .unset, .unset, .unset, .unset, .unset, .unset, .unset, .unset, .unset, .unset] [(.ref b33)])) t → G_ t := fun t q => k37_ t (st39 t q)
  have N39 := Fr.snoc X39 N36 g_b33
  rw [own_nc (own_chl_r p0 (2 : Int32))] at W39
  replace Zn := Nat.le_trans Zn (Keep.of_wr W39).1
  replace hk := Nat.le_trans hk (Keep.of_wr W39).1
  replace V_b18 := V_b18.other W39 ne_b18_b33
  have V_b33 : Arv Z h39 b33 c33 .char (2 : Int32) [(.int (own_chl p0 (2 : Int32))), (.int (0 : Int32))] (.int (0 : Int32)) := Arv.set Ar38 q38 S38 M38 H38 G38 (by have q := fits_nar_char (own_chl p0 (2 : Int32)); rw [own_nc (own_chl_r p0 (2 : Int32))] at q; exact q) W39 0 rfl (Nat.le_of_ble_eq_true rfl)
  replace KP := KP.wr W39 (Or.inr z_b33)
  replace X00 := X00.wr W39 g_b33
  replace hCH := hCH.trans (CHr.wr W39 (Safe.arr hZ.alike Ar38 (fun h => by cases h)) hCH.1)
  have k41_ : ∀ t, Steps p.tables e below (T39.setTop (mkF m 79 #[.val (.long p0), .second, ov p1, ov p2, ov p3, ov p4, oi l0_, oi l1_, oi l2_, oi l3_, oa b18, .unset, .unset, .unset, .unset, .unset, .unset, .unset, .unset, .unset, .unset, .unset, .unset, .unset, .unset, .unset, .unset, .unset, .unset, .unset] [(.int (3 : Int32)), (.long p0), (.int (1 : Int32)), (.ref b33), (.ref b33)])) t → G_ t := by
    intro t q
    refine k40_ _ ?_
    show Steps p.tables e below (T39.setTop (mkF m 75 #[.val (.long p0), .second, ov p1, ov p2, ov p3, ov p4, oi l0_, oi l1_, oi l2_, oi l3_, oa b18, .unset, .unset, .unset, .unset, .unset, .unset, .unset, .unset, .unset, .unset, .unset, .unset, .unset, .unset, .unset, .unset, .unset, .unset, .unset] [(.ref b33)])) _
    refine XS.dup X39.here hx rfl (hb hby at_75) rfl rfl ?_
    refine XS.iconst X39.here hx rfl (hb hby at_76) ?_
    refine XS.lloadN X39.here hx rfl (hb hby at_77) rfl ?_
    refine XS.iconst X39.here hx rfl (hb hby at_78) ?_
    show Steps p.tables e below (T39.setTop (mkF m 79 #[.val (.long p0), .second, ov p1, ov p2, ov p3, ov p4, oi l0_, oi l1_, oi l2_, oi l3_, oa b18, .unset, .unset, .unset, .unset, .unset, .unset, .unset, .unset, .unset, .unset, .unset, .unset, .unset, .unset, .unset, .unset, .unset, .unset, .unset] [(.int (3 : Int32)), (.long p0), (.int (1 : Int32)), (.ref b33), (.ref b33)])) _
    exact q
  obtain ⟨_, _, ⟨T42, L42, kk42, n42⟩, -, X42, ⟨Lc42, hQ42, l42, y42, z42⟩, st42⟩ := Jvm.LawKit.callS X39 hx (y := (⟨"com/example/haku/haku/index/UnitPathsAddPinLaw", "ch", "(JI)C"⟩ : MethodName)) hown (mvT hZ (hw _ (List.mem_of_getElem? (i := 5) rfl))) (mvT hZ (hw _ (List.mem_of_getElem? (i := 6) rfl))) (mvT hZ (hw _ (List.mem_of_getElem? (i := 7) rfl))) (mvT hZ (hw _ (List.mem_of_getElem? (i := 8) rfl))) (by decide) (backOf (W := 3) (rmK l Z a0 hw [] p0 (3 : Int32) h39 n0 Zn) hZ (hw _ (List.mem_of_getElem? (i := 8) rfl)) (hw _ (List.mem_of_getElem? (i := 7) rfl)) (by decide) (by decide)) (g := (mkF m 79 #[.val (.long p0), .second, ov p1, ov p2, ov p3, ov p4, oi l0_, oi l1_, oi l2_, oi l3_, oa b18, .unset, .unset, .unset, .unset, .unset, .unset, .unset, .unset, .unset, .unset, .unset, .unset, .unset, .unset, .unset, .unset, .unset, .unset, .unset] [(.int (3 : Int32)), (.long p0), (.int (1 : Int32)), (.ref b33), (.ref b33)])) rfl (by rw [hml]; rfl) (argsL := [(.long p0), (.int (3 : Int32))]) (rest := [(.int (1 : Int32)), (.ref b33), (.ref b33)]) (lenOf pd_20205 rfl) rfl (by show 2 * 0 + _ ≤ _; exact Nat.le_of_eq rfl) (hb hby at_79) (fun _ _ => ⟨rfl, e39, (by decide : 0 + 0 + 0 + 0 + 0 + 1 + 0 + 0 + 1 + 0 + 0 ≤ _), (by decide : 0 + 0 + 0 + 0 + 0 + 2 + 0 + 0 + 2 + 0 + 0 ≤ _)⟩)
  dsimp only [Pt.U, Pt.locs, Pt.cells, Pt.slots] at X42 l42 y42 z42 st42 hQ42
  rw [l42, y42, z42] at X42
  obtain ⟨rfl, Nq42, hq42⟩ := hQ42
  have N42 := Fr.app N39 Nq42
  have k43_ : ∀ t, Steps p.tables e below (T42.setTop (mkF m 82 #[.val (.long p0), .second, ov p1, ov p2, ov p3, ov p4, oi l0_, oi l1_, oi l2_, oi l3_, oa b18, .unset, .unset, .unset, .unset, .unset, .unset, .unset, .unset, .unset, .unset, .unset, .unset, .unset, .unset, .unset, .unset, .unset, .unset, .unset] [(.int (own_chl p0 (3 : Int32))), (.int (1 : Int32)), (.ref b33), (.ref b33)])) t → G_ t := fun t q => k41_ t (st42 t q)
  obtain ⟨cl44, Ar44, q44, S44, M44, H44, G44⟩ := V_b33
  obtain ⟨T45, h45, X45, e45, W45, st45⟩ := stC X42 hx hZ hq42 Ar44 (j := (1 : Int32)) (inb_of S44 ⟨by decide, by decide⟩) (g := (mkF m 82 #[.val (.long p0), .second, ov p1, ov p2, ov p3, ov p4, oi l0_, oi l1_, oi l2_, oi l3_, oa b18, .unset, .unset, .unset, .unset, .unset, .unset, .unset, .unset, .unset, .unset, .unset, .unset, .unset, .unset, .unset, .unset, .unset, .unset, .unset] [(.int (own_chl p0 (3 : Int32))), (.int (1 : Int32)), (.ref b33), (.ref b33)])) rfl rfl (hb hby at_82)
  have k46_ : ∀ t, Steps p.tables e below (T45.setTop (mkF m 83 #[.val (.long p0), .second, ov p1, ov p2, ov p3, ov p4, oi l0_, oi l1_, oi l2_, oi l3_, oa b18, .unset, .unset, .unset, .unset, .unset, .unset, .unset, .unset, .unset, .unset, .unset, .unset, .unset, .unset, .unset, .unset, .unset, .unset, .unset] [(.ref b33)])) t → G_ t := fun t q => k43_ t (st45 t q)
  have N45 := Fr.snoc X45 N42 g_b33
  rw [own_nc (own_chl_r p0 (3 : Int32))] at W45
  replace Zn := Nat.le_trans Zn (Keep.of_wr W45).1
  replace hk := Nat.le_trans hk (Keep.of_wr W45).1
  replace V_b18 := V_b18.other W45 ne_b18_b33
  have V_b33 : Arv Z h45 b33 c33 .char (2 : Int32) [(.int (own_chl p0 (2 : Int32))), (.int (own_chl p0 (3 : Int32)))] (.int (0 : Int32)) := Arv.set Ar44 q44 S44 M44 H44 G44 (by have q := fits_nar_char (own_chl p0 (3 : Int32)); rw [own_nc (own_chl_r p0 (3 : Int32))] at q; exact q) W45 1 rfl (Nat.le_of_ble_eq_true rfl)
  replace KP := KP.wr W45 (Or.inr z_b33)
  replace X00 := X00.wr W45 g_b33
  replace hCH := hCH.trans (CHr.wr W45 (Safe.arr hZ.alike Ar44 (fun h => by cases h)) hCH.1)
  have k47_ : ∀ t, Steps p.tables e below (T45.setTop (mkF m 86 #[.val (.long p0), .second, ov p1, ov p2, ov p3, ov p4, oi l0_, oi l1_, oi l2_, oi l3_, oa b18, oa b33, .unset, .unset, .unset, .unset, .unset, .unset, .unset, .unset, .unset, .unset, .unset, .unset, .unset, .unset, .unset, .unset, .unset, .unset] [(.int (2 : Int32))])) t → G_ t := by
    intro t q
    refine k46_ _ ?_
    show Steps p.tables e below (T45.setTop (mkF m 83 #[.val (.long p0), .second, ov p1, ov p2, ov p3, ov p4, oi l0_, oi l1_, oi l2_, oi l3_, oa b18, .unset, .unset, .unset, .unset, .unset, .unset, .unset, .unset, .unset, .unset, .unset, .unset, .unset, .unset, .unset, .unset, .unset, .unset, .unset] [(.ref b33)])) _
    refine XS.astore X45.here hx rfl (hb hby at_83) rfl rfl (l' := #[.val (.long p0), .second, ov p1, ov p2, ov p3, ov p4, oi l0_, oi l1_, oi l2_, oi l3_, oa b18, oa b33, .unset, .unset, .unset, .unset, .unset, .unset, .unset, .unset, .unset, .unset, .unset, .unset, .unset, .unset, .unset, .unset, .unset, .unset]) rfl ?_
    refine XS.iconst X45.here hx rfl (hb hby at_85) ?_
    show Steps p.tables e below (T45.setTop (mkF m 86 #[.val (.long p0), .second, ov p1, ov p2, ov p3, ov p4, oi l0_, oi l1_, oi l2_, oi l3_, oa b18, oa b33, .unset, .unset, .unset, .unset, .unset, .unset, .unset, .unset, .unset, .unset, .unset, .unset, .unset, .unset, .unset, .unset, .unset, .unset] [(.int (2 : Int32))])) _
    exact q
  obtain ⟨T48, h48, c48, X48, e48, E48, A48, st48⟩ := newP X45 hx hZ (hw _ (List.mem_of_getElem? (i := 4) rfl)) e45 (g := (mkF m 86 #[.val (.long p0), .second, ov p1, ov p2, ov p3, ov p4, oi l0_, oi l1_, oi l2_, oi l3_, oa b18, oa b33, .unset, .unset, .unset, .unset, .unset, .unset, .unset, .unset, .unset, .unset, .unset, .unset, .unset, .unset, .unset, .unset, .unset, .unset] [(.int (2 : Int32))])) rfl (hb hby at_86) rfl (by decide) (cap := 2) (by decide) (by decide) (by decide) (by decide)
  obtain ⟨b48, g48⟩ : ∃ z, z = h45.size := ⟨_, rfl⟩
  rw [← g48] at A48 st48
  have k49_ : ∀ t, Steps p.tables e below (T48.setTop (mkF m 88 #[.val (.long p0), .second, ov p1, ov p2, ov p3, ov p4, oi l0_, oi l1_, oi l2_, oi l3_, oa b18, oa b33, .unset, .unset, .unset, .unset, .unset, .unset, .unset, .unset, .unset, .unset, .unset, .unset, .unset, .unset, .unset, .unset, .unset, .unset] [(.ref b48)])) t → G_ t := fun t q => k47_ t (st48 t q)
  have ne_b18_b48 : b18 ≠ b48 := Nat.ne_of_lt (Nat.lt_of_lt_of_le V_b18.lt (Nat.le_of_eq g48.symm))
  have ne_b33_b48 : b33 ≠ b48 := Nat.ne_of_lt (Nat.lt_of_lt_of_le V_b33.lt (Nat.le_of_eq g48.symm))
  have g_b48 : n0 ≤ b48 := Nat.le_trans Zn (Nat.le_of_eq g48.symm)
  replace Zn := Nat.le_trans Zn E48.1
  replace hk := Nat.le_trans hk E48.1
  replace V_b18 := V_b18.ext E48
  replace V_b33 := V_b33.ext E48
  have V_b48 : Arv Z h48 b48 c48 .char (2 : Int32) [(.int (0 : Int32)), (.int (0 : Int32))] (.int (0 : Int32)) := (Arv.new A48 (by decide)).pad (pad_rep [] (.int (0 : Int32)) 2)
  have z_b48 : h0.size ≤ b48 := by rw [g48]; exact KP.1
  replace KP := KP.ext E48
  replace X00 := X00.ext E48
  replace hCH := hCH.trans (CHr.ext E48 hCH.1)
  have k50_ : ∀ t, Steps p.tables e below (T48.setTop (mkF m 92 #[.val (.long p0), .second, ov p1, ov p2, ov p3, ov p4, oi l0_, oi l1_, oi l2_, oi l3_, oa b18, oa b33, .unset, .unset, .unset, .unset, .unset, .unset, .unset, .unset, .unset, .unset, .unset, .unset, .unset, .unset, .unset, .unset, .unset, .unset] [(.int (4 : Int32)), (.long p0), (.int (0 : Int32)), (.ref b48), (.ref b48)])) t → G_ t := by
    intro t q
    refine k49_ _ ?_
    show Steps p.tables e below (T48.setTop (mkF m 88 #[.val (.long p0), .second, ov p1, ov p2, ov p3, ov p4, oi l0_, oi l1_, oi l2_, oi l3_, oa b18, oa b33, .unset, .unset, .unset, .unset, .unset, .unset, .unset, .unset, .unset, .unset, .unset, .unset, .unset, .unset, .unset, .unset, .unset, .unset] [(.ref b48)])) _
    refine XS.dup X48.here hx rfl (hb hby at_88) rfl rfl ?_
    refine XS.iconst X48.here hx rfl (hb hby at_89) ?_
    refine XS.lloadN X48.here hx rfl (hb hby at_90) rfl ?_
    refine XS.iconst X48.here hx rfl (hb hby at_91) ?_
    show Steps p.tables e below (T48.setTop (mkF m 92 #[.val (.long p0), .second, ov p1, ov p2, ov p3, ov p4, oi l0_, oi l1_, oi l2_, oi l3_, oa b18, oa b33, .unset, .unset, .unset, .unset, .unset, .unset, .unset, .unset, .unset, .unset, .unset, .unset, .unset, .unset, .unset, .unset, .unset, .unset] [(.int (4 : Int32)), (.long p0), (.int (0 : Int32)), (.ref b48), (.ref b48)])) _
    exact q
  obtain ⟨_, _, ⟨T51, L51, kk51, n51⟩, -, X51, ⟨Lc51, hQ51, l51, y51, z51⟩, st51⟩ := Jvm.LawKit.callS X48 hx (y := (⟨"com/example/haku/haku/index/UnitPathsAddPinLaw", "ch", "(JI)C"⟩ : MethodName)) hown (mvT hZ (hw _ (List.mem_of_getElem? (i := 5) rfl))) (mvT hZ (hw _ (List.mem_of_getElem? (i := 6) rfl))) (mvT hZ (hw _ (List.mem_of_getElem? (i := 7) rfl))) (mvT hZ (hw _ (List.mem_of_getElem? (i := 8) rfl))) (by decide) (backOf (W := 3) (rmK l Z a0 hw [] p0 (4 : Int32) h48 n0 Zn) hZ (hw _ (List.mem_of_getElem? (i := 8) rfl)) (hw _ (List.mem_of_getElem? (i := 7) rfl)) (by decide) (by decide)) (g := (mkF m 92 #[.val (.long p0), .second, ov p1, ov p2, ov p3, ov p4, oi l0_, oi l1_, oi l2_, oi l3_, oa b18, oa b33, .unset, .unset, .unset, .unset, .unset, .unset, .unset, .unset, .unset, .unset, .unset, .unset, .unset, .unset, .unset, .unset, .unset, .unset] [(.int (4 : Int32)), (.long p0), (.int (0 : Int32)), (.ref b48), (.ref b48)])) rfl (by rw [hml]; rfl) (argsL := [(.long p0), (.int (4 : Int32))]) (rest := [(.int (0 : Int32)), (.ref b48), (.ref b48)]) (lenOf pd_20205 rfl) rfl (by show 2 * 0 + _ ≤ _; exact Nat.le_of_eq rfl) (hb hby at_92) (fun _ _ => ⟨rfl, e48, (by decide : 0 + 0 + 0 + 0 + 0 + 1 + 0 + 0 + 1 + 0 + 0 + 1 + 0 ≤ _), (by decide : 0 + 0 + 0 + 0 + 0 + 2 + 0 + 0 + 2 + 0 + 0 + 2 + 0 ≤ _)⟩)
  dsimp only [Pt.U, Pt.locs, Pt.cells, Pt.slots] at X51 l51 y51 z51 st51 hQ51
  rw [l51, y51, z51] at X51
  obtain ⟨rfl, Nq51, hq51⟩ := hQ51
  have N51 := Fr.app N45 Nq51
  have k52_ : ∀ t, Steps p.tables e below (T51.setTop (mkF m 95 #[.val (.long p0), .second, ov p1, ov p2, ov p3, ov p4, oi l0_, oi l1_, oi l2_, oi l3_, oa b18, oa b33, .unset, .unset, .unset, .unset, .unset, .unset, .unset, .unset, .unset, .unset, .unset, .unset, .unset, .unset, .unset, .unset, .unset, .unset] [(.int (own_chl p0 (4 : Int32))), (.int (0 : Int32)), (.ref b48), (.ref b48)])) t → G_ t := fun t q => k50_ t (st51 t q)
  obtain ⟨cl53, Ar53, q53, S53, M53, H53, G53⟩ := V_b48
  obtain ⟨T54, h54, X54, e54, W54, st54⟩ := stC X51 hx hZ hq51 Ar53 (j := (0 : Int32)) (inb_of S53 ⟨by decide, by decide⟩) (g := (mkF m 95 #[.val (.long p0), .second, ov p1, ov p2, ov p3, ov p4, oi l0_, oi l1_, oi l2_, oi l3_, oa b18, oa b33, .unset, .unset, .unset, .unset, .unset, .unset, .unset, .unset, .unset, .unset, .unset, .unset, .unset, .unset, .unset, .unset, .unset, .unset] [(.int (own_chl p0 (4 : Int32))), (.int (0 : Int32)), (.ref b48), (.ref b48)])) rfl rfl (hb hby at_95)
  have k55_ : ∀ t, Steps p.tables e below (T54.setTop (mkF m 96 #[.val (.long p0), .second, ov p1, ov p2, ov p3, ov p4, oi l0_, oi l1_, oi l2_, oi l3_, oa b18, oa b33, .unset, .unset, .unset, .unset, .unset, .unset, .unset, .unset, .unset, .unset, .unset, .unset, .unset, .unset, .unset, .unset, .unset, .unset] [(.ref b48)])) t → G_ t := fun t q => k52_ t (st54 t q)
  have N54 := Fr.snoc X54 N51 g_b48
  rw [own_nc (own_chl_r p0 (4 : Int32))] at W54
  replace Zn := Nat.le_trans Zn (Keep.of_wr W54).1
  replace hk := Nat.le_trans hk (Keep.of_wr W54).1
  replace V_b18 := V_b18.other W54 ne_b18_b48
  replace V_b33 := V_b33.other W54 ne_b33_b48
  have V_b48 : Arv Z h54 b48 c48 .char (2 : Int32) [(.int (own_chl p0 (4 : Int32))), (.int (0 : Int32))] (.int (0 : Int32)) := Arv.set Ar53 q53 S53 M53 H53 G53 (by have q := fits_nar_char (own_chl p0 (4 : Int32)); rw [own_nc (own_chl_r p0 (4 : Int32))] at q; exact q) W54 0 rfl (Nat.le_of_ble_eq_true rfl)
  replace KP := KP.wr W54 (Or.inr z_b48)
  replace X00 := X00.wr W54 g_b48
  replace hCH := hCH.trans (CHr.wr W54 (Safe.arr hZ.alike Ar53 (fun h => by cases h)) hCH.1)
  have k56_ : ∀ t, Steps p.tables e below (T54.setTop (mkF m 100 #[.val (.long p0), .second, ov p1, ov p2, ov p3, ov p4, oi l0_, oi l1_, oi l2_, oi l3_, oa b18, oa b33, .unset, .unset, .unset, .unset, .unset, .unset, .unset, .unset, .unset, .unset, .unset, .unset, .unset, .unset, .unset, .unset, .unset, .unset] [(.int (5 : Int32)), (.long p0), (.int (1 : Int32)), (.ref b48), (.ref b48)])) t → G_ t := by
    intro t q
    refine k55_ _ ?_
    show Steps p.tables e below (T54.setTop (mkF m 96 #[.val (.long p0), .second, ov p1, ov p2, ov p3, ov p4, oi l0_, oi l1_, oi l2_, oi l3_, oa b18, oa b33, .unset, .unset, .unset, .unset, .unset, .unset, .unset, .unset, .unset, .unset, .unset, .unset, .unset, .unset, .unset, .unset, .unset, .unset] [(.ref b48)])) _
    refine XS.dup X54.here hx rfl (hb hby at_96) rfl rfl ?_
    refine XS.iconst X54.here hx rfl (hb hby at_97) ?_
    refine XS.lloadN X54.here hx rfl (hb hby at_98) rfl ?_
    refine XS.iconst X54.here hx rfl (hb hby at_99) ?_
    show Steps p.tables e below (T54.setTop (mkF m 100 #[.val (.long p0), .second, ov p1, ov p2, ov p3, ov p4, oi l0_, oi l1_, oi l2_, oi l3_, oa b18, oa b33, .unset, .unset, .unset, .unset, .unset, .unset, .unset, .unset, .unset, .unset, .unset, .unset, .unset, .unset, .unset, .unset, .unset, .unset] [(.int (5 : Int32)), (.long p0), (.int (1 : Int32)), (.ref b48), (.ref b48)])) _
    exact q
  obtain ⟨_, _, ⟨T57, L57, kk57, n57⟩, -, X57, ⟨Lc57, hQ57, l57, y57, z57⟩, st57⟩ := Jvm.LawKit.callS X54 hx (y := (⟨"com/example/haku/haku/index/UnitPathsAddPinLaw", "ch", "(JI)C"⟩ : MethodName)) hown (mvT hZ (hw _ (List.mem_of_getElem? (i := 5) rfl))) (mvT hZ (hw _ (List.mem_of_getElem? (i := 6) rfl))) (mvT hZ (hw _ (List.mem_of_getElem? (i := 7) rfl))) (mvT hZ (hw _ (List.mem_of_getElem? (i := 8) rfl))) (by decide) (backOf (W := 3) (rmK l Z a0 hw [] p0 (5 : Int32) h54 n0 Zn) hZ (hw _ (List.mem_of_getElem? (i := 8) rfl)) (hw _ (List.mem_of_getElem? (i := 7) rfl)) (by decide) (by decide)) (g := (mkF m 100 #[.val (.long p0), .second, ov p1, ov p2, ov p3, ov p4, oi l0_, oi l1_, oi l2_, oi l3_, oa b18, oa b33, .unset, .unset, .unset, .unset, .unset, .unset, .unset, .unset, .unset, .unset, .unset, .unset, .unset, .unset, .unset, .unset, .unset, .unset] [(.int (5 : Int32)), (.long p0), (.int (1 : Int32)), (.ref b48), (.ref b48)])) rfl (by rw [hml]; rfl) (argsL := [(.long p0), (.int (5 : Int32))]) (rest := [(.int (1 : Int32)), (.ref b48), (.ref b48)]) (lenOf pd_20205 rfl) rfl (by show 2 * 0 + _ ≤ _; exact Nat.le_of_eq rfl) (hb hby at_100) (fun _ _ => ⟨rfl, e54, (by decide : 0 + 0 + 0 + 0 + 0 + 1 + 0 + 0 + 1 + 0 + 0 + 1 + 0 + 0 ≤ _), (by decide : 0 + 0 + 0 + 0 + 0 + 2 + 0 + 0 + 2 + 0 + 0 + 2 + 0 + 0 ≤ _)⟩)
  dsimp only [Pt.U, Pt.locs, Pt.cells, Pt.slots] at X57 l57 y57 z57 st57 hQ57
  rw [l57, y57, z57] at X57
  obtain ⟨rfl, Nq57, hq57⟩ := hQ57
  have N57 := Fr.app N54 Nq57
  have k58_ : ∀ t, Steps p.tables e below (T57.setTop (mkF m 103 #[.val (.long p0), .second, ov p1, ov p2, ov p3, ov p4, oi l0_, oi l1_, oi l2_, oi l3_, oa b18, oa b33, .unset, .unset, .unset, .unset, .unset, .unset, .unset, .unset, .unset, .unset, .unset, .unset, .unset, .unset, .unset, .unset, .unset, .unset] [(.int (own_chl p0 (5 : Int32))), (.int (1 : Int32)), (.ref b48), (.ref b48)])) t → G_ t := fun t q => k56_ t (st57 t q)
  obtain ⟨cl59, Ar59, q59, S59, M59, H59, G59⟩ := V_b48
  obtain ⟨T60, h60, X60, e60, W60, st60⟩ := stC X57 hx hZ hq57 Ar59 (j := (1 : Int32)) (inb_of S59 ⟨by decide, by decide⟩) (g := (mkF m 103 #[.val (.long p0), .second, ov p1, ov p2, ov p3, ov p4, oi l0_, oi l1_, oi l2_, oi l3_, oa b18, oa b33, .unset, .unset, .unset, .unset, .unset, .unset, .unset, .unset, .unset, .unset, .unset, .unset, .unset, .unset, .unset, .unset, .unset, .unset] [(.int (own_chl p0 (5 : Int32))), (.int (1 : Int32)), (.ref b48), (.ref b48)])) rfl rfl (hb hby at_103)
  have k61_ : ∀ t, Steps p.tables e below (T60.setTop (mkF m 104 #[.val (.long p0), .second, ov p1, ov p2, ov p3, ov p4, oi l0_, oi l1_, oi l2_, oi l3_, oa b18, oa b33, .unset, .unset, .unset, .unset, .unset, .unset, .unset, .unset, .unset, .unset, .unset, .unset, .unset, .unset, .unset, .unset, .unset, .unset] [(.ref b48)])) t → G_ t := fun t q => k58_ t (st60 t q)
  have N60 := Fr.snoc X60 N57 g_b48
  rw [own_nc (own_chl_r p0 (5 : Int32))] at W60
  replace Zn := Nat.le_trans Zn (Keep.of_wr W60).1
  replace hk := Nat.le_trans hk (Keep.of_wr W60).1
  replace V_b18 := V_b18.other W60 ne_b18_b48
  replace V_b33 := V_b33.other W60 ne_b33_b48
  have V_b48 : Arv Z h60 b48 c48 .char (2 : Int32) [(.int (own_chl p0 (4 : Int32))), (.int (own_chl p0 (5 : Int32)))] (.int (0 : Int32)) := Arv.set Ar59 q59 S59 M59 H59 G59 (by have q := fits_nar_char (own_chl p0 (5 : Int32)); rw [own_nc (own_chl_r p0 (5 : Int32))] at q; exact q) W60 1 rfl (Nat.le_of_ble_eq_true rfl)
  replace KP := KP.wr W60 (Or.inr z_b48)
  replace X00 := X00.wr W60 g_b48
  replace hCH := hCH.trans (CHr.wr W60 (Safe.arr hZ.alike Ar59 (fun h => by cases h)) hCH.1)
  have k62_ : ∀ t, Steps p.tables e below (T60.setTop (mkF m 107 #[.val (.long p0), .second, ov p1, ov p2, ov p3, ov p4, oi l0_, oi l1_, oi l2_, oi l3_, oa b18, oa b33, oa b48, .unset, .unset, .unset, .unset, .unset, .unset, .unset, .unset, .unset, .unset, .unset, .unset, .unset, .unset, .unset, .unset, .unset] [(.int (2 : Int32))])) t → G_ t := by
    intro t q
    refine k61_ _ ?_
    show Steps p.tables e below (T60.setTop (mkF m 104 #[.val (.long p0), .second, ov p1, ov p2, ov p3, ov p4, oi l0_, oi l1_, oi l2_, oi l3_, oa b18, oa b33, .unset, .unset, .unset, .unset, .unset, .unset, .unset, .unset, .unset, .unset, .unset, .unset, .unset, .unset, .unset, .unset, .unset, .unset] [(.ref b48)])) _
    refine XS.astore X60.here hx rfl (hb hby at_104) rfl rfl (l' := #[.val (.long p0), .second, ov p1, ov p2, ov p3, ov p4, oi l0_, oi l1_, oi l2_, oi l3_, oa b18, oa b33, oa b48, .unset, .unset, .unset, .unset, .unset, .unset, .unset, .unset, .unset, .unset, .unset, .unset, .unset, .unset, .unset, .unset, .unset]) rfl ?_
    refine XS.iconst X60.here hx rfl (hb hby at_106) ?_
    show Steps p.tables e below (T60.setTop (mkF m 107 #[.val (.long p0), .second, ov p1, ov p2, ov p3, ov p4, oi l0_, oi l1_, oi l2_, oi l3_, oa b18, oa b33, oa b48, .unset, .unset, .unset, .unset, .unset, .unset, .unset, .unset, .unset, .unset, .unset, .unset, .unset, .unset, .unset, .unset, .unset] [(.int (2 : Int32))])) _
    exact q
  obtain ⟨T63, h63, c63, X63, e63, E63, A63, st63⟩ := newP X60 hx hZ (hw _ (List.mem_of_getElem? (i := 4) rfl)) e60 (g := (mkF m 107 #[.val (.long p0), .second, ov p1, ov p2, ov p3, ov p4, oi l0_, oi l1_, oi l2_, oi l3_, oa b18, oa b33, oa b48, .unset, .unset, .unset, .unset, .unset, .unset, .unset, .unset, .unset, .unset, .unset, .unset, .unset, .unset, .unset, .unset, .unset] [(.int (2 : Int32))])) rfl (hb hby at_107) rfl (by decide) (cap := 2) (by decide) (by decide) (by decide) (by decide)
  obtain ⟨b63, g63⟩ : ∃ z, z = h60.size := ⟨_, rfl⟩
  rw [← g63] at A63 st63
  have k64_ : ∀ t, Steps p.tables e below (T63.setTop (mkF m 109 #[.val (.long p0), .second, ov p1, ov p2, ov p3, ov p4, oi l0_, oi l1_, oi l2_, oi l3_, oa b18, oa b33, oa b48, .unset, .unset, .unset, .unset, .unset, .unset, .unset, .unset, .unset, .unset, .unset, .unset, .unset, .unset, .unset, .unset, .unset] [(.ref b63)])) t → G_ t := fun t q => k62_ t (st63 t q)
  have ne_b18_b63 : b18 ≠ b63 := Nat.ne_of_lt (Nat.lt_of_lt_of_le V_b18.lt (Nat.le_of_eq g63.symm))
  have ne_b33_b63 : b33 ≠ b63 := Nat.ne_of_lt (Nat.lt_of_lt_of_le V_b33.lt (Nat.le_of_eq g63.symm))
  have ne_b48_b63 : b48 ≠ b63 := Nat.ne_of_lt (Nat.lt_of_lt_of_le V_b48.lt (Nat.le_of_eq g63.symm))
  have g_b63 : n0 ≤ b63 := Nat.le_trans Zn (Nat.le_of_eq g63.symm)
  replace Zn := Nat.le_trans Zn E63.1
  replace hk := Nat.le_trans hk E63.1
  replace V_b18 := V_b18.ext E63
  replace V_b33 := V_b33.ext E63
  replace V_b48 := V_b48.ext E63
  have V_b63 : Arv Z h63 b63 c63 .char (2 : Int32) [(.int (0 : Int32)), (.int (0 : Int32))] (.int (0 : Int32)) := (Arv.new A63 (by decide)).pad (pad_rep [] (.int (0 : Int32)) 2)
  have z_b63 : h0.size ≤ b63 := by rw [g63]; exact KP.1
  replace KP := KP.ext E63
  replace X00 := X00.ext E63
  replace hCH := hCH.trans (CHr.ext E63 hCH.1)
  have k65_ : ∀ t, Steps p.tables e below (T63.setTop (mkF m 114 #[.val (.long p0), .second, ov p1, ov p2, ov p3, ov p4, oi l0_, oi l1_, oi l2_, oi l3_, oa b18, oa b33, oa b48, .unset, .unset, .unset, .unset, .unset, .unset, .unset, .unset, .unset, .unset, .unset, .unset, .unset, .unset, .unset, .unset, .unset] [(.int (6 : Int32)), (.long p0), (.int (0 : Int32)), (.ref b63), (.ref b63)])) t → G_ t := by
    intro t q
    refine k64_ _ ?_
    show Steps p.tables e below (T63.setTop (mkF m 109 #[.val (.long p0), .second, ov p1, ov p2, ov p3, ov p4, oi l0_, oi l1_, oi l2_, oi l3_, oa b18, oa b33, oa b48, .unset, .unset, .unset, .unset, .unset, .unset, .unset, .unset, .unset, .unset, .unset, .unset, .unset, .unset, .unset, .unset, .unset] [(.ref b63)])) _
    refine XS.dup X63.here hx rfl (hb hby at_109) rfl rfl ?_
    refine XS.iconst X63.here hx rfl (hb hby at_110) ?_
    refine XS.lloadN X63.here hx rfl (hb hby at_111) rfl ?_
    refine XS.bipush X63.here hx rfl (hb hby at_112) ?_
    show Steps p.tables e below (T63.setTop (mkF m 114 #[.val (.long p0), .second, ov p1, ov p2, ov p3, ov p4, oi l0_, oi l1_, oi l2_, oi l3_, oa b18, oa b33, oa b48, .unset, .unset, .unset, .unset, .unset, .unset, .unset, .unset, .unset, .unset, .unset, .unset, .unset, .unset, .unset, .unset, .unset] [(.int (6 : Int32)), (.long p0), (.int (0 : Int32)), (.ref b63), (.ref b63)])) _
    exact q
  obtain ⟨_, _, ⟨T66, L66, kk66, n66⟩, -, X66, ⟨Lc66, hQ66, l66, y66, z66⟩, st66⟩ := Jvm.LawKit.callS X63 hx (y := (⟨"com/example/haku/haku/index/UnitPathsAddPinLaw", "ch", "(JI)C"⟩ : MethodName)) hown (mvT hZ (hw _ (List.mem_of_getElem? (i := 5) rfl))) (mvT hZ (hw _ (List.mem_of_getElem? (i := 6) rfl))) (mvT hZ (hw _ (List.mem_of_getElem? (i := 7) rfl))) (mvT hZ (hw _ (List.mem_of_getElem? (i := 8) rfl))) (by decide) (backOf (W := 3) (rmK l Z a0 hw [] p0 (6 : Int32) h63 n0 Zn) hZ (hw _ (List.mem_of_getElem? (i := 8) rfl)) (hw _ (List.mem_of_getElem? (i := 7) rfl)) (by decide) (by decide)) (g := (mkF m 114 #[.val (.long p0), .second, ov p1, ov p2, ov p3, ov p4, oi l0_, oi l1_, oi l2_, oi l3_, oa b18, oa b33, oa b48, .unset, .unset, .unset, .unset, .unset, .unset, .unset, .unset, .unset, .unset, .unset, .unset, .unset, .unset, .unset, .unset, .unset] [(.int (6 : Int32)), (.long p0), (.int (0 : Int32)), (.ref b63), (.ref b63)])) rfl (by rw [hml]; rfl) (argsL := [(.long p0), (.int (6 : Int32))]) (rest := [(.int (0 : Int32)), (.ref b63), (.ref b63)]) (lenOf pd_20205 rfl) rfl (by show 2 * 0 + _ ≤ _; exact Nat.le_of_eq rfl) (hb hby at_114) (fun _ _ => ⟨rfl, e63, (by decide : 0 + 0 + 0 + 0 + 0 + 1 + 0 + 0 + 1 + 0 + 0 + 1 + 0 + 0 + 1 + 0 ≤ _), (by decide : 0 + 0 + 0 + 0 + 0 + 2 + 0 + 0 + 2 + 0 + 0 + 2 + 0 + 0 + 2 + 0 ≤ _)⟩)
  dsimp only [Pt.U, Pt.locs, Pt.cells, Pt.slots] at X66 l66 y66 z66 st66 hQ66
  rw [l66, y66, z66] at X66
  obtain ⟨rfl, Nq66, hq66⟩ := hQ66
  have N66 := Fr.app N60 Nq66
  have k67_ : ∀ t, Steps p.tables e below (T66.setTop (mkF m 117 #[.val (.long p0), .second, ov p1, ov p2, ov p3, ov p4, oi l0_, oi l1_, oi l2_, oi l3_, oa b18, oa b33, oa b48, .unset, .unset, .unset, .unset, .unset, .unset, .unset, .unset, .unset, .unset, .unset, .unset, .unset, .unset, .unset, .unset, .unset] [(.int (own_chl p0 (6 : Int32))), (.int (0 : Int32)), (.ref b63), (.ref b63)])) t → G_ t := fun t q => k65_ t (st66 t q)
  obtain ⟨cl68, Ar68, q68, S68, M68, H68, G68⟩ := V_b63
  obtain ⟨T69, h69, X69, e69, W69, st69⟩ := stC X66 hx hZ hq66 Ar68 (j := (0 : Int32)) (inb_of S68 ⟨by decide, by decide⟩) (g := (mkF m 117 #[.val (.long p0), .second, ov p1, ov p2, ov p3, ov p4, oi l0_, oi l1_, oi l2_, oi l3_, oa b18, oa b33, oa b48, .unset, .unset, .unset, .unset, .unset, .unset, .unset, .unset, .unset, .unset, .unset, .unset, .unset, .unset, .unset, .unset, .unset] [(.int (own_chl p0 (6 : Int32))), (.int (0 : Int32)), (.ref b63), (.ref b63)])) rfl rfl (hb hby at_117)
  have k70_ : ∀ t, Steps p.tables e below (T69.setTop (mkF m 118 #[.val (.long p0), .second, ov p1, ov p2, ov p3, ov p4, oi l0_, oi l1_, oi l2_, oi l3_, oa b18, oa b33, oa b48, .unset, .unset, .unset, .unset, .unset, .unset, .unset, .unset, .unset, .unset, .unset, .unset, .unset, .unset, .unset, .unset, .unset] [(.ref b63)])) t → G_ t := fun t q => k67_ t (st69 t q)
  have N69 := Fr.snoc X69 N66 g_b63
  rw [own_nc (own_chl_r p0 (6 : Int32))] at W69
  replace Zn := Nat.le_trans Zn (Keep.of_wr W69).1
  replace hk := Nat.le_trans hk (Keep.of_wr W69).1
  replace V_b18 := V_b18.other W69 ne_b18_b63
  replace V_b33 := V_b33.other W69 ne_b33_b63
  replace V_b48 := V_b48.other W69 ne_b48_b63
  have V_b63 : Arv Z h69 b63 c63 .char (2 : Int32) [(.int (own_chl p0 (6 : Int32))), (.int (0 : Int32))] (.int (0 : Int32)) := Arv.set Ar68 q68 S68 M68 H68 G68 (by have q := fits_nar_char (own_chl p0 (6 : Int32)); rw [own_nc (own_chl_r p0 (6 : Int32))] at q; exact q) W69 0 rfl (Nat.le_of_ble_eq_true rfl)
  replace KP := KP.wr W69 (Or.inr z_b63)
  replace X00 := X00.wr W69 g_b63
  replace hCH := hCH.trans (CHr.wr W69 (Safe.arr hZ.alike Ar68 (fun h => by cases h)) hCH.1)
  have k71_ : ∀ t, Steps p.tables e below (T69.setTop (mkF m 123 #[.val (.long p0), .second, ov p1, ov p2, ov p3, ov p4, oi l0_, oi l1_, oi l2_, oi l3_, oa b18, oa b33, oa b48, .unset, .unset, .unset, .unset, .unset, .unset, .unset, .unset, .unset, .unset, .unset, .unset, .unset, .unset, .unset, .unset, .unset] [(.int (7 : Int32)), (.long p0), (.int (1 : Int32)), (.ref b63), (.ref b63)])) t → G_ t := by
    intro t q
    refine k70_ _ ?_
    show Steps p.tables e below (T69.setTop (mkF m 118 #[.val (.long p0), .second, ov p1, ov p2, ov p3, ov p4, oi l0_, oi l1_, oi l2_, oi l3_, oa b18, oa b33, oa b48, .unset, .unset, .unset, .unset, .unset, .unset, .unset, .unset, .unset, .unset, .unset, .unset, .unset, .unset, .unset, .unset, .unset] [(.ref b63)])) _
    refine XS.dup X69.here hx rfl (hb hby at_118) rfl rfl ?_
    refine XS.iconst X69.here hx rfl (hb hby at_119) ?_
    refine XS.lloadN X69.here hx rfl (hb hby at_120) rfl ?_
    refine XS.bipush X69.here hx rfl (hb hby at_121) ?_
    show Steps p.tables e below (T69.setTop (mkF m 123 #[.val (.long p0), .second, ov p1, ov p2, ov p3, ov p4, oi l0_, oi l1_, oi l2_, oi l3_, oa b18, oa b33, oa b48, .unset, .unset, .unset, .unset, .unset, .unset, .unset, .unset, .unset, .unset, .unset, .unset, .unset, .unset, .unset, .unset, .unset] [(.int (7 : Int32)), (.long p0), (.int (1 : Int32)), (.ref b63), (.ref b63)])) _
    exact q
  obtain ⟨_, _, ⟨T72, L72, kk72, n72⟩, -, X72, ⟨Lc72, hQ72, l72, y72, z72⟩, st72⟩ := Jvm.LawKit.callS X69 hx (y := (⟨"com/example/haku/haku/index/UnitPathsAddPinLaw", "ch", "(JI)C"⟩ : MethodName)) hown (mvT hZ (hw _ (List.mem_of_getElem? (i := 5) rfl))) (mvT hZ (hw _ (List.mem_of_getElem? (i := 6) rfl))) (mvT hZ (hw _ (List.mem_of_getElem? (i := 7) rfl))) (mvT hZ (hw _ (List.mem_of_getElem? (i := 8) rfl))) (by decide) (backOf (W := 3) (rmK l Z a0 hw [] p0 (7 : Int32) h69 n0 Zn) hZ (hw _ (List.mem_of_getElem? (i := 8) rfl)) (hw _ (List.mem_of_getElem? (i := 7) rfl)) (by decide) (by decide)) (g := (mkF m 123 #[.val (.long p0), .second, ov p1, ov p2, ov p3, ov p4, oi l0_, oi l1_, oi l2_, oi l3_, oa b18, oa b33, oa b48, .unset, .unset, .unset, .unset, .unset, .unset, .unset, .unset, .unset, .unset, .unset, .unset, .unset, .unset, .unset, .unset, .unset] [(.int (7 : Int32)), (.long p0), (.int (1 : Int32)), (.ref b63), (.ref b63)])) rfl (by rw [hml]; rfl) (argsL := [(.long p0), (.int (7 : Int32))]) (rest := [(.int (1 : Int32)), (.ref b63), (.ref b63)]) (lenOf pd_20205 rfl) rfl (by show 2 * 0 + _ ≤ _; exact Nat.le_of_eq rfl) (hb hby at_123) (fun _ _ => ⟨rfl, e69, (by decide : 0 + 0 + 0 + 0 + 0 + 1 + 0 + 0 + 1 + 0 + 0 + 1 + 0 + 0 + 1 + 0 + 0 ≤ _), (by decide : 0 + 0 + 0 + 0 + 0 + 2 + 0 + 0 + 2 + 0 + 0 + 2 + 0 + 0 + 2 + 0 + 0 ≤ _)⟩)
  dsimp only [Pt.U, Pt.locs, Pt.cells, Pt.slots] at X72 l72 y72 z72 st72 hQ72
  rw [l72, y72, z72] at X72
  obtain ⟨rfl, Nq72, hq72⟩ := hQ72
  have N72 := Fr.app N69 Nq72
  have k73_ : ∀ t, Steps p.tables e below (T72.setTop (mkF m 126 #[.val (.long p0), .second, ov p1, ov p2, ov p3, ov p4, oi l0_, oi l1_, oi l2_, oi l3_, oa b18, oa b33, oa b48, .unset, .unset, .unset, .unset, .unset, .unset, .unset, .unset, .unset, .unset, .unset, .unset, .unset, .unset, .unset, .unset, .unset] [(.int (own_chl p0 (7 : Int32))), (.int (1 : Int32)), (.ref b63), (.ref b63)])) t → G_ t := fun t q => k71_ t (st72 t q)
  obtain ⟨cl74, Ar74, q74, S74, M74, H74, G74⟩ := V_b63
  obtain ⟨T75, h75, X75, e75, W75, st75⟩ := stC X72 hx hZ hq72 Ar74 (j := (1 : Int32)) (inb_of S74 ⟨by decide, by decide⟩) (g := (mkF m 126 #[.val (.long p0), .second, ov p1, ov p2, ov p3, ov p4, oi l0_, oi l1_, oi l2_, oi l3_, oa b18, oa b33, oa b48, .unset, .unset, .unset, .unset, .unset, .unset, .unset, .unset, .unset, .unset, .unset, .unset, .unset, .unset, .unset, .unset, .unset] [(.int (own_chl p0 (7 : Int32))), (.int (1 : Int32)), (.ref b63), (.ref b63)])) rfl rfl (hb hby at_126)
  have k76_ : ∀ t, Steps p.tables e below (T75.setTop (mkF m 127 #[.val (.long p0), .second, ov p1, ov p2, ov p3, ov p4, oi l0_, oi l1_, oi l2_, oi l3_, oa b18, oa b33, oa b48, .unset, .unset, .unset, .unset, .unset, .unset, .unset, .unset, .unset, .unset, .unset, .unset, .unset, .unset, .unset, .unset, .unset] [(.ref b63)])) t → G_ t := fun t q => k73_ t (st75 t q)
  have N75 := Fr.snoc X75 N72 g_b63
  rw [own_nc (own_chl_r p0 (7 : Int32))] at W75
  replace Zn := Nat.le_trans Zn (Keep.of_wr W75).1
  replace hk := Nat.le_trans hk (Keep.of_wr W75).1
  replace V_b18 := V_b18.other W75 ne_b18_b63
  replace V_b33 := V_b33.other W75 ne_b33_b63
  replace V_b48 := V_b48.other W75 ne_b48_b63
  have V_b63 : Arv Z h75 b63 c63 .char (2 : Int32) [(.int (own_chl p0 (6 : Int32))), (.int (own_chl p0 (7 : Int32)))] (.int (0 : Int32)) := Arv.set Ar74 q74 S74 M74 H74 G74 (by have q := fits_nar_char (own_chl p0 (7 : Int32)); rw [own_nc (own_chl_r p0 (7 : Int32))] at q; exact q) W75 1 rfl (Nat.le_of_ble_eq_true rfl)
  replace KP := KP.wr W75 (Or.inr z_b63)
  replace X00 := X00.wr W75 g_b63
  replace hCH := hCH.trans (CHr.wr W75 (Safe.arr hZ.alike Ar74 (fun h => by cases h)) hCH.1)
  have k77_ : ∀ t, Steps p.tables e below (T75.setTop (mkF m 141 #[.val (.long p0), .second, ov p1, ov p2, ov p3, ov p4, oi l0_, oi l1_, oi l2_, oi l3_, oa b18, oa b33, oa b48, oa b63, oi l0_, .unset, .unset, .unset, .unset, .unset, .unset, .unset, .unset, .unset, .unset, .unset, .unset, .unset, .unset, .unset] [(.int ((Int32.ofNat l0_) + (1 : Int32))), (.int (p2 &&& (2147483647 : Int32)))])) t → G_ t := by
    intro t q
    refine k76_ _ ?_
    show Steps p.tables e below (T75.setTop (mkF m 127 #[.val (.long p0), .second, ov p1, ov p2, ov p3, ov p4, oi l0_, oi l1_, oi l2_, oi l3_, oa b18, oa b33, oa b48, .unset, .unset, .unset, .unset, .unset, .unset, .unset, .unset, .unset, .unset, .unset, .unset, .unset, .unset, .unset, .unset, .unset] [(.ref b63)])) _
    refine XS.astore X75.here hx rfl (hb hby at_127) rfl rfl (l' := #[.val (.long p0), .second, ov p1, ov p2, ov p3, ov p4, oi l0_, oi l1_, oi l2_, oi l3_, oa b18, oa b33, oa b48, oa b63, .unset, .unset, .unset, .unset, .unset, .unset, .unset, .unset, .unset, .unset, .unset, .unset, .unset, .unset, .unset, .unset]) rfl ?_
    refine XS.iload X75.here hx rfl (hb hby at_129) rfl ?_
    refine XS.istore X75.here hx rfl (hb hby at_131) rfl (l' := #[.val (.long p0), .second, ov p1, ov p2, ov p3, ov p4, oi l0_, oi l1_, oi l2_, oi l3_, oa b18, oa b33, oa b48, oa b63, oi l0_, .unset, .unset, .unset, .unset, .unset, .unset, .unset, .unset, .unset, .unset, .unset, .unset, .unset, .unset, .unset]) rfl ?_
    refine XS.iloadN X75.here hx rfl (hb hby at_133) rfl ?_
    refine X75.ldcInt hx hown (mvT hZ (hw _ (List.mem_of_getElem? (i := 10) rfl))) (g := (mkF m 134 #[.val (.long p0), .second, ov p1, ov p2, ov p3, ov p4, oi l0_, oi l1_, oi l2_, oi l3_, oa b18, oa b33, oa b48, oa b63, oi l0_, .unset, .unset, .unset, .unset, .unset, .unset, .unset, .unset, .unset, .unset, .unset, .unset, .unset, .unset, .unset] [(.int p2)])) rfl (hb hby at_134) _ ?_
    refine XS.iand X75.here hx rfl (hb hby at_136) rfl ?_
    show Steps p.tables e below (T75.setTop (mkF m 137 #[.val (.long p0), .second, ov p1, ov p2, ov p3, ov p4, oi l0_, oi l1_, oi l2_, oi l3_, oa b18, oa b33, oa b48, oa b63, oi l0_, .unset, .unset, .unset, .unset, .unset, .unset, .unset, .unset, .unset, .unset, .unset, .unset, .unset, .unset, .unset] [(.int (p2 &&& (2147483647 : Int32)))])) _
    refine XS.iload X75.here hx rfl (hb hby at_137) rfl ?_
    refine XS.iconst X75.here hx rfl (hb hby at_139) ?_
    refine XS.iadd X75.here hx rfl (hb hby at_140) rfl ?_
    show Steps p.tables e below (T75.setTop (mkF m 141 #[.val (.long p0), .second, ov p1, ov p2, ov p3, ov p4, oi l0_, oi l1_, oi l2_, oi l3_, oa b18, oa b33, oa b48, oa b63, oi l0_, .unset, .unset, .unset, .unset, .unset, .unset, .unset, .unset, .unset, .unset, .unset, .unset, .unset, .unset, .unset] [(.int ((Int32.ofNat l0_) + (1 : Int32))), (.int (p2 &&& (2147483647 : Int32)))])) _
    exact q
  have k78_ : ∀ t, Steps p.tables e below (T75.setTop (mkF m 141 #[.val (.long p0), .second, ov p1, ov p2, ov p3, ov p4, oi l0_, oi l1_, oi l2_, oi l3_, oa b18, oa b33, oa b48, oa b63, oi l0_, .unset, .unset, .unset, .unset, .unset, .unset, .unset, .unset, .unset, .unset, .unset, .unset, .unset, .unset, .unset] [(.int (Int32.ofNat (l0_ + 1))), (.int (p2 &&& (2147483647 : Int32)))])) t → G_ t := fun t q => k77_ t (Eq.mp (congrArg (fun z => Steps p.tables e below (T75.setTop (mkF m 141 #[.val (.long p0), .second, ov p1, ov p2, ov p3, ov p4, oi l0_, oi l1_, oi l2_, oi l3_, oa b18, oa b33, oa b48, oa b63, oi l0_, .unset, .unset, .unset, .unset, .unset, .unset, .unset, .unset, .unset, .unset, .unset, .unset, .unset, .unset, .unset] [(.int z), (.int (p2 &&& (2147483647 : Int32)))])) t) (show (Int32.ofNat (l0_ + 1)) = ((Int32.ofNat l0_) + (1 : Int32)) from (own_inc (by omega)))) q)
  have k79_ : ∀ t, Steps p.tables e below (T75.setTop (mkF m 142 #[.val (.long p0), .second, ov p1, ov p2, ov p3, ov p4, oi l0_, oi l1_, oi l2_, oi l3_, oa b18, oa b33, oa b48, oa b63, oi l0_, .unset, .unset, .unset, .unset, .unset, .unset, .unset, .unset, .unset, .unset, .unset, .unset, .unset, .unset, .unset] [(.int (own_rem (p2 &&& (2147483647 : Int32)) (Int32.ofNat (l0_ + 1))))])) t → G_ t := by
    intro t q
    refine k78_ _ ?_
    show Steps p.tables e below (T75.setTop (mkF m 141 #[.val (.long p0), .second, ov p1, ov p2, ov p3, ov p4, oi l0_, oi l1_, oi l2_, oi l3_, oa b18, oa b33, oa b48, oa b63, oi l0_, .unset, .unset, .unset, .unset, .unset, .unset, .unset, .unset, .unset, .unset, .unset, .unset, .unset, .unset, .unset] [(.int (Int32.ofNat (l0_ + 1))), (.int (p2 &&& (2147483647 : Int32)))])) _
    refine XS.irem X75.here hx rfl (hb hby at_141) rfl (own_ofn0 (by omega) (by omega)) ?_
    show Steps p.tables e below (T75.setTop (mkF m 142 #[.val (.long p0), .second, ov p1, ov p2, ov p3, ov p4, oi l0_, oi l1_, oi l2_, oi l3_, oa b18, oa b33, oa b48, oa b63, oi l0_, .unset, .unset, .unset, .unset, .unset, .unset, .unset, .unset, .unset, .unset, .unset, .unset, .unset, .unset, .unset] [(.int (own_rem (p2 &&& (2147483647 : Int32)) (Int32.ofNat (l0_ + 1))))])) _
    exact q
  obtain ⟨s1_, h_s1_, e_s1_⟩ := own_remn p2 l0_ (by omega)
  have k80_ : ∀ t, Steps p.tables e below (T75.setTop (mkF m 142 #[.val (.long p0), .second, ov p1, ov p2, ov p3, ov p4, oi l0_, oi l1_, oi l2_, oi l3_, oa b18, oa b33, oa b48, oa b63, oi l0_, .unset, .unset, .unset, .unset, .unset, .unset, .unset, .unset, .unset, .unset, .unset, .unset, .unset, .unset, .unset] [(.int (Int32.ofNat s1_))])) t → G_ t := fun t q => k79_ t (Eq.mp (congrArg (fun z => Steps p.tables e below (T75.setTop (mkF m 142 #[.val (.long p0), .second, ov p1, ov p2, ov p3, ov p4, oi l0_, oi l1_, oi l2_, oi l3_, oa b18, oa b33, oa b48, oa b63, oi l0_, .unset, .unset, .unset, .unset, .unset, .unset, .unset, .unset, .unset, .unset, .unset, .unset, .unset, .unset, .unset] [(.int z)])) t) (show (Int32.ofNat s1_) = (own_rem (p2 &&& (2147483647 : Int32)) (Int32.ofNat (l0_ + 1))) from e_s1_)) q)
  have k81_ : ∀ t, Steps p.tables e below (T75.setTop (mkF m 149 #[.val (.long p0), .second, ov p1, ov p2, ov p3, ov p4, oi l0_, oi l1_, oi l2_, oi l3_, oa b18, oa b33, oa b48, oa b63, oi l0_, oi s1_, .unset, .unset, .unset, .unset, .unset, .unset, .unset, .unset, .unset, .unset, .unset, .unset, .unset, .unset] [(.int ((Int32.ofNat s1_) + (Int32.ofNat l1_)))])) t → G_ t := by
    intro t q
    refine k80_ _ ?_
    show Steps p.tables e below (T75.setTop (mkF m 142 #[.val (.long p0), .second, ov p1, ov p2, ov p3, ov p4, oi l0_, oi l1_, oi l2_, oi l3_, oa b18, oa b33, oa b48, oa b63, oi l0_, .unset, .unset, .unset, .unset, .unset, .unset, .unset, .unset, .unset, .unset, .unset, .unset, .unset, .unset, .unset] [(.int (Int32.ofNat s1_))])) _
    refine XS.istore X75.here hx rfl (hb hby at_142) rfl (l' := #[.val (.long p0), .second, ov p1, ov p2, ov p3, ov p4, oi l0_, oi l1_, oi l2_, oi l3_, oa b18, oa b33, oa b48, oa b63, oi l0_, oi s1_, .unset, .unset, .unset, .unset, .unset, .unset, .unset, .unset, .unset, .unset, .unset, .unset, .unset, .unset]) rfl ?_
    refine XS.iload X75.here hx rfl (hb hby at_144) rfl ?_
    refine XS.iload X75.here hx rfl (hb hby at_146) rfl ?_
    refine XS.iadd X75.here hx rfl (hb hby at_148) rfl ?_
    show Steps p.tables e below (T75.setTop (mkF m 149 #[.val (.long p0), .second, ov p1, ov p2, ov p3, ov p4, oi l0_, oi l1_, oi l2_, oi l3_, oa b18, oa b33, oa b48, oa b63, oi l0_, oi s1_, .unset, .unset, .unset, .unset, .unset, .unset, .unset, .unset, .unset, .unset, .unset, .unset, .unset, .unset] [(.int ((Int32.ofNat s1_) + (Int32.ofNat l1_)))])) _
    exact q
  have k82_ : ∀ t, Steps p.tables e below (T75.setTop (mkF m 149 #[.val (.long p0), .second, ov p1, ov p2, ov p3, ov p4, oi l0_, oi l1_, oi l2_, oi l3_, oa b18, oa b33, oa b48, oa b63, oi l0_, oi s1_, .unset, .unset, .unset, .unset, .unset, .unset, .unset, .unset, .unset, .unset, .unset, .unset, .unset, .unset] [(.int (Int32.ofNat (s1_ + l1_)))])) t → G_ t := fun t q => k81_ t (Eq.mp (congrArg (fun z => Steps p.tables e below (T75.setTop (mkF m 149 #[.val (.long p0), .second, ov p1, ov p2, ov p3, ov p4, oi l0_, oi l1_, oi l2_, oi l3_, oa b18, oa b33, oa b48, oa b63, oi l0_, oi s1_, .unset, .unset, .unset, .unset, .unset, .unset, .unset, .unset, .unset, .unset, .unset, .unset, .unset, .unset] [(.int z)])) t) (show (Int32.ofNat (s1_ + l1_)) = ((Int32.ofNat s1_) + (Int32.ofNat l1_)) from (own_adn (by omega) (by omega)))) q)
  have k83_ : ∀ t, Steps p.tables e below (T75.setTop (mkF m 160 #[.val (.long p0), .second, ov p1, ov p2, ov p3, ov p4, oi l0_, oi l1_, oi l2_, oi l3_, oa b18, oa b33, oa b48, oa b63, oi l0_, oi s1_, oi (s1_ + l1_), .unset, .unset, .unset, .unset, .unset, .unset, .unset, .unset, .unset, .unset, .unset, .unset, .unset] [(.int ((Int32.ofNat (s1_ + l1_)) + (1 : Int32))), (.int (p3 &&& (2147483647 : Int32)))])) t → G_ t := by
    intro t q
    refine k82_ _ ?_
    show Steps p.tables e below (T75.setTop (mkF m 149 #[.val (.long p0), .second, ov p1, ov p2, ov p3, ov p4, oi l0_, oi l1_, oi l2_, oi l3_, oa b18, oa b33, oa b48, oa b63, oi l0_, oi s1_, .unset, .unset, .unset, .unset, .unset, .unset, .unset, .unset, .unset, .unset, .unset, .unset, .unset, .unset] [(.int (Int32.ofNat (s1_ + l1_)))])) _
    refine XS.istore X75.here hx rfl (hb hby at_149) rfl (l' := #[.val (.long p0), .second, ov p1, ov p2, ov p3, ov p4, oi l0_, oi l1_, oi l2_, oi l3_, oa b18, oa b33, oa b48, oa b63, oi l0_, oi s1_, oi (s1_ + l1_), .unset, .unset, .unset, .unset, .unset, .unset, .unset, .unset, .unset, .unset, .unset, .unset, .unset]) rfl ?_
    refine XS.iload X75.here hx rfl (hb hby at_151) rfl ?_
    refine X75.ldcInt hx hown (mvT hZ (hw _ (List.mem_of_getElem? (i := 10) rfl))) (g := (mkF m 153 #[.val (.long p0), .second, ov p1, ov p2, ov p3, ov p4, oi l0_, oi l1_, oi l2_, oi l3_, oa b18, oa b33, oa b48, oa b63, oi l0_, oi s1_, oi (s1_ + l1_), .unset, .unset, .unset, .unset, .unset, .unset, .unset, .unset, .unset, .unset, .unset, .unset, .unset] [(.int p3)])) rfl (hb hby at_153) _ ?_
    refine XS.iand X75.here hx rfl (hb hby at_155) rfl ?_
    refine XS.iload X75.here hx rfl (hb hby at_156) rfl ?_
    refine XS.iconst X75.here hx rfl (hb hby at_158) ?_
    show Steps p.tables e below (T75.setTop (mkF m 159 #[.val (.long p0), .second, ov p1, ov p2, ov p3, ov p4, oi l0_, oi l1_, oi l2_, oi l3_, oa b18, oa b33, oa b48, oa b63, oi l0_, oi s1_, oi (s1_ + l1_), .unset, .unset, .unset, .unset, .unset, .unset, .unset, .unset, .unset, .unset, .unset, .unset, .unset] [(.int (1 : Int32)), (.int (Int32.ofNat (s1_ + l1_))), (.int (p3 &&& (2147483647 : Int32)))])) _
    refine XS.iadd X75.here hx rfl (hb hby at_159) rfl ?_
    show Steps p.tables e below (T75.setTop (mkF m 160 #[.val (.long p0), .second, ov p1, ov p2, ov p3, ov p4, oi l0_, oi l1_, oi l2_, oi l3_, oa b18, oa b33, oa b48, oa b63, oi l0_, oi s1_, oi (s1_ + l1_), .unset, .unset, .unset, .unset, .unset, .unset, .unset, .unset, .unset, .unset, .unset, .unset, .unset] [(.int ((Int32.ofNat (s1_ + l1_)) + (1 : Int32))), (.int (p3 &&& (2147483647 : Int32)))])) _
    exact q
  have k84_ : ∀ t, Steps p.tables e below (T75.setTop (mkF m 160 #[.val (.long p0), .second, ov p1, ov p2, ov p3, ov p4, oi l0_, oi l1_, oi l2_, oi l3_, oa b18, oa b33, oa b48, oa b63, oi l0_, oi s1_, oi (s1_ + l1_), .unset, .unset, .unset, .unset, .unset, .unset, .unset, .unset, .unset, .unset, .unset, .unset, .unset] [(.int (Int32.ofNat ((s1_ + l1_) + 1))), (.int (p3 &&& (2147483647 : Int32)))])) t → G_ t := fun t q => k83_ t (Eq.mp (congrArg (fun z => Steps p.tables e below (T75.setTop (mkF m 160 #[.val (.long p0), .second, ov p1, ov p2, ov p3, ov p4, oi l0_, oi l1_, oi l2_, oi l3_, oa b18, oa b33, oa b48, oa b63, oi l0_, oi s1_, oi (s1_ + l1_), .unset, .unset, .unset, .unset, .unset, .unset, .unset, .unset, .unset, .unset, .unset, .unset, .unset] [(.int z), (.int (p3 &&& (2147483647 : Int32)))])) t) (show (Int32.ofNat ((s1_ + l1_) + 1)) = ((Int32.ofNat (s1_ + l1_)) + (1 : Int32)) from (own_inc (by omega)))) q)
  have k85_ : ∀ t, Steps p.tables e below (T75.setTop (mkF m 161 #[.val (.long p0), .second, ov p1, ov p2, ov p3, ov p4, oi l0_, oi l1_, oi l2_, oi l3_, oa b18, oa b33, oa b48, oa b63, oi l0_, oi s1_, oi (s1_ + l1_), .unset, .unset, .unset, .unset, .unset, .unset, .unset, .unset, .unset, .unset, .unset, .unset, .unset] [(.int (own_rem (p3 &&& (2147483647 : Int32)) (Int32.ofNat ((s1_ + l1_) + 1))))])) t → G_ t := by
    intro t q
    refine k84_ _ ?_
    show Steps p.tables e below (T75.setTop (mkF m 160 #[.val (.long p0), .second, ov p1, ov p2, ov p3, ov p4, oi l0_, oi l1_, oi l2_, oi l3_, oa b18, oa b33, oa b48, oa b63, oi l0_, oi s1_, oi (s1_ + l1_), .unset, .unset, .unset, .unset, .unset, .unset, .unset, .unset, .unset, .unset, .unset, .unset, .unset] [(.int (Int32.ofNat ((s1_ + l1_) + 1))), (.int (p3 &&& (2147483647 : Int32)))])) _
    refine XS.irem X75.here hx rfl (hb hby at_160) rfl (own_ofn0 (by omega) (by omega)) ?_
    show Steps p.tables e below (T75.setTop (mkF m 161 #[.val (.long p0), .second, ov p1, ov p2, ov p3, ov p4, oi l0_, oi l1_, oi l2_, oi l3_, oa b18, oa b33, oa b48, oa b63, oi l0_, oi s1_, oi (s1_ + l1_), .unset, .unset, .unset, .unset, .unset, .unset, .unset, .unset, .unset, .unset, .unset, .unset, .unset] [(.int (own_rem (p3 &&& (2147483647 : Int32)) (Int32.ofNat ((s1_ + l1_) + 1))))])) _
    exact q
  obtain ⟨s2_, h_s2_, e_s2_⟩ := own_remn p3 (s1_ + l1_) (by omega)
  have k86_ : ∀ t, Steps p.tables e below (T75.setTop (mkF m 161 #[.val (.long p0), .second, ov p1, ov p2, ov p3, ov p4, oi l0_, oi l1_, oi l2_, oi l3_, oa b18, oa b33, oa b48, oa b63, oi l0_, oi s1_, oi (s1_ + l1_), .unset, .unset, .unset, .unset, .unset, .unset, .unset, .unset, .unset, .unset, .unset, .unset, .unset] [(.int (Int32.ofNat s2_))])) t → G_ t := fun t q => k85_ t (Eq.mp (congrArg (fun z => Steps p.tables e below (T75.setTop (mkF m 161 #[.val (.long p0), .second, ov p1, ov p2, ov p3, ov p4, oi l0_, oi l1_, oi l2_, oi l3_, oa b18, oa b33, oa b48, oa b63, oi l0_, oi s1_, oi (s1_ + l1_), .unset, .unset, .unset, .unset, .unset, .unset, .unset, .unset, .unset, .unset, .unset, .unset, .unset] [(.int z)])) t) (show (Int32.ofNat s2_) = (own_rem (p3 &&& (2147483647 : Int32)) (Int32.ofNat ((s1_ + l1_) + 1))) from e_s2_)) q)
  have k87_ : ∀ t, Steps p.tables e below (T75.setTop (mkF m 168 #[.val (.long p0), .second, ov p1, ov p2, ov p3, ov p4, oi l0_, oi l1_, oi l2_, oi l3_, oa b18, oa b33, oa b48, oa b63, oi l0_, oi s1_, oi (s1_ + l1_), oi s2_, .unset, .unset, .unset, .unset, .unset, .unset, .unset, .unset, .unset, .unset, .unset, .unset] [(.int ((Int32.ofNat s2_) + (Int32.ofNat l2_)))])) t → G_ t := by
    intro t q
    refine k86_ _ ?_
    show Steps p.tables e below (T75.setTop (mkF m 161 #[.val (.long p0), .second, ov p1, ov p2, ov p3, ov p4, oi l0_, oi l1_, oi l2_, oi l3_, oa b18, oa b33, oa b48, oa b63, oi l0_, oi s1_, oi (s1_ + l1_), .unset, .unset, .unset, .unset, .unset, .unset, .unset, .unset, .unset, .unset, .unset, .unset, .unset] [(.int (Int32.ofNat s2_))])) _
    refine XS.istore X75.here hx rfl (hb hby at_161) rfl (l' := #[.val (.long p0), .second, ov p1, ov p2, ov p3, ov p4, oi l0_, oi l1_, oi l2_, oi l3_, oa b18, oa b33, oa b48, oa b63, oi l0_, oi s1_, oi (s1_ + l1_), oi s2_, .unset, .unset, .unset, .unset, .unset, .unset, .unset, .unset, .unset, .unset, .unset, .unset]) rfl ?_
    refine XS.iload X75.here hx rfl (hb hby at_163) rfl ?_
    refine XS.iload X75.here hx rfl (hb hby at_165) rfl ?_
    refine XS.iadd X75.here hx rfl (hb hby at_167) rfl ?_
    show Steps p.tables e below (T75.setTop (mkF m 168 #[.val (.long p0), .second, ov p1, ov p2, ov p3, ov p4, oi l0_, oi l1_, oi l2_, oi l3_, oa b18, oa b33, oa b48, oa b63, oi l0_, oi s1_, oi (s1_ + l1_), oi s2_, .unset, .unset, .unset, .unset, .unset, .unset, .unset, .unset, .unset, .unset, .unset, .unset] [(.int ((Int32.ofNat s2_) + (Int32.ofNat l2_)))])) _
    exact q
  have k88_ : ∀ t, Steps p.tables e below (T75.setTop (mkF m 168 #[.val (.long p0), .second, ov p1, ov p2, ov p3, ov p4, oi l0_, oi l1_, oi l2_, oi l3_, oa b18, oa b33, oa b48, oa b63, oi l0_, oi s1_, oi (s1_ + l1_), oi s2_, .unset, .unset, .unset, .unset, .unset, .unset, .unset, .unset, .unset, .unset, .unset, .unset] [(.int (Int32.ofNat (s2_ + l2_)))])) t → G_ t := fun t q => k87_ t (Eq.mp (congrArg (fun z => Steps p.tables e below (T75.setTop (mkF m 168 #[.val (.long p0), .second, ov p1, ov p2, ov p3, ov p4, oi l0_, oi l1_, oi l2_, oi l3_, oa b18, oa b33, oa b48, oa b63, oi l0_, oi s1_, oi (s1_ + l1_), oi s2_, .unset, .unset, .unset, .unset, .unset, .unset, .unset, .unset, .unset, .unset, .unset, .unset] [(.int z)])) t) (show (Int32.ofNat (s2_ + l2_)) = ((Int32.ofNat s2_) + (Int32.ofNat l2_)) from (own_adn (by omega) (by omega)))) q)
  have k89_ : ∀ t, Steps p.tables e below (T75.setTop (mkF m 179 #[.val (.long p0), .second, ov p1, ov p2, ov p3, ov p4, oi l0_, oi l1_, oi l2_, oi l3_, oa b18, oa b33, oa b48, oa b63, oi l0_, oi s1_, oi (s1_ + l1_), oi s2_, oi (s2_ + l2_), .unset, .unset, .unset, .unset, .unset, .unset, .unset, .unset, .unset, .unset, .unset] [(.int ((Int32.ofNat (s2_ + l2_)) + (1 : Int32))), (.int (p4 &&& (2147483647 : Int32)))])) t → G_ t := by
    intro t q
    refine k88_ _ ?_
    show Steps p.tables e below (T75.setTop (mkF m 168 #[.val (.long p0), .second, ov p1, ov p2, ov p3, ov p4, oi l0_, oi l1_, oi l2_, oi l3_, oa b18, oa b33, oa b48, oa b63, oi l0_, oi s1_, oi (s1_ + l1_), oi s2_, .unset, .unset, .unset, .unset, .unset, .unset, .unset, .unset, .unset, .unset, .unset, .unset] [(.int (Int32.ofNat (s2_ + l2_)))])) _
    refine XS.istore X75.here hx rfl (hb hby at_168) rfl (l' := #[.val (.long p0), .second, ov p1, ov p2, ov p3, ov p4, oi l0_, oi l1_, oi l2_, oi l3_, oa b18, oa b33, oa b48, oa b63, oi l0_, oi s1_, oi (s1_ + l1_), oi s2_, oi (s2_ + l2_), .unset, .unset, .unset, .unset, .unset, .unset, .unset, .unset, .unset, .unset, .unset]) rfl ?_
    refine XS.iload X75.here hx rfl (hb hby at_170) rfl ?_
    refine X75.ldcInt hx hown (mvT hZ (hw _ (List.mem_of_getElem? (i := 10) rfl))) (g := (mkF m 172 #[.val (.long p0), .second, ov p1, ov p2, ov p3, ov p4, oi l0_, oi l1_, oi l2_, oi l3_, oa b18, oa b33, oa b48, oa b63, oi l0_, oi s1_, oi (s1_ + l1_), oi s2_, oi (s2_ + l2_), .unset, .unset, .unset, .unset, .unset, .unset, .unset, .unset, .unset, .unset, .unset] [(.int p4)])) rfl (hb hby at_172) _ ?_
    refine XS.iand X75.here hx rfl (hb hby at_174) rfl ?_
    refine XS.iload X75.here hx rfl (hb hby at_175) rfl ?_
    refine XS.iconst X75.here hx rfl (hb hby at_177) ?_
    show Steps p.tables e below (T75.setTop (mkF m 178 #[.val (.long p0), .second, ov p1, ov p2, ov p3, ov p4, oi l0_, oi l1_, oi l2_, oi l3_, oa b18, oa b33, oa b48, oa b63, oi l0_, oi s1_, oi (s1_ + l1_), oi s2_, oi (s2_ + l2_), .unset, .unset, .unset, .unset, .unset, .unset, .unset, .unset, .unset, .unset, .unset] [(.int (1 : Int32)), (.int (Int32.ofNat (s2_ + l2_))), (.int (p4 &&& (2147483647 : Int32)))])) _
    refine XS.iadd X75.here hx rfl (hb hby at_178) rfl ?_
    show Steps p.tables e below (T75.setTop (mkF m 179 #[.val (.long p0), .second, ov p1, ov p2, ov p3, ov p4, oi l0_, oi l1_, oi l2_, oi l3_, oa b18, oa b33, oa b48, oa b63, oi l0_, oi s1_, oi (s1_ + l1_), oi s2_, oi (s2_ + l2_), .unset, .unset, .unset, .unset, .unset, .unset, .unset, .unset, .unset, .unset, .unset] [(.int ((Int32.ofNat (s2_ + l2_)) + (1 : Int32))), (.int (p4 &&& (2147483647 : Int32)))])) _
    exact q
  have k90_ : ∀ t, Steps p.tables e below (T75.setTop (mkF m 179 #[.val (.long p0), .second, ov p1, ov p2, ov p3, ov p4, oi l0_, oi l1_, oi l2_, oi l3_, oa b18, oa b33, oa b48, oa b63, oi l0_, oi s1_, oi (s1_ + l1_), oi s2_, oi (s2_ + l2_), .unset, .unset, .unset, .unset, .unset, .unset, .unset, .unset, .unset, .unset, .unset] [(.int (Int32.ofNat ((s2_ + l2_) + 1))), (.int (p4 &&& (2147483647 : Int32)))])) t → G_ t := fun t q => k89_ t (Eq.mp (congrArg (fun z => Steps p.tables e below (T75.setTop (mkF m 179 #[.val (.long p0), .second, ov p1, ov p2, ov p3, ov p4, oi l0_, oi l1_, oi l2_, oi l3_, oa b18, oa b33, oa b48, oa b63, oi l0_, oi s1_, oi (s1_ + l1_), oi s2_, oi (s2_ + l2_), .unset, .unset, .unset, .unset, .unset, .unset, .unset, .unset, .unset, .unset, .unset] [(.int z), (.int (p4 &&& (2147483647 : Int32)))])) t) (show (Int32.ofNat ((s2_ + l2_) + 1)) = ((Int32.ofNat (s2_ + l2_)) + (1 : Int32)) from (own_inc (by omega)))) q)
  have k91_ : ∀ t, Steps p.tables e below (T75.setTop (mkF m 180 #[.val (.long p0), .second, ov p1, ov p2, ov p3, ov p4, oi l0_, oi l1_, oi l2_, oi l3_, oa b18, oa b33, oa b48, oa b63, oi l0_, oi s1_, oi (s1_ + l1_), oi s2_, oi (s2_ + l2_), .unset, .unset, .unset, .unset, .unset, .unset, .unset, .unset, .unset, .unset, .unset] [(.int (own_rem (p4 &&& (2147483647 : Int32)) (Int32.ofNat ((s2_ + l2_) + 1))))])) t → G_ t := by
    intro t q
    refine k90_ _ ?_
    show Steps p.tables e below (T75.setTop (mkF m 179 #[.val (.long p0), .second, ov p1, ov p2, ov p3, ov p4, oi l0_, oi l1_, oi l2_, oi l3_, oa b18, oa b33, oa b48, oa b63, oi l0_, oi s1_, oi (s1_ + l1_), oi s2_, oi (s2_ + l2_), .unset, .unset, .unset, .unset, .unset, .unset, .unset, .unset, .unset, .unset, .unset] [(.int (Int32.ofNat ((s2_ + l2_) + 1))), (.int (p4 &&& (2147483647 : Int32)))])) _
    refine XS.irem X75.here hx rfl (hb hby at_179) rfl (own_ofn0 (by omega) (by omega)) ?_
    show Steps p.tables e below (T75.setTop (mkF m 180 #[.val (.long p0), .second, ov p1, ov p2, ov p3, ov p4, oi l0_, oi l1_, oi l2_, oi l3_, oa b18, oa b33, oa b48, oa b63, oi l0_, oi s1_, oi (s1_ + l1_), oi s2_, oi (s2_ + l2_), .unset, .unset, .unset, .unset, .unset, .unset, .unset, .unset, .unset, .unset, .unset] [(.int (own_rem (p4 &&& (2147483647 : Int32)) (Int32.ofNat ((s2_ + l2_) + 1))))])) _
    exact q
  obtain ⟨s3_, h_s3_, e_s3_⟩ := own_remn p4 (s2_ + l2_) (by omega)
  have k92_ : ∀ t, Steps p.tables e below (T75.setTop (mkF m 180 #[.val (.long p0), .second, ov p1, ov p2, ov p3, ov p4, oi l0_, oi l1_, oi l2_, oi l3_, oa b18, oa b33, oa b48, oa b63, oi l0_, oi s1_, oi (s1_ + l1_), oi s2_, oi (s2_ + l2_), .unset, .unset, .unset, .unset, .unset, .unset, .unset, .unset, .unset, .unset, .unset] [(.int (Int32.ofNat s3_))])) t → G_ t := fun t q => k91_ t (Eq.mp (congrArg (fun z => Steps p.tables e below (T75.setTop (mkF m 180 #[.val (.long p0), .second, ov p1, ov p2, ov p3, ov p4, oi l0_, oi l1_, oi l2_, oi l3_, oa b18, oa b33, oa b48, oa b63, oi l0_, oi s1_, oi (s1_ + l1_), oi s2_, oi (s2_ + l2_), .unset, .unset, .unset, .unset, .unset, .unset, .unset, .unset, .unset, .unset, .unset] [(.int z)])) t) (show (Int32.ofNat s3_) = (own_rem (p4 &&& (2147483647 : Int32)) (Int32.ofNat ((s2_ + l2_) + 1))) from e_s3_)) q)
  have k93_ : ∀ t, Steps p.tables e below (T75.setTop (mkF m 187 #[.val (.long p0), .second, ov p1, ov p2, ov p3, ov p4, oi l0_, oi l1_, oi l2_, oi l3_, oa b18, oa b33, oa b48, oa b63, oi l0_, oi s1_, oi (s1_ + l1_), oi s2_, oi (s2_ + l2_), oi s3_, .unset, .unset, .unset, .unset, .unset, .unset, .unset, .unset, .unset, .unset] [(.int ((Int32.ofNat s3_) + (Int32.ofNat l3_)))])) t → G_ t := by
    intro t q
    refine k92_ _ ?_
    show Steps p.tables e below (T75.setTop (mkF m 180 #[.val (.long p0), .second, ov p1, ov p2, ov p3, ov p4, oi l0_, oi l1_, oi l2_, oi l3_, oa b18, oa b33, oa b48, oa b63, oi l0_, oi s1_, oi (s1_ + l1_), oi s2_, oi (s2_ + l2_), .unset, .unset, .unset, .unset, .unset, .unset, .unset, .unset, .unset, .unset, .unset] [(.int (Int32.ofNat s3_))])) _
    refine XS.istore X75.here hx rfl (hb hby at_180) rfl (l' := #[.val (.long p0), .second, ov p1, ov p2, ov p3, ov p4, oi l0_, oi l1_, oi l2_, oi l3_, oa b18, oa b33, oa b48, oa b63, oi l0_, oi s1_, oi (s1_ + l1_), oi s2_, oi (s2_ + l2_), oi s3_, .unset, .unset, .unset, .unset, .unset, .unset, .unset, .unset, .unset, .unset]) rfl ?_
    refine XS.iload X75.here hx rfl (hb hby at_182) rfl ?_
    refine XS.iload X75.here hx rfl (hb hby at_184) rfl ?_
    refine XS.iadd X75.here hx rfl (hb hby at_186) rfl ?_
    show Steps p.tables e below (T75.setTop (mkF m 187 #[.val (.long p0), .second, ov p1, ov p2, ov p3, ov p4, oi l0_, oi l1_, oi l2_, oi l3_, oa b18, oa b33, oa b48, oa b63, oi l0_, oi s1_, oi (s1_ + l1_), oi s2_, oi (s2_ + l2_), oi s3_, .unset, .unset, .unset, .unset, .unset, .unset, .unset, .unset, .unset, .unset] [(.int ((Int32.ofNat s3_) + (Int32.ofNat l3_)))])) _
    exact q
  have k94_ : ∀ t, Steps p.tables e below (T75.setTop (mkF m 187 #[.val (.long p0), .second, ov p1, ov p2, ov p3, ov p4, oi l0_, oi l1_, oi l2_, oi l3_, oa b18, oa b33, oa b48, oa b63, oi l0_, oi s1_, oi (s1_ + l1_), oi s2_, oi (s2_ + l2_), oi s3_, .unset, .unset, .unset, .unset, .unset, .unset, .unset, .unset, .unset, .unset] [(.int (Int32.ofNat (s3_ + l3_)))])) t → G_ t := fun t q => k93_ t (Eq.mp (congrArg (fun z => Steps p.tables e below (T75.setTop (mkF m 187 #[.val (.long p0), .second, ov p1, ov p2, ov p3, ov p4, oi l0_, oi l1_, oi l2_, oi l3_, oa b18, oa b33, oa b48, oa b63, oi l0_, oi s1_, oi (s1_ + l1_), oi s2_, oi (s2_ + l2_), oi s3_, .unset, .unset, .unset, .unset, .unset, .unset, .unset, .unset, .unset, .unset] [(.int z)])) t) (show (Int32.ofNat (s3_ + l3_)) = ((Int32.ofNat s3_) + (Int32.ofNat l3_)) from (own_adn (by omega) (by omega)))) q)
  have k95_ : ∀ t, Steps p.tables e below (T75.setTop (mkF m 191 #[.val (.long p0), .second, ov p1, ov p2, ov p3, ov p4, oi l0_, oi l1_, oi l2_, oi l3_, oa b18, oa b33, oa b48, oa b63, oi l0_, oi s1_, oi (s1_ + l1_), oi s2_, oi (s2_ + l2_), oi s3_, oi (s3_ + l3_), .unset, .unset, .unset, .unset, .unset, .unset, .unset, .unset, .unset] [(.int (8 : Int32))])) t → G_ t := by
    intro t q
    refine k94_ _ ?_
    show Steps p.tables e below (T75.setTop (mkF m 187 #[.val (.long p0), .second, ov p1, ov p2, ov p3, ov p4, oi l0_, oi l1_, oi l2_, oi l3_, oa b18, oa b33, oa b48, oa b63, oi l0_, oi s1_, oi (s1_ + l1_), oi s2_, oi (s2_ + l2_), oi s3_, .unset, .unset, .unset, .unset, .unset, .unset, .unset, .unset, .unset, .unset] [(.int (Int32.ofNat (s3_ + l3_)))])) _
    refine XS.istore X75.here hx rfl (hb hby at_187) rfl (l' := #[.val (.long p0), .second, ov p1, ov p2, ov p3, ov p4, oi l0_, oi l1_, oi l2_, oi l3_, oa b18, oa b33, oa b48, oa b63, oi l0_, oi s1_, oi (s1_ + l1_), oi s2_, oi (s2_ + l2_), oi s3_, oi (s3_ + l3_), .unset, .unset, .unset, .unset, .unset, .unset, .unset, .unset, .unset]) rfl ?_
    refine XS.bipush X75.here hx rfl (hb hby at_189) ?_
    show Steps p.tables e below (T75.setTop (mkF m 191 #[.val (.long p0), .second, ov p1, ov p2, ov p3, ov p4, oi l0_, oi l1_, oi l2_, oi l3_, oa b18, oa b33, oa b48, oa b63, oi l0_, oi s1_, oi (s1_ + l1_), oi s2_, oi (s2_ + l2_), oi s3_, oi (s3_ + l3_), .unset, .unset, .unset, .unset, .unset, .unset, .unset, .unset, .unset] [(.int (8 : Int32))])) _
    exact q
  obtain ⟨T96, h96, c96, X96, e96, E96, A96, st96⟩ := newP X75 hx hZ (hw _ (List.mem_of_getElem? (i := 4) rfl)) e75 (g := (mkF m 191 #[.val (.long p0), .second, ov p1, ov p2, ov p3, ov p4, oi l0_, oi l1_, oi l2_, oi l3_, oa b18, oa b33, oa b48, oa b63, oi l0_, oi s1_, oi (s1_ + l1_), oi s2_, oi (s2_ + l2_), oi s3_, oi (s3_ + l3_), .unset, .unset, .unset, .unset, .unset, .unset, .unset, .unset, .unset] [(.int (8 : Int32))])) rfl (hb hby at_191) rfl (by decide) (cap := 8) (by decide) (by decide) (by decide) (by decide)
  obtain ⟨b96, g96⟩ : ∃ z, z = h75.size := ⟨_, rfl⟩
  rw [← g96] at A96 st96
  have k97_ : ∀ t, Steps p.tables e below (T96.setTop (mkF m 193 #[.val (.long p0), .second, ov p1, ov p2, ov p3, ov p4, oi l0_, oi l1_, oi l2_, oi l3_, oa b18, oa b33, oa b48, oa b63, oi l0_, oi s1_, oi (s1_ + l1_), oi s2_, oi (s2_ + l2_), oi s3_, oi (s3_ + l3_), .unset, .unset, .unset, .unset, .unset, .unset, .unset, .unset, .unset] [(.ref b96)])) t → G_ t := fun t q => k95_ t (st96 t q)
  have ne_b18_b96 : b18 ≠ b96 := Nat.ne_of_lt (Nat.lt_of_lt_of_le V_b18.lt (Nat.le_of_eq g96.symm))
  have ne_b33_b96 : b33 ≠ b96 := Nat.ne_of_lt (Nat.lt_of_lt_of_le V_b33.lt (Nat.le_of_eq g96.symm))
  have ne_b48_b96 : b48 ≠ b96 := Nat.ne_of_lt (Nat.lt_of_lt_of_le V_b48.lt (Nat.le_of_eq g96.symm))
  have ne_b63_b96 : b63 ≠ b96 := Nat.ne_of_lt (Nat.lt_of_lt_of_le V_b63.lt (Nat.le_of_eq g96.symm))
  have g_b96 : n0 ≤ b96 := Nat.le_trans Zn (Nat.le_of_eq g96.symm)
  replace Zn := Nat.le_trans Zn E96.1
  replace hk := Nat.le_trans hk E96.1
  replace V_b18 := V_b18.ext E96
  replace V_b33 := V_b33.ext E96
  replace V_b48 := V_b48.ext E96
  replace V_b63 := V_b63.ext E96
  have V_b96 : Arv Z h96 b96 c96 .char (8 : Int32) [(.int (0 : Int32)), (.int (0 : Int32)), (.int (0 : Int32)), (.int (0 : Int32)), (.int (0 : Int32)), (.int (0 : Int32)), (.int (0 : Int32)), (.int (0 : Int32))] (.int (0 : Int32)) := (Arv.new A96 (by decide)).pad (pad_rep [] (.int (0 : Int32)) 8)
  replace KP := KP.ext E96
  replace X00 := X00.ext E96
  replace hCH := hCH.trans (CHr.ext E96 hCH.1)
  have k98_ : ∀ t, Steps p.tables e below (T96.setTop (mkF m 196 #[.val (.long p0), .second, ov p1, ov p2, ov p3, ov p4, oi l0_, oi l1_, oi l2_, oi l3_, oa b18, oa b33, oa b48, oa b63, oi l0_, oi s1_, oi (s1_ + l1_), oi s2_, oi (s2_ + l2_), oi s3_, oi (s3_ + l3_), .unset, .unset, .unset, .unset, .unset, .unset, .unset, .unset, .unset] [(.ref b18), (.int (0 : Int32)), (.ref b96)])) t → G_ t := by
    intro t q
    refine k97_ _ ?_
    show Steps p.tables e below (T96.setTop (mkF m 193 #[.val (.long p0), .second, ov p1, ov p2, ov p3, ov p4, oi l0_, oi l1_, oi l2_, oi l3_, oa b18, oa b33, oa b48, oa b63, oi l0_, oi s1_, oi (s1_ + l1_), oi s2_, oi (s2_ + l2_), oi s3_, oi (s3_ + l3_), .unset, .unset, .unset, .unset, .unset, .unset, .unset, .unset, .unset] [(.ref b96)])) _
    refine XS.iconst X96.here hx rfl (hb hby at_193) ?_
    refine XS.aload X96.here hx rfl (hb hby at_194) rfl rfl ?_
    show Steps p.tables e below (T96.setTop (mkF m 196 #[.val (.long p0), .second, ov p1, ov p2, ov p3, ov p4, oi l0_, oi l1_, oi l2_, oi l3_, oa b18, oa b33, oa b48, oa b63, oi l0_, oi s1_, oi (s1_ + l1_), oi s2_, oi (s2_ + l2_), oi s3_, oi (s3_ + l3_), .unset, .unset, .unset, .unset, .unset, .unset, .unset, .unset, .unset] [(.ref b18), (.int (0 : Int32)), (.ref b96)])) _
    exact q
  obtain ⟨e0_, he0_⟩ : ∃ z : Addr, z = h96.size := ⟨_, rfl⟩
  obtain ⟨_, _, ⟨T99, L99, kk99, n99⟩, -, X99, ⟨Lc99, hQ99, l99, y99, z99⟩, st99⟩ := Jvm.LawKit.callS X96 hx (y := (⟨"com/example/haku/haku/index/UnitPathsAddPinLaw", "next", "([CI[C)[C"⟩ : MethodName)) hown (mvT hZ (hw _ (List.mem_of_getElem? (i := 11) rfl))) (mvT hZ (hw _ (List.mem_of_getElem? (i := 12) rfl))) (mvT hZ (hw _ (List.mem_of_getElem? (i := 7) rfl))) (mvT hZ (hw _ (List.mem_of_getElem? (i := 13) rfl))) (by decide) (backOf (W := 0) (rmNe l Z a0 hw [] b96 0 b18 ([0, 0, 0, 0, 0, 0, 0, 0] : List Int32) ([own_chl p0 (0 : Int32), own_chl p0 (1 : Int32)] : List Int32) c96 c18 e0_ h96 n0 Zn V_b96 V_b18 (by omega) own_z8 (own_p2 p0 _ _) he0_) hZ (hw _ (List.mem_of_getElem? (i := 13) rfl)) (hw _ (List.mem_of_getElem? (i := 7) rfl)) (by decide) (by decide)) (g := (mkF m 196 #[.val (.long p0), .second, ov p1, ov p2, ov p3, ov p4, oi l0_, oi l1_, oi l2_, oi l3_, oa b18, oa b33, oa b48, oa b63, oi l0_, oi s1_, oi (s1_ + l1_), oi s2_, oi (s2_ + l2_), oi s3_, oi (s3_ + l3_), .unset, .unset, .unset, .unset, .unset, .unset, .unset, .unset, .unset] [(.ref b18), (.int (0 : Int32)), (.ref b96)])) rfl (by rw [hml]; rfl) (argsL := [(.ref b96), (.int (0 : Int32)), (.ref b18)]) (rest := []) (lenOf pd_86934 rfl) rfl (by show 2 * 0 + _ ≤ _; exact Nat.le_of_eq rfl) (hb hby at_196) (fun _ _ => ⟨rfl, e96, (by decide : 0 + 0 + 0 + 0 + 0 + 1 + 0 + 0 + 1 + 0 + 0 + 1 + 0 + 0 + 1 + 0 + 0 + 1 + 1 ≤ _), (by decide : 0 + 0 + 0 + 0 + 0 + 2 + 0 + 0 + 2 + 0 + 0 + 2 + 0 + 0 + 2 + 0 + 0 + 8 + 8 ≤ _)⟩)
  dsimp only [Pt.U, Pt.locs, Pt.cells, Pt.slots] at X99 l99 y99 z99 st99 hQ99
  rw [l99, y99, z99] at X99
  obtain ⟨rfl, Nq99, KE0, ke0, VE0⟩ := hQ99
  have N99 := Fr.app N75 Nq99
  have k100_ : ∀ t, Steps p.tables e below (T99.setTop (mkF m 199 #[.val (.long p0), .second, ov p1, ov p2, ov p3, ov p4, oi l0_, oi l1_, oi l2_, oi l3_, oa b18, oa b33, oa b48, oa b63, oi l0_, oi s1_, oi (s1_ + l1_), oi s2_, oi (s2_ + l2_), oi s3_, oi (s3_ + l3_), .unset, .unset, .unset, .unset, .unset, .unset, .unset, .unset, .unset] [(.ref e0_)])) t → G_ t := fun t q => k98_ t (st99 t q)
  replace hCH := hCH.trans (CHr.keep KE0 sf0 hCH.1)
  replace Zn := Nat.le_trans Zn KE0.1
  replace hk := Nat.le_trans hk KE0.1
  replace X00 := X00.keep KE0 all0
  replace V_b18 := V_b18.keep KE0 nin0
  replace V_b33 := V_b33.keep KE0 nin0
  replace V_b48 := V_b48.keep KE0 nin0
  replace V_b63 := V_b63.keep KE0 nin0
  replace V_b96 := V_b96.keep KE0 nin0
  obtain ⟨E0_, hE0_⟩ : ∃ z : List Int32, z = own_nxt ([0, 0, 0, 0, 0, 0, 0, 0] : List Int32) 0 ([own_chl p0 (0 : Int32), own_chl p0 (1 : Int32)] : List Int32) := ⟨_, rfl⟩
  rw [← hE0_] at VE0
  have ok0 : own_OK E0_ := by rw [hE0_]; exact own_nxt_OK own_z8 (own_p2 p0 _ _)
  have len0 : E0_.length = 8 := by rw [hE0_]; rfl
  have lo0 : ∀ j, j < 0 → E0_.getD j 0 = ([0, 0, 0, 0, 0, 0, 0, 0] : List Int32).getD j 0 := by rw [hE0_]; exact own_lo (by omega)
  have hi0 : ∀ j, 0 ≤ j → j < 0 + l0_ → E0_.getD j 0 = (([own_chl p0 (0 : Int32), own_chl p0 (1 : Int32)] : List Int32).take l0_).getD (j - 0) 0 := by rw [hE0_]; exact own_hi (su := 0) (lv := l0_) (by omega) h_l0_
  have k101_ : ∀ t, Steps p.tables e below (T99.setTop (mkF m 207 #[.val (.long p0), .second, ov p1, ov p2, ov p3, ov p4, oi l0_, oi l1_, oi l2_, oi l3_, oa b18, oa b33, oa b48, oa b63, oi l0_, oi s1_, oi (s1_ + l1_), oi s2_, oi (s2_ + l2_), oi s3_, oi (s3_ + l3_), oa e0_, .unset, .unset, .unset, .unset, .unset, .unset, .unset, .unset] [(.ref b33), (.int (Int32.ofNat s1_)), (.ref e0_)])) t → G_ t := by
    intro t q
    refine k100_ _ ?_
    show Steps p.tables e below (T99.setTop (mkF m 199 #[.val (.long p0), .second, ov p1, ov p2, ov p3, ov p4, oi l0_, oi l1_, oi l2_, oi l3_, oa b18, oa b33, oa b48, oa b63, oi l0_, oi s1_, oi (s1_ + l1_), oi s2_, oi (s2_ + l2_), oi s3_, oi (s3_ + l3_), .unset, .unset, .unset, .unset, .unset, .unset, .unset, .unset, .unset] [(.ref e0_)])) _
    refine XS.astore X99.here hx rfl (hb hby at_199) rfl rfl (l' := #[.val (.long p0), .second, ov p1, ov p2, ov p3, ov p4, oi l0_, oi l1_, oi l2_, oi l3_, oa b18, oa b33, oa b48, oa b63, oi l0_, oi s1_, oi (s1_ + l1_), oi s2_, oi (s2_ + l2_), oi s3_, oi (s3_ + l3_), oa e0_, .unset, .unset, .unset, .unset, .unset, .unset, .unset, .unset]) rfl ?_
    refine XS.aload X99.here hx rfl (hb hby at_201) rfl rfl ?_
    refine XS.iload X99.here hx rfl (hb hby at_203) rfl ?_
    refine XS.aload X99.here hx rfl (hb hby at_205) rfl rfl ?_
    show Steps p.tables e below (T99.setTop (mkF m 207 #[.val (.long p0), .second, ov p1, ov p2, ov p3, ov p4, oi l0_, oi l1_, oi l2_, oi l3_, oa b18, oa b33, oa b48, oa b63, oi l0_, oi s1_, oi (s1_ + l1_), oi s2_, oi (s2_ + l2_), oi s3_, oi (s3_ + l3_), oa e0_, .unset, .unset, .unset, .unset, .unset, .unset, .unset, .unset] [(.ref b33), (.int (Int32.ofNat s1_)), (.ref e0_)])) _
    exact q
  obtain ⟨e1_, he1_⟩ : ∃ z : Addr, z = T99.heap.size := ⟨_, rfl⟩
  obtain ⟨_, _, ⟨T102, L102, kk102, n102⟩, -, X102, ⟨Lc102, hQ102, l102, y102, z102⟩, st102⟩ := Jvm.LawKit.callS X99 hx (y := (⟨"com/example/haku/haku/index/UnitPathsAddPinLaw", "next", "([CI[C)[C"⟩ : MethodName)) hown (mvT hZ (hw _ (List.mem_of_getElem? (i := 11) rfl))) (mvT hZ (hw _ (List.mem_of_getElem? (i := 12) rfl))) (mvT hZ (hw _ (List.mem_of_getElem? (i := 7) rfl))) (mvT hZ (hw _ (List.mem_of_getElem? (i := 13) rfl))) (by decide) (backOf (W := 0) (rmNe l Z a0 hw [] e0_ s1_ b33 E0_ ([own_chl p0 (2 : Int32), own_chl p0 (3 : Int32)] : List Int32) ke0 c33 e1_ T99.heap n0 Zn VE0 V_b33 (by omega) ok0 (own_p2 p0 _ _) he1_) hZ (hw _ (List.mem_of_getElem? (i := 13) rfl)) (hw _ (List.mem_of_getElem? (i := 7) rfl)) (by decide) (by decide)) (g := (mkF m 207 #[.val (.long p0), .second, ov p1, ov p2, ov p3, ov p4, oi l0_, oi l1_, oi l2_, oi l3_, oa b18, oa b33, oa b48, oa b63, oi l0_, oi s1_, oi (s1_ + l1_), oi s2_, oi (s2_ + l2_), oi s3_, oi (s3_ + l3_), oa e0_, .unset, .unset, .unset, .unset, .unset, .unset, .unset, .unset] [(.ref b33), (.int (Int32.ofNat s1_)), (.ref e0_)])) rfl (by rw [hml]; rfl) (argsL := [(.ref e0_), (.int (Int32.ofNat s1_)), (.ref b33)]) (rest := []) (lenOf pd_86934 rfl) rfl (by show 2 * 0 + _ ≤ _; exact Nat.le_of_eq rfl) (hb hby at_207) (fun _ _ => ⟨rfl, rfl, (by decide : 0 + 0 + 0 + 0 + 0 + 1 + 0 + 0 + 1 + 0 + 0 + 1 + 0 + 0 + 1 + 0 + 0 + 1 + 1 + 1 ≤ _), (by decide : 0 + 0 + 0 + 0 + 0 + 2 + 0 + 0 + 2 + 0 + 0 + 2 + 0 + 0 + 2 + 0 + 0 + 8 + 8 + 8 ≤ _)⟩)
  dsimp only [Pt.U, Pt.locs, Pt.cells, Pt.slots] at X102 l102 y102 z102 st102 hQ102
  rw [l102, y102, z102] at X102
  obtain ⟨rfl, Nq102, KE1, ke1, VE1⟩ := hQ102
  have N102 := Fr.app N99 Nq102
  have k103_ : ∀ t, Steps p.tables e below (T102.setTop (mkF m 210 #[.val (.long p0), .second, ov p1, ov p2, ov p3, ov p4, oi l0_, oi l1_, oi l2_, oi l3_, oa b18, oa b33, oa b48, oa b63, oi l0_, oi s1_, oi (s1_ + l1_), oi s2_, oi (s2_ + l2_), oi s3_, oi (s3_ + l3_), oa e0_, .unset, .unset, .unset, .unset, .unset, .unset, .unset, .unset] [(.ref e1_)])) t → G_ t := fun t q => k101_ t (st102 t q)
  replace hCH := hCH.trans (CHr.keep KE1 sf0 hCH.1)
  replace Zn := Nat.le_trans Zn KE1.1
  replace hk := Nat.le_trans hk KE1.1
  replace X00 := X00.keep KE1 all0
  replace V_b18 := V_b18.keep KE1 nin0
  replace V_b33 := V_b33.keep KE1 nin0
  replace V_b48 := V_b48.keep KE1 nin0
  replace V_b63 := V_b63.keep KE1 nin0
  replace V_b96 := V_b96.keep KE1 nin0
  replace VE0 := VE0.keep KE1 nin0
  obtain ⟨E1_, hE1_⟩ : ∃ z : List Int32, z = own_nxt E0_ s1_ ([own_chl p0 (2 : Int32), own_chl p0 (3 : Int32)] : List Int32) := ⟨_, rfl⟩
  rw [← hE1_] at VE1
  have ok1 : own_OK E1_ := by rw [hE1_]; exact own_nxt_OK ok0 (own_p2 p0 _ _)
  have len1 : E1_.length = 8 := by rw [hE1_]; rfl
  have lo1 : ∀ j, j < s1_ → E1_.getD j 0 = E0_.getD j 0 := by rw [hE1_]; exact own_lo (by omega)
  have hi1 : ∀ j, s1_ ≤ j → j < (s1_ + l1_) → E1_.getD j 0 = (([own_chl p0 (2 : Int32), own_chl p0 (3 : Int32)] : List Int32).take l1_).getD (j - s1_) 0 := by rw [hE1_]; exact own_hi (su := s1_) (lv := l1_) (by omega) h_l1_
  have k104_ : ∀ t, Steps p.tables e below (T102.setTop (mkF m 218 #[.val (.long p0), .second, ov p1, ov p2, ov p3, ov p4, oi l0_, oi l1_, oi l2_, oi l3_, oa b18, oa b33, oa b48, oa b63, oi l0_, oi s1_, oi (s1_ + l1_), oi s2_, oi (s2_ + l2_), oi s3_, oi (s3_ + l3_), oa e0_, oa e1_, .unset, .unset, .unset, .unset, .unset, .unset, .unset] [(.ref b48), (.int (Int32.ofNat s2_)), (.ref e1_)])) t → G_ t := by
    intro t q
    refine k103_ _ ?_
    show Steps p.tables e below (T102.setTop (mkF m 210 #[.val (.long p0), .second, ov p1, ov p2, ov p3, ov p4, oi l0_, oi l1_, oi l2_, oi l3_, oa b18, oa b33, oa b48, oa b63, oi l0_, oi s1_, oi (s1_ + l1_), oi s2_, oi (s2_ + l2_), oi s3_, oi (s3_ + l3_), oa e0_, .unset, .unset, .unset, .unset, .unset, .unset, .unset, .unset] [(.ref e1_)])) _
    refine XS.astore X102.here hx rfl (hb hby at_210) rfl rfl (l' := #[.val (.long p0), .second, ov p1, ov p2, ov p3, ov p4, oi l0_, oi l1_, oi l2_, oi l3_, oa b18, oa b33, oa b48, oa b63, oi l0_, oi s1_, oi (s1_ + l1_), oi s2_, oi (s2_ + l2_), oi s3_, oi (s3_ + l3_), oa e0_, oa e1_, .unset, .unset, .unset, .unset, .unset, .unset, .unset]) rfl ?_
    refine XS.aload X102.here hx rfl (hb hby at_212) rfl rfl ?_
    refine XS.iload X102.here hx rfl (hb hby at_214) rfl ?_
    refine XS.aload X102.here hx rfl (hb hby at_216) rfl rfl ?_
    show Steps p.tables e below (T102.setTop (mkF m 218 #[.val (.long p0), .second, ov p1, ov p2, ov p3, ov p4, oi l0_, oi l1_, oi l2_, oi l3_, oa b18, oa b33, oa b48, oa b63, oi l0_, oi s1_, oi (s1_ + l1_), oi s2_, oi (s2_ + l2_), oi s3_, oi (s3_ + l3_), oa e0_, oa e1_, .unset, .unset, .unset, .unset, .unset, .unset, .unset] [(.ref b48), (.int (Int32.ofNat s2_)), (.ref e1_)])) _
    exact q
  obtain ⟨e2_, he2_⟩ : ∃ z : Addr, z = T102.heap.size := ⟨_, rfl⟩
  obtain ⟨_, _, ⟨T105, L105, kk105, n105⟩, -, X105, ⟨Lc105, hQ105, l105, y105, z105⟩, st105⟩ := Jvm.LawKit.callS X102 hx (y := (⟨"com/example/haku/haku/index/UnitPathsAddPinLaw", "next", "([CI[C)[C"⟩ : MethodName)) hown (mvT hZ (hw _ (List.mem_of_getElem? (i := 11) rfl))) (mvT hZ (hw _ (List.mem_of_getElem? (i := 12) rfl))) (mvT hZ (hw _ (List.mem_of_getElem? (i := 7) rfl))) (mvT hZ (hw _ (List.mem_of_getElem? (i := 13) rfl))) (by decide) (backOf (W := 0) (rmNe l Z a0 hw [] e1_ s2_ b48 E1_ ([own_chl p0 (4 : Int32), own_chl p0 (5 : Int32)] : List Int32) ke1 c48 e2_ T102.heap n0 Zn VE1 V_b48 (by omega) ok1 (own_p2 p0 _ _) he2_) hZ (hw _ (List.mem_of_getElem? (i := 13) rfl)) (hw _ (List.mem_of_getElem? (i := 7) rfl)) (by decide) (by decide)) (g := (mkF m 218 #[.val (.long p0), .second, ov p1, ov p2, ov p3, ov p4, oi l0_, oi l1_, oi l2_, oi l3_, oa b18, oa b33, oa b48, oa b63, oi l0_, oi s1_, oi (s1_ + l1_), oi s2_, oi (s2_ + l2_), oi s3_, oi (s3_ + l3_), oa e0_, oa e1_, .unset, .unset, .unset, .unset, .unset, .unset, .unset] [(.ref b48), (.int (Int32.ofNat s2_)), (.ref e1_)])) rfl (by rw [hml]; rfl) (argsL := [(.ref e1_), (.int (Int32.ofNat s2_)), (.ref b48)]) (rest := []) (lenOf pd_86934 rfl) rfl (by show 2 * 0 + _ ≤ _; exact Nat.le_of_eq rfl) (hb hby at_218) (fun _ _ => ⟨rfl, rfl, (by decide : 0 + 0 + 0 + 0 + 0 + 1 + 0 + 0 + 1 + 0 + 0 + 1 + 0 + 0 + 1 + 0 + 0 + 1 + 1 + 1 + 1 ≤ _), (by decide : 0 + 0 + 0 + 0 + 0 + 2 + 0 + 0 + 2 + 0 + 0 + 2 + 0 + 0 + 2 + 0 + 0 + 8 + 8 + 8 + 8 ≤ _)⟩)
  dsimp only [Pt.U, Pt.locs, Pt.cells, Pt.slots] at X105 l105 y105 z105 st105 hQ105
  rw [l105, y105, z105] at X105
  obtain ⟨rfl, Nq105, KE2, ke2, VE2⟩ := hQ105
  have N105 := Fr.app N102 Nq105
  have k106_ : ∀ t, Steps p.tables e below (T105.setTop (mkF m 221 #[.val (.long p0), .second, ov p1, ov p2, ov p3, ov p4, oi l0_, oi l1_, oi l2_, oi l3_, oa b18, oa b33, oa b48, oa b63, oi l0_, oi s1_, oi (s1_ + l1_), oi s2_, oi (s2_ + l2_), oi s3_, oi (s3_ + l3_), oa e0_, oa e1_, .unset, .unset, .unset, .unset, .unset, .unset, .unset] [(.ref e2_)])) t → G_ t := fun t q => k104_ t (st105 t q)
  replace hCH := hCH.trans (CHr.keep KE2 sf0 hCH.1)
  replace Zn := Nat.le_trans Zn KE2.1
  replace hk := Nat.le_trans hk KE2.1
  replace X00 := X00.keep KE2 all0
  replace V_b18 := V_b18.keep KE2 nin0
  replace V_b33 := V_b33.keep KE2 nin0
  replace V_b48 := V_b48.keep KE2 nin0
  replace V_b63 := V_b63.keep KE2 nin0
  replace V_b96 := V_b96.keep KE2 nin0
  replace VE0 := VE0.keep KE2 nin0
  replace VE1 := VE1.keep KE2 nin0
  obtain ⟨E2_, hE2_⟩ : ∃ z : List Int32, z = own_nxt E1_ s2_ ([own_chl p0 (4 : Int32), own_chl p0 (5 : Int32)] : List Int32) := ⟨_, rfl⟩
  rw [← hE2_] at VE2
  have ok2 : own_OK E2_ := by rw [hE2_]; exact own_nxt_OK ok1 (own_p2 p0 _ _)
  have len2 : E2_.length = 8 := by rw [hE2_]; rfl
  have lo2 : ∀ j, j < s2_ → E2_.getD j 0 = E1_.getD j 0 := by rw [hE2_]; exact own_lo (by omega)
  have hi2 : ∀ j, s2_ ≤ j → j < (s2_ + l2_) → E2_.getD j 0 = (([own_chl p0 (4 : Int32), own_chl p0 (5 : Int32)] : List Int32).take l2_).getD (j - s2_) 0 := by rw [hE2_]; exact own_hi (su := s2_) (lv := l2_) (by omega) h_l2_
  have k107_ : ∀ t, Steps p.tables e below (T105.setTop (mkF m 229 #[.val (.long p0), .second, ov p1, ov p2, ov p3, ov p4, oi l0_, oi l1_, oi l2_, oi l3_, oa b18, oa b33, oa b48, oa b63, oi l0_, oi s1_, oi (s1_ + l1_), oi s2_, oi (s2_ + l2_), oi s3_, oi (s3_ + l3_), oa e0_, oa e1_, oa e2_, .unset, .unset, .unset, .unset, .unset, .unset] [(.ref b63), (.int (Int32.ofNat s3_)), (.ref e2_)])) t → G_ t := by
    intro t q
    refine k106_ _ ?_
    show Steps p.tables e below (T105.setTop (mkF m 221 #[.val (.long p0), .second, ov p1, ov p2, ov p3, ov p4, oi l0_, oi l1_, oi l2_, oi l3_, oa b18, oa b33, oa b48, oa b63, oi l0_, oi s1_, oi (s1_ + l1_), oi s2_, oi (s2_ + l2_), oi s3_, oi (s3_ + l3_), oa e0_, oa e1_, .unset, .unset, .unset, .unset, .unset, .unset, .unset] [(.ref e2_)])) _
    refine XS.astore X105.here hx rfl (hb hby at_221) rfl rfl (l' := #[.val (.long p0), .second, ov p1, ov p2, ov p3, ov p4, oi l0_, oi l1_, oi l2_, oi l3_, oa b18, oa b33, oa b48, oa b63, oi l0_, oi s1_, oi (s1_ + l1_), oi s2_, oi (s2_ + l2_), oi s3_, oi (s3_ + l3_), oa e0_, oa e1_, oa e2_, .unset, .unset, .unset, .unset, .unset, .unset]) rfl ?_
    refine XS.aload X105.here hx rfl (hb hby at_223) rfl rfl ?_
    refine XS.iload X105.here hx rfl (hb hby at_225) rfl ?_
    refine XS.aload X105.here hx rfl (hb hby at_227) rfl rfl ?_
    show Steps p.tables e below (T105.setTop (mkF m 229 #[.val (.long p0), .second, ov p1, ov p2, ov p3, ov p4, oi l0_, oi l1_, oi l2_, oi l3_, oa b18, oa b33, oa b48, oa b63, oi l0_, oi s1_, oi (s1_ + l1_), oi s2_, oi (s2_ + l2_), oi s3_, oi (s3_ + l3_), oa e0_, oa e1_, oa e2_, .unset, .unset, .unset, .unset, .unset, .unset] [(.ref b63), (.int (Int32.ofNat s3_)), (.ref e2_)])) _
    exact q
  obtain ⟨e3_, he3_⟩ : ∃ z : Addr, z = T105.heap.size := ⟨_, rfl⟩
  obtain ⟨_, _, ⟨T108, L108, kk108, n108⟩, -, X108, ⟨Lc108, hQ108, l108, y108, z108⟩, st108⟩ := Jvm.LawKit.callS X105 hx (y := (⟨"com/example/haku/haku/index/UnitPathsAddPinLaw", "next", "([CI[C)[C"⟩ : MethodName)) hown (mvT hZ (hw _ (List.mem_of_getElem? (i := 11) rfl))) (mvT hZ (hw _ (List.mem_of_getElem? (i := 12) rfl))) (mvT hZ (hw _ (List.mem_of_getElem? (i := 7) rfl))) (mvT hZ (hw _ (List.mem_of_getElem? (i := 13) rfl))) (by decide) (backOf (W := 0) (rmNe l Z a0 hw [] e2_ s3_ b63 E2_ ([own_chl p0 (6 : Int32), own_chl p0 (7 : Int32)] : List Int32) ke2 c63 e3_ T105.heap n0 Zn VE2 V_b63 (by omega) ok2 (own_p2 p0 _ _) he3_) hZ (hw _ (List.mem_of_getElem? (i := 13) rfl)) (hw _ (List.mem_of_getElem? (i := 7) rfl)) (by decide) (by decide)) (g := (mkF m 229 #[.val (.long p0), .second, ov p1, ov p2, ov p3, ov p4, oi l0_, oi l1_, oi l2_, oi l3_, oa b18, oa b33, oa b48, oa b63, oi l0_, oi s1_, oi (s1_ + l1_), oi s2_, oi (s2_ + l2_), oi s3_, oi (s3_ + l3_), oa e0_, oa e1_, oa e2_, .unset, .unset, .unset, .unset, .unset, .unset] [(.ref b63), (.int (Int32.ofNat s3_)), (.ref e2_)])) rfl (by rw [hml]; rfl) (argsL := [(.ref e2_), (.int (Int32.ofNat s3_)), (.ref b63)]) (rest := []) (lenOf pd_86934 rfl) rfl (by show 2 * 0 + _ ≤ _; exact Nat.le_of_eq rfl) (hb hby at_229) (fun _ _ => ⟨rfl, rfl, (by decide : 0 + 0 + 0 + 0 + 0 + 1 + 0 + 0 + 1 + 0 + 0 + 1 + 0 + 0 + 1 + 0 + 0 + 1 + 1 + 1 + 1 + 1 ≤ _), (by decide : 0 + 0 + 0 + 0 + 0 + 2 + 0 + 0 + 2 + 0 + 0 + 2 + 0 + 0 + 2 + 0 + 0 + 8 + 8 + 8 + 8 + 8 ≤ _)⟩)
  dsimp only [Pt.U, Pt.locs, Pt.cells, Pt.slots] at X108 l108 y108 z108 st108 hQ108
  rw [l108, y108, z108] at X108
  obtain ⟨rfl, Nq108, KE3, ke3, VE3⟩ := hQ108
  have N108 := Fr.app N105 Nq108
  have k109_ : ∀ t, Steps p.tables e below (T108.setTop (mkF m 232 #[.val (.long p0), .second, ov p1, ov p2, ov p3, ov p4, oi l0_, oi l1_, oi l2_, oi l3_, oa b18, oa b33, oa b48, oa b63, oi l0_, oi s1_, oi (s1_ + l1_), oi s2_, oi (s2_ + l2_), oi s3_, oi (s3_ + l3_), oa e0_, oa e1_, oa e2_, .unset, .unset, .unset, .unset, .unset, .unset] [(.ref e3_)])) t → G_ t := fun t q => k107_ t (st108 t q)
  replace hCH := hCH.trans (CHr.keep KE3 sf0 hCH.1)
  replace Zn := Nat.le_trans Zn KE3.1
  replace hk := Nat.le_trans hk KE3.1
  replace X00 := X00.keep KE3 all0
  replace V_b18 := V_b18.keep KE3 nin0
  replace V_b33 := V_b33.keep KE3 nin0
  replace V_b48 := V_b48.keep KE3 nin0
  replace V_b63 := V_b63.keep KE3 nin0
  replace V_b96 := V_b96.keep KE3 nin0
  replace VE0 := VE0.keep KE3 nin0
  replace VE1 := VE1.keep KE3 nin0
  replace VE2 := VE2.keep KE3 nin0
  obtain ⟨E3_, hE3_⟩ : ∃ z : List Int32, z = own_nxt E2_ s3_ ([own_chl p0 (6 : Int32), own_chl p0 (7 : Int32)] : List Int32) := ⟨_, rfl⟩
  rw [← hE3_] at VE3
  have ok3 : own_OK E3_ := by rw [hE3_]; exact own_nxt_OK ok2 (own_p2 p0 _ _)
  have len3 : E3_.length = 8 := by rw [hE3_]; rfl
  have lo3 : ∀ j, j < s3_ → E3_.getD j 0 = E2_.getD j 0 := by rw [hE3_]; exact own_lo (by omega)
  have hi3 : ∀ j, s3_ ≤ j → j < (s3_ + l3_) → E3_.getD j 0 = (([own_chl p0 (6 : Int32), own_chl p0 (7 : Int32)] : List Int32).take l3_).getD (j - s3_) 0 := by rw [hE3_]; exact own_hi (su := s3_) (lv := l3_) (by omega) h_l3_
  have k110_ : ∀ t, Steps p.tables e below (T108.setTop (mkF m 238 #[.val (.long p0), .second, ov p1, ov p2, ov p3, ov p4, oi l0_, oi l1_, oi l2_, oi l3_, oa b18, oa b33, oa b48, oa b63, oi l0_, oi s1_, oi (s1_ + l1_), oi s2_, oi (s2_ + l2_), oi s3_, oi (s3_ + l3_), oa e0_, oa e1_, oa e2_, oa e3_, .unset, .unset, .unset, .unset, .unset] [(.ref b18), (.int (Int32.ofNat l0_))])) t → G_ t := by
    intro t q
    refine k109_ _ ?_
    show Steps p.tables e below (T108.setTop (mkF m 232 #[.val (.long p0), .second, ov p1, ov p2, ov p3, ov p4, oi l0_, oi l1_, oi l2_, oi l3_, oa b18, oa b33, oa b48, oa b63, oi l0_, oi s1_, oi (s1_ + l1_), oi s2_, oi (s2_ + l2_), oi s3_, oi (s3_ + l3_), oa e0_, oa e1_, oa e2_, .unset, .unset, .unset, .unset, .unset, .unset] [(.ref e3_)])) _
    refine XS.astore X108.here hx rfl (hb hby at_232) rfl rfl (l' := #[.val (.long p0), .second, ov p1, ov p2, ov p3, ov p4, oi l0_, oi l1_, oi l2_, oi l3_, oa b18, oa b33, oa b48, oa b63, oi l0_, oi s1_, oi (s1_ + l1_), oi s2_, oi (s2_ + l2_), oi s3_, oi (s3_ + l3_), oa e0_, oa e1_, oa e2_, oa e3_, .unset, .unset, .unset, .unset, .unset]) rfl ?_
    refine XS.iload X108.here hx rfl (hb hby at_234) rfl ?_
    refine XS.aload X108.here hx rfl (hb hby at_236) rfl rfl ?_
    show Steps p.tables e below (T108.setTop (mkF m 238 #[.val (.long p0), .second, ov p1, ov p2, ov p3, ov p4, oi l0_, oi l1_, oi l2_, oi l3_, oa b18, oa b33, oa b48, oa b63, oi l0_, oi s1_, oi (s1_ + l1_), oi s2_, oi (s2_ + l2_), oi s3_, oi (s3_ + l3_), oa e0_, oa e1_, oa e2_, oa e3_, .unset, .unset, .unset, .unset, .unset] [(.ref b18), (.int (Int32.ofNat l0_))])) _
    exact q
  obtain ⟨_, _, ⟨T111, L111, kk111, n111⟩, -, X111_, hs111, hG111, ⟨Lc111, hQ111, l111, y111, z111, hc111⟩, st111⟩ := callSS X108 hx (y := (⟨"com/example/haku/haku/index/UnitPathsAddPinLaw", "rest", "(I[C)Ljava/lang/String;"⟩ : MethodName)) hown (mvT hZ (hw _ (List.mem_of_getElem? (i := 17) rfl))) (mvT hZ (hw _ (List.mem_of_getElem? (i := 18) rfl))) (mvT hZ (hw _ (List.mem_of_getElem? (i := 7) rfl))) (mvT hZ (hw _ (List.mem_of_getElem? (i := 19) rfl))) (by decide) (backOfSH (s := s) (vm0 := s.vm) (EL := own_EL) (W := 0) (rmRe l Z a0 hw [] l0_ b18 ([own_chl p0 (0 : Int32), own_chl p0 (1 : Int32)] : List Int32) c18 zc T108.heap n0 Zn h_l0_ V_b18 (own_p2 p0 _ _) rfl O2 hzc X00 wS hEL) hZ (hw _ (List.mem_of_getElem? (i := 19) rfl)) (hw _ (List.mem_of_getElem? (i := 7) rfl)) (by decide) (by decide) hEL hCH.1) (g := (mkF m 238 #[.val (.long p0), .second, ov p1, ov p2, ov p3, ov p4, oi l0_, oi l1_, oi l2_, oi l3_, oa b18, oa b33, oa b48, oa b63, oi l0_, oi s1_, oi (s1_ + l1_), oi s2_, oi (s2_ + l2_), oi s3_, oi (s3_ + l3_), oa e0_, oa e1_, oa e2_, oa e3_, .unset, .unset, .unset, .unset, .unset] [(.ref b18), (.int (Int32.ofNat l0_))])) rfl (by rw [hml]; rfl) (argsL := [(.int (Int32.ofNat l0_)), (.ref b18)]) (rest := []) (lenOf pd_95507 rfl) rfl (by show 2 * 0 + _ ≤ _; exact Nat.le_of_eq rfl) (hb hby at_238) (fun _ _ => ⟨rfl, rfl, (by decide : 0 + 0 + 0 + 0 + 0 + 1 + 0 + 0 + 1 + 0 + 0 + 1 + 0 + 0 + 1 + 0 + 0 + 1 + 1 + 1 + 1 + 1 + 4 ≤ _), (by decide : 0 + 0 + 0 + 0 + 0 + 2 + 0 + 0 + 2 + 0 + 0 + 2 + 0 + 0 + 2 + 0 + 0 + 8 + 8 + 8 + 8 + 8 + 10 ≤ _)⟩)
  dsimp only [Pt.U, Pt.locs, Pt.cells, Pt.slots] at X111_ l111 y111 z111 st111 hQ111 hG111 hs111 hc111
  rw [l111, y111, z111] at X111_
  obtain ⟨X111, hS111, hZ111, hown111⟩ := rebS (s := s) (vm0 := s.vm) hS hk X111_ hs111 hG111 hZ hown
  replace hS := hS111
  replace hZ := hZ111
  replace hown := hown111
  replace hCH := hCH.trans hc111
  replace hk : T111.heap.size ≤ T111.heap.size := Nat.le_refl _
  obtain ⟨t0_, rfl, Nq111, K_t0_, S_t0_⟩ := hQ111
  have N111 := Fr.app N108 Nq111
  have k112_ : ∀ t, Steps p.tables e below (T111.setTop (mkF m 241 #[.val (.long p0), .second, ov p1, ov p2, ov p3, ov p4, oi l0_, oi l1_, oi l2_, oi l3_, oa b18, oa b33, oa b48, oa b63, oi l0_, oi s1_, oi (s1_ + l1_), oi s2_, oi (s2_ + l2_), oi s3_, oi (s3_ + l3_), oa e0_, oa e1_, oa e2_, oa e3_, .unset, .unset, .unset, .unset, .unset] [(.ref t0_)])) t → G_ t := fun t q => k110_ t (st111.trans q)
  replace Zn := Nat.le_trans Zn K_t0_.1
  replace X00 := X00.keep K_t0_ all0
  replace V_b18 := V_b18.keep K_t0_ nin0
  replace V_b33 := V_b33.keep K_t0_ nin0
  replace V_b48 := V_b48.keep K_t0_ nin0
  replace V_b63 := V_b63.keep K_t0_ nin0
  replace V_b96 := V_b96.keep K_t0_ nin0
  replace VE0 := VE0.keep K_t0_ nin0
  replace VE1 := VE1.keep K_t0_ nin0
  replace VE2 := VE2.keep K_t0_ nin0
  replace VE3 := VE3.keep K_t0_ nin0
  have k113_ : ∀ t, Steps p.tables e below (T111.setTop (mkF m 247 #[.val (.long p0), .second, ov p1, ov p2, ov p3, ov p4, oi l0_, oi l1_, oi l2_, oi l3_, oa b18, oa b33, oa b48, oa b63, oi l0_, oi s1_, oi (s1_ + l1_), oi s2_, oi (s2_ + l2_), oi s3_, oi (s3_ + l3_), oa e0_, oa e1_, oa e2_, oa e3_, oa t0_, .unset, .unset, .unset, .unset] [(.ref b33), (.int (Int32.ofNat l1_))])) t → G_ t := by
    intro t q
    refine k112_ _ ?_
    show Steps p.tables e below (T111.setTop (mkF m 241 #[.val (.long p0), .second, ov p1, ov p2, ov p3, ov p4, oi l0_, oi l1_, oi l2_, oi l3_, oa b18, oa b33, oa b48, oa b63, oi l0_, oi s1_, oi (s1_ + l1_), oi s2_, oi (s2_ + l2_), oi s3_, oi (s3_ + l3_), oa e0_, oa e1_, oa e2_, oa e3_, .unset, .unset, .unset, .unset, .unset] [(.ref t0_)])) _
    refine XS.astore X111.here hx rfl (hb hby at_241) rfl rfl (l' := #[.val (.long p0), .second, ov p1, ov p2, ov p3, ov p4, oi l0_, oi l1_, oi l2_, oi l3_, oa b18, oa b33, oa b48, oa b63, oi l0_, oi s1_, oi (s1_ + l1_), oi s2_, oi (s2_ + l2_), oi s3_, oi (s3_ + l3_), oa e0_, oa e1_, oa e2_, oa e3_, oa t0_, .unset, .unset, .unset, .unset]) rfl ?_
    refine XS.iload X111.here hx rfl (hb hby at_243) rfl ?_
    refine XS.aload X111.here hx rfl (hb hby at_245) rfl rfl ?_
    show Steps p.tables e below (T111.setTop (mkF m 247 #[.val (.long p0), .second, ov p1, ov p2, ov p3, ov p4, oi l0_, oi l1_, oi l2_, oi l3_, oa b18, oa b33, oa b48, oa b63, oi l0_, oi s1_, oi (s1_ + l1_), oi s2_, oi (s2_ + l2_), oi s3_, oi (s3_ + l3_), oa e0_, oa e1_, oa e2_, oa e3_, oa t0_, .unset, .unset, .unset, .unset] [(.ref b33), (.int (Int32.ofNat l1_))])) _
    exact q
  obtain ⟨_, _, ⟨T114, L114, kk114, n114⟩, -, X114_, hs114, hG114, ⟨Lc114, hQ114, l114, y114, z114, hc114⟩, st114⟩ := callSS X111 hx (y := (⟨"com/example/haku/haku/index/UnitPathsAddPinLaw", "rest", "(I[C)Ljava/lang/String;"⟩ : MethodName)) hown (mvT hZ (hw _ (List.mem_of_getElem? (i := 17) rfl))) (mvT hZ (hw _ (List.mem_of_getElem? (i := 18) rfl))) (mvT hZ (hw _ (List.mem_of_getElem? (i := 7) rfl))) (mvT hZ (hw _ (List.mem_of_getElem? (i := 19) rfl))) (by decide) (backOfSH (s := s) (vm0 := T111.vm) (EL := own_EL) (W := 0) (rmRe l Z a0 hw [] l1_ b33 ([own_chl p0 (2 : Int32), own_chl p0 (3 : Int32)] : List Int32) c33 zc T111.heap n0 Zn h_l1_ V_b33 (own_p2 p0 _ _) rfl O2 hzc X00 wS hEL) hZ (hw _ (List.mem_of_getElem? (i := 19) rfl)) (hw _ (List.mem_of_getElem? (i := 7) rfl)) (by decide) (by decide) hEL hCH.1) (g := (mkF m 247 #[.val (.long p0), .second, ov p1, ov p2, ov p3, ov p4, oi l0_, oi l1_, oi l2_, oi l3_, oa b18, oa b33, oa b48, oa b63, oi l0_, oi s1_, oi (s1_ + l1_), oi s2_, oi (s2_ + l2_), oi s3_, oi (s3_ + l3_), oa e0_, oa e1_, oa e2_, oa e3_, oa t0_, .unset, .unset, .unset, .unset] [(.ref b33), (.int (Int32.ofNat l1_))])) rfl (by rw [hml]; rfl) (argsL := [(.int (Int32.ofNat l1_)), (.ref b33)]) (rest := []) (lenOf pd_95507 rfl) rfl (by show 2 * 0 + _ ≤ _; exact Nat.le_of_eq rfl) (hb hby at_247) (fun _ _ => ⟨rfl, rfl, (by decide : 0 + 0 + 0 + 0 + 0 + 1 + 0 + 0 + 1 + 0 + 0 + 1 + 0 + 0 + 1 + 0 + 0 + 1 + 1 + 1 + 1 + 1 + 4 + 4 ≤ _), (by decide : 0 + 0 + 0 + 0 + 0 + 2 + 0 + 0 + 2 + 0 + 0 + 2 + 0 + 0 + 2 + 0 + 0 + 8 + 8 + 8 + 8 + 8 + 10 + 10 ≤ _)⟩)
  dsimp only [Pt.U, Pt.locs, Pt.cells, Pt.slots] at X114_ l114 y114 z114 st114 hQ114 hG114 hs114 hc114
  rw [l114, y114, z114] at X114_
  obtain ⟨X114, hS114, hZ114, hown114⟩ := rebS (s := s) (vm0 := T111.vm) hS hk X114_ hs114 hG114 hZ hown
  replace hS := hS114
  replace hZ := hZ114
  replace hown := hown114
  replace hCH := hCH.trans hc114
  replace hk : T114.heap.size ≤ T114.heap.size := Nat.le_refl _
  obtain ⟨t1_, rfl, Nq114, K_t1_, S_t1_⟩ := hQ114
  have N114 := Fr.app N111 Nq114
  have k115_ : ∀ t, Steps p.tables e below (T114.setTop (mkF m 250 #[.val (.long p0), .second, ov p1, ov p2, ov p3, ov p4, oi l0_, oi l1_, oi l2_, oi l3_, oa b18, oa b33, oa b48, oa b63, oi l0_, oi s1_, oi (s1_ + l1_), oi s2_, oi (s2_ + l2_), oi s3_, oi (s3_ + l3_), oa e0_, oa e1_, oa e2_, oa e3_, oa t0_, .unset, .unset, .unset, .unset] [(.ref t1_)])) t → G_ t := fun t q => k113_ t (st114.trans q)
  replace Zn := Nat.le_trans Zn K_t1_.1
  replace X00 := X00.keep K_t1_ all0
  replace V_b18 := V_b18.keep K_t1_ nin0
  replace V_b33 := V_b33.keep K_t1_ nin0
  replace V_b48 := V_b48.keep K_t1_ nin0
  replace V_b63 := V_b63.keep K_t1_ nin0
  replace V_b96 := V_b96.keep K_t1_ nin0
  replace VE0 := VE0.keep K_t1_ nin0
  replace VE1 := VE1.keep K_t1_ nin0
  replace VE2 := VE2.keep K_t1_ nin0
  replace VE3 := VE3.keep K_t1_ nin0
  replace S_t0_ := own_Sb_keep S_t0_ K_t1_ (fun x hx => nomatch hx)
  replace S_t0_ := own_Sb_up S_t0_ K_t1_.1
  have k116_ : ∀ t, Steps p.tables e below (T114.setTop (mkF m 256 #[.val (.long p0), .second, ov p1, ov p2, ov p3, ov p4, oi l0_, oi l1_, oi l2_, oi l3_, oa b18, oa b33, oa b48, oa b63, oi l0_, oi s1_, oi (s1_ + l1_), oi s2_, oi (s2_ + l2_), oi s3_, oi (s3_ + l3_), oa e0_, oa e1_, oa e2_, oa e3_, oa t0_, oa t1_, .unset, .unset, .unset] [(.ref b48), (.int (Int32.ofNat l2_))])) t → G_ t := by
    intro t q
    refine k115_ _ ?_
    show Steps p.tables e below (T114.setTop (mkF m 250 #[.val (.long p0), .second, ov p1, ov p2, ov p3, ov p4, oi l0_, oi l1_, oi l2_, oi l3_, oa b18, oa b33, oa b48, oa b63, oi l0_, oi s1_, oi (s1_ + l1_), oi s2_, oi (s2_ + l2_), oi s3_, oi (s3_ + l3_), oa e0_, oa e1_, oa e2_, oa e3_, oa t0_, .unset, .unset, .unset, .unset] [(.ref t1_)])) _
    refine XS.astore X114.here hx rfl (hb hby at_250) rfl rfl (l' := #[.val (.long p0), .second, ov p1, ov p2, ov p3, ov p4, oi l0_, oi l1_, oi l2_, oi l3_, oa b18, oa b33, oa b48, oa b63, oi l0_, oi s1_, oi (s1_ + l1_), oi s2_, oi (s2_ + l2_), oi s3_, oi (s3_ + l3_), oa e0_, oa e1_, oa e2_, oa e3_, oa t0_, oa t1_, .unset, .unset, .unset]) rfl ?_
    refine XS.iload X114.here hx rfl (hb hby at_252) rfl ?_
    refine XS.aload X114.here hx rfl (hb hby at_254) rfl rfl ?_
    show Steps p.tables e below (T114.setTop (mkF m 256 #[.val (.long p0), .second, ov p1, ov p2, ov p3, ov p4, oi l0_, oi l1_, oi l2_, oi l3_, oa b18, oa b33, oa b48, oa b63, oi l0_, oi s1_, oi (s1_ + l1_), oi s2_, oi (s2_ + l2_), oi s3_, oi (s3_ + l3_), oa e0_, oa e1_, oa e2_, oa e3_, oa t0_, oa t1_, .unset, .unset, .unset] [(.ref b48), (.int (Int32.ofNat l2_))])) _
    exact q
  obtain ⟨_, _, ⟨T117, L117, kk117, n117⟩, -, X117_, hs117, hG117, ⟨Lc117, hQ117, l117, y117, z117, hc117⟩, st117⟩ := callSS X114 hx (y := (⟨"com/example/haku/haku/index/UnitPathsAddPinLaw", "rest", "(I[C)Ljava/lang/String;"⟩ : MethodName)) hown (mvT hZ (hw _ (List.mem_of_getElem? (i := 17) rfl))) (mvT hZ (hw _ (List.mem_of_getElem? (i := 18) rfl))) (mvT hZ (hw _ (List.mem_of_getElem? (i := 7) rfl))) (mvT hZ (hw _ (List.mem_of_getElem? (i := 19) rfl))) (by decide) (backOfSH (s := s) (vm0 := T114.vm) (EL := own_EL) (W := 0) (rmRe l Z a0 hw [] l2_ b48 ([own_chl p0 (4 : Int32), own_chl p0 (5 : Int32)] : List Int32) c48 zc T114.heap n0 Zn h_l2_ V_b48 (own_p2 p0 _ _) rfl O2 hzc X00 wS hEL) hZ (hw _ (List.mem_of_getElem? (i := 19) rfl)) (hw _ (List.mem_of_getElem? (i := 7) rfl)) (by decide) (by decide) hEL hCH.1) (g := (mkF m 256 #[.val (.long p0), .second, ov p1, ov p2, ov p3, ov p4, oi l0_, oi l1_, oi l2_, oi l3_, oa b18, oa b33, oa b48, oa b63, oi l0_, oi s1_, oi (s1_ + l1_), oi s2_, oi (s2_ + l2_), oi s3_, oi (s3_ + l3_), oa e0_, oa e1_, oa e2_, oa e3_, oa t0_, oa t1_, .unset, .unset, .unset] [(.ref b48), (.int (Int32.ofNat l2_))])) rfl (by rw [hml]; rfl) (argsL := [(.int (Int32.ofNat l2_)), (.ref b48)]) (rest := []) (lenOf pd_95507 rfl) rfl (by show 2 * 0 + _ ≤ _; exact Nat.le_of_eq rfl) (hb hby at_256) (fun _ _ => ⟨rfl, rfl, (by decide : 0 + 0 + 0 + 0 + 0 + 1 + 0 + 0 + 1 + 0 + 0 + 1 + 0 + 0 + 1 + 0 + 0 + 1 + 1 + 1 + 1 + 1 + 4 + 4 + 4 ≤ _), (by decide : 0 + 0 + 0 + 0 + 0 + 2 + 0 + 0 + 2 + 0 + 0 + 2 + 0 + 0 + 2 + 0 + 0 + 8 + 8 + 8 + 8 + 8 + 10 + 10 + 10 ≤ _)⟩)
  dsimp only [Pt.U, Pt.locs, Pt.cells, Pt.slots] at X117_ l117 y117 z117 st117 hQ117 hG117 hs117 hc117
  rw [l117, y117, z117] at X117_
  obtain ⟨X117, hS117, hZ117, hown117⟩ := rebS (s := s) (vm0 := T114.vm) hS hk X117_ hs117 hG117 hZ hown
  replace hS := hS117
  replace hZ := hZ117
  replace hown := hown117
  replace hCH := hCH.trans hc117
  replace hk : T117.heap.size ≤ T117.heap.size := Nat.le_refl _
  obtain ⟨t2_, rfl, Nq117, K_t2_, S_t2_⟩ := hQ117
  have N117 := Fr.app N114 Nq117
  have k118_ : ∀ t, Steps p.tables e below (T117.setTop (mkF m 259 #[.val (.long p0), .second, ov p1, ov p2, ov p3, ov p4, oi l0_, oi l1_, oi l2_, oi l3_, oa b18, oa b33, oa b48, oa b63, oi l0_, oi s1_, oi (s1_ + l1_), oi s2_, oi (s2_ + l2_), oi s3_, oi (s3_ + l3_), oa e0_, oa e1_, oa e2_, oa e3_, oa t0_, oa t1_, .unset, .unset, .unset] [(.ref t2_)])) t → G_ t := fun t q => k116_ t (st117.trans q)
  replace Zn := Nat.le_trans Zn K_t2_.1
  replace X00 := X00.keep K_t2_ all0
  replace V_b18 := V_b18.keep K_t2_ nin0
  replace V_b33 := V_b33.keep K_t2_ nin0
  replace V_b48 := V_b48.keep K_t2_ nin0
  replace V_b63 := V_b63.keep K_t2_ nin0
  replace V_b96 := V_b96.keep K_t2_ nin0
  replace VE0 := VE0.keep K_t2_ nin0
  replace VE1 := VE1.keep K_t2_ nin0
  replace VE2 := VE2.keep K_t2_ nin0
  replace VE3 := VE3.keep K_t2_ nin0
  replace S_t0_ := own_Sb_keep S_t0_ K_t2_ (fun x hx => nomatch hx)
  replace S_t1_ := own_Sb_keep S_t1_ K_t2_ (fun x hx => nomatch hx)
  replace S_t0_ := own_Sb_up S_t0_ K_t2_.1
  replace S_t1_ := own_Sb_up S_t1_ K_t2_.1
  have k119_ : ∀ t, Steps p.tables e below (T117.setTop (mkF m 265 #[.val (.long p0), .second, ov p1, ov p2, ov p3, ov p4, oi l0_, oi l1_, oi l2_, oi l3_, oa b18, oa b33, oa b48, oa b63, oi l0_, oi s1_, oi (s1_ + l1_), oi s2_, oi (s2_ + l2_), oi s3_, oi (s3_ + l3_), oa e0_, oa e1_, oa e2_, oa e3_, oa t0_, oa t1_, oa t2_, .unset, .unset] [(.ref b63), (.int (Int32.ofNat l3_))])) t → G_ t := by
    intro t q
    refine k118_ _ ?_
    show Steps p.tables e below (T117.setTop (mkF m 259 #[.val (.long p0), .second, ov p1, ov p2, ov p3, ov p4, oi l0_, oi l1_, oi l2_, oi l3_, oa b18, oa b33, oa b48, oa b63, oi l0_, oi s1_, oi (s1_ + l1_), oi s2_, oi (s2_ + l2_), oi s3_, oi (s3_ + l3_), oa e0_, oa e1_, oa e2_, oa e3_, oa t0_, oa t1_, .unset, .unset, .unset] [(.ref t2_)])) _
    refine XS.astore X117.here hx rfl (hb hby at_259) rfl rfl (l' := #[.val (.long p0), .second, ov p1, ov p2, ov p3, ov p4, oi l0_, oi l1_, oi l2_, oi l3_, oa b18, oa b33, oa b48, oa b63, oi l0_, oi s1_, oi (s1_ + l1_), oi s2_, oi (s2_ + l2_), oi s3_, oi (s3_ + l3_), oa e0_, oa e1_, oa e2_, oa e3_, oa t0_, oa t1_, oa t2_, .unset, .unset]) rfl ?_
    refine XS.iload X117.here hx rfl (hb hby at_261) rfl ?_
    refine XS.aload X117.here hx rfl (hb hby at_263) rfl rfl ?_
    show Steps p.tables e below (T117.setTop (mkF m 265 #[.val (.long p0), .second, ov p1, ov p2, ov p3, ov p4, oi l0_, oi l1_, oi l2_, oi l3_, oa b18, oa b33, oa b48, oa b63, oi l0_, oi s1_, oi (s1_ + l1_), oi s2_, oi (s2_ + l2_), oi s3_, oi (s3_ + l3_), oa e0_, oa e1_, oa e2_, oa e3_, oa t0_, oa t1_, oa t2_, .unset, .unset] [(.ref b63), (.int (Int32.ofNat l3_))])) _
    exact q
  obtain ⟨_, _, ⟨T120, L120, kk120, n120⟩, -, X120_, hs120, hG120, ⟨Lc120, hQ120, l120, y120, z120, hc120⟩, st120⟩ := callSS X117 hx (y := (⟨"com/example/haku/haku/index/UnitPathsAddPinLaw", "rest", "(I[C)Ljava/lang/String;"⟩ : MethodName)) hown (mvT hZ (hw _ (List.mem_of_getElem? (i := 17) rfl))) (mvT hZ (hw _ (List.mem_of_getElem? (i := 18) rfl))) (mvT hZ (hw _ (List.mem_of_getElem? (i := 7) rfl))) (mvT hZ (hw _ (List.mem_of_getElem? (i := 19) rfl))) (by decide) (backOfSH (s := s) (vm0 := T117.vm) (EL := own_EL) (W := 0) (rmRe l Z a0 hw [] l3_ b63 ([own_chl p0 (6 : Int32), own_chl p0 (7 : Int32)] : List Int32) c63 zc T117.heap n0 Zn h_l3_ V_b63 (own_p2 p0 _ _) rfl O2 hzc X00 wS hEL) hZ (hw _ (List.mem_of_getElem? (i := 19) rfl)) (hw _ (List.mem_of_getElem? (i := 7) rfl)) (by decide) (by decide) hEL hCH.1) (g := (mkF m 265 #[.val (.long p0), .second, ov p1, ov p2, ov p3, ov p4, oi l0_, oi l1_, oi l2_, oi l3_, oa b18, oa b33, oa b48, oa b63, oi l0_, oi s1_, oi (s1_ + l1_), oi s2_, oi (s2_ + l2_), oi s3_, oi (s3_ + l3_), oa e0_, oa e1_, oa e2_, oa e3_, oa t0_, oa t1_, oa t2_, .unset, .unset] [(.ref b63), (.int (Int32.ofNat l3_))])) rfl (by rw [hml]; rfl) (argsL := [(.int (Int32.ofNat l3_)), (.ref b63)]) (rest := []) (lenOf pd_95507 rfl) rfl (by show 2 * 0 + _ ≤ _; exact Nat.le_of_eq rfl) (hb hby at_265) (fun _ _ => ⟨rfl, rfl, (by decide : 0 + 0 + 0 + 0 + 0 + 1 + 0 + 0 + 1 + 0 + 0 + 1 + 0 + 0 + 1 + 0 + 0 + 1 + 1 + 1 + 1 + 1 + 4 + 4 + 4 + 4 ≤ _), (by decide : 0 + 0 + 0 + 0 + 0 + 2 + 0 + 0 + 2 + 0 + 0 + 2 + 0 + 0 + 2 + 0 + 0 + 8 + 8 + 8 + 8 + 8 + 10 + 10 + 10 + 10 ≤ _)⟩)
  dsimp only [Pt.U, Pt.locs, Pt.cells, Pt.slots] at X120_ l120 y120 z120 st120 hQ120 hG120 hs120 hc120
  rw [l120, y120, z120] at X120_
  obtain ⟨X120, hS120, hZ120, hown120⟩ := rebS (s := s) (vm0 := T117.vm) hS hk X120_ hs120 hG120 hZ hown
  replace hS := hS120
  replace hZ := hZ120
  replace hown := hown120
  replace hCH := hCH.trans hc120
  replace hk : T120.heap.size ≤ T120.heap.size := Nat.le_refl _
  obtain ⟨t3_, rfl, Nq120, K_t3_, S_t3_⟩ := hQ120
  have N120 := Fr.app N117 Nq120
  have k121_ : ∀ t, Steps p.tables e below (T120.setTop (mkF m 268 #[.val (.long p0), .second, ov p1, ov p2, ov p3, ov p4, oi l0_, oi l1_, oi l2_, oi l3_, oa b18, oa b33, oa b48, oa b63, oi l0_, oi s1_, oi (s1_ + l1_), oi s2_, oi (s2_ + l2_), oi s3_, oi (s3_ + l3_), oa e0_, oa e1_, oa e2_, oa e3_, oa t0_, oa t1_, oa t2_, .unset, .unset] [(.ref t3_)])) t → G_ t := fun t q => k119_ t (st120.trans q)
  replace Zn := Nat.le_trans Zn K_t3_.1
  replace X00 := X00.keep K_t3_ all0
  replace V_b18 := V_b18.keep K_t3_ nin0
  replace V_b33 := V_b33.keep K_t3_ nin0
  replace V_b48 := V_b48.keep K_t3_ nin0
  replace V_b63 := V_b63.keep K_t3_ nin0
  replace V_b96 := V_b96.keep K_t3_ nin0
  replace VE0 := VE0.keep K_t3_ nin0
  replace VE1 := VE1.keep K_t3_ nin0
  replace VE2 := VE2.keep K_t3_ nin0
  replace VE3 := VE3.keep K_t3_ nin0
  replace S_t0_ := own_Sb_keep S_t0_ K_t3_ (fun x hx => nomatch hx)
  replace S_t1_ := own_Sb_keep S_t1_ K_t3_ (fun x hx => nomatch hx)
  replace S_t2_ := own_Sb_keep S_t2_ K_t3_ (fun x hx => nomatch hx)
  replace S_t0_ := own_Sb_up S_t0_ K_t3_.1
  replace S_t1_ := own_Sb_up S_t1_ K_t3_.1
  replace S_t2_ := own_Sb_up S_t2_ K_t3_.1
  have k122_ : ∀ t, Steps p.tables e below (T120.setTop (mkF m 270 #[.val (.long p0), .second, ov p1, ov p2, ov p3, ov p4, oi l0_, oi l1_, oi l2_, oi l3_, oa b18, oa b33, oa b48, oa b63, oi l0_, oi s1_, oi (s1_ + l1_), oi s2_, oi (s2_ + l2_), oi s3_, oi (s3_ + l3_), oa e0_, oa e1_, oa e2_, oa e3_, oa t0_, oa t1_, oa t2_, oa t3_, .unset] [])) t → G_ t := by
    intro t q
    refine k121_ _ ?_
    show Steps p.tables e below (T120.setTop (mkF m 268 #[.val (.long p0), .second, ov p1, ov p2, ov p3, ov p4, oi l0_, oi l1_, oi l2_, oi l3_, oa b18, oa b33, oa b48, oa b63, oi l0_, oi s1_, oi (s1_ + l1_), oi s2_, oi (s2_ + l2_), oi s3_, oi (s3_ + l3_), oa e0_, oa e1_, oa e2_, oa e3_, oa t0_, oa t1_, oa t2_, .unset, .unset] [(.ref t3_)])) _
    refine XS.astore X120.here hx rfl (hb hby at_268) rfl rfl (l' := #[.val (.long p0), .second, ov p1, ov p2, ov p3, ov p4, oi l0_, oi l1_, oi l2_, oi l3_, oa b18, oa b33, oa b48, oa b63, oi l0_, oi s1_, oi (s1_ + l1_), oi s2_, oi (s2_ + l2_), oi s3_, oi (s3_ + l3_), oa e0_, oa e1_, oa e2_, oa e3_, oa t0_, oa t1_, oa t2_, oa t3_, .unset]) rfl ?_
    show Steps p.tables e below (T120.setTop (mkF m 270 #[.val (.long p0), .second, ov p1, ov p2, ov p3, ov p4, oi l0_, oi l1_, oi l2_, oi l3_, oa b18, oa b33, oa b48, oa b63, oi l0_, oi s1_, oi (s1_ + l1_), oi s2_, oi (s2_ + l2_), oi s3_, oi (s3_ + l3_), oa e0_, oa e1_, oa e2_, oa e3_, oa t0_, oa t1_, oa t2_, oa t3_, .unset] [])) _
    exact q
  obtain ⟨T123, h123, X123, e123, E123, A123, D123, -, st123⟩ := newO X120 hx hZ hown (hw _ (List.mem_of_getElem? (i := 52) rfl)) (hw _ (List.mem_of_getElem? (i := 53) rfl)) (hw _ (List.mem_of_getElem? (i := 54) rfl)) rfl (g := (mkF m 270 #[.val (.long p0), .second, ov p1, ov p2, ov p3, ov p4, oi l0_, oi l1_, oi l2_, oi l3_, oa b18, oa b33, oa b48, oa b63, oi l0_, oi s1_, oi (s1_ + l1_), oi s2_, oi (s2_ + l2_), oi s3_, oi (s3_ + l3_), oa e0_, oa e1_, oa e2_, oa e3_, oa t0_, oa t1_, oa t2_, oa t3_, .unset] [])) rfl (hb hby at_270) (by decide) (by decide)
  obtain ⟨b123, g123⟩ : ∃ z, z = T120.heap.size := ⟨_, rfl⟩
  rw [← g123] at A123 D123 st123
  have k124_ : ∀ t, Steps p.tables e below (T123.setTop (mkF m 273 #[.val (.long p0), .second, ov p1, ov p2, ov p3, ov p4, oi l0_, oi l1_, oi l2_, oi l3_, oa b18, oa b33, oa b48, oa b63, oi l0_, oi s1_, oi (s1_ + l1_), oi s2_, oi (s2_ + l2_), oi s3_, oi (s3_ + l3_), oa e0_, oa e1_, oa e2_, oa e3_, oa t0_, oa t1_, oa t2_, oa t3_, .unset] [(.ref b123)])) t → G_ t := fun t q => k122_ t (st123 t q)
  have gup : n0 ≤ b123 := Nat.le_trans Zn (Nat.le_of_eq g123.symm)
  have KN := (Keep.refl _ []).ext E123
  have le0 : e0_ < b123 := Nat.lt_of_lt_of_le VE0.lt (Nat.le_of_eq g123.symm)
  have ne0 := Nat.ne_of_lt le0
  have le1 : e1_ < b123 := Nat.lt_of_lt_of_le VE1.lt (Nat.le_of_eq g123.symm)
  have ne1 := Nat.ne_of_lt le1
  have le2 : e2_ < b123 := Nat.lt_of_lt_of_le VE2.lt (Nat.le_of_eq g123.symm)
  have ne2 := Nat.ne_of_lt le2
  have le3 : e3_ < b123 := Nat.lt_of_lt_of_le VE3.lt (Nat.le_of_eq g123.symm)
  have ne3 := Nat.ne_of_lt le3
  replace S_t0_ := own_Sb_up S_t0_ (Nat.le_of_eq g123.symm)
  replace S_t1_ := own_Sb_up S_t1_ (Nat.le_of_eq g123.symm)
  replace S_t2_ := own_Sb_up S_t2_ (Nat.le_of_eq g123.symm)
  replace S_t3_ := own_Sb_up S_t3_ (Nat.le_of_eq g123.symm)
  replace VE0 := VE0.keep KN nin0
  replace VE1 := VE1.keep KN nin0
  replace VE2 := VE2.keep KN nin0
  replace VE3 := VE3.keep KN nin0
  replace S_t0_ := own_Sb_keep S_t0_ KN (fun x hx => nomatch hx)
  replace S_t1_ := own_Sb_keep S_t1_ KN (fun x hx => nomatch hx)
  replace S_t2_ := own_Sb_keep S_t2_ KN (fun x hx => nomatch hx)
  replace S_t3_ := own_Sb_keep S_t3_ KN (fun x hx => nomatch hx)
  replace X00 := X00.ext E123
  replace Zn := Nat.le_trans Zn E123.1
  replace hk := Nat.le_trans hk E123.1
  replace hCH := hCH.trans (CHr.ext E123 hCH.1)
  have F_shared : Fld Z h123 b123 "com/example/haku/haku/index/UnitPaths" "shared" "[I" .null := D123 (Or.inr (hw _ (List.mem_of_getElem? (i := 61) rfl))) (ty := (.array .int)) (by decide)
  have F_rests : Fld Z h123 b123 "com/example/haku/haku/index/UnitPaths" "rests" "[Ljava/lang/String;" .null := D123 (Or.inr (hw _ (List.mem_of_getElem? (i := 65) rfl))) (ty := (.array (.object "java/lang/String"))) (by decide)
  have F_holders : Fld Z h123 b123 "com/example/haku/haku/index/UnitPaths" "holders" "[I" .null := D123 (Or.inr (hw _ (List.mem_of_getElem? (i := 67) rfl))) (ty := (.array .int)) (by decide)
  have F_size : Fld Z h123 b123 "com/example/haku/haku/index/UnitPaths" "size" "I" (.int (0 : Int32)) := D123 (Or.inl (hw _ (List.mem_of_getElem? (i := 74) rfl))) (ty := .int) (by decide)
  have SBu : Safe Z own_EL T120.vm h123 b123 := Safe.exa hZ.alike A123 (by decide) (by decide)
  have lup := A123.lt
  have k125_ : ∀ t, Steps p.tables e below (T123.setTop (mkF m 275 #[.val (.long p0), .second, ov p1, ov p2, ov p3, ov p4, oi l0_, oi l1_, oi l2_, oi l3_, oa b18, oa b33, oa b48, oa b63, oi l0_, oi s1_, oi (s1_ + l1_), oi s2_, oi (s2_ + l2_), oi s3_, oi (s3_ + l3_), oa e0_, oa e1_, oa e2_, oa e3_, oa t0_, oa t1_, oa t2_, oa t3_, .unset] [(.int (4 : Int32)), (.ref b123), (.ref b123)])) t → G_ t := by
    intro t q
    refine k124_ _ ?_
    show Steps p.tables e below (T123.setTop (mkF m 273 #[.val (.long p0), .second, ov p1, ov p2, ov p3, ov p4, oi l0_, oi l1_, oi l2_, oi l3_, oa b18, oa b33, oa b48, oa b63, oi l0_, oi s1_, oi (s1_ + l1_), oi s2_, oi (s2_ + l2_), oi s3_, oi (s3_ + l3_), oa e0_, oa e1_, oa e2_, oa e3_, oa t0_, oa t1_, oa t2_, oa t3_, .unset] [(.ref b123)])) _
    refine XS.dup X123.here hx rfl (hb hby at_273) rfl rfl ?_
    refine XS.iconst X123.here hx rfl (hb hby at_274) ?_
    show Steps p.tables e below (T123.setTop (mkF m 275 #[.val (.long p0), .second, ov p1, ov p2, ov p3, ov p4, oi l0_, oi l1_, oi l2_, oi l3_, oa b18, oa b33, oa b48, oa b63, oi l0_, oi s1_, oi (s1_ + l1_), oi s2_, oi (s2_ + l2_), oi s3_, oi (s3_ + l3_), oa e0_, oa e1_, oa e2_, oa e3_, oa t0_, oa t1_, oa t2_, oa t3_, .unset] [(.int (4 : Int32)), (.ref b123), (.ref b123)])) _
    exact q
  obtain ⟨_, _, ⟨T126, L126, kk126, n126⟩, -, X126, ⟨Lc126, hQ126, l126, y126, z126⟩, st126⟩ := X123.specialBack hx (y := (⟨"com/example/haku/haku/index/UnitPaths", "<init>", "(I)V"⟩ : MethodName)) rfl hown (mvT hZ (hw _ (List.mem_of_getElem? (i := 55) rfl))) (mvT hZ (hw _ (List.mem_of_getElem? (i := 56) rfl))) (mvT hZ (hw _ (List.mem_of_getElem? (i := 57) rfl))) (by decide) (backOf (W := 1) (rmU l Z a0 hw [] b123 b123 h123 n0 Zn A123 F_shared F_rests F_holders F_size (Nat.le_refl _) (Nat.le_of_lt lup) gup) hZ (hw _ (List.mem_of_getElem? (i := 57) rfl)) (hw _ (List.mem_of_getElem? (i := 54) rfl)) (by decide) (by decide)) (g := (mkF m 275 #[.val (.long p0), .second, ov p1, ov p2, ov p3, ov p4, oi l0_, oi l1_, oi l2_, oi l3_, oa b18, oa b33, oa b48, oa b63, oi l0_, oi s1_, oi (s1_ + l1_), oi s2_, oi (s2_ + l2_), oi s3_, oi (s3_ + l3_), oa e0_, oa e1_, oa e2_, oa e3_, oa t0_, oa t1_, oa t2_, oa t3_, .unset] [(.int (4 : Int32)), (.ref b123), (.ref b123)])) rfl (by rw [hml]; rfl) (Steps.refl _) (a := b123) (argsL := [(.int (4 : Int32))]) (rest := [(.ref b123)]) (lenOf pd_27776 rfl) rfl (by show 2 * 0 + _ ≤ _; exact Nat.le_of_eq rfl) (hb hby at_275) (fun _ _ => ⟨rfl, e123, (by decide : 0 + 0 + 0 + 0 + 0 + 1 + 0 + 0 + 1 + 0 + 0 + 1 + 0 + 0 + 1 + 0 + 0 + 1 + 1 + 1 + 1 + 1 + 4 + 4 + 4 + 4 + 1 + 3 ≤ _), (by decide : 0 + 0 + 0 + 0 + 0 + 2 + 0 + 0 + 2 + 0 + 0 + 2 + 0 + 0 + 2 + 0 + 0 + 8 + 8 + 8 + 8 + 8 + 10 + 10 + 10 + 10 + 4 + 12 ≤ _)⟩)
  dsimp only [Pt.U, Pt.locs, Pt.cells, Pt.slots] at X126 l126 y126 z126 st126 hQ126
  rw [l126, y126, z126] at X126
  obtain ⟨rfl, Nq126, KU, sb, rb, hq, -, hU0⟩ := hQ126
  have N126 := Fr.app N120 Nq126
  have k127_ : ∀ t, Steps p.tables e below (T126.setTop (mkF m 278 #[.val (.long p0), .second, ov p1, ov p2, ov p3, ov p4, oi l0_, oi l1_, oi l2_, oi l3_, oa b18, oa b33, oa b48, oa b63, oi l0_, oi s1_, oi (s1_ + l1_), oi s2_, oi (s2_ + l2_), oi s3_, oi (s3_ + l3_), oa e0_, oa e1_, oa e2_, oa e3_, oa t0_, oa t1_, oa t2_, oa t3_, .unset] [(.ref b123)])) t → G_ t := fun t q => k125_ t (st126.trans q)
  replace hCH := hCH.trans (CHr.keep KU (sfS SBu sf0) hCH.1)
  replace Zn := Nat.le_trans Zn KU.1
  replace hk := Nat.le_trans hk KU.1
  replace X00 := X00.keep KU (allS gup all0)
  have hkh : b123 ≤ T126.heap.size := Nat.le_trans (Nat.le_of_lt lup) KU.1
  replace VE0 := VE0.keep KU (ninS ne0 nin0)
  replace VE1 := VE1.keep KU (ninS ne1 nin0)
  replace VE2 := VE2.keep KU (ninS ne2 nin0)
  replace VE3 := VE3.keep KU (ninS ne3 nin0)
  replace S_t0_ := own_Sb_keep S_t0_ KU (own_al1 (Nat.le_refl _))
  replace S_t1_ := own_Sb_keep S_t1_ KU (own_al1 (Nat.le_refl _))
  replace S_t2_ := own_Sb_keep S_t2_ KU (own_al1 (Nat.le_refl _))
  replace S_t3_ := own_Sb_keep S_t3_ KU (own_al1 (Nat.le_refl _))
  have dst : ∀ {n : Nat} {h : Heap} {Sh Ho Ln : Nat → Nat} {E Rr : Nat → List Int32} {A : Nat → Addr}, own_U Z n0 b123 h b123 sb rb hq n Sh Ho Ln E Rr A → b123 ≤ sb ∧ b123 ≤ rb ∧ b123 ≤ hq := fun H => by obtain ⟨_, _, _, -, -, -, -, -, -, -, -, -, -, -, -, ⟨-, c2, c3, c4⟩, -⟩ := H; exact ⟨c2, c3, c4⟩
  obtain ⟨cs2, cs3, cs4⟩ := dst hU0
  have k128_ : ∀ t, Steps p.tables e below (T126.setTop (mkF m 285 #[.val (.long p0), .second, ov p1, ov p2, ov p3, ov p4, oi l0_, oi l1_, oi l2_, oi l3_, oa b18, oa b33, oa b48, oa b63, oi l0_, oi s1_, oi (s1_ + l1_), oi s2_, oi (s2_ + l2_), oi s3_, oi (s3_ + l3_), oa e0_, oa e1_, oa e2_, oa e3_, oa t0_, oa t1_, oa t2_, oa t3_, oa b123] [(.ref t0_), (.int (0 : Int32)), (.ref b123)])) t → G_ t := by
    intro t q
    refine k127_ _ ?_
    show Steps p.tables e below (T126.setTop (mkF m 278 #[.val (.long p0), .second, ov p1, ov p2, ov p3, ov p4, oi l0_, oi l1_, oi l2_, oi l3_, oa b18, oa b33, oa b48, oa b63, oi l0_, oi s1_, oi (s1_ + l1_), oi s2_, oi (s2_ + l2_), oi s3_, oi (s3_ + l3_), oa e0_, oa e1_, oa e2_, oa e3_, oa t0_, oa t1_, oa t2_, oa t3_, .unset] [(.ref b123)])) _
    refine XS.astore X126.here hx rfl (hb hby at_278) rfl rfl (l' := #[.val (.long p0), .second, ov p1, ov p2, ov p3, ov p4, oi l0_, oi l1_, oi l2_, oi l3_, oa b18, oa b33, oa b48, oa b63, oi l0_, oi s1_, oi (s1_ + l1_), oi s2_, oi (s2_ + l2_), oi s3_, oi (s3_ + l3_), oa e0_, oa e1_, oa e2_, oa e3_, oa t0_, oa t1_, oa t2_, oa t3_, oa b123]) rfl ?_
    refine XS.aload X126.here hx rfl (hb hby at_280) rfl rfl ?_
    refine XS.iconst X126.here hx rfl (hb hby at_282) ?_
    refine XS.aload X126.here hx rfl (hb hby at_283) rfl rfl ?_
    show Steps p.tables e below (T126.setTop (mkF m 285 #[.val (.long p0), .second, ov p1, ov p2, ov p3, ov p4, oi l0_, oi l1_, oi l2_, oi l3_, oa b18, oa b33, oa b48, oa b63, oi l0_, oi s1_, oi (s1_ + l1_), oi s2_, oi (s2_ + l2_), oi s3_, oi (s3_ + l3_), oa e0_, oa e1_, oa e2_, oa e3_, oa t0_, oa t1_, oa t2_, oa t3_, oa b123] [(.ref t0_), (.int (0 : Int32)), (.ref b123)])) _
    exact q
  have hUE0 := (show Exa Z T126.heap b123 "com/example/haku/haku/index/UnitPaths" from by obtain ⟨_, _, _, z, -⟩ := hU0; exact z)
  obtain ⟨cq129, kq129, q129a, q129b, q129c⟩ := isOf hZ rfl hUE0
  obtain ⟨_, _, ⟨T129, L129, kk129, n129⟩, -, X129, ⟨Lc129, hQ129, l129, y129, z129⟩, st129⟩ := X126.virtualBack hx (y := (⟨"com/example/haku/haku/index/UnitPaths", "add", "(ILjava/lang/String;)V"⟩ : MethodName)) (z := (⟨"com/example/haku/haku/index/UnitPaths", "add", "(ILjava/lang/String;)V"⟩ : MethodName)) hown (mvT hZ (hw _ (List.mem_of_getElem? (i := 68) rfl))) (mvT hZ (hw _ (List.mem_of_getElem? (i := 69) rfl))) (notFace_of_selects (args := #[]) (mvT hZ (hw _ (List.mem_of_getElem? (i := 71) rfl)))) (mvT hZ (hw _ (List.mem_of_getElem? (i := 71) rfl))) (mvT hZ (hw _ (List.mem_of_getElem? (i := 70) rfl))) (by decide) (backOf (W := 0) (rmD l Z a0 hw [] b123 sb rb hq b123 0 (fun _ => 0) (fun _ => 0) (fun _ => 0) (fun _ => []) (fun _ => []) (fun _ => 0) 0 t0_ E0_ (([own_chl p0 (0 : Int32), own_chl p0 (1 : Int32)] : List Int32).take l0_) l0_ T126.heap n0 Zn hU0 (by decide) (by omega) (by omega) ⟨len0, ok0⟩ (by rw [own_tkl rfl h_l0_]; omega) (own_tkOK (own_p2 p0 _ _) _) (fun j h1 h2 => hi0 j h1 (by omega)) (fun z => absurd z (by decide)) S_t0_) hZ (hw _ (List.mem_of_getElem? (i := 72) rfl)) (hw _ (List.mem_of_getElem? (i := 54) rfl)) (by decide) (by decide)) q129a q129c (g := (mkF m 285 #[.val (.long p0), .second, ov p1, ov p2, ov p3, ov p4, oi l0_, oi l1_, oi l2_, oi l3_, oa b18, oa b33, oa b48, oa b63, oi l0_, oi s1_, oi (s1_ + l1_), oi s2_, oi (s2_ + l2_), oi s3_, oi (s3_ + l3_), oa e0_, oa e1_, oa e2_, oa e3_, oa t0_, oa t1_, oa t2_, oa t3_, oa b123] [(.ref t0_), (.int (0 : Int32)), (.ref b123)])) rfl (by rw [hml]; rfl) (Steps.refl _) (argsL := [(.int (0 : Int32)), (.ref t0_)]) (rest := []) (lenOf pd_96973 rfl) rfl (by show 2 * 0 + _ ≤ _; exact Nat.le_of_eq rfl) (hb hby at_285) (fun _ _ => ⟨rfl, rfl, (by decide : 0 + 0 + 0 + 0 + 0 + 1 + 0 + 0 + 1 + 0 + 0 + 1 + 0 + 0 + 1 + 0 + 0 + 1 + 1 + 1 + 1 + 1 + 4 + 4 + 4 + 4 + 1 + 3 + 0 ≤ _), (by decide : 0 + 0 + 0 + 0 + 0 + 2 + 0 + 0 + 2 + 0 + 0 + 2 + 0 + 0 + 2 + 0 + 0 + 8 + 8 + 8 + 8 + 8 + 10 + 10 + 10 + 10 + 4 + 12 + 0 ≤ _)⟩)
  dsimp only [Pt.U, Pt.locs, Pt.cells, Pt.slots] at X129 l129 y129 z129 st129 hQ129
  rw [l129, y129, z129] at X129
  obtain ⟨rfl, Nq129, KD0, ho0, hU1⟩ := hQ129
  have N129 := Fr.app N126 Nq129
  have k130_ : ∀ t, Steps p.tables e below (T129.setTop (mkF m 288 #[.val (.long p0), .second, ov p1, ov p2, ov p3, ov p4, oi l0_, oi l1_, oi l2_, oi l3_, oa b18, oa b33, oa b48, oa b63, oi l0_, oi s1_, oi (s1_ + l1_), oi s2_, oi (s2_ + l2_), oi s3_, oi (s3_ + l3_), oa e0_, oa e1_, oa e2_, oa e3_, oa t0_, oa t1_, oa t2_, oa t3_, oa b123] [])) t → G_ t := fun t q => k128_ t (st129.trans q)
  have sfD0 := own_sf4 (EL := own_EL) (vm := T120.vm) hZ.alike hU0
  replace hCH := hCH.trans (CHr.keep KD0 sfD0 hCH.1)
  replace Zn := Nat.le_trans Zn KD0.1
  replace hk := Nat.le_trans hk KD0.1
  replace hkh := Nat.le_trans hkh KD0.1
  replace X00 := X00.keep KD0 (own_al4 gup (Nat.le_trans gup cs2) (Nat.le_trans gup cs3) (Nat.le_trans gup cs4))
  replace VE0 := VE0.keep KD0 (fun z => absurd (own_al4 (Nat.le_refl _) cs2 cs3 cs4 _ z) (Nat.not_le.mpr le0))
  replace VE1 := VE1.keep KD0 (fun z => absurd (own_al4 (Nat.le_refl _) cs2 cs3 cs4 _ z) (Nat.not_le.mpr le1))
  replace VE2 := VE2.keep KD0 (fun z => absurd (own_al4 (Nat.le_refl _) cs2 cs3 cs4 _ z) (Nat.not_le.mpr le2))
  replace VE3 := VE3.keep KD0 (fun z => absurd (own_al4 (Nat.le_refl _) cs2 cs3 cs4 _ z) (Nat.not_le.mpr le3))
  replace S_t0_ := own_Sb_keep S_t0_ KD0 (own_al4 (Nat.le_refl _) cs2 cs3 cs4)
  replace S_t1_ := own_Sb_keep S_t1_ KD0 (own_al4 (Nat.le_refl _) cs2 cs3 cs4)
  replace S_t2_ := own_Sb_keep S_t2_ KD0 (own_al4 (Nat.le_refl _) cs2 cs3 cs4)
  replace S_t3_ := own_Sb_keep S_t3_ KD0 (own_al4 (Nat.le_refl _) cs2 cs3 cs4)
  have k131_ : ∀ t, Steps p.tables e below (T129.setTop (mkF m 294 #[.val (.long p0), .second, ov p1, ov p2, ov p3, ov p4, oi l0_, oi l1_, oi l2_, oi l3_, oa b18, oa b33, oa b48, oa b63, oi l0_, oi s1_, oi (s1_ + l1_), oi s2_, oi (s2_ + l2_), oi s3_, oi (s3_ + l3_), oa e0_, oa e1_, oa e2_, oa e3_, oa t0_, oa t1_, oa t2_, oa t3_, oa b123] [(.ref t1_), (.int (Int32.ofNat s1_)), (.ref b123)])) t → G_ t := by
    intro t q
    refine k130_ _ ?_
    show Steps p.tables e below (T129.setTop (mkF m 288 #[.val (.long p0), .second, ov p1, ov p2, ov p3, ov p4, oi l0_, oi l1_, oi l2_, oi l3_, oa b18, oa b33, oa b48, oa b63, oi l0_, oi s1_, oi (s1_ + l1_), oi s2_, oi (s2_ + l2_), oi s3_, oi (s3_ + l3_), oa e0_, oa e1_, oa e2_, oa e3_, oa t0_, oa t1_, oa t2_, oa t3_, oa b123] [])) _
    refine XS.aload X129.here hx rfl (hb hby at_288) rfl rfl ?_
    refine XS.iload X129.here hx rfl (hb hby at_290) rfl ?_
    refine XS.aload X129.here hx rfl (hb hby at_292) rfl rfl ?_
    show Steps p.tables e below (T129.setTop (mkF m 294 #[.val (.long p0), .second, ov p1, ov p2, ov p3, ov p4, oi l0_, oi l1_, oi l2_, oi l3_, oa b18, oa b33, oa b48, oa b63, oi l0_, oi s1_, oi (s1_ + l1_), oi s2_, oi (s2_ + l2_), oi s3_, oi (s3_ + l3_), oa e0_, oa e1_, oa e2_, oa e3_, oa t0_, oa t1_, oa t2_, oa t3_, oa b123] [(.ref t1_), (.int (Int32.ofNat s1_)), (.ref b123)])) _
    exact q
  have hUE1 := (show Exa Z T129.heap b123 "com/example/haku/haku/index/UnitPaths" from by obtain ⟨_, _, _, z, -⟩ := hU1; exact z)
  obtain ⟨cq132, kq132, q132a, q132b, q132c⟩ := isOf hZ rfl hUE1
  obtain ⟨_, _, ⟨T132, L132, kk132, n132⟩, -, X132, ⟨Lc132, hQ132, l132, y132, z132⟩, st132⟩ := X129.virtualBack hx (y := (⟨"com/example/haku/haku/index/UnitPaths", "add", "(ILjava/lang/String;)V"⟩ : MethodName)) (z := (⟨"com/example/haku/haku/index/UnitPaths", "add", "(ILjava/lang/String;)V"⟩ : MethodName)) hown (mvT hZ (hw _ (List.mem_of_getElem? (i := 68) rfl))) (mvT hZ (hw _ (List.mem_of_getElem? (i := 69) rfl))) (notFace_of_selects (args := #[]) (mvT hZ (hw _ (List.mem_of_getElem? (i := 71) rfl)))) (mvT hZ (hw _ (List.mem_of_getElem? (i := 71) rfl))) (mvT hZ (hw _ (List.mem_of_getElem? (i := 70) rfl))) (by decide) (backOf (W := 0) (rmD l Z a0 hw [] b123 sb rb hq b123 1 (own_uf (fun _ => 0) 0 0) (own_uf (fun _ => 0) 0 ho0) (own_uf (fun _ => 0) 0 l0_) (own_uf (fun _ => []) 0 E0_) (own_uf (fun _ => []) 0 (([own_chl p0 (0 : Int32), own_chl p0 (1 : Int32)] : List Int32).take l0_)) (own_uf (fun _ => 0) 0 t0_) s1_ t1_ E1_ (([own_chl p0 (2 : Int32), own_chl p0 (3 : Int32)] : List Int32).take l1_) (s1_ + l1_) T129.heap n0 Zn hU1 (by decide) (by omega) (by omega) ⟨len1, ok1⟩ (by rw [own_tkl rfl h_l1_]; omega) (own_tkOK (own_p2 p0 _ _) _) (fun j h1 h2 => hi1 j h1 (by omega)) (fun _ => ⟨by decide, (show s1_ ≤ l0_ by omega), fun j hj => lo1 j hj⟩) S_t1_) hZ (hw _ (List.mem_of_getElem? (i := 72) rfl)) (hw _ (List.mem_of_getElem? (i := 54) rfl)) (by decide) (by decide)) q132a q132c (g := (mkF m 294 #[.val (.long p0), .second, ov p1, ov p2, ov p3, ov p4, oi l0_, oi l1_, oi l2_, oi l3_, oa b18, oa b33, oa b48, oa b63, oi l0_, oi s1_, oi (s1_ + l1_), oi s2_, oi (s2_ + l2_), oi s3_, oi (s3_ + l3_), oa e0_, oa e1_, oa e2_, oa e3_, oa t0_, oa t1_, oa t2_, oa t3_, oa b123] [(.ref t1_), (.int (Int32.ofNat s1_)), (.ref b123)])) rfl (by rw [hml]; rfl) (Steps.refl _) (argsL := [(.int (Int32.ofNat s1_)), (.ref t1_)]) (rest := []) (lenOf pd_96973 rfl) rfl (by show 2 * 0 + _ ≤ _; exact Nat.le_of_eq rfl) (hb hby at_294) (fun _ _ => ⟨rfl, rfl, (by decide : 0 + 0 + 0 + 0 + 0 + 1 + 0 + 0 + 1 + 0 + 0 + 1 + 0 + 0 + 1 + 0 + 0 + 1 + 1 + 1 + 1 + 1 + 4 + 4 + 4 + 4 + 1 + 3 + 0 + 0 ≤ _), (by decide : 0 + 0 + 0 + 0 + 0 + 2 + 0 + 0 + 2 + 0 + 0 + 2 + 0 + 0 + 2 + 0 + 0 + 8 + 8 + 8 + 8 + 8 + 10 + 10 + 10 + 10 + 4 + 12 + 0 + 0 ≤ _)⟩)
  dsimp only [Pt.U, Pt.locs, Pt.cells, Pt.slots] at X132 l132 y132 z132 st132 hQ132
  rw [l132, y132, z132] at X132
  obtain ⟨rfl, Nq132, KD1, ho1, hU2⟩ := hQ132
  have N132 := Fr.app N129 Nq132
  have k133_ : ∀ t, Steps p.tables e below (T132.setTop (mkF m 297 #[.val (.long p0), .second, ov p1, ov p2, ov p3, ov p4, oi l0_, oi l1_, oi l2_, oi l3_, oa b18, oa b33, oa b48, oa b63, oi l0_, oi s1_, oi (s1_ + l1_), oi s2_, oi (s2_ + l2_), oi s3_, oi (s3_ + l3_), oa e0_, oa e1_, oa e2_, oa e3_, oa t0_, oa t1_, oa t2_, oa t3_, oa b123] [])) t → G_ t := fun t q => k131_ t (st132.trans q)
  have sfD1 := own_sf4 (EL := own_EL) (vm := T120.vm) hZ.alike hU1
  replace hCH := hCH.trans (CHr.keep KD1 sfD1 hCH.1)
  replace Zn := Nat.le_trans Zn KD1.1
  replace hk := Nat.le_trans hk KD1.1
  replace hkh := Nat.le_trans hkh KD1.1
  replace X00 := X00.keep KD1 (own_al4 gup (Nat.le_trans gup cs2) (Nat.le_trans gup cs3) (Nat.le_trans gup cs4))
  replace VE0 := VE0.keep KD1 (fun z => absurd (own_al4 (Nat.le_refl _) cs2 cs3 cs4 _ z) (Nat.not_le.mpr le0))
  replace VE1 := VE1.keep KD1 (fun z => absurd (own_al4 (Nat.le_refl _) cs2 cs3 cs4 _ z) (Nat.not_le.mpr le1))
  replace VE2 := VE2.keep KD1 (fun z => absurd (own_al4 (Nat.le_refl _) cs2 cs3 cs4 _ z) (Nat.not_le.mpr le2))
  replace VE3 := VE3.keep KD1 (fun z => absurd (own_al4 (Nat.le_refl _) cs2 cs3 cs4 _ z) (Nat.not_le.mpr le3))
  replace S_t0_ := own_Sb_keep S_t0_ KD1 (own_al4 (Nat.le_refl _) cs2 cs3 cs4)
  replace S_t1_ := own_Sb_keep S_t1_ KD1 (own_al4 (Nat.le_refl _) cs2 cs3 cs4)
  replace S_t2_ := own_Sb_keep S_t2_ KD1 (own_al4 (Nat.le_refl _) cs2 cs3 cs4)
  replace S_t3_ := own_Sb_keep S_t3_ KD1 (own_al4 (Nat.le_refl _) cs2 cs3 cs4)
  have k134_ : ∀ t, Steps p.tables e below (T132.setTop (mkF m 303 #[.val (.long p0), .second, ov p1, ov p2, ov p3, ov p4, oi l0_, oi l1_, oi l2_, oi l3_, oa b18, oa b33, oa b48, oa b63, oi l0_, oi s1_, oi (s1_ + l1_), oi s2_, oi (s2_ + l2_), oi s3_, oi (s3_ + l3_), oa e0_, oa e1_, oa e2_, oa e3_, oa t0_, oa t1_, oa t2_, oa t3_, oa b123] [(.ref t2_), (.int (Int32.ofNat s2_)), (.ref b123)])) t → G_ t := by
    intro t q
    refine k133_ _ ?_
    show Steps p.tables e below (T132.setTop (mkF m 297 #[.val (.long p0), .second, ov p1, ov p2, ov p3, ov p4, oi l0_, oi l1_, oi l2_, oi l3_, oa b18, oa b33, oa b48, oa b63, oi l0_, oi s1_, oi (s1_ + l1_), oi s2_, oi (s2_ + l2_), oi s3_, oi (s3_ + l3_), oa e0_, oa e1_, oa e2_, oa e3_, oa t0_, oa t1_, oa t2_, oa t3_, oa b123] [])) _
    refine XS.aload X132.here hx rfl (hb hby at_297) rfl rfl ?_
    refine XS.iload X132.here hx rfl (hb hby at_299) rfl ?_
    refine XS.aload X132.here hx rfl (hb hby at_301) rfl rfl ?_
    show Steps p.tables e below (T132.setTop (mkF m 303 #[.val (.long p0), .second, ov p1, ov p2, ov p3, ov p4, oi l0_, oi l1_, oi l2_, oi l3_, oa b18, oa b33, oa b48, oa b63, oi l0_, oi s1_, oi (s1_ + l1_), oi s2_, oi (s2_ + l2_), oi s3_, oi (s3_ + l3_), oa e0_, oa e1_, oa e2_, oa e3_, oa t0_, oa t1_, oa t2_, oa t3_, oa b123] [(.ref t2_), (.int (Int32.ofNat s2_)), (.ref b123)])) _
    exact q
  have hUE2 := (show Exa Z T132.heap b123 "com/example/haku/haku/index/UnitPaths" from by obtain ⟨_, _, _, z, -⟩ := hU2; exact z)
  obtain ⟨cq135, kq135, q135a, q135b, q135c⟩ := isOf hZ rfl hUE2
  obtain ⟨_, _, ⟨T135, L135, kk135, n135⟩, -, X135, ⟨Lc135, hQ135, l135, y135, z135⟩, st135⟩ := X132.virtualBack hx (y := (⟨"com/example/haku/haku/index/UnitPaths", "add", "(ILjava/lang/String;)V"⟩ : MethodName)) (z := (⟨"com/example/haku/haku/index/UnitPaths", "add", "(ILjava/lang/String;)V"⟩ : MethodName)) hown (mvT hZ (hw _ (List.mem_of_getElem? (i := 68) rfl))) (mvT hZ (hw _ (List.mem_of_getElem? (i := 69) rfl))) (notFace_of_selects (args := #[]) (mvT hZ (hw _ (List.mem_of_getElem? (i := 71) rfl)))) (mvT hZ (hw _ (List.mem_of_getElem? (i := 71) rfl))) (mvT hZ (hw _ (List.mem_of_getElem? (i := 70) rfl))) (by decide) (backOf (W := 0) (rmD l Z a0 hw [] b123 sb rb hq b123 2 (own_uf (own_uf (fun _ => 0) 0 0) 1 s1_) (own_uf (own_uf (fun _ => 0) 0 ho0) 1 ho1) (own_uf (own_uf (fun _ => 0) 0 l0_) 1 (s1_ + l1_)) (own_uf (own_uf (fun _ => []) 0 E0_) 1 E1_) (own_uf (own_uf (fun _ => []) 0 (([own_chl p0 (0 : Int32), own_chl p0 (1 : Int32)] : List Int32).take l0_)) 1 (([own_chl p0 (2 : Int32), own_chl p0 (3 : Int32)] : List Int32).take l1_)) (own_uf (own_uf (fun _ => 0) 0 t0_) 1 t1_) s2_ t2_ E2_ (([own_chl p0 (4 : Int32), own_chl p0 (5 : Int32)] : List Int32).take l2_) (s2_ + l2_) T132.heap n0 Zn hU2 (by decide) (by omega) (by omega) ⟨len2, ok2⟩ (by rw [own_tkl rfl h_l2_]; omega) (own_tkOK (own_p2 p0 _ _) _) (fun j h1 h2 => hi2 j h1 (by omega)) (fun _ => ⟨by decide, (show s2_ ≤ (s1_ + l1_) by omega), fun j hj => lo2 j hj⟩) S_t2_) hZ (hw _ (List.mem_of_getElem? (i := 72) rfl)) (hw _ (List.mem_of_getElem? (i := 54) rfl)) (by decide) (by decide)) q135a q135c (g := (mkF m 303 #[.val (.long p0), .second, ov p1, ov p2, ov p3, ov p4, oi l0_, oi l1_, oi l2_, oi l3_, oa b18, oa b33, oa b48, oa b63, oi l0_, oi s1_, oi (s1_ + l1_), oi s2_, oi (s2_ + l2_), oi s3_, oi (s3_ + l3_), oa e0_, oa e1_, oa e2_, oa e3_, oa t0_, oa t1_, oa t2_, oa t3_, oa b123] [(.ref t2_), (.int (Int32.ofNat s2_)), (.ref b123)])) rfl (by rw [hml]; rfl) (Steps.refl _) (argsL := [(.int (Int32.ofNat s2_)), (.ref t2_)]) (rest := []) (lenOf pd_96973 rfl) rfl (by show 2 * 0 + _ ≤ _; exact Nat.le_of_eq rfl) (hb hby at_303) (fun _ _ => ⟨rfl, rfl, (by decide : 0 + 0 + 0 + 0 + 0 + 1 + 0 + 0 + 1 + 0 + 0 + 1 + 0 + 0 + 1 + 0 + 0 + 1 + 1 + 1 + 1 + 1 + 4 + 4 + 4 + 4 + 1 + 3 + 0 + 0 + 0 ≤ _), (by decide : 0 + 0 + 0 + 0 + 0 + 2 + 0 + 0 + 2 + 0 + 0 + 2 + 0 + 0 + 2 + 0 + 0 + 8 + 8 + 8 + 8 + 8 + 10 + 10 + 10 + 10 + 4 + 12 + 0 + 0 + 0 ≤ _)⟩)
  dsimp only [Pt.U, Pt.locs, Pt.cells, Pt.slots] at X135 l135 y135 z135 st135 hQ135
  rw [l135, y135, z135] at X135
  obtain ⟨rfl, Nq135, KD2, ho2, hU3⟩ := hQ135
  have N135 := Fr.app N132 Nq135
  have k136_ : ∀ t, Steps p.tables e below (T135.setTop (mkF m 306 #[.val (.long p0), .second, ov p1, ov p2, ov p3, ov p4, oi l0_, oi l1_, oi l2_, oi l3_, oa b18, oa b33, oa b48, oa b63, oi l0_, oi s1_, oi (s1_ + l1_), oi s2_, oi (s2_ + l2_), oi s3_, oi (s3_ + l3_), oa e0_, oa e1_, oa e2_, oa e3_, oa t0_, oa t1_, oa t2_, oa t3_, oa b123] [])) t → G_ t := fun t q => k134_ t (st135.trans q)
  have sfD2 := own_sf4 (EL := own_EL) (vm := T120.vm) hZ.alike hU2
  replace hCH := hCH.trans (CHr.keep KD2 sfD2 hCH.1)
  replace Zn := Nat.le_trans Zn KD2.1
  replace hk := Nat.le_trans hk KD2.1
  replace hkh := Nat.le_trans hkh KD2.1
  replace X00 := X00.keep KD2 (own_al4 gup (Nat.le_trans gup cs2) (Nat.le_trans gup cs3) (Nat.le_trans gup cs4))
  replace VE0 := VE0.keep KD2 (fun z => absurd (own_al4 (Nat.le_refl _) cs2 cs3 cs4 _ z) (Nat.not_le.mpr le0))
  replace VE1 := VE1.keep KD2 (fun z => absurd (own_al4 (Nat.le_refl _) cs2 cs3 cs4 _ z) (Nat.not_le.mpr le1))
  replace VE2 := VE2.keep KD2 (fun z => absurd (own_al4 (Nat.le_refl _) cs2 cs3 cs4 _ z) (Nat.not_le.mpr le2))
  replace VE3 := VE3.keep KD2 (fun z => absurd (own_al4 (Nat.le_refl _) cs2 cs3 cs4 _ z) (Nat.not_le.mpr le3))
  replace S_t0_ := own_Sb_keep S_t0_ KD2 (own_al4 (Nat.le_refl _) cs2 cs3 cs4)
  replace S_t1_ := own_Sb_keep S_t1_ KD2 (own_al4 (Nat.le_refl _) cs2 cs3 cs4)
  replace S_t2_ := own_Sb_keep S_t2_ KD2 (own_al4 (Nat.le_refl _) cs2 cs3 cs4)
  replace S_t3_ := own_Sb_keep S_t3_ KD2 (own_al4 (Nat.le_refl _) cs2 cs3 cs4)
  have k137_ : ∀ t, Steps p.tables e below (T135.setTop (mkF m 312 #[.val (.long p0), .second, ov p1, ov p2, ov p3, ov p4, oi l0_, oi l1_, oi l2_, oi l3_, oa b18, oa b33, oa b48, oa b63, oi l0_, oi s1_, oi (s1_ + l1_), oi s2_, oi (s2_ + l2_), oi s3_, oi (s3_ + l3_), oa e0_, oa e1_, oa e2_, oa e3_, oa t0_, oa t1_, oa t2_, oa t3_, oa b123] [(.ref t3_), (.int (Int32.ofNat s3_)), (.ref b123)])) t → G_ t := by
    intro t q
    refine k136_ _ ?_
    show Steps p.tables e below (T135.setTop (mkF m 306 #[.val (.long p0), .second, ov p1, ov p2, ov p3, ov p4, oi l0_, oi l1_, oi l2_, oi l3_, oa b18, oa b33, oa b48, oa b63, oi l0_, oi s1_, oi (s1_ + l1_), oi s2_, oi (s2_ + l2_), oi s3_, oi (s3_ + l3_), oa e0_, oa e1_, oa e2_, oa e3_, oa t0_, oa t1_, oa t2_, oa t3_, oa b123] [])) _
    refine XS.aload X135.here hx rfl (hb hby at_306) rfl rfl ?_
    refine XS.iload X135.here hx rfl (hb hby at_308) rfl ?_
    refine XS.aload X135.here hx rfl (hb hby at_310) rfl rfl ?_
    show Steps p.tables e below (T135.setTop (mkF m 312 #[.val (.long p0), .second, ov p1, ov p2, ov p3, ov p4, oi l0_, oi l1_, oi l2_, oi l3_, oa b18, oa b33, oa b48, oa b63, oi l0_, oi s1_, oi (s1_ + l1_), oi s2_, oi (s2_ + l2_), oi s3_, oi (s3_ + l3_), oa e0_, oa e1_, oa e2_, oa e3_, oa t0_, oa t1_, oa t2_, oa t3_, oa b123] [(.ref t3_), (.int (Int32.ofNat s3_)), (.ref b123)])) _
    exact q
  have hUE3 := (show Exa Z T135.heap b123 "com/example/haku/haku/index/UnitPaths" from by obtain ⟨_, _, _, z, -⟩ := hU3; exact z)
  obtain ⟨cq138, kq138, q138a, q138b, q138c⟩ := isOf hZ rfl hUE3
  obtain ⟨_, _, ⟨T138, L138, kk138, n138⟩, -, X138, ⟨Lc138, hQ138, l138, y138, z138⟩, st138⟩ := X135.virtualBack hx (y := (⟨"com/example/haku/haku/index/UnitPaths", "add", "(ILjava/lang/String;)V"⟩ : MethodName)) (z := (⟨"com/example/haku/haku/index/UnitPaths", "add", "(ILjava/lang/String;)V"⟩ : MethodName)) hown (mvT hZ (hw _ (List.mem_of_getElem? (i := 68) rfl))) (mvT hZ (hw _ (List.mem_of_getElem? (i := 69) rfl))) (notFace_of_selects (args := #[]) (mvT hZ (hw _ (List.mem_of_getElem? (i := 71) rfl)))) (mvT hZ (hw _ (List.mem_of_getElem? (i := 71) rfl))) (mvT hZ (hw _ (List.mem_of_getElem? (i := 70) rfl))) (by decide) (backOf (W := 0) (rmD l Z a0 hw [] b123 sb rb hq b123 3 (own_uf (own_uf (own_uf (fun _ => 0) 0 0) 1 s1_) 2 s2_) (own_uf (own_uf (own_uf (fun _ => 0) 0 ho0) 1 ho1) 2 ho2) (own_uf (own_uf (own_uf (fun _ => 0) 0 l0_) 1 (s1_ + l1_)) 2 (s2_ + l2_)) (own_uf (own_uf (own_uf (fun _ => []) 0 E0_) 1 E1_) 2 E2_) (own_uf (own_uf (own_uf (fun _ => []) 0 (([own_chl p0 (0 : Int32), own_chl p0 (1 : Int32)] : List Int32).take l0_)) 1 (([own_chl p0 (2 : Int32), own_chl p0 (3 : Int32)] : List Int32).take l1_)) 2 (([own_chl p0 (4 : Int32), own_chl p0 (5 : Int32)] : List Int32).take l2_)) (own_uf (own_uf (own_uf (fun _ => 0) 0 t0_) 1 t1_) 2 t2_) s3_ t3_ E3_ (([own_chl p0 (6 : Int32), own_chl p0 (7 : Int32)] : List Int32).take l3_) (s3_ + l3_) T135.heap n0 Zn hU3 (by decide) (by omega) (by omega) ⟨len3, ok3⟩ (by rw [own_tkl rfl h_l3_]; omega) (own_tkOK (own_p2 p0 _ _) _) (fun j h1 h2 => hi3 j h1 (by omega)) (fun _ => ⟨by decide, (show s3_ ≤ (s2_ + l2_) by omega), fun j hj => lo3 j hj⟩) S_t3_) hZ (hw _ (List.mem_of_getElem? (i := 72) rfl)) (hw _ (List.mem_of_getElem? (i := 54) rfl)) (by decide) (by decide)) q138a q138c (g := (mkF m 312 #[.val (.long p0), .second, ov p1, ov p2, ov p3, ov p4, oi l0_, oi l1_, oi l2_, oi l3_, oa b18, oa b33, oa b48, oa b63, oi l0_, oi s1_, oi (s1_ + l1_), oi s2_, oi (s2_ + l2_), oi s3_, oi (s3_ + l3_), oa e0_, oa e1_, oa e2_, oa e3_, oa t0_, oa t1_, oa t2_, oa t3_, oa b123] [(.ref t3_), (.int (Int32.ofNat s3_)), (.ref b123)])) rfl (by rw [hml]; rfl) (Steps.refl _) (argsL := [(.int (Int32.ofNat s3_)), (.ref t3_)]) (rest := []) (lenOf pd_96973 rfl) rfl (by show 2 * 0 + _ ≤ _; exact Nat.le_of_eq rfl) (hb hby at_312) (fun _ _ => ⟨rfl, rfl, (by decide : 0 + 0 + 0 + 0 + 0 + 1 + 0 + 0 + 1 + 0 + 0 + 1 + 0 + 0 + 1 + 0 + 0 + 1 + 1 + 1 + 1 + 1 + 4 + 4 + 4 + 4 + 1 + 3 + 0 + 0 + 0 + 0 ≤ _), (by decide : 0 + 0 + 0 + 0 + 0 + 2 + 0 + 0 + 2 + 0 + 0 + 2 + 0 + 0 + 2 + 0 + 0 + 8 + 8 + 8 + 8 + 8 + 10 + 10 + 10 + 10 + 4 + 12 + 0 + 0 + 0 + 0 ≤ _)⟩)
  dsimp only [Pt.U, Pt.locs, Pt.cells, Pt.slots] at X138 l138 y138 z138 st138 hQ138
  rw [l138, y138, z138] at X138
  obtain ⟨rfl, Nq138, KD3, ho3, hU4⟩ := hQ138
  have N138 := Fr.app N135 Nq138
  have k139_ : ∀ t, Steps p.tables e below (T138.setTop (mkF m 315 #[.val (.long p0), .second, ov p1, ov p2, ov p3, ov p4, oi l0_, oi l1_, oi l2_, oi l3_, oa b18, oa b33, oa b48, oa b63, oi l0_, oi s1_, oi (s1_ + l1_), oi s2_, oi (s2_ + l2_), oi s3_, oi (s3_ + l3_), oa e0_, oa e1_, oa e2_, oa e3_, oa t0_, oa t1_, oa t2_, oa t3_, oa b123] [])) t → G_ t := fun t q => k137_ t (st138.trans q)
  have sfD3 := own_sf4 (EL := own_EL) (vm := T120.vm) hZ.alike hU3
  replace hCH := hCH.trans (CHr.keep KD3 sfD3 hCH.1)
  replace Zn := Nat.le_trans Zn KD3.1
  replace hk := Nat.le_trans hk KD3.1
  replace hkh := Nat.le_trans hkh KD3.1
  replace X00 := X00.keep KD3 (own_al4 gup (Nat.le_trans gup cs2) (Nat.le_trans gup cs3) (Nat.le_trans gup cs4))
  replace VE0 := VE0.keep KD3 (fun z => absurd (own_al4 (Nat.le_refl _) cs2 cs3 cs4 _ z) (Nat.not_le.mpr le0))
  replace VE1 := VE1.keep KD3 (fun z => absurd (own_al4 (Nat.le_refl _) cs2 cs3 cs4 _ z) (Nat.not_le.mpr le1))
  replace VE2 := VE2.keep KD3 (fun z => absurd (own_al4 (Nat.le_refl _) cs2 cs3 cs4 _ z) (Nat.not_le.mpr le2))
  replace VE3 := VE3.keep KD3 (fun z => absurd (own_al4 (Nat.le_refl _) cs2 cs3 cs4 _ z) (Nat.not_le.mpr le3))
  replace S_t0_ := own_Sb_keep S_t0_ KD3 (own_al4 (Nat.le_refl _) cs2 cs3 cs4)
  replace S_t1_ := own_Sb_keep S_t1_ KD3 (own_al4 (Nat.le_refl _) cs2 cs3 cs4)
  replace S_t2_ := own_Sb_keep S_t2_ KD3 (own_al4 (Nat.le_refl _) cs2 cs3 cs4)
  replace S_t3_ := own_Sb_keep S_t3_ KD3 (own_al4 (Nat.le_refl _) cs2 cs3 cs4)
  have k140_ : ∀ t, Steps p.tables e below (T138.setTop (mkF m 318 #[.val (.long p0), .second, ov p1, ov p2, ov p3, ov p4, oi l0_, oi l1_, oi l2_, oi l3_, oa b18, oa b33, oa b48, oa b63, oi l0_, oi s1_, oi (s1_ + l1_), oi s2_, oi (s2_ + l2_), oi s3_, oi (s3_ + l3_), oa e0_, oa e1_, oa e2_, oa e3_, oa t0_, oa t1_, oa t2_, oa t3_, oa b123] [(.int (0 : Int32)), (.ref b123)])) t → G_ t := by
    intro t q
    refine k139_ _ ?_
    show Steps p.tables e below (T138.setTop (mkF m 315 #[.val (.long p0), .second, ov p1, ov p2, ov p3, ov p4, oi l0_, oi l1_, oi l2_, oi l3_, oa b18, oa b33, oa b48, oa b63, oi l0_, oi s1_, oi (s1_ + l1_), oi s2_, oi (s2_ + l2_), oi s3_, oi (s3_ + l3_), oa e0_, oa e1_, oa e2_, oa e3_, oa t0_, oa t1_, oa t2_, oa t3_, oa b123] [])) _
    refine XS.aload X138.here hx rfl (hb hby at_315) rfl rfl ?_
    refine XS.iconst X138.here hx rfl (hb hby at_317) ?_
    show Steps p.tables e below (T138.setTop (mkF m 318 #[.val (.long p0), .second, ov p1, ov p2, ov p3, ov p4, oi l0_, oi l1_, oi l2_, oi l3_, oa b18, oa b33, oa b48, oa b63, oi l0_, oi s1_, oi (s1_ + l1_), oi s2_, oi (s2_ + l2_), oi s3_, oi (s3_ + l3_), oa e0_, oa e1_, oa e2_, oa e3_, oa t0_, oa t1_, oa t2_, oa t3_, oa b123] [(.int (0 : Int32)), (.ref b123)])) _
    exact q
  have hUE0' := (show Exa Z T138.heap b123 "com/example/haku/haku/index/UnitPaths" from by obtain ⟨_, _, _, z, -⟩ := hU4; exact z)
  obtain ⟨cq141, kq141, q141a, q141b, q141c⟩ := isOf hZ rfl hUE0'
  obtain ⟨_, _, ⟨T141, L141, kk141, n141⟩, -, X141_, hs141, hG141, ⟨Lc141, hQ141, l141, y141, z141, hc141⟩, st141⟩ := X138.virtualBackS hx (y := (⟨"com/example/haku/haku/index/UnitPaths", "get", "(I)Ljava/lang/String;"⟩ : MethodName)) (z := (⟨"com/example/haku/haku/index/UnitPaths", "get", "(I)Ljava/lang/String;"⟩ : MethodName)) hown (mvT hZ (hw _ (List.mem_of_getElem? (i := 75) rfl))) (mvT hZ (hw _ (List.mem_of_getElem? (i := 76) rfl))) (notFace_of_selects (args := #[]) (mvT hZ (hw _ (List.mem_of_getElem? (i := 78) rfl)))) (mvT hZ (hw _ (List.mem_of_getElem? (i := 78) rfl))) (mvT hZ (hw _ (List.mem_of_getElem? (i := 77) rfl))) (by decide) (backOfSH (s := s) (vm0 := T120.vm) (EL := own_EL) (W := 0) (rmT l Z a0 hw [] b123 sb rb hq b123 4 (own_uf (own_uf (own_uf (own_uf (fun _ => 0) 0 0) 1 s1_) 2 s2_) 3 s3_) (own_uf (own_uf (own_uf (own_uf (fun _ => 0) 0 ho0) 1 ho1) 2 ho2) 3 ho3) (own_uf (own_uf (own_uf (own_uf (fun _ => 0) 0 l0_) 1 (s1_ + l1_)) 2 (s2_ + l2_)) 3 (s3_ + l3_)) (own_uf (own_uf (own_uf (own_uf (fun _ => []) 0 E0_) 1 E1_) 2 E2_) 3 E3_) (own_uf (own_uf (own_uf (own_uf (fun _ => []) 0 (([own_chl p0 (0 : Int32), own_chl p0 (1 : Int32)] : List Int32).take l0_)) 1 (([own_chl p0 (2 : Int32), own_chl p0 (3 : Int32)] : List Int32).take l1_)) 2 (([own_chl p0 (4 : Int32), own_chl p0 (5 : Int32)] : List Int32).take l2_)) 3 (([own_chl p0 (6 : Int32), own_chl p0 (7 : Int32)] : List Int32).take l3_)) (own_uf (own_uf (own_uf (own_uf (fun _ => 0) 0 t0_) 1 t1_) 2 t2_) 3 t3_) 0 zc fv T138.heap n0 Zn hU4 (by decide) (by decide) hkh O2 hzc O4 rfv X00 wS hEL) hZ (hw _ (List.mem_of_getElem? (i := 79) rfl)) (hw _ (List.mem_of_getElem? (i := 54) rfl)) (by decide) (by decide) hEL hCH.1) q141a q141c (g := (mkF m 318 #[.val (.long p0), .second, ov p1, ov p2, ov p3, ov p4, oi l0_, oi l1_, oi l2_, oi l3_, oa b18, oa b33, oa b48, oa b63, oi l0_, oi s1_, oi (s1_ + l1_), oi s2_, oi (s2_ + l2_), oi s3_, oi (s3_ + l3_), oa e0_, oa e1_, oa e2_, oa e3_, oa t0_, oa t1_, oa t2_, oa t3_, oa b123] [(.int (0 : Int32)), (.ref b123)])) rfl (by rw [hml]; rfl) (Steps.refl _) (argsL := [(.int (0 : Int32))]) (rest := []) (lenOf pd_88406 rfl) rfl (by show 2 * 0 + _ ≤ _; exact Nat.le_of_eq rfl) (hb hby at_318) (fun _ _ => ⟨rfl, rfl, (by decide : 0 + 0 + 0 + 0 + 0 + 1 + 0 + 0 + 1 + 0 + 0 + 1 + 0 + 0 + 1 + 0 + 0 + 1 + 1 + 1 + 1 + 1 + 4 + 4 + 4 + 4 + 1 + 3 + 0 + 0 + 0 + 0 + 4 ≤ _), (by decide : 0 + 0 + 0 + 0 + 0 + 2 + 0 + 0 + 2 + 0 + 0 + 2 + 0 + 0 + 2 + 0 + 0 + 8 + 8 + 8 + 8 + 8 + 10 + 10 + 10 + 10 + 4 + 12 + 0 + 0 + 0 + 0 + 20 ≤ _)⟩)
  dsimp only [Pt.U, Pt.locs, Pt.cells, Pt.slots] at X141_ l141 y141 z141 st141 hQ141 hG141 hs141 hc141
  rw [l141, y141, z141] at X141_
  obtain ⟨X141, hS141, hZ141, hown141⟩ := rebS (s := s) (vm0 := T120.vm) hS hk X141_ hs141 hG141 hZ hown
  replace hS := hS141
  replace hZ := hZ141
  replace hown := hown141
  replace hCH := hCH.trans hc141
  replace hk : T141.heap.size ≤ T141.heap.size := Nat.le_refl _
  obtain ⟨g0_, rfl, Nq141, K_g0_, S_g0_⟩ := hQ141
  have N141 := Fr.app N138 Nq141
  have k142_ : ∀ t, Steps p.tables e below (T141.setTop (mkF m 321 #[.val (.long p0), .second, ov p1, ov p2, ov p3, ov p4, oi l0_, oi l1_, oi l2_, oi l3_, oa b18, oa b33, oa b48, oa b63, oi l0_, oi s1_, oi (s1_ + l1_), oi s2_, oi (s2_ + l2_), oi s3_, oi (s3_ + l3_), oa e0_, oa e1_, oa e2_, oa e3_, oa t0_, oa t1_, oa t2_, oa t3_, oa b123] [(.ref g0_)])) t → G_ t := fun t q => k140_ t (st141.trans q)
  replace Zn := Nat.le_trans Zn K_g0_.1
  replace X00 := X00.keep K_g0_ all0
  replace hU4 := own_U_keep hU4 K_g0_ (fun x hx => nomatch hx) hkh
  replace hkh := Nat.le_trans hkh K_g0_.1
  replace VE0 := VE0.keep K_g0_ nin0
  replace VE1 := VE1.keep K_g0_ nin0
  replace VE2 := VE2.keep K_g0_ nin0
  replace VE3 := VE3.keep K_g0_ nin0
  have k143_ : ∀ t, Steps p.tables e below (T141.setTop (mkF m 325 #[.val (.long p0), .second, ov p1, ov p2, ov p3, ov p4, oi l0_, oi l1_, oi l2_, oi l3_, oa b18, oa b33, oa b48, oa b63, oi l0_, oi s1_, oi (s1_ + l1_), oi s2_, oi (s2_ + l2_), oi s3_, oi (s3_ + l3_), oa e0_, oa e1_, oa e2_, oa e3_, oa t0_, oa t1_, oa t2_, oa t3_, oa b123] [(.int (Int32.ofNat l0_)), (.ref e0_), (.ref g0_)])) t → G_ t := by
    intro t q
    refine k142_ _ ?_
    show Steps p.tables e below (T141.setTop (mkF m 321 #[.val (.long p0), .second, ov p1, ov p2, ov p3, ov p4, oi l0_, oi l1_, oi l2_, oi l3_, oa b18, oa b33, oa b48, oa b63, oi l0_, oi s1_, oi (s1_ + l1_), oi s2_, oi (s2_ + l2_), oi s3_, oi (s3_ + l3_), oa e0_, oa e1_, oa e2_, oa e3_, oa t0_, oa t1_, oa t2_, oa t3_, oa b123] [(.ref g0_)])) _
    refine XS.aload X141.here hx rfl (hb hby at_321) rfl rfl ?_
    refine XS.iload X141.here hx rfl (hb hby at_323) rfl ?_
    show Steps p.tables e below (T141.setTop (mkF m 325 #[.val (.long p0), .second, ov p1, ov p2, ov p3, ov p4, oi l0_, oi l1_, oi l2_, oi l3_, oa b18, oa b33, oa b48, oa b63, oi l0_, oi s1_, oi (s1_ + l1_), oi s2_, oi (s2_ + l2_), oi s3_, oi (s3_ + l3_), oa e0_, oa e1_, oa e2_, oa e3_, oa t0_, oa t1_, oa t2_, oa t3_, oa b123] [(.int (Int32.ofNat l0_)), (.ref e0_), (.ref g0_)])) _
    exact q
  obtain ⟨_, _, ⟨T144, L144, kk144, n144⟩, -, X144, ⟨Lc144, hQ144, l144, y144, z144⟩, st144⟩ := Jvm.LawKit.callS X141 hx (y := (⟨"com/example/haku/haku/index/UnitPathsAddPinLaw", "same", "(Ljava/lang/String;[CI)Z"⟩ : MethodName)) hown (mvT hZ (hw _ (List.mem_of_getElem? (i := 123) rfl))) (mvT hZ (hw _ (List.mem_of_getElem? (i := 124) rfl))) (mvT hZ (hw _ (List.mem_of_getElem? (i := 7) rfl))) (mvT hZ (hw _ (List.mem_of_getElem? (i := 125) rfl))) (by decide) (backOf (W := 0) (rmSm l Z a0 hw [] g0_ e0_ l0_ _ (E0_.take l0_) E0_ ke0 zc fv T141.heap n0 Zn S_g0_ (show (E0_.take l0_).length = l0_ by rw [List.length_take, len0]; omega) (by omega) (own_tkOK ok0 _) VE0 (fun j hj => own_take_get hj) O2 hzc O4 rfv X00) hZ (hw _ (List.mem_of_getElem? (i := 125) rfl)) (hw _ (List.mem_of_getElem? (i := 7) rfl)) (by decide) (by decide)) (g := (mkF m 325 #[.val (.long p0), .second, ov p1, ov p2, ov p3, ov p4, oi l0_, oi l1_, oi l2_, oi l3_, oa b18, oa b33, oa b48, oa b63, oi l0_, oi s1_, oi (s1_ + l1_), oi s2_, oi (s2_ + l2_), oi s3_, oi (s3_ + l3_), oa e0_, oa e1_, oa e2_, oa e3_, oa t0_, oa t1_, oa t2_, oa t3_, oa b123] [(.int (Int32.ofNat l0_)), (.ref e0_), (.ref g0_)])) rfl (by rw [hml]; rfl) (argsL := [(.ref g0_), (.ref e0_), (.int (Int32.ofNat l0_))]) (rest := []) (lenOf pd_38289 rfl) rfl (by show 2 * 0 + _ ≤ _; exact Nat.le_of_eq rfl) (hb hby at_325) (fun _ _ => ⟨rfl, rfl, (by decide : 0 + 0 + 0 + 0 + 0 + 1 + 0 + 0 + 1 + 0 + 0 + 1 + 0 + 0 + 1 + 0 + 0 + 1 + 1 + 1 + 1 + 1 + 4 + 4 + 4 + 4 + 1 + 3 + 0 + 0 + 0 + 0 + 4 + 0 ≤ _), (by decide : 0 + 0 + 0 + 0 + 0 + 2 + 0 + 0 + 2 + 0 + 0 + 2 + 0 + 0 + 2 + 0 + 0 + 8 + 8 + 8 + 8 + 8 + 10 + 10 + 10 + 10 + 4 + 12 + 0 + 0 + 0 + 0 + 20 + 0 ≤ _)⟩)
  dsimp only [Pt.U, Pt.locs, Pt.cells, Pt.slots] at X144 l144 y144 z144 st144 hQ144
  rw [l144, y144, z144] at X144
  obtain ⟨rfl, Nq144, hq144⟩ := hQ144
  have N144 := Fr.app N141 Nq144
  have k145_ : ∀ t, Steps p.tables e below (T144.setTop (mkF m 328 #[.val (.long p0), .second, ov p1, ov p2, ov p3, ov p4, oi l0_, oi l1_, oi l2_, oi l3_, oa b18, oa b33, oa b48, oa b63, oi l0_, oi s1_, oi (s1_ + l1_), oi s2_, oi (s2_ + l2_), oi s3_, oi (s3_ + l3_), oa e0_, oa e1_, oa e2_, oa e3_, oa t0_, oa t1_, oa t2_, oa t3_, oa b123] [(.int (1 : Int32))])) t → G_ t := fun t q => k143_ t (st144 t q)
  have k146_ : ∀ t, Steps p.tables e below (T144.setTop (mkF m 331 #[.val (.long p0), .second, ov p1, ov p2, ov p3, ov p4, oi l0_, oi l1_, oi l2_, oi l3_, oa b18, oa b33, oa b48, oa b63, oi l0_, oi s1_, oi (s1_ + l1_), oi s2_, oi (s2_ + l2_), oi s3_, oi (s3_ + l3_), oa e0_, oa e1_, oa e2_, oa e3_, oa t0_, oa t1_, oa t2_, oa t3_, oa b123] [])) t → G_ t := by
    intro t q
    refine k145_ _ ?_
    show Steps p.tables e below (T144.setTop (mkF m 328 #[.val (.long p0), .second, ov p1, ov p2, ov p3, ov p4, oi l0_, oi l1_, oi l2_, oi l3_, oa b18, oa b33, oa b48, oa b63, oi l0_, oi s1_, oi (s1_ + l1_), oi s2_, oi (s2_ + l2_), oi s3_, oi (s3_ + l3_), oa e0_, oa e1_, oa e2_, oa e3_, oa t0_, oa t1_, oa t2_, oa t3_, oa b123] [(.int (1 : Int32))])) _
    refine XS.ifNo X144.here hx rfl (hb hby at_328) rfl ((if0 _ _).trans (feq (by decide)).1) ?_
    show Steps p.tables e below (T144.setTop (mkF m 331 #[.val (.long p0), .second, ov p1, ov p2, ov p3, ov p4, oi l0_, oi l1_, oi l2_, oi l3_, oa b18, oa b33, oa b48, oa b63, oi l0_, oi s1_, oi (s1_ + l1_), oi s2_, oi (s2_ + l2_), oi s3_, oi (s3_ + l3_), oa e0_, oa e1_, oa e2_, oa e3_, oa t0_, oa t1_, oa t2_, oa t3_, oa b123] [])) _
    exact q
  have k147_ : ∀ t, Steps p.tables e below (T144.setTop (mkF m 334 #[.val (.long p0), .second, ov p1, ov p2, ov p3, ov p4, oi l0_, oi l1_, oi l2_, oi l3_, oa b18, oa b33, oa b48, oa b63, oi l0_, oi s1_, oi (s1_ + l1_), oi s2_, oi (s2_ + l2_), oi s3_, oi (s3_ + l3_), oa e0_, oa e1_, oa e2_, oa e3_, oa t0_, oa t1_, oa t2_, oa t3_, oa b123] [(.int (1 : Int32)), (.ref b123)])) t → G_ t := by
    intro t q
    refine k146_ _ ?_
    show Steps p.tables e below (T144.setTop (mkF m 331 #[.val (.long p0), .second, ov p1, ov p2, ov p3, ov p4, oi l0_, oi l1_, oi l2_, oi l3_, oa b18, oa b33, oa b48, oa b63, oi l0_, oi s1_, oi (s1_ + l1_), oi s2_, oi (s2_ + l2_), oi s3_, oi (s3_ + l3_), oa e0_, oa e1_, oa e2_, oa e3_, oa t0_, oa t1_, oa t2_, oa t3_, oa b123] [])) _
    refine XS.aload X144.here hx rfl (hb hby at_331) rfl rfl ?_
    refine XS.iconst X144.here hx rfl (hb hby at_333) ?_
    show Steps p.tables e below (T144.setTop (mkF m 334 #[.val (.long p0), .second, ov p1, ov p2, ov p3, ov p4, oi l0_, oi l1_, oi l2_, oi l3_, oa b18, oa b33, oa b48, oa b63, oi l0_, oi s1_, oi (s1_ + l1_), oi s2_, oi (s2_ + l2_), oi s3_, oi (s3_ + l3_), oa e0_, oa e1_, oa e2_, oa e3_, oa t0_, oa t1_, oa t2_, oa t3_, oa b123] [(.int (1 : Int32)), (.ref b123)])) _
    exact q
  have hUE1' := (show Exa Z T141.heap b123 "com/example/haku/haku/index/UnitPaths" from by obtain ⟨_, _, _, z, -⟩ := hU4; exact z)
  obtain ⟨cq148, kq148, q148a, q148b, q148c⟩ := isOf hZ hq144 hUE1'
  obtain ⟨_, _, ⟨T148, L148, kk148, n148⟩, -, X148_, hs148, hG148, ⟨Lc148, hQ148, l148, y148, z148, hc148⟩, st148⟩ := X144.virtualBackS hx (y := (⟨"com/example/haku/haku/index/UnitPaths", "get", "(I)Ljava/lang/String;"⟩ : MethodName)) (z := (⟨"com/example/haku/haku/index/UnitPaths", "get", "(I)Ljava/lang/String;"⟩ : MethodName)) hown (mvT hZ (hw _ (List.mem_of_getElem? (i := 75) rfl))) (mvT hZ (hw _ (List.mem_of_getElem? (i := 76) rfl))) (notFace_of_selects (args := #[]) (mvT hZ (hw _ (List.mem_of_getElem? (i := 78) rfl)))) (mvT hZ (hw _ (List.mem_of_getElem? (i := 78) rfl))) (mvT hZ (hw _ (List.mem_of_getElem? (i := 77) rfl))) (by decide) (backOfSH (s := s) (vm0 := T141.vm) (EL := own_EL) (W := 0) (rmT l Z a0 hw [] b123 sb rb hq b123 4 (own_uf (own_uf (own_uf (own_uf (fun _ => 0) 0 0) 1 s1_) 2 s2_) 3 s3_) (own_uf (own_uf (own_uf (own_uf (fun _ => 0) 0 ho0) 1 ho1) 2 ho2) 3 ho3) (own_uf (own_uf (own_uf (own_uf (fun _ => 0) 0 l0_) 1 (s1_ + l1_)) 2 (s2_ + l2_)) 3 (s3_ + l3_)) (own_uf (own_uf (own_uf (own_uf (fun _ => []) 0 E0_) 1 E1_) 2 E2_) 3 E3_) (own_uf (own_uf (own_uf (own_uf (fun _ => []) 0 (([own_chl p0 (0 : Int32), own_chl p0 (1 : Int32)] : List Int32).take l0_)) 1 (([own_chl p0 (2 : Int32), own_chl p0 (3 : Int32)] : List Int32).take l1_)) 2 (([own_chl p0 (4 : Int32), own_chl p0 (5 : Int32)] : List Int32).take l2_)) 3 (([own_chl p0 (6 : Int32), own_chl p0 (7 : Int32)] : List Int32).take l3_)) (own_uf (own_uf (own_uf (own_uf (fun _ => 0) 0 t0_) 1 t1_) 2 t2_) 3 t3_) 1 zc fv T141.heap n0 Zn hU4 (by decide) (by decide) hkh O2 hzc O4 rfv X00 wS hEL) hZ (hw _ (List.mem_of_getElem? (i := 79) rfl)) (hw _ (List.mem_of_getElem? (i := 54) rfl)) (by decide) (by decide) hEL hCH.1) q148a q148c (g := (mkF m 334 #[.val (.long p0), .second, ov p1, ov p2, ov p3, ov p4, oi l0_, oi l1_, oi l2_, oi l3_, oa b18, oa b33, oa b48, oa b63, oi l0_, oi s1_, oi (s1_ + l1_), oi s2_, oi (s2_ + l2_), oi s3_, oi (s3_ + l3_), oa e0_, oa e1_, oa e2_, oa e3_, oa t0_, oa t1_, oa t2_, oa t3_, oa b123] [(.int (1 : Int32)), (.ref b123)])) rfl (by rw [hml]; rfl) (Steps.refl _) (argsL := [(.int (1 : Int32))]) (rest := []) (lenOf pd_88406 rfl) rfl (by show 2 * 0 + _ ≤ _; exact Nat.le_of_eq rfl) (hb hby at_334) (fun _ _ => ⟨rfl, hq144, (by decide : 0 + 0 + 0 + 0 + 0 + 1 + 0 + 0 + 1 + 0 + 0 + 1 + 0 + 0 + 1 + 0 + 0 + 1 + 1 + 1 + 1 + 1 + 4 + 4 + 4 + 4 + 1 + 3 + 0 + 0 + 0 + 0 + 4 + 0 + 4 ≤ _), (by decide : 0 + 0 + 0 + 0 + 0 + 2 + 0 + 0 + 2 + 0 + 0 + 2 + 0 + 0 + 2 + 0 + 0 + 8 + 8 + 8 + 8 + 8 + 10 + 10 + 10 + 10 + 4 + 12 + 0 + 0 + 0 + 0 + 20 + 0 + 20 ≤ _)⟩)
  dsimp only [Pt.U, Pt.locs, Pt.cells, Pt.slots] at X148_ l148 y148 z148 st148 hQ148 hG148 hs148 hc148
  rw [l148, y148, z148] at X148_
  obtain ⟨X148, hS148, hZ148, hown148⟩ := rebS (s := s) (vm0 := T141.vm) hS (by rw [hq144]; exact hk) X148_ hs148 hG148 hZ hown
  replace hS := hS148
  replace hZ := hZ148
  replace hown := hown148
  replace hCH := hCH.trans hc148
  replace hk : T148.heap.size ≤ T148.heap.size := Nat.le_refl _
  obtain ⟨g1_, rfl, Nq148, K_g1_, S_g1_⟩ := hQ148
  have N148 := Fr.app N144 Nq148
  have k149_ : ∀ t, Steps p.tables e below (T148.setTop (mkF m 337 #[.val (.long p0), .second, ov p1, ov p2, ov p3, ov p4, oi l0_, oi l1_, oi l2_, oi l3_, oa b18, oa b33, oa b48, oa b63, oi l0_, oi s1_, oi (s1_ + l1_), oi s2_, oi (s2_ + l2_), oi s3_, oi (s3_ + l3_), oa e0_, oa e1_, oa e2_, oa e3_, oa t0_, oa t1_, oa t2_, oa t3_, oa b123] [(.ref g1_)])) t → G_ t := fun t q => k147_ t (st148.trans q)
  replace Zn := Nat.le_trans Zn K_g1_.1
  replace X00 := X00.keep K_g1_ all0
  replace hU4 := own_U_keep hU4 K_g1_ (fun x hx => nomatch hx) hkh
  replace hkh := Nat.le_trans hkh K_g1_.1
  replace VE0 := VE0.keep K_g1_ nin0
  replace VE1 := VE1.keep K_g1_ nin0
  replace VE2 := VE2.keep K_g1_ nin0
  replace VE3 := VE3.keep K_g1_ nin0
  have k150_ : ∀ t, Steps p.tables e below (T148.setTop (mkF m 341 #[.val (.long p0), .second, ov p1, ov p2, ov p3, ov p4, oi l0_, oi l1_, oi l2_, oi l3_, oa b18, oa b33, oa b48, oa b63, oi l0_, oi s1_, oi (s1_ + l1_), oi s2_, oi (s2_ + l2_), oi s3_, oi (s3_ + l3_), oa e0_, oa e1_, oa e2_, oa e3_, oa t0_, oa t1_, oa t2_, oa t3_, oa b123] [(.int (Int32.ofNat (s1_ + l1_))), (.ref e1_), (.ref g1_)])) t → G_ t := by
    intro t q
    refine k149_ _ ?_
    show Steps p.tables e below (T148.setTop (mkF m 337 #[.val (.long p0), .second, ov p1, ov p2, ov p3, ov p4, oi l0_, oi l1_, oi l2_, oi l3_, oa b18, oa b33, oa b48, oa b63, oi l0_, oi s1_, oi (s1_ + l1_), oi s2_, oi (s2_ + l2_), oi s3_, oi (s3_ + l3_), oa e0_, oa e1_, oa e2_, oa e3_, oa t0_, oa t1_, oa t2_, oa t3_, oa b123] [(.ref g1_)])) _
    refine XS.aload X148.here hx rfl (hb hby at_337) rfl rfl ?_
    refine XS.iload X148.here hx rfl (hb hby at_339) rfl ?_
    show Steps p.tables e below (T148.setTop (mkF m 341 #[.val (.long p0), .second, ov p1, ov p2, ov p3, ov p4, oi l0_, oi l1_, oi l2_, oi l3_, oa b18, oa b33, oa b48, oa b63, oi l0_, oi s1_, oi (s1_ + l1_), oi s2_, oi (s2_ + l2_), oi s3_, oi (s3_ + l3_), oa e0_, oa e1_, oa e2_, oa e3_, oa t0_, oa t1_, oa t2_, oa t3_, oa b123] [(.int (Int32.ofNat (s1_ + l1_))), (.ref e1_), (.ref g1_)])) _
    exact q
  obtain ⟨_, _, ⟨T151, L151, kk151, n151⟩, -, X151, ⟨Lc151, hQ151, l151, y151, z151⟩, st151⟩ := Jvm.LawKit.callS X148 hx (y := (⟨"com/example/haku/haku/index/UnitPathsAddPinLaw", "same", "(Ljava/lang/String;[CI)Z"⟩ : MethodName)) hown (mvT hZ (hw _ (List.mem_of_getElem? (i := 123) rfl))) (mvT hZ (hw _ (List.mem_of_getElem? (i := 124) rfl))) (mvT hZ (hw _ (List.mem_of_getElem? (i := 7) rfl))) (mvT hZ (hw _ (List.mem_of_getElem? (i := 125) rfl))) (by decide) (backOf (W := 0) (rmSm l Z a0 hw [] g1_ e1_ (s1_ + l1_) _ (E1_.take (s1_ + l1_)) E1_ ke1 zc fv T148.heap n0 Zn S_g1_ (show (E1_.take (s1_ + l1_)).length = (s1_ + l1_) by rw [List.length_take, len1]; omega) (by omega) (own_tkOK ok1 _) VE1 (fun j hj => own_take_get hj) O2 hzc O4 rfv X00) hZ (hw _ (List.mem_of_getElem? (i := 125) rfl)) (hw _ (List.mem_of_getElem? (i := 7) rfl)) (by decide) (by decide)) (g := (mkF m 341 #[.val (.long p0), .second, ov p1, ov p2, ov p3, ov p4, oi l0_, oi l1_, oi l2_, oi l3_, oa b18, oa b33, oa b48, oa b63, oi l0_, oi s1_, oi (s1_ + l1_), oi s2_, oi (s2_ + l2_), oi s3_, oi (s3_ + l3_), oa e0_, oa e1_, oa e2_, oa e3_, oa t0_, oa t1_, oa t2_, oa t3_, oa b123] [(.int (Int32.ofNat (s1_ + l1_))), (.ref e1_), (.ref g1_)])) rfl (by rw [hml]; rfl) (argsL := [(.ref g1_), (.ref e1_), (.int (Int32.ofNat (s1_ + l1_)))]) (rest := []) (lenOf pd_38289 rfl) rfl (by show 2 * 0 + _ ≤ _; exact Nat.le_of_eq rfl) (hb hby at_341) (fun _ _ => ⟨rfl, rfl, (by decide : 0 + 0 + 0 + 0 + 0 + 1 + 0 + 0 + 1 + 0 + 0 + 1 + 0 + 0 + 1 + 0 + 0 + 1 + 1 + 1 + 1 + 1 + 4 + 4 + 4 + 4 + 1 + 3 + 0 + 0 + 0 + 0 + 4 + 0 + 4 + 0 ≤ _), (by decide : 0 + 0 + 0 + 0 + 0 + 2 + 0 + 0 + 2 + 0 + 0 + 2 + 0 + 0 + 2 + 0 + 0 + 8 + 8 + 8 + 8 + 8 + 10 + 10 + 10 + 10 + 4 + 12 + 0 + 0 + 0 + 0 + 20 + 0 + 20 + 0 ≤ _)⟩)
  dsimp only [Pt.U, Pt.locs, Pt.cells, Pt.slots] at X151 l151 y151 z151 st151 hQ151
  rw [l151, y151, z151] at X151
  obtain ⟨rfl, Nq151, hq151⟩ := hQ151
  have N151 := Fr.app N148 Nq151
  have k152_ : ∀ t, Steps p.tables e below (T151.setTop (mkF m 344 #[.val (.long p0), .second, ov p1, ov p2, ov p3, ov p4, oi l0_, oi l1_, oi l2_, oi l3_, oa b18, oa b33, oa b48, oa b63, oi l0_, oi s1_, oi (s1_ + l1_), oi s2_, oi (s2_ + l2_), oi s3_, oi (s3_ + l3_), oa e0_, oa e1_, oa e2_, oa e3_, oa t0_, oa t1_, oa t2_, oa t3_, oa b123] [(.int (1 : Int32))])) t → G_ t := fun t q => k150_ t (st151 t q)
  have k153_ : ∀ t, Steps p.tables e below (T151.setTop (mkF m 347 #[.val (.long p0), .second, ov p1, ov p2, ov p3, ov p4, oi l0_, oi l1_, oi l2_, oi l3_, oa b18, oa b33, oa b48, oa b63, oi l0_, oi s1_, oi (s1_ + l1_), oi s2_, oi (s2_ + l2_), oi s3_, oi (s3_ + l3_), oa e0_, oa e1_, oa e2_, oa e3_, oa t0_, oa t1_, oa t2_, oa t3_, oa b123] [])) t → G_ t := by
    intro t q
    refine k152_ _ ?_
    show Steps p.tables e below (T151.setTop (mkF m 344 #[.val (.long p0), .second, ov p1, ov p2, ov p3, ov p4, oi l0_, oi l1_, oi l2_, oi l3_, oa b18, oa b33, oa b48, oa b63, oi l0_, oi s1_, oi (s1_ + l1_), oi s2_, oi (s2_ + l2_), oi s3_, oi (s3_ + l3_), oa e0_, oa e1_, oa e2_, oa e3_, oa t0_, oa t1_, oa t2_, oa t3_, oa b123] [(.int (1 : Int32))])) _
    refine XS.ifNo X151.here hx rfl (hb hby at_344) rfl ((if0 _ _).trans (feq (by decide)).1) ?_
    show Steps p.tables e below (T151.setTop (mkF m 347 #[.val (.long p0), .second, ov p1, ov p2, ov p3, ov p4, oi l0_, oi l1_, oi l2_, oi l3_, oa b18, oa b33, oa b48, oa b63, oi l0_, oi s1_, oi (s1_ + l1_), oi s2_, oi (s2_ + l2_), oi s3_, oi (s3_ + l3_), oa e0_, oa e1_, oa e2_, oa e3_, oa t0_, oa t1_, oa t2_, oa t3_, oa b123] [])) _
    exact q
  have k154_ : ∀ t, Steps p.tables e below (T151.setTop (mkF m 350 #[.val (.long p0), .second, ov p1, ov p2, ov p3, ov p4, oi l0_, oi l1_, oi l2_, oi l3_, oa b18, oa b33, oa b48, oa b63, oi l0_, oi s1_, oi (s1_ + l1_), oi s2_, oi (s2_ + l2_), oi s3_, oi (s3_ + l3_), oa e0_, oa e1_, oa e2_, oa e3_, oa t0_, oa t1_, oa t2_, oa t3_, oa b123] [(.int (2 : Int32)), (.ref b123)])) t → G_ t := by
    intro t q
    refine k153_ _ ?_
    show Steps p.tables e below (T151.setTop (mkF m 347 #[.val (.long p0), .second, ov p1, ov p2, ov p3, ov p4, oi l0_, oi l1_, oi l2_, oi l3_, oa b18, oa b33, oa b48, oa b63, oi l0_, oi s1_, oi (s1_ + l1_), oi s2_, oi (s2_ + l2_), oi s3_, oi (s3_ + l3_), oa e0_, oa e1_, oa e2_, oa e3_, oa t0_, oa t1_, oa t2_, oa t3_, oa b123] [])) _
    refine XS.aload X151.here hx rfl (hb hby at_347) rfl rfl ?_
    refine XS.iconst X151.here hx rfl (hb hby at_349) ?_
    show Steps p.tables e below (T151.setTop (mkF m 350 #[.val (.long p0), .second, ov p1, ov p2, ov p3, ov p4, oi l0_, oi l1_, oi l2_, oi l3_, oa b18, oa b33, oa b48, oa b63, oi l0_, oi s1_, oi (s1_ + l1_), oi s2_, oi (s2_ + l2_), oi s3_, oi (s3_ + l3_), oa e0_, oa e1_, oa e2_, oa e3_, oa t0_, oa t1_, oa t2_, oa t3_, oa b123] [(.int (2 : Int32)), (.ref b123)])) _
    exact q
  have hUE2' := (show Exa Z T148.heap b123 "com/example/haku/haku/index/UnitPaths" from by obtain ⟨_, _, _, z, -⟩ := hU4; exact z)
  obtain ⟨cq155, kq155, q155a, q155b, q155c⟩ := isOf hZ hq151 hUE2'
  obtain ⟨_, _, ⟨T155, L155, kk155, n155⟩, -, X155_, hs155, hG155, ⟨Lc155, hQ155, l155, y155, z155, hc155⟩, st155⟩ := X151.virtualBackS hx (y := (⟨"com/example/haku/haku/index/UnitPaths", "get", "(I)Ljava/lang/String;"⟩ : MethodName)) (z := (⟨"com/example/haku/haku/index/UnitPaths", "get", "(I)Ljava/lang/String;"⟩ : MethodName)) hown (mvT hZ (hw _ (List.mem_of_getElem? (i := 75) rfl))) (mvT hZ (hw _ (List.mem_of_getElem? (i := 76) rfl))) (notFace_of_selects (args := #[]) (mvT hZ (hw _ (List.mem_of_getElem? (i := 78) rfl)))) (mvT hZ (hw _ (List.mem_of_getElem? (i := 78) rfl))) (mvT hZ (hw _ (List.mem_of_getElem? (i := 77) rfl))) (by decide) (backOfSH (s := s) (vm0 := T148.vm) (EL := own_EL) (W := 0) (rmT l Z a0 hw [] b123 sb rb hq b123 4 (own_uf (own_uf (own_uf (own_uf (fun _ => 0) 0 0) 1 s1_) 2 s2_) 3 s3_) (own_uf (own_uf (own_uf (own_uf (fun _ => 0) 0 ho0) 1 ho1) 2 ho2) 3 ho3) (own_uf (own_uf (own_uf (own_uf (fun _ => 0) 0 l0_) 1 (s1_ + l1_)) 2 (s2_ + l2_)) 3 (s3_ + l3_)) (own_uf (own_uf (own_uf (own_uf (fun _ => []) 0 E0_) 1 E1_) 2 E2_) 3 E3_) (own_uf (own_uf (own_uf (own_uf (fun _ => []) 0 (([own_chl p0 (0 : Int32), own_chl p0 (1 : Int32)] : List Int32).take l0_)) 1 (([own_chl p0 (2 : Int32), own_chl p0 (3 : Int32)] : List Int32).take l1_)) 2 (([own_chl p0 (4 : Int32), own_chl p0 (5 : Int32)] : List Int32).take l2_)) 3 (([own_chl p0 (6 : Int32), own_chl p0 (7 : Int32)] : List Int32).take l3_)) (own_uf (own_uf (own_uf (own_uf (fun _ => 0) 0 t0_) 1 t1_) 2 t2_) 3 t3_) 2 zc fv T148.heap n0 Zn hU4 (by decide) (by decide) hkh O2 hzc O4 rfv X00 wS hEL) hZ (hw _ (List.mem_of_getElem? (i := 79) rfl)) (hw _ (List.mem_of_getElem? (i := 54) rfl)) (by decide) (by decide) hEL hCH.1) q155a q155c (g := (mkF m 350 #[.val (.long p0), .second, ov p1, ov p2, ov p3, ov p4, oi l0_, oi l1_, oi l2_, oi l3_, oa b18, oa b33, oa b48, oa b63, oi l0_, oi s1_, oi (s1_ + l1_), oi s2_, oi (s2_ + l2_), oi s3_, oi (s3_ + l3_), oa e0_, oa e1_, oa e2_, oa e3_, oa t0_, oa t1_, oa t2_, oa t3_, oa b123] [(.int (2 : Int32)), (.ref b123)])) rfl (by rw [hml]; rfl) (Steps.refl _) (argsL := [(.int (2 : Int32))]) (rest := []) (lenOf pd_88406 rfl) rfl (by show 2 * 0 + _ ≤ _; exact Nat.le_of_eq rfl) (hb hby at_350) (fun _ _ => ⟨rfl, hq151, (by decide : 0 + 0 + 0 + 0 + 0 + 1 + 0 + 0 + 1 + 0 + 0 + 1 + 0 + 0 + 1 + 0 + 0 + 1 + 1 + 1 + 1 + 1 + 4 + 4 + 4 + 4 + 1 + 3 + 0 + 0 + 0 + 0 + 4 + 0 + 4 + 0 + 4 ≤ _), (by decide : 0 + 0 + 0 + 0 + 0 + 2 + 0 + 0 + 2 + 0 + 0 + 2 + 0 + 0 + 2 + 0 + 0 + 8 + 8 + 8 + 8 + 8 + 10 + 10 + 10 + 10 + 4 + 12 + 0 + 0 + 0 + 0 + 20 + 0 + 20 + 0 + 20 ≤ _)⟩)
  dsimp only [Pt.U, Pt.locs, Pt.cells, Pt.slots] at X155_ l155 y155 z155 st155 hQ155 hG155 hs155 hc155
  rw [l155, y155, z155] at X155_
  obtain ⟨X155, hS155, hZ155, hown155⟩ := rebS (s := s) (vm0 := T148.vm) hS (by rw [hq151]; exact hk) X155_ hs155 hG155 hZ hown
  replace hS := hS155
  replace hZ := hZ155
  replace hown := hown155
  replace hCH := hCH.trans hc155
  replace hk : T155.heap.size ≤ T155.heap.size := Nat.le_refl _
  obtain ⟨g2_, rfl, Nq155, K_g2_, S_g2_⟩ := hQ155
  have N155 := Fr.app N151 Nq155
  have k156_ : ∀ t, Steps p.tables e below (T155.setTop (mkF m 353 #[.val (.long p0), .second, ov p1, ov p2, ov p3, ov p4, oi l0_, oi l1_, oi l2_, oi l3_, oa b18, oa b33, oa b48, oa b63, oi l0_, oi s1_, oi (s1_ + l1_), oi s2_, oi (s2_ + l2_), oi s3_, oi (s3_ + l3_), oa e0_, oa e1_, oa e2_, oa e3_, oa t0_, oa t1_, oa t2_, oa t3_, oa b123] [(.ref g2_)])) t → G_ t := fun t q => k154_ t (st155.trans q)
  replace Zn := Nat.le_trans Zn K_g2_.1
  replace X00 := X00.keep K_g2_ all0
  replace hU4 := own_U_keep hU4 K_g2_ (fun x hx => nomatch hx) hkh
  replace hkh := Nat.le_trans hkh K_g2_.1
  replace VE0 := VE0.keep K_g2_ nin0
  replace VE1 := VE1.keep K_g2_ nin0
  replace VE2 := VE2.keep K_g2_ nin0
  replace VE3 := VE3.keep K_g2_ nin0
  have k157_ : ∀ t, Steps p.tables e below (T155.setTop (mkF m 357 #[.val (.long p0), .second, ov p1, ov p2, ov p3, ov p4, oi l0_, oi l1_, oi l2_, oi l3_, oa b18, oa b33, oa b48, oa b63, oi l0_, oi s1_, oi (s1_ + l1_), oi s2_, oi (s2_ + l2_), oi s3_, oi (s3_ + l3_), oa e0_, oa e1_, oa e2_, oa e3_, oa t0_, oa t1_, oa t2_, oa t3_, oa b123] [(.int (Int32.ofNat (s2_ + l2_))), (.ref e2_), (.ref g2_)])) t → G_ t := by
    intro t q
    refine k156_ _ ?_
    show Steps p.tables e below (T155.setTop (mkF m 353 #[.val (.long p0), .second, ov p1, ov p2, ov p3, ov p4, oi l0_, oi l1_, oi l2_, oi l3_, oa b18, oa b33, oa b48, oa b63, oi l0_, oi s1_, oi (s1_ + l1_), oi s2_, oi (s2_ + l2_), oi s3_, oi (s3_ + l3_), oa e0_, oa e1_, oa e2_, oa e3_, oa t0_, oa t1_, oa t2_, oa t3_, oa b123] [(.ref g2_)])) _
    refine XS.aload X155.here hx rfl (hb hby at_353) rfl rfl ?_
    refine XS.iload X155.here hx rfl (hb hby at_355) rfl ?_
    show Steps p.tables e below (T155.setTop (mkF m 357 #[.val (.long p0), .second, ov p1, ov p2, ov p3, ov p4, oi l0_, oi l1_, oi l2_, oi l3_, oa b18, oa b33, oa b48, oa b63, oi l0_, oi s1_, oi (s1_ + l1_), oi s2_, oi (s2_ + l2_), oi s3_, oi (s3_ + l3_), oa e0_, oa e1_, oa e2_, oa e3_, oa t0_, oa t1_, oa t2_, oa t3_, oa b123] [(.int (Int32.ofNat (s2_ + l2_))), (.ref e2_), (.ref g2_)])) _
    exact q
  obtain ⟨_, _, ⟨T158, L158, kk158, n158⟩, -, X158, ⟨Lc158, hQ158, l158, y158, z158⟩, st158⟩ := Jvm.LawKit.callS X155 hx (y := (⟨"com/example/haku/haku/index/UnitPathsAddPinLaw", "same", "(Ljava/lang/String;[CI)Z"⟩ : MethodName)) hown (mvT hZ (hw _ (List.mem_of_getElem? (i := 123) rfl))) (mvT hZ (hw _ (List.mem_of_getElem? (i := 124) rfl))) (mvT hZ (hw _ (List.mem_of_getElem? (i := 7) rfl))) (mvT hZ (hw _ (List.mem_of_getElem? (i := 125) rfl))) (by decide) (backOf (W := 0) (rmSm l Z a0 hw [] g2_ e2_ (s2_ + l2_) _ (E2_.take (s2_ + l2_)) E2_ ke2 zc fv T155.heap n0 Zn S_g2_ (show (E2_.take (s2_ + l2_)).length = (s2_ + l2_) by rw [List.length_take, len2]; omega) (by omega) (own_tkOK ok2 _) VE2 (fun j hj => own_take_get hj) O2 hzc O4 rfv X00) hZ (hw _ (List.mem_of_getElem? (i := 125) rfl)) (hw _ (List.mem_of_getElem? (i := 7) rfl)) (by decide) (by decide)) (g := (mkF m 357 #[.val (.long p0), .second, ov p1, ov p2, ov p3, ov p4, oi l0_, oi l1_, oi l2_, oi l3_, oa b18, oa b33, oa b48, oa b63, oi l0_, oi s1_, oi (s1_ + l1_), oi s2_, oi (s2_ + l2_), oi s3_, oi (s3_ + l3_), oa e0_, oa e1_, oa e2_, oa e3_, oa t0_, oa t1_, oa t2_, oa t3_, oa b123] [(.int (Int32.ofNat (s2_ + l2_))), (.ref e2_), (.ref g2_)])) rfl (by rw [hml]; rfl) (argsL := [(.ref g2_), (.ref e2_), (.int (Int32.ofNat (s2_ + l2_)))]) (rest := []) (lenOf pd_38289 rfl) rfl (by show 2 * 0 + _ ≤ _; exact Nat.le_of_eq rfl) (hb hby at_357) (fun _ _ => ⟨rfl, rfl, (by decide : 0 + 0 + 0 + 0 + 0 + 1 + 0 + 0 + 1 + 0 + 0 + 1 + 0 + 0 + 1 + 0 + 0 + 1 + 1 + 1 + 1 + 1 + 4 + 4 + 4 + 4 + 1 + 3 + 0 + 0 + 0 + 0 + 4 + 0 + 4 + 0 + 4 + 0 ≤ _), (by decide : 0 + 0 + 0 + 0 + 0 + 2 + 0 + 0 + 2 + 0 + 0 + 2 + 0 + 0 + 2 + 0 + 0 + 8 + 8 + 8 + 8 + 8 + 10 + 10 + 10 + 10 + 4 + 12 + 0 + 0 + 0 + 0 + 20 + 0 + 20 + 0 + 20 + 0 ≤ _)⟩)
  dsimp only [Pt.U, Pt.locs, Pt.cells, Pt.slots] at X158 l158 y158 z158 st158 hQ158
  rw [l158, y158, z158] at X158
  obtain ⟨rfl, Nq158, hq158⟩ := hQ158
  have N158 := Fr.app N155 Nq158
  have k159_ : ∀ t, Steps p.tables e below (T158.setTop (mkF m 360 #[.val (.long p0), .second, ov p1, ov p2, ov p3, ov p4, oi l0_, oi l1_, oi l2_, oi l3_, oa b18, oa b33, oa b48, oa b63, oi l0_, oi s1_, oi (s1_ + l1_), oi s2_, oi (s2_ + l2_), oi s3_, oi (s3_ + l3_), oa e0_, oa e1_, oa e2_, oa e3_, oa t0_, oa t1_, oa t2_, oa t3_, oa b123] [(.int (1 : Int32))])) t → G_ t := fun t q => k157_ t (st158 t q)
  have k160_ : ∀ t, Steps p.tables e below (T158.setTop (mkF m 363 #[.val (.long p0), .second, ov p1, ov p2, ov p3, ov p4, oi l0_, oi l1_, oi l2_, oi l3_, oa b18, oa b33, oa b48, oa b63, oi l0_, oi s1_, oi (s1_ + l1_), oi s2_, oi (s2_ + l2_), oi s3_, oi (s3_ + l3_), oa e0_, oa e1_, oa e2_, oa e3_, oa t0_, oa t1_, oa t2_, oa t3_, oa b123] [])) t → G_ t := by
    intro t q
    refine k159_ _ ?_
    show Steps p.tables e below (T158.setTop (mkF m 360 #[.val (.long p0), .second, ov p1, ov p2, ov p3, ov p4, oi l0_, oi l1_, oi l2_, oi l3_, oa b18, oa b33, oa b48, oa b63, oi l0_, oi s1_, oi (s1_ + l1_), oi s2_, oi (s2_ + l2_), oi s3_, oi (s3_ + l3_), oa e0_, oa e1_, oa e2_, oa e3_, oa t0_, oa t1_, oa t2_, oa t3_, oa b123] [(.int (1 : Int32))])) _
    refine XS.ifNo X158.here hx rfl (hb hby at_360) rfl ((if0 _ _).trans (feq (by decide)).1) ?_
    show Steps p.tables e below (T158.setTop (mkF m 363 #[.val (.long p0), .second, ov p1, ov p2, ov p3, ov p4, oi l0_, oi l1_, oi l2_, oi l3_, oa b18, oa b33, oa b48, oa b63, oi l0_, oi s1_, oi (s1_ + l1_), oi s2_, oi (s2_ + l2_), oi s3_, oi (s3_ + l3_), oa e0_, oa e1_, oa e2_, oa e3_, oa t0_, oa t1_, oa t2_, oa t3_, oa b123] [])) _
    exact q
  have k161_ : ∀ t, Steps p.tables e below (T158.setTop (mkF m 366 #[.val (.long p0), .second, ov p1, ov p2, ov p3, ov p4, oi l0_, oi l1_, oi l2_, oi l3_, oa b18, oa b33, oa b48, oa b63, oi l0_, oi s1_, oi (s1_ + l1_), oi s2_, oi (s2_ + l2_), oi s3_, oi (s3_ + l3_), oa e0_, oa e1_, oa e2_, oa e3_, oa t0_, oa t1_, oa t2_, oa t3_, oa b123] [(.int (3 : Int32)), (.ref b123)])) t → G_ t := by
    intro t q
    refine k160_ _ ?_
    show Steps p.tables e below (T158.setTop (mkF m 363 #[.val (.long p0), .second, ov p1, ov p2, ov p3, ov p4, oi l0_, oi l1_, oi l2_, oi l3_, oa b18, oa b33, oa b48, oa b63, oi l0_, oi s1_, oi (s1_ + l1_), oi s2_, oi (s2_ + l2_), oi s3_, oi (s3_ + l3_), oa e0_, oa e1_, oa e2_, oa e3_, oa t0_, oa t1_, oa t2_, oa t3_, oa b123] [])) _
    refine XS.aload X158.here hx rfl (hb hby at_363) rfl rfl ?_
    refine XS.iconst X158.here hx rfl (hb hby at_365) ?_
    show Steps p.tables e below (T158.setTop (mkF m 366 #[.val (.long p0), .second, ov p1, ov p2, ov p3, ov p4, oi l0_, oi l1_, oi l2_, oi l3_, oa b18, oa b33, oa b48, oa b63, oi l0_, oi s1_, oi (s1_ + l1_), oi s2_, oi (s2_ + l2_), oi s3_, oi (s3_ + l3_), oa e0_, oa e1_, oa e2_, oa e3_, oa t0_, oa t1_, oa t2_, oa t3_, oa b123] [(.int (3 : Int32)), (.ref b123)])) _
    exact q
  have hUE3' := (show Exa Z T155.heap b123 "com/example/haku/haku/index/UnitPaths" from by obtain ⟨_, _, _, z, -⟩ := hU4; exact z)
  obtain ⟨cq162, kq162, q162a, q162b, q162c⟩ := isOf hZ hq158 hUE3'
  obtain ⟨_, _, ⟨T162, L162, kk162, n162⟩, -, X162_, hs162, hG162, ⟨Lc162, hQ162, l162, y162, z162, hc162⟩, st162⟩ := X158.virtualBackS hx (y := (⟨"com/example/haku/haku/index/UnitPaths", "get", "(I)Ljava/lang/String;"⟩ : MethodName)) (z := (⟨"com/example/haku/haku/index/UnitPaths", "get", "(I)Ljava/lang/String;"⟩ : MethodName)) hown (mvT hZ (hw _ (List.mem_of_getElem? (i := 75) rfl))) (mvT hZ (hw _ (List.mem_of_getElem? (i := 76) rfl))) (notFace_of_selects (args := #[]) (mvT hZ (hw _ (List.mem_of_getElem? (i := 78) rfl)))) (mvT hZ (hw _ (List.mem_of_getElem? (i := 78) rfl))) (mvT hZ (hw _ (List.mem_of_getElem? (i := 77) rfl))) (by decide) (backOfSH (s := s) (vm0 := T155.vm) (EL := own_EL) (W := 0) (rmT l Z a0 hw [] b123 sb rb hq b123 4 (own_uf (own_uf (own_uf (own_uf (fun _ => 0) 0 0) 1 s1_) 2 s2_) 3 s3_) (own_uf (own_uf (own_uf (own_uf (fun _ => 0) 0 ho0) 1 ho1) 2 ho2) 3 ho3) (own_uf (own_uf (own_uf (own_uf (fun _ => 0) 0 l0_) 1 (s1_ + l1_)) 2 (s2_ + l2_)) 3 (s3_ + l3_)) (own_uf (own_uf (own_uf (own_uf (fun _ => []) 0 E0_) 1 E1_) 2 E2_) 3 E3_) (own_uf (own_uf (own_uf (own_uf (fun _ => []) 0 (([own_chl p0 (0 : Int32), own_chl p0 (1 : Int32)] : List Int32).take l0_)) 1 (([own_chl p0 (2 : Int32), own_chl p0 (3 : Int32)] : List Int32).take l1_)) 2 (([own_chl p0 (4 : Int32), own_chl p0 (5 : Int32)] : List Int32).take l2_)) 3 (([own_chl p0 (6 : Int32), own_chl p0 (7 : Int32)] : List Int32).take l3_)) (own_uf (own_uf (own_uf (own_uf (fun _ => 0) 0 t0_) 1 t1_) 2 t2_) 3 t3_) 3 zc fv T155.heap n0 Zn hU4 (by decide) (by decide) hkh O2 hzc O4 rfv X00 wS hEL) hZ (hw _ (List.mem_of_getElem? (i := 79) rfl)) (hw _ (List.mem_of_getElem? (i := 54) rfl)) (by decide) (by decide) hEL hCH.1) q162a q162c (g := (mkF m 366 #[.val (.long p0), .second, ov p1, ov p2, ov p3, ov p4, oi l0_, oi l1_, oi l2_, oi l3_, oa b18, oa b33, oa b48, oa b63, oi l0_, oi s1_, oi (s1_ + l1_), oi s2_, oi (s2_ + l2_), oi s3_, oi (s3_ + l3_), oa e0_, oa e1_, oa e2_, oa e3_, oa t0_, oa t1_, oa t2_, oa t3_, oa b123] [(.int (3 : Int32)), (.ref b123)])) rfl (by rw [hml]; rfl) (Steps.refl _) (argsL := [(.int (3 : Int32))]) (rest := []) (lenOf pd_88406 rfl) rfl (by show 2 * 0 + _ ≤ _; exact Nat.le_of_eq rfl) (hb hby at_366) (fun _ _ => ⟨rfl, hq158, (by decide : 0 + 0 + 0 + 0 + 0 + 1 + 0 + 0 + 1 + 0 + 0 + 1 + 0 + 0 + 1 + 0 + 0 + 1 + 1 + 1 + 1 + 1 + 4 + 4 + 4 + 4 + 1 + 3 + 0 + 0 + 0 + 0 + 4 + 0 + 4 + 0 + 4 + 0 + 4 ≤ _), (by decide : 0 + 0 + 0 + 0 + 0 + 2 + 0 + 0 + 2 + 0 + 0 + 2 + 0 + 0 + 2 + 0 + 0 + 8 + 8 + 8 + 8 + 8 + 10 + 10 + 10 + 10 + 4 + 12 + 0 + 0 + 0 + 0 + 20 + 0 + 20 + 0 + 20 + 0 + 20 ≤ _)⟩)
  dsimp only [Pt.U, Pt.locs, Pt.cells, Pt.slots] at X162_ l162 y162 z162 st162 hQ162 hG162 hs162 hc162
  rw [l162, y162, z162] at X162_
  obtain ⟨X162, hS162, hZ162, hown162⟩ := rebS (s := s) (vm0 := T155.vm) hS (by rw [hq158]; exact hk) X162_ hs162 hG162 hZ hown
  replace hS := hS162
  replace hZ := hZ162
  replace hown := hown162
  replace hCH := hCH.trans hc162
  replace hk : T162.heap.size ≤ T162.heap.size := Nat.le_refl _
  obtain ⟨g3_, rfl, Nq162, K_g3_, S_g3_⟩ := hQ162
  have N162 := Fr.app N158 Nq162
  have k163_ : ∀ t, Steps p.tables e below (T162.setTop (mkF m 369 #[.val (.long p0), .second, ov p1, ov p2, ov p3, ov p4, oi l0_, oi l1_, oi l2_, oi l3_, oa b18, oa b33, oa b48, oa b63, oi l0_, oi s1_, oi (s1_ + l1_), oi s2_, oi (s2_ + l2_), oi s3_, oi (s3_ + l3_), oa e0_, oa e1_, oa e2_, oa e3_, oa t0_, oa t1_, oa t2_, oa t3_, oa b123] [(.ref g3_)])) t → G_ t := fun t q => k161_ t (st162.trans q)
  replace Zn := Nat.le_trans Zn K_g3_.1
  replace X00 := X00.keep K_g3_ all0
  replace hU4 := own_U_keep hU4 K_g3_ (fun x hx => nomatch hx) hkh
  replace hkh := Nat.le_trans hkh K_g3_.1
  replace VE0 := VE0.keep K_g3_ nin0
  replace VE1 := VE1.keep K_g3_ nin0
  replace VE2 := VE2.keep K_g3_ nin0
  replace VE3 := VE3.keep K_g3_ nin0
  have k164_ : ∀ t, Steps p.tables e below (T162.setTop (mkF m 373 #[.val (.long p0), .second, ov p1, ov p2, ov p3, ov p4, oi l0_, oi l1_, oi l2_, oi l3_, oa b18, oa b33, oa b48, oa b63, oi l0_, oi s1_, oi (s1_ + l1_), oi s2_, oi (s2_ + l2_), oi s3_, oi (s3_ + l3_), oa e0_, oa e1_, oa e2_, oa e3_, oa t0_, oa t1_, oa t2_, oa t3_, oa b123] [(.int (Int32.ofNat (s3_ + l3_))), (.ref e3_), (.ref g3_)])) t → G_ t := by
    intro t q
    refine k163_ _ ?_
    show Steps p.tables e below (T162.setTop (mkF m 369 #[.val (.long p0), .second, ov p1, ov p2, ov p3, ov p4, oi l0_, oi l1_, oi l2_, oi l3_, oa b18, oa b33, oa b48, oa b63, oi l0_, oi s1_, oi (s1_ + l1_), oi s2_, oi (s2_ + l2_), oi s3_, oi (s3_ + l3_), oa e0_, oa e1_, oa e2_, oa e3_, oa t0_, oa t1_, oa t2_, oa t3_, oa b123] [(.ref g3_)])) _
    refine XS.aload X162.here hx rfl (hb hby at_369) rfl rfl ?_
    refine XS.iload X162.here hx rfl (hb hby at_371) rfl ?_
    show Steps p.tables e below (T162.setTop (mkF m 373 #[.val (.long p0), .second, ov p1, ov p2, ov p3, ov p4, oi l0_, oi l1_, oi l2_, oi l3_, oa b18, oa b33, oa b48, oa b63, oi l0_, oi s1_, oi (s1_ + l1_), oi s2_, oi (s2_ + l2_), oi s3_, oi (s3_ + l3_), oa e0_, oa e1_, oa e2_, oa e3_, oa t0_, oa t1_, oa t2_, oa t3_, oa b123] [(.int (Int32.ofNat (s3_ + l3_))), (.ref e3_), (.ref g3_)])) _
    exact q
  obtain ⟨_, _, ⟨T165, L165, kk165, n165⟩, -, X165, ⟨Lc165, hQ165, l165, y165, z165⟩, st165⟩ := Jvm.LawKit.callS X162 hx (y := (⟨"com/example/haku/haku/index/UnitPathsAddPinLaw", "same", "(Ljava/lang/String;[CI)Z"⟩ : MethodName)) hown (mvT hZ (hw _ (List.mem_of_getElem? (i := 123) rfl))) (mvT hZ (hw _ (List.mem_of_getElem? (i := 124) rfl))) (mvT hZ (hw _ (List.mem_of_getElem? (i := 7) rfl))) (mvT hZ (hw _ (List.mem_of_getElem? (i := 125) rfl))) (by decide) (backOf (W := 0) (rmSm l Z a0 hw [] g3_ e3_ (s3_ + l3_) _ (E3_.take (s3_ + l3_)) E3_ ke3 zc fv T162.heap n0 Zn S_g3_ (show (E3_.take (s3_ + l3_)).length = (s3_ + l3_) by rw [List.length_take, len3]; omega) (by omega) (own_tkOK ok3 _) VE3 (fun j hj => own_take_get hj) O2 hzc O4 rfv X00) hZ (hw _ (List.mem_of_getElem? (i := 125) rfl)) (hw _ (List.mem_of_getElem? (i := 7) rfl)) (by decide) (by decide)) (g := (mkF m 373 #[.val (.long p0), .second, ov p1, ov p2, ov p3, ov p4, oi l0_, oi l1_, oi l2_, oi l3_, oa b18, oa b33, oa b48, oa b63, oi l0_, oi s1_, oi (s1_ + l1_), oi s2_, oi (s2_ + l2_), oi s3_, oi (s3_ + l3_), oa e0_, oa e1_, oa e2_, oa e3_, oa t0_, oa t1_, oa t2_, oa t3_, oa b123] [(.int (Int32.ofNat (s3_ + l3_))), (.ref e3_), (.ref g3_)])) rfl (by rw [hml]; rfl) (argsL := [(.ref g3_), (.ref e3_), (.int (Int32.ofNat (s3_ + l3_)))]) (rest := []) (lenOf pd_38289 rfl) rfl (by show 2 * 0 + _ ≤ _; exact Nat.le_of_eq rfl) (hb hby at_373) (fun _ _ => ⟨rfl, rfl, (by decide : 0 + 0 + 0 + 0 + 0 + 1 + 0 + 0 + 1 + 0 + 0 + 1 + 0 + 0 + 1 + 0 + 0 + 1 + 1 + 1 + 1 + 1 + 4 + 4 + 4 + 4 + 1 + 3 + 0 + 0 + 0 + 0 + 4 + 0 + 4 + 0 + 4 + 0 + 4 + 0 ≤ _), (by decide : 0 + 0 + 0 + 0 + 0 + 2 + 0 + 0 + 2 + 0 + 0 + 2 + 0 + 0 + 2 + 0 + 0 + 8 + 8 + 8 + 8 + 8 + 10 + 10 + 10 + 10 + 4 + 12 + 0 + 0 + 0 + 0 + 20 + 0 + 20 + 0 + 20 + 0 + 20 + 0 ≤ _)⟩)
  dsimp only [Pt.U, Pt.locs, Pt.cells, Pt.slots] at X165 l165 y165 z165 st165 hQ165
  rw [l165, y165, z165] at X165
  obtain ⟨rfl, Nq165, hq165⟩ := hQ165
  have N165 := Fr.app N162 Nq165
  have k166_ : ∀ t, Steps p.tables e below (T165.setTop (mkF m 376 #[.val (.long p0), .second, ov p1, ov p2, ov p3, ov p4, oi l0_, oi l1_, oi l2_, oi l3_, oa b18, oa b33, oa b48, oa b63, oi l0_, oi s1_, oi (s1_ + l1_), oi s2_, oi (s2_ + l2_), oi s3_, oi (s3_ + l3_), oa e0_, oa e1_, oa e2_, oa e3_, oa t0_, oa t1_, oa t2_, oa t3_, oa b123] [(.int (1 : Int32))])) t → G_ t := fun t q => k164_ t (st165 t q)
  have k167_ : ∀ t, Steps p.tables e below (T165.setTop (mkF m 379 #[.val (.long p0), .second, ov p1, ov p2, ov p3, ov p4, oi l0_, oi l1_, oi l2_, oi l3_, oa b18, oa b33, oa b48, oa b63, oi l0_, oi s1_, oi (s1_ + l1_), oi s2_, oi (s2_ + l2_), oi s3_, oi (s3_ + l3_), oa e0_, oa e1_, oa e2_, oa e3_, oa t0_, oa t1_, oa t2_, oa t3_, oa b123] [])) t → G_ t := by
    intro t q
    refine k166_ _ ?_
    show Steps p.tables e below (T165.setTop (mkF m 376 #[.val (.long p0), .second, ov p1, ov p2, ov p3, ov p4, oi l0_, oi l1_, oi l2_, oi l3_, oa b18, oa b33, oa b48, oa b63, oi l0_, oi s1_, oi (s1_ + l1_), oi s2_, oi (s2_ + l2_), oi s3_, oi (s3_ + l3_), oa e0_, oa e1_, oa e2_, oa e3_, oa t0_, oa t1_, oa t2_, oa t3_, oa b123] [(.int (1 : Int32))])) _
    refine XS.ifNo X165.here hx rfl (hb hby at_376) rfl ((if0 _ _).trans (feq (by decide)).1) ?_
    show Steps p.tables e below (T165.setTop (mkF m 379 #[.val (.long p0), .second, ov p1, ov p2, ov p3, ov p4, oi l0_, oi l1_, oi l2_, oi l3_, oa b18, oa b33, oa b48, oa b63, oi l0_, oi s1_, oi (s1_ + l1_), oi s2_, oi (s2_ + l2_), oi s3_, oi (s3_ + l3_), oa e0_, oa e1_, oa e2_, oa e3_, oa t0_, oa t1_, oa t2_, oa t3_, oa b123] [])) _
    exact q
  have k168_ : ∀ t, Steps p.tables e below (T165.setTop (mkF m 384 #[.val (.long p0), .second, ov p1, ov p2, ov p3, ov p4, oi l0_, oi l1_, oi l2_, oi l3_, oa b18, oa b33, oa b48, oa b63, oi l0_, oi s1_, oi (s1_ + l1_), oi s2_, oi (s2_ + l2_), oi s3_, oi (s3_ + l3_), oa e0_, oa e1_, oa e2_, oa e3_, oa t0_, oa t1_, oa t2_, oa t3_, oa b123] [(.int (1 : Int32))])) t → G_ t := by
    intro t q
    refine k167_ _ ?_
    show Steps p.tables e below (T165.setTop (mkF m 379 #[.val (.long p0), .second, ov p1, ov p2, ov p3, ov p4, oi l0_, oi l1_, oi l2_, oi l3_, oa b18, oa b33, oa b48, oa b63, oi l0_, oi s1_, oi (s1_ + l1_), oi s2_, oi (s2_ + l2_), oi s3_, oi (s3_ + l3_), oa e0_, oa e1_, oa e2_, oa e3_, oa t0_, oa t1_, oa t2_, oa t3_, oa b123] [])) _
    refine XS.iconst X165.here hx rfl (hb hby at_379) ?_
    refine XS.goto X165.here hx rfl (pc0 := 380) (pc' := 384) rfl (hb hby at_380) (by decide) (by decide) ?_
    show Steps p.tables e below (T165.setTop (mkF m 384 #[.val (.long p0), .second, ov p1, ov p2, ov p3, ov p4, oi l0_, oi l1_, oi l2_, oi l3_, oa b18, oa b33, oa b48, oa b63, oi l0_, oi s1_, oi (s1_ + l1_), oi s2_, oi (s2_ + l2_), oi s3_, oi (s3_ + l3_), oa e0_, oa e1_, oa e2_, oa e3_, oa t0_, oa t1_, oa t2_, oa t3_, oa b123] [(.int (1 : Int32))])) _
    exact q
  obtain ⟨fs, hr, hrun, hended, r1, r2, r3, r4⟩ := Stand.leaveW (s := s) (vm₁ := T162.vm) X165 hS (by rw [hq165]; exact hk) (v := some (.int (1 : Int32))) (fun h => by rw [Bd.returns] at h; cases h)
  refine ⟨_, _, pre0 _ (k168_ _ ?_), hrun, hended, _, rfl, N165, r1, r2, r3, r4.mono (by decide) (by decide)⟩
  · show Steps p.tables e below (T165.setTop (mkF m 384 #[.val (.long p0), .second, ov p1, ov p2, ov p3, ov p4, oi l0_, oi l1_, oi l2_, oi l3_, oa b18, oa b33, oa b48, oa b63, oi l0_, oi s1_, oi (s1_ + l1_), oi s2_, oi (s2_ + l2_), oi s3_, oi (s3_ + l3_), oa e0_, oa e1_, oa e2_, oa e3_, oa t0_, oa t1_, oa t2_, oa t3_, oa b123] [(.int (1 : Int32))])) _
    exact retN X165 hx (t := .boolean) Bd.returns (by simp) (hb hby at_384) hr

set_option maxRecDepth 65536 in
set_option maxHeartbeats 40000000 in
theorem comes_1 {Post : Tables → Env → Array Value → State → Outcome → State → Prop} (hpost : ∀ tb e args s v u, (limb_1_1.after args s (.returned v) u = true ∧ limb_1_2.after args s (.returned v) u = true ∧ True) → ReturnedEndW s (.returned v) u (Jvm.fieldLocs frame_1_writes args s ++ Jvm.arrayLocs frame_1_arrays args s ++ Jvm.staticLocs frame_1_statics s) 88 1408 → Post tb e args s (.returned v) u) :
    ArmFor flags0 classFile x code maxLocals ret World_1 tables_1 room_1 Calls_1 rest_1 Pre_1 Post := by
  intro l hfl _ _ p e ha hc hk s m args below hf hA hF happ hP
  obtain ⟨hcalls, hrest, hpre⟩ := hP
  obtain ⟨-, -, -, hnamed, -, -, -, hat⟩ := (Spec.applies_iff hf).mp happ
  obtain ⟨hg, hn⟩ := and_e (Cond.before_iff.mp (show (Jvm.Cond.and given_1 narrow_1).before args s = true from hpre))
  obtain ⟨hcnt, hg0⟩ := and_e hg
  obtain ⟨hi0, hg1⟩ := and_e hg0
  obtain ⟨hi1, hg2⟩ := and_e hg1
  obtain ⟨hi2, hg3⟩ := and_e hg2
  obtain ⟨hi3, hg4⟩ := and_e hg3
  have hi4 := hg4
  obtain ⟨w0, w1, w2, w3, w4, rfl⟩ : ∃ w0 w1 w2 w3 w4 : Value, args = #[w0, w1, w2, w3, w4] := by
    have hs : args.size = 5 := by simpa [Cond.value, given_1] using hcnt
    obtain ⟨L⟩ := args
    match L, hs with
    | [w0, w1, w2, w3, w4], _ => exact ⟨w0, w1, w2, w3, w4, rfl⟩
  have hw := fun d (hd : d ∈ tables_1) => atoms_spec (ws := Jvm.Cond.code x code maxLocals ret :: tables_1) hat d (List.mem_cons_of_mem _ hd)
  have hfit : Fit s := fun {y c} hc i hi => by
    obtain ⟨ha, rfl⟩ := Array.getElem?_eq_some_iff.mp hc
    have q := List.all_eq_true.mp ((Array.all_eq_true_iff_forall_mem.mp hF) _ (Array.getElem_mem ha)) i (List.mem_range.mpr hi)
    simpa [Array.getElem?_eq_getElem hi] using q
  obtain ⟨i0, ei0⟩ := isL_v hi0
  obtain rfl : w0 = (.long i0) := Option.some.inj ei0
  obtain ⟨i1, ei1⟩ := is_v hi1
  obtain rfl : w1 = (.int i1) := Option.some.inj ei1
  obtain ⟨i2, ei2⟩ := is_v hi2
  obtain rfl : w2 = (.int i2) := Option.some.inj ei2
  obtain ⟨i3, ei3⟩ := is_v hi3
  obtain rfl : w3 = (.int i3) := Option.some.inj ei3
  obtain ⟨i4, ei4⟩ := is_v hi4
  obtain rfl : w4 = (.int i4) := Option.some.inj ei4
  obtain ⟨hsets, hown0⟩ := atoms_of _ (rest_1_c_eq ▸ (show rest_1_c.before _ s = true from hrest))
  have hj := fun d (hd : d ∈ jdkStatics_1) => hsets d hd
  obtain ⟨cs, ecs⟩ := is_v (Cond.before_iff.mp (hj _ (List.mem_of_getElem? (i := 1) rfl)))
  have SC := Sta.start ecs (Or.inl (hj _ (List.mem_of_getElem? (i := 0) rfl)))
  have hcw := hj _ (List.mem_of_getElem? (i := 2) rfl)
  have hcs : ¬ cs = (0 : Int32) := fun q => by
    have h := not_v (Cond.before_iff.mp hcw)
    rw [eq_i ecs (Term.int_eval 0) (congrArg Value.int q)] at h
    exact absurd h (by decide)
  have wS : ∀ a ∈ Bundle.stringAtoms, a.before (#[.long i0, .int i1, .int i2, .int i3, .int i4] : Array Value) s = true := by
    intro a ha
    simp only [Bundle.stringAtoms, Bundle.sN, List.mem_cons, List.not_mem_nil, or_false] at ha
    rcases ha with rfl | rfl | rfl | rfl | rfl | rfl | rfl
    · exact hw _ (List.mem_of_getElem? (i := 22) rfl)
    · exact hw _ (List.mem_of_getElem? (i := 21) rfl)
    · exact hw _ (List.mem_of_getElem? (i := 38) rfl)
    · exact hw _ (List.mem_of_getElem? (i := 48) rfl)
    · exact hw _ (List.mem_of_getElem? (i := 46) rfl)
    · exact hw _ (List.mem_of_getElem? (i := 50) rfl)
    · exact hw _ (List.mem_of_getElem? (i := 51) rfl)
  obtain ⟨hcl, -⟩ := hcalls
  have hEL : EW s (#[.long i0, .int i1, .int i2, .int i3, .int i4] : Array Value) own_EL := EW.cons (hw _ (List.mem_of_getElem? (i := 49) rfl)) (fun c hc => by simp at hc) EW.nil
  have hCH0 : CHv s own_EL s.vm s.heap := CHv.start hEL (fun p hp => hcl p hp) hcw (hw _ (List.mem_of_getElem? (i := 38) rfl)) (hw _ (List.mem_of_getElem? (i := 21) rfl))
  obtain ⟨fv, efv, hfr⟩ := isR_v (Cond.before_iff.mp (hj _ (List.mem_of_getElem? (i := 8) rfl)))
  have SF := Sta.start efv (Or.inl (hj _ (List.mem_of_getElem? (i := 7) rfl)))
  obtain ⟨n, o, h1, h2, h3, L, rfl, N, hq⟩ := rm0 l s _ hw tables_1 i0 i1 i2 i3 i4 cs fv s.heap s.heap.size (Nat.le_refl _) rfl SC hcs SF hfr wS hEL hCH0 p e ha hc hk s m _ below hf ((Spec.applies_iff_loose hf).mp happ).1 ⟨rfl, rfl, rfl⟩ trivial
  refine ⟨n, _, h1, h2, h3, hpost _ _ _ _ _ _ ⟨Cond.after_iff.mpr rfl, Cond.after_iff.mpr (eq_i res_at (Term.int_eval (1)) rfl), trivial⟩ ⟨hq.1, hq.2.1, hq.2.2.1, (hq.2.2.2.sift fun y hy => Or.inr (N y hy)).mono (by decide) (by decide)⟩⟩
theorem main_1_1 : Claimed_1_1 := comes_1 fun _ _ _ _ _ _ h hF => ⟨h.1, hF⟩
theorem main_1_2 : Claimed_1_2 := comes_1 fun _ _ _ _ _ _ h hF => ⟨h.2.1, hF⟩
end Jvm.Pilot.@@N@@
namespace Jvm.Pilot.@@N@@
open Jvm Jvm.ClassFile Sem Op Lib Jvm.Free Jvm.Stand Jvm.Pilot.@@N@@.Jvm.D
/-! MADE BY PROGRAM (witnessworld.py) out of the Statement's table words and the real class files: 22 classes; the members and pool entries that the words name. The judged class is class 1, her method 1. -/
namespace start1
open Jvm.ClassFile
def u (s : String) : CpInfo := .utf8 (stringToUtf16 s)
/-- a pool by its gaps: so many unusable entries, then the entry; so many at the end -/
def gap : Nat → List CpInfo → List CpInfo
  | 0, r => r
  | n + 1, r => .unusable :: gap n r
def poolList (es : List (Nat × CpInfo)) (last : Nat) : List CpInfo := es.foldr (fun e r => gap e.1 (e.2 :: r)) (gap last [])
def pool (es : List (Nat × CpInfo)) (last : Nat) : Array CpInfo := ⟨poolList es last⟩
def fileOf (pool : Array CpInfo) (this : Nat) (attrs : Array Attribute := #[]) (ms : Array MethodInfo := #[]) (fl : Nat := 33) (sup : Nat := 0) (ifs : Array Nat := #[]) (fds : Array FieldInfo := #[]) : ClassFile where
  minorVersion := 0
  majorVersion := 65
  constantPool := pool
  accessFlags := fl
  thisClass := this
  superClass := sup
  interfaces := ifs
  fields := fds
  methods := ms
  attributes := attrs
def plain (name : String) (sup : Option ClassId) : Class where
  name := name
  kind := .ordinary
  loader := none
  accessFlags := 33
  super := sup
  interfaces := #[]
  cf := none
  fields := #[]
  methods := #[]
  instanceTypes := #[]
  staticTypes := #[]
  resolved := #[]
  callSites := []
  init := .initialized
  statics := none
  mirror := none

def pool0 : Array CpInfo := pool [(5, u "<init>"), (0, u "()V"), (1, .class_ 10), (1, u "java/lang/Object")] 113

def k0c0 : Code := { maxStack := 0, maxLocals := 1, code := object_method_1_code, exceptionTable := #[], attributes := #[] }
def k0m0 : Method := { name := "<init>", desc := "()V", sig := { parameters := [], returnType := none }, accessFlags := 1, code := some k0c0 }
/-- java/lang/Object -/
def k0 : Class := { plain "java/lang/Object" none with
  accessFlags := 33
  interfaces := #[]
  cf := some (fileOf pool0 8 #[] #[{ accessFlags := 1, nameIndex := 5, descriptorIndex := 6, attributes := #[] }] 33 0 #[] #[])
  fields := #[]
  methods := #[k0m0]
  instanceTypes := #[]
  staticTypes := #[]
  resolved := Array.replicate 124 none
  statics := none }

def pool1 : Array CpInfo := pool [(2, .class_ 4), (1, u "java/lang/Object"), (0, u "<init>"), (0, u "()V"), (0, .methodref 8 9), (0, .class_ 10), (0, .nameAndType 11 12), (0, u "java/lang/Math"), (0, u "min"), (0, u "(II)I"), (0, .methodref 14 15), (0, .class_ 16), (0, .nameAndType 17 18), (0, u "com/example/haku/haku/index/UnitPathsAddPinLaw"), (0, u "ch"), (0, u "(JI)C"), (0, .integer 2147483647), (0, .methodref 14 21), (0, .nameAndType 22 23), (0, u "next"), (0, u "([CI[C)[C"), (0, .methodref 14 25), (0, .nameAndType 26 27), (0, u "rest"), (0, u "(I[C)Ljava/lang/String;"), (0, .class_ 29), (0, u "com/example/haku/haku/index/UnitPaths"), (0, .methodref 28 31), (0, .nameAndType 5 32), (0, u "(I)V"), (0, .methodref 28 34), (0, .nameAndType 35 36), (0, u "add"), (0, u "(ILjava/lang/String;)V"), (0, .methodref 28 38), (0, .nameAndType 39 40), (0, u "get"), (0, u "(I)Ljava/lang/String;"), (0, .methodref 14 42), (0, .nameAndType 43 44), (0, u "same"), (0, u "(Ljava/lang/String;[CI)Z"), (0, .long 255), (1, .class_ 48), (0, u "java/lang/String"), (0, .methodref 47 50), (0, .nameAndType 5 51), (0, u "([C)V"), (0, .methodref 14 53), (0, .nameAndType 54 55), (0, u "at"), (0, u "([CI[CI)C"), (0, .methodref 47 57), (0, .nameAndType 58 59), (0, u "length"), (0, u "()I"), (0, .methodref 47 61), (0, .nameAndType 62 63), (0, u "charAt"), (0, u "(I)C"), (2, u "law"), (0, u "(JIIII)Z")] 5

def k1m0 : Method := { name := "<init>", desc := "()V", sig := { parameters := [], returnType := none }, accessFlags := 1, code := none }
def k1c1 : Code := { maxStack := 6, maxLocals := 30, code := code, exceptionTable := #[], attributes := #[] }
def k1m1 : Method := { name := "law", desc := "(JIIII)Z", sig := { parameters := [.long, .int, .int, .int, .int], returnType := some .boolean }, accessFlags := 9, code := some k1c1 }
def k1c2 : Code := { maxStack := 4, maxLocals := 3, code := method_3_code, exceptionTable := #[], attributes := #[] }
def k1m2 : Method := { name := "ch", desc := "(JI)C", sig := { parameters := [.long, .int], returnType := some .char }, accessFlags := 10, code := some k1c2 }
def k1c3 : Code := { maxStack := 7, maxLocals := 2, code := method_4_code, exceptionTable := #[], attributes := #[] }
def k1m3 : Method := { name := "rest", desc := "(I[C)Ljava/lang/String;", sig := { parameters := [.int, (.array .char)], returnType := some (.object "java/lang/String") }, accessFlags := 10, code := some k1c3 }
def k1c4 : Code := { maxStack := 2, maxLocals := 5, code := method_5_code, exceptionTable := #[], attributes := #[] }
def k1m4 : Method := { name := "at", desc := "([CI[CI)C", sig := { parameters := [(.array .char), .int, (.array .char), .int], returnType := some .char }, accessFlags := 10, code := some k1c4 }
def k1c5 : Code := { maxStack := 7, maxLocals := 3, code := method_6_code, exceptionTable := #[], attributes := #[] }
def k1m5 : Method := { name := "next", desc := "([CI[C)[C", sig := { parameters := [(.array .char), .int, (.array .char)], returnType := some (.array .char) }, accessFlags := 10, code := some k1c5 }
def k1c6 : Code := { maxStack := 3, maxLocals := 3, code := method_7_code, exceptionTable := #[], attributes := #[] }
def k1m6 : Method := { name := "same", desc := "(Ljava/lang/String;[CI)Z", sig := { parameters := [(.object "java/lang/String"), (.array .char), .int], returnType := some .boolean }, accessFlags := 10, code := some k1c6 }
/-- com/example/haku/haku/index/UnitPathsAddPinLaw -/
def k1 : Class := { plain "com/example/haku/haku/index/UnitPathsAddPinLaw" (some 0) with
  accessFlags := 49
  interfaces := #[]
  cf := some (fileOf pool1 14 #[] #[{ accessFlags := 1, nameIndex := 5, descriptorIndex := 6, attributes := #[] }, { accessFlags := 9, nameIndex := 66, descriptorIndex := 67, attributes := #[] }, { accessFlags := 10, nameIndex := 17, descriptorIndex := 18, attributes := #[] }, { accessFlags := 10, nameIndex := 26, descriptorIndex := 27, attributes := #[] }, { accessFlags := 10, nameIndex := 54, descriptorIndex := 55, attributes := #[] }, { accessFlags := 10, nameIndex := 22, descriptorIndex := 23, attributes := #[] }, { accessFlags := 10, nameIndex := 43, descriptorIndex := 44, attributes := #[] }] 49 2 #[] #[])
  fields := #[]
  methods := #[k1m0, k1m1, k1m2, k1m3, k1m4, k1m5, k1m6]
  instanceTypes := #[]
  staticTypes := #[]
  resolved := Array.replicate 73 none
  statics := none }

def pool2 : Array CpInfo := pool [(1, .class_ 2), (0, u "java/lang/Math"), (1, .class_ 6), (1, u "java/lang/Object"), (0, u "<init>"), (0, u "()V"), (89, .class_ 100), (1, u "java/lang/Math$RandomNumberGeneratorHolder"), (71, u "negativeZeroFloatBits"), (0, u "J"), (2, u "negativeZeroDoubleBits"), (24, u "min"), (43, u "$assertionsDisabled"), (0, u "Z"), (88, u "(II)I"), (2, u "twoToTheDoubleScaleDown"), (0, u "D"), (4, u "twoToTheDoubleScaleUp"), (9, u "E"), (3, u "PI"), (2, u "TAU"), (2, u "DEGREES_TO_RADIANS"), (0, u "RADIANS_TO_DEGREES")] 94

def k2m0 : Method := { name := "<init>", desc := "()V", sig := { parameters := [], returnType := none }, accessFlags := 2, code := none }
def k2c1 : Code := { maxStack := 2, maxLocals := 2, code := jdk_29_method_69_code, exceptionTable := #[], attributes := #[] }
def k2m1 : Method := { name := "min", desc := "(II)I", sig := { parameters := [.int, .int], returnType := some .int }, accessFlags := 9, code := some k2c1 }
/-- java/lang/Math -/
def k2 : Class := { plain "java/lang/Math" (some 0) with
  accessFlags := 49
  interfaces := #[]
  cf := some (fileOf pool2 1 #[.nestMembers #[98]] #[{ accessFlags := 2, nameIndex := 7, descriptorIndex := 8, attributes := #[] }, { accessFlags := 9, nameIndex := 201, descriptorIndex := 335, attributes := #[] }] 49 4 #[] #[{ accessFlags := 25, nameIndex := 354, descriptorIndex := 339, attributes := #[] }, { accessFlags := 25, nameIndex := 358, descriptorIndex := 339, attributes := #[] }, { accessFlags := 25, nameIndex := 361, descriptorIndex := 339, attributes := #[] }, { accessFlags := 26, nameIndex := 364, descriptorIndex := 339, attributes := #[] }, { accessFlags := 26, nameIndex := 365, descriptorIndex := 339, attributes := #[] }, { accessFlags := 26, nameIndex := 172, descriptorIndex := 173, attributes := #[] }, { accessFlags := 26, nameIndex := 176, descriptorIndex := 173, attributes := #[] }, { accessFlags := 8, nameIndex := 344, descriptorIndex := 339, attributes := #[] }, { accessFlags := 8, nameIndex := 338, descriptorIndex := 339, attributes := #[] }, { accessFlags := 4120, nameIndex := 245, descriptorIndex := 246, attributes := #[] }])
  fields := #[{ name := "E", type := .double, accessFlags := 25, slot := 0, constantValue := 0 }, { name := "PI", type := .double, accessFlags := 25, slot := 1, constantValue := 0 }, { name := "TAU", type := .double, accessFlags := 25, slot := 2, constantValue := 0 }, { name := "DEGREES_TO_RADIANS", type := .double, accessFlags := 26, slot := 3, constantValue := 0 }, { name := "RADIANS_TO_DEGREES", type := .double, accessFlags := 26, slot := 4, constantValue := 0 }, { name := "negativeZeroFloatBits", type := .long, accessFlags := 26, slot := 5, constantValue := 0 }, { name := "negativeZeroDoubleBits", type := .long, accessFlags := 26, slot := 6, constantValue := 0 }, { name := "twoToTheDoubleScaleUp", type := .double, accessFlags := 8, slot := 7, constantValue := 0 }, { name := "twoToTheDoubleScaleDown", type := .double, accessFlags := 8, slot := 8, constantValue := 0 }, { name := "$assertionsDisabled", type := .boolean, accessFlags := 4120, slot := 9, constantValue := 0 }]
  methods := #[k2m0, k2m1]
  instanceTypes := #[]
  staticTypes := #[.double, .double, .double, .double, .double, .long, .long, .double, .double, .boolean]
  resolved := Array.replicate 460 none
  statics := none }

def pool3 : Array CpInfo := pool [(1, .class_ 2), (0, u "java/io/Serializable"), (0, .class_ 4), (0, u "java/lang/Object")] 2

/-- java/io/Serializable -/
def k3 : Class := { plain "java/io/Serializable" (some 0) with
  accessFlags := 1537
  interfaces := #[]
  cf := some (fileOf pool3 1 #[] #[] 1537 3 #[] #[])
  fields := #[]
  methods := #[]
  instanceTypes := #[]
  staticTypes := #[]
  resolved := Array.replicate 7 none
  statics := none }

def pool4 : Array CpInfo := pool [(1, .class_ 2), (0, u "java/lang/Comparable"), (0, .class_ 4), (0, u "java/lang/Object")] 7

/-- java/lang/Comparable -/
def k4 : Class := { plain "java/lang/Comparable" (some 0) with
  accessFlags := 1537
  interfaces := #[]
  cf := some (fileOf pool4 1 #[] #[] 1537 3 #[] #[])
  fields := #[]
  methods := #[]
  instanceTypes := #[]
  staticTypes := #[]
  resolved := Array.replicate 12 none
  statics := none }

def pool5 : Array CpInfo := pool [(2, .class_ 4), (1, u "java/lang/CharSequence"), (42, .class_ 48), (0, u "java/lang/CharSequence$1CodePointIterator"), (10, .class_ 60), (0, u "java/lang/CharSequence$1CharIterator"), (5, .class_ 67), (0, u "java/lang/Object")] 63

/-- java/lang/CharSequence -/
def k5 : Class := { plain "java/lang/CharSequence" (some 0) with
  accessFlags := 1537
  interfaces := #[]
  cf := some (fileOf pool5 2 #[.nestMembers #[47, 59]] #[] 1537 66 #[] #[])
  fields := #[]
  methods := #[]
  instanceTypes := #[]
  staticTypes := #[]
  resolved := Array.replicate 131 none
  statics := none }

def pool6 : Array CpInfo := pool [(1, .class_ 2), (0, u "java/lang/constant/Constable"), (0, .class_ 4), (0, u "java/lang/Object")] 6

/-- java/lang/constant/Constable -/
def k6 : Class := { plain "java/lang/constant/Constable" (some 0) with
  accessFlags := 1537
  interfaces := #[]
  cf := some (fileOf pool6 1 #[] #[] 1537 3 #[] #[])
  fields := #[]
  methods := #[]
  instanceTypes := #[]
  staticTypes := #[]
  resolved := Array.replicate 11 none
  statics := none }

def pool7 : Array CpInfo := pool [(1, .class_ 2), (0, u "java/lang/constant/ConstantDesc"), (0, .class_ 4), (0, u "java/lang/Object")] 32

/-- java/lang/constant/ConstantDesc -/
def k7 : Class := { plain "java/lang/constant/ConstantDesc" (some 0) with
  accessFlags := 1537
  interfaces := #[]
  cf := some (fileOf pool7 1 #[] #[] 1537 3 #[] #[])
  fields := #[]
  methods := #[]
  instanceTypes := #[]
  staticTypes := #[]
  resolved := Array.replicate 37 none
  statics := none }

def pool8 : Array CpInfo := pool [(1, .methodref 2 3), (0, .class_ 4), (0, .nameAndType 5 6), (0, u "java/lang/Object"), (0, u "<init>"), (0, u "()V"), (0, .string 8), (0, u ""), (0, .fieldref 10 11), (0, .class_ 12), (0, .nameAndType 13 14), (0, u "java/lang/String"), (0, u "value"), (0, u "[B"), (0, .fieldref 10 16), (0, .nameAndType 17 18), (0, u "coder"), (0, u "B"), (2, u "hash"), (0, u "I"), (2, u "hashIsZero"), (0, u "Z"), (0, .methodref 10 28), (0, .nameAndType 5 29), (0, u "([CIILjava/lang/Void;)V"), (4, .methodref 10 35), (0, .nameAndType 36 37), (0, u "checkBoundsOffCount"), (0, u "(III)I"), (0, .fieldref 10 39), (0, .nameAndType 40 26), (0, u "COMPACT_STRINGS"), (1, .class_ 44), (1, u "java/lang/StringUTF16"), (0, u "compress"), (1, .methodref 42 48), (0, .nameAndType 49 50), (0, u "coderFromArrayLen"), (0, u "([BI)B"), (56, .class_ 109), (1, u "java/lang/StringLatin1"), (32, u "()Z"), (34, .methodref 42 178), (0, .nameAndType 45 179), (0, u "([CII)[B"), (154, u "()I"), (0, .methodref 10 336), (0, .nameAndType 17 337), (0, u "()B"), (25, u "([BI)C"), (27, u "(II)V"), (35, u "(I)C"), (64, .methodref 10 493), (0, .nameAndType 494 142), (0, u "isLatin1"), (0, .methodref 107 496), (0, .nameAndType 497 363), (0, u "charAt"), (3, u "checkIndex"), (3, .methodref 10 506), (0, .nameAndType 507 334), (0, u "length"), (5, u "checkFromToIndex"), (7, .methodref 10 522), (0, .nameAndType 523 524), (0, u "checkBoundsBeginEnd"), (0, u "(III)V"), (0, .methodref 107 526), (0, .nameAndType 527 528), (0, u "getChars"), (0, u "([BII[CI)V"), (46, .class_ 576), (0, u "java/lang/CharSequence"), (22, u "CASE_INSENSITIVE_ORDER"), (0, u "Ljava/util/Comparator;"), (409, u "([C)V"), (42, .fieldref 1054 1055), (0, .class_ 1056), (0, .nameAndType 1057 1058), (0, u "jdk/internal/util/Preconditions"), (0, u "SIOOBE_FORMATTER"), (0, u "Ljava/util/function/BiFunction;"), (0, .methodref 1054 1060), (0, .nameAndType 501 1061), (0, u "(IILjava/util/function/BiFunction;)I"), (0, .methodref 1054 1063), (0, .nameAndType 513 1064), (0, u "(IIILjava/util/function/BiFunction;)I"), (0, .methodref 1054 1066), (0, .nameAndType 1067 1064), (0, u "checkFromIndexSize"), (33, u "serialPersistentFields"), (0, u "[Ljava/io/ObjectStreamField;"), (0, .class_ 1104), (0, u "java/lang/String$CaseInsensitiveComparator"), (1, .class_ 1107), (0, u "java/io/Serializable"), (0, .class_ 1109), (0, u "java/lang/Comparable"), (0, .class_ 1111), (0, u "java/lang/constant/Constable"), (0, .class_ 1113), (0, u "java/lang/constant/ConstantDesc"), (2, u "serialVersionUID"), (0, u "J"), (3, u "REPL"), (0, u "C"), (2, u "LATIN1"), (1, u "UTF16"), (112, u "(II[CI)V")] 210

def k8m0 : Method := { name := "<init>", desc := "()V", sig := { parameters := [], returnType := none }, accessFlags := 1, code := none }
def k8c1 : Code := { maxStack := 5, maxLocals := 2, code := jdk_42_method_3_code, exceptionTable := #[], attributes := #[] }
def k8m1 : Method := { name := "<init>", desc := "([C)V", sig := { parameters := [(.array .char)], returnType := none }, accessFlags := 1, code := some k8c1 }
def k8c2 : Code := { maxStack := 2, maxLocals := 1, code := jdk_42_method_54_code, exceptionTable := #[], attributes := #[] }
def k8m2 : Method := { name := "length", desc := "()I", sig := { parameters := [], returnType := some .int }, accessFlags := 1, code := some k8c2 }
def k8c3 : Code := { maxStack := 2, maxLocals := 2, code := jdk_42_method_56_code, exceptionTable := #[], attributes := #[] }
def k8m3 : Method := { name := "charAt", desc := "(I)C", sig := { parameters := [.int], returnType := some .char }, accessFlags := 1, code := some k8c3 }
def k8c4 : Code := { maxStack := 5, maxLocals := 5, code := jdk_42_method_61_code, exceptionTable := #[], attributes := #[] }
def k8m4 : Method := { name := "getChars", desc := "(II[CI)V", sig := { parameters := [.int, .int, (.array .char), .int], returnType := none }, accessFlags := 1, code := some k8c4 }
def k8c5 : Code := { maxStack := 4, maxLocals := 6, code := jdk_42_method_149_code, exceptionTable := #[], attributes := #[] }
def k8m5 : Method := { name := "<init>", desc := "([CIILjava/lang/Void;)V", sig := { parameters := [(.array .char), .int, .int, (.object "java/lang/Void")], returnType := none }, accessFlags := 2, code := some k8c5 }
def k8c6 : Code := { maxStack := 1, maxLocals := 1, code := jdk_42_method_152_code, exceptionTable := #[], attributes := #[] }
def k8m6 : Method := { name := "coder", desc := "()B", sig := { parameters := [], returnType := some .byte }, accessFlags := 0, code := some k8c6 }
def k8c7 : Code := { maxStack := 1, maxLocals := 1, code := jdk_42_method_154_code, exceptionTable := #[], attributes := #[] }
def k8m7 : Method := { name := "isLatin1", desc := "()Z", sig := { parameters := [], returnType := some .boolean }, accessFlags := 0, code := some k8c7 }
def k8c8 : Code := { maxStack := 3, maxLocals := 2, code := jdk_42_method_155_code, exceptionTable := #[], attributes := #[] }
def k8m8 : Method := { name := "checkIndex", desc := "(II)V", sig := { parameters := [.int, .int], returnType := none }, accessFlags := 8, code := some k8c8 }
def k8c9 : Code := { maxStack := 4, maxLocals := 3, code := jdk_42_method_157_code, exceptionTable := #[], attributes := #[] }
def k8m9 : Method := { name := "checkBoundsOffCount", desc := "(III)I", sig := { parameters := [.int, .int, .int], returnType := some .int }, accessFlags := 8, code := some k8c9 }
def k8c10 : Code := { maxStack := 4, maxLocals := 3, code := jdk_42_method_158_code, exceptionTable := #[], attributes := #[] }
def k8m10 : Method := { name := "checkBoundsBeginEnd", desc := "(III)V", sig := { parameters := [.int, .int, .int], returnType := none }, accessFlags := 8, code := some k8c10 }
/-- java/lang/String -/
def k8 : Class := { plain "java/lang/String" (some 0) with
  accessFlags := 49
  interfaces := #[3, 4, 5, 6, 7]
  cf := some (fileOf pool8 10 #[.nestMembers #[1103]] #[{ accessFlags := 1, nameIndex := 5, descriptorIndex := 6, attributes := #[] }, { accessFlags := 1, nameIndex := 5, descriptorIndex := 1010, attributes := #[] }, { accessFlags := 1, nameIndex := 507, descriptorIndex := 334, attributes := #[] }, { accessFlags := 1, nameIndex := 497, descriptorIndex := 427, attributes := #[] }, { accessFlags := 1, nameIndex := 527, descriptorIndex := 1240, attributes := #[] }, { accessFlags := 2, nameIndex := 5, descriptorIndex := 29, attributes := #[] }, { accessFlags := 0, nameIndex := 17, descriptorIndex := 337, attributes := #[] }, { accessFlags := 0, nameIndex := 494, descriptorIndex := 142, attributes := #[] }, { accessFlags := 8, nameIndex := 501, descriptorIndex := 391, attributes := #[] }, { accessFlags := 8, nameIndex := 36, descriptorIndex := 37, attributes := #[] }, { accessFlags := 8, nameIndex := 523, descriptorIndex := 524, attributes := #[] }] 49 2 #[1106, 1108, 575, 1110, 1112] #[{ accessFlags := 18, nameIndex := 13, descriptorIndex := 14, attributes := #[] }, { accessFlags := 18, nameIndex := 17, descriptorIndex := 18, attributes := #[] }, { accessFlags := 2, nameIndex := 21, descriptorIndex := 22, attributes := #[] }, { accessFlags := 2, nameIndex := 25, descriptorIndex := 26, attributes := #[] }, { accessFlags := 26, nameIndex := 1116, descriptorIndex := 1117, attributes := #[] }, { accessFlags := 24, nameIndex := 40, descriptorIndex := 26, attributes := #[] }, { accessFlags := 26, nameIndex := 1101, descriptorIndex := 1102, attributes := #[] }, { accessFlags := 26, nameIndex := 1121, descriptorIndex := 1122, attributes := #[] }, { accessFlags := 25, nameIndex := 599, descriptorIndex := 600, attributes := #[] }, { accessFlags := 24, nameIndex := 1125, descriptorIndex := 18, attributes := #[] }, { accessFlags := 24, nameIndex := 1127, descriptorIndex := 18, attributes := #[] }])
  fields := #[{ name := "value", type := (.array .byte), accessFlags := 18, slot := 0, constantValue := 0 }, { name := "coder", type := .byte, accessFlags := 18, slot := 1, constantValue := 0 }, { name := "hash", type := .int, accessFlags := 2, slot := 2, constantValue := 0 }, { name := "hashIsZero", type := .boolean, accessFlags := 2, slot := 3, constantValue := 0 }, { name := "serialVersionUID", type := .long, accessFlags := 26, slot := 0, constantValue := 0 }, { name := "COMPACT_STRINGS", type := .boolean, accessFlags := 24, slot := 1, constantValue := 0 }, { name := "serialPersistentFields", type := (.array (.object "java/io/ObjectStreamField")), accessFlags := 26, slot := 2, constantValue := 0 }, { name := "REPL", type := .char, accessFlags := 26, slot := 3, constantValue := 0 }, { name := "CASE_INSENSITIVE_ORDER", type := (.object "java/util/Comparator"), accessFlags := 25, slot := 4, constantValue := 0 }, { name := "LATIN1", type := .byte, accessFlags := 24, slot := 5, constantValue := 0 }, { name := "UTF16", type := .byte, accessFlags := 24, slot := 6, constantValue := 0 }]
  methods := #[k8m0, k8m1, k8m2, k8m3, k8m4, k8m5, k8m6, k8m7, k8m8, k8m9, k8m10]
  instanceTypes := #[(.array .byte), .byte, .int, .boolean]
  staticTypes := #[.long, .boolean, (.array (.object "java/io/ObjectStreamField")), .char, (.object "java/util/Comparator"), .byte, .byte]
  resolved := Array.replicate 1451 none
  statics := some 0 }

def pool9 : Array CpInfo := pool [(6, .class_ 8), (1, u "java/lang/Object"), (0, u "<init>"), (0, u "()V"), (1, .class_ 14), (1, u "java/lang/StringUTF16"), (31, u "$assertionsDisabled"), (0, u "Z"), (13, u "HI_BYTE_SHIFT"), (0, u "I"), (2, u "LO_BYTE_SHIFT"), (49, .methodref 12 116), (0, .nameAndType 117 118), (0, u "compress"), (0, u "([CI[BII)I"), (3, u "([CII)[B"), (138, u "coderFromArrayLen"), (0, u "([BI)B"), (106, .class_ 371), (1, u "java/lang/StringUTF16$LinesSpliterator"), (58, u "MAX_LENGTH"), (196, .class_ 628), (0, u "java/lang/StringUTF16$CodePointsSpliterator"), (0, .class_ 630), (0, u "java/lang/StringUTF16$CharsSpliterator")] 4

def k9m0 : Method := { name := "<init>", desc := "()V", sig := { parameters := [], returnType := none }, accessFlags := 0, code := none }
def k9c1 : Code := { maxStack := 2, maxLocals := 2, code := jdk_52_method_15_code, exceptionTable := #[], attributes := #[] }
def k9m1 : Method := { name := "coderFromArrayLen", desc := "([BI)B", sig := { parameters := [(.array .byte), .int], returnType := some .byte }, accessFlags := 8, code := some k9c1 }
def k9c2 : Code := { maxStack := 5, maxLocals := 6, code := jdk_52_method_16_code, exceptionTable := #[], attributes := #[] }
def k9m2 : Method := { name := "compress", desc := "([CII)[B", sig := { parameters := [(.array .char), .int, .int], returnType := some (.array .byte) }, accessFlags := 9, code := some k9c2 }
def k9c3 : Code := { maxStack := 3, maxLocals := 7, code := jdk_52_method_21_code, exceptionTable := #[], attributes := #[] }
def k9m3 : Method := { name := "compress", desc := "([CI[BII)I", sig := { parameters := [(.array .char), .int, (.array .byte), .int, .int], returnType := some .int }, accessFlags := 9, code := some k9c3 }
/-- java/lang/StringUTF16 -/
def k9 : Class := { plain "java/lang/StringUTF16" (some 0) with
  accessFlags := 48
  interfaces := #[]
  cf := some (fileOf pool9 12 #[.nestMembers #[627, 629, 369]] #[{ accessFlags := 0, nameIndex := 9, descriptorIndex := 10, attributes := #[] }, { accessFlags := 8, nameIndex := 261, descriptorIndex := 262, attributes := #[] }, { accessFlags := 9, nameIndex := 117, descriptorIndex := 122, attributes := #[] }, { accessFlags := 9, nameIndex := 117, descriptorIndex := 118, attributes := #[] }] 48 6 #[] #[{ accessFlags := 26, nameIndex := 61, descriptorIndex := 62, attributes := #[] }, { accessFlags := 26, nameIndex := 65, descriptorIndex := 62, attributes := #[] }, { accessFlags := 24, nameIndex := 430, descriptorIndex := 62, attributes := #[] }, { accessFlags := 4120, nameIndex := 46, descriptorIndex := 47, attributes := #[] }])
  fields := #[{ name := "HI_BYTE_SHIFT", type := .int, accessFlags := 26, slot := 0, constantValue := 0 }, { name := "LO_BYTE_SHIFT", type := .int, accessFlags := 26, slot := 1, constantValue := 0 }, { name := "MAX_LENGTH", type := .int, accessFlags := 24, slot := 2, constantValue := 0 }, { name := "$assertionsDisabled", type := .boolean, accessFlags := 4120, slot := 3, constantValue := 0 }]
  methods := #[k9m0, k9m1, k9m2, k9m3]
  instanceTypes := #[]
  staticTypes := #[.int, .int, .int, .boolean]
  resolved := Array.replicate 635 none
  statics := none }

def pool10 : Array CpInfo := pool [(1, .methodref 2 3), (0, .class_ 4), (0, .nameAndType 5 6), (0, u "java/lang/Object"), (0, u "<init>"), (0, u "()V"), (0, .fieldref 8 9), (0, .class_ 10), (0, .nameAndType 11 12), (0, u "com/example/haku/haku/index/UnitPaths"), (0, u "shared"), (0, u "[I"), (0, .class_ 14), (0, u "java/lang/String"), (0, .fieldref 8 16), (0, .nameAndType 17 18), (0, u "rests"), (0, u "[Ljava/lang/String;"), (0, .fieldref 8 20), (0, .nameAndType 21 12), (0, u "holders"), (0, .fieldref 8 23), (0, .nameAndType 24 25), (0, u "size"), (0, u "I"), (0, .methodref 13 27), (0, .nameAndType 28 29), (0, u "length"), (0, u "()I"), (0, .methodref 13 31), (0, .nameAndType 32 33), (0, u "getChars"), (0, u "(II[CI)V"), (0, .methodref 13 35), (0, .nameAndType 5 36), (0, u "([C)V"), (0, u "(I)V"), (2, u "add"), (0, u "(ILjava/lang/String;)V"), (1, u "get"), (0, u "(I)Ljava/lang/String;")] 4

def k10c0 : Code := { maxStack := 2, maxLocals := 2, code := prog_85_method_1_code, exceptionTable := #[], attributes := #[] }
def k10m0 : Method := { name := "<init>", desc := "(I)V", sig := { parameters := [.int], returnType := none }, accessFlags := 0, code := some k10c0 }
def k10c1 : Code := { maxStack := 3, maxLocals := 4, code := prog_85_method_2_code, exceptionTable := #[], attributes := #[] }
def k10m1 : Method := { name := "add", desc := "(ILjava/lang/String;)V", sig := { parameters := [.int, (.object "java/lang/String")], returnType := none }, accessFlags := 0, code := some k10c1 }
def k10c2 : Code := { maxStack := 6, maxLocals := 5, code := prog_85_method_3_code, exceptionTable := #[], attributes := #[] }
def k10m2 : Method := { name := "get", desc := "(I)Ljava/lang/String;", sig := { parameters := [.int], returnType := some (.object "java/lang/String") }, accessFlags := 0, code := some k10c2 }
/-- com/example/haku/haku/index/UnitPaths -/
def k10 : Class := { plain "com/example/haku/haku/index/UnitPaths" (some 0) with
  accessFlags := 32
  interfaces := #[]
  cf := some (fileOf pool10 8 #[] #[{ accessFlags := 0, nameIndex := 5, descriptorIndex := 37, attributes := #[] }, { accessFlags := 0, nameIndex := 40, descriptorIndex := 41, attributes := #[] }, { accessFlags := 0, nameIndex := 43, descriptorIndex := 44, attributes := #[] }] 32 2 #[] #[{ accessFlags := 18, nameIndex := 11, descriptorIndex := 12, attributes := #[] }, { accessFlags := 18, nameIndex := 17, descriptorIndex := 18, attributes := #[] }, { accessFlags := 18, nameIndex := 21, descriptorIndex := 12, attributes := #[] }, { accessFlags := 2, nameIndex := 24, descriptorIndex := 25, attributes := #[] }])
  fields := #[{ name := "shared", type := (.array .int), accessFlags := 18, slot := 0, constantValue := 0 }, { name := "rests", type := (.array (.object "java/lang/String")), accessFlags := 18, slot := 1, constantValue := 0 }, { name := "holders", type := (.array .int), accessFlags := 18, slot := 2, constantValue := 0 }, { name := "size", type := .int, accessFlags := 2, slot := 3, constantValue := 0 }]
  methods := #[k10m0, k10m1, k10m2]
  instanceTypes := #[(.array .int), (.array (.object "java/lang/String")), (.array .int), .int]
  staticTypes := #[]
  resolved := Array.replicate 49 none
  statics := none }

def pool11 : Array CpInfo := pool [(2, .class_ 4), (1, u "java/lang/Object"), (0, u "<init>"), (0, u "()V"), (17, .class_ 26), (1, u "jdk/internal/util/Preconditions"), (6, u "checkIndex"), (13, u "checkFromToIndex"), (1, u "checkFromIndexSize"), (5, .class_ 56), (0, u "jdk/internal/util/Preconditions$4"), (57, .class_ 115), (0, u "jdk/internal/util/Preconditions$1"), (7, u "SIOOBE_FORMATTER"), (0, u "Ljava/util/function/BiFunction;"), (0, .class_ 126), (0, u "jdk/internal/util/Preconditions$2"), (3, u "AIOOBE_FORMATTER"), (0, .class_ 132), (0, u "jdk/internal/util/Preconditions$3"), (3, u "IOOBE_FORMATTER"), (41, u "(IILjava/util/function/BiFunction;)I"), (4, u "(IIILjava/util/function/BiFunction;)I")] 10

def k11m0 : Method := { name := "<init>", desc := "()V", sig := { parameters := [], returnType := none }, accessFlags := 1, code := none }
def k11c1 : Code := { maxStack := 3, maxLocals := 3, code := jdk_41_method_11_code, exceptionTable := #[], attributes := #[] }
def k11m1 : Method := { name := "checkIndex", desc := "(IILjava/util/function/BiFunction;)I", sig := { parameters := [.int, .int, (.object "java/util/function/BiFunction")], returnType := some .int }, accessFlags := 9, code := some k11c1 }
def k11c2 : Code := { maxStack := 4, maxLocals := 4, code := jdk_41_method_12_code, exceptionTable := #[], attributes := #[] }
def k11m2 : Method := { name := "checkFromToIndex", desc := "(IIILjava/util/function/BiFunction;)I", sig := { parameters := [.int, .int, .int, (.object "java/util/function/BiFunction")], returnType := some .int }, accessFlags := 9, code := some k11c2 }
def k11c3 : Code := { maxStack := 4, maxLocals := 4, code := jdk_41_method_13_code, exceptionTable := #[], attributes := #[] }
def k11m3 : Method := { name := "checkFromIndexSize", desc := "(IIILjava/util/function/BiFunction;)I", sig := { parameters := [.int, .int, .int, (.object "java/util/function/BiFunction")], returnType := some .int }, accessFlags := 9, code := some k11c3 }
/-- jdk/internal/util/Preconditions -/
def k11 : Class := { plain "jdk/internal/util/Preconditions" (some 0) with
  accessFlags := 33
  interfaces := #[]
  cf := some (fileOf pool11 24 #[.nestMembers #[55, 131, 125, 114]] #[{ accessFlags := 1, nameIndex := 5, descriptorIndex := 6, attributes := #[] }, { accessFlags := 9, nameIndex := 33, descriptorIndex := 178, attributes := #[] }, { accessFlags := 9, nameIndex := 47, descriptorIndex := 183, attributes := #[] }, { accessFlags := 9, nameIndex := 49, descriptorIndex := 183, attributes := #[] }] 33 2 #[] #[{ accessFlags := 25, nameIndex := 123, descriptorIndex := 124, attributes := #[] }, { accessFlags := 25, nameIndex := 130, descriptorIndex := 124, attributes := #[] }, { accessFlags := 25, nameIndex := 136, descriptorIndex := 124, attributes := #[] }])
  fields := #[{ name := "SIOOBE_FORMATTER", type := (.object "java/util/function/BiFunction"), accessFlags := 25, slot := 0, constantValue := 0 }, { name := "AIOOBE_FORMATTER", type := (.object "java/util/function/BiFunction"), accessFlags := 25, slot := 1, constantValue := 0 }, { name := "IOOBE_FORMATTER", type := (.object "java/util/function/BiFunction"), accessFlags := 25, slot := 2, constantValue := 0 }]
  methods := #[k11m0, k11m1, k11m2, k11m3]
  instanceTypes := #[]
  staticTypes := #[(.object "java/util/function/BiFunction"), (.object "java/util/function/BiFunction"), (.object "java/util/function/BiFunction")]
  resolved := Array.replicate 194 none
  statics := some 1 }

def pool12 : Array CpInfo := pool [(1, .class_ 2), (0, u "java/lang/String"), (1, .class_ 6), (1, u "java/lang/Object"), (0, u "<init>"), (0, u "()V"), (0, .methodref 1 10), (0, .nameAndType 11 12), (0, u "checkIndex"), (0, u "(II)V"), (0, .methodref 14 15), (0, .class_ 16), (0, .nameAndType 17 18), (0, u "java/lang/StringLatin1"), (0, u "inflate"), (0, u "([BI[CII)V"), (34, u "([BI)C"), (67, u "$assertionsDisabled"), (0, u "Z"), (98, .class_ 223), (1, u "java/lang/StringLatin1$LinesSpliterator"), (28, u "charAt"), (21, u "getChars"), (0, u "([BII[CI)V"), (114, .class_ 391), (0, u "java/lang/StringLatin1$CharsSpliterator")] 3

def k12m0 : Method := { name := "<init>", desc := "()V", sig := { parameters := [], returnType := none }, accessFlags := 0, code := none }
def k12c1 : Code := { maxStack := 2, maxLocals := 2, code := jdk_43_method_2_code, exceptionTable := #[], attributes := #[] }
def k12m1 : Method := { name := "charAt", desc := "([BI)C", sig := { parameters := [(.array .byte), .int], returnType := some .char }, accessFlags := 9, code := some k12c1 }
def k12c2 : Code := { maxStack := 6, maxLocals := 5, code := jdk_43_method_11_code, exceptionTable := #[], attributes := #[] }
def k12m2 : Method := { name := "getChars", desc := "([BII[CI)V", sig := { parameters := [(.array .byte), .int, .int, (.array .char), .int], returnType := none }, accessFlags := 9, code := some k12c2 }
def k12c3 : Code := { maxStack := 4, maxLocals := 6, code := jdk_43_method_49_code, exceptionTable := #[], attributes := #[] }
def k12m3 : Method := { name := "inflate", desc := "([BI[CII)V", sig := { parameters := [(.array .byte), .int, (.array .char), .int, .int], returnType := none }, accessFlags := 9, code := some k12c3 }
/-- java/lang/StringLatin1 -/
def k12 : Class := { plain "java/lang/StringLatin1" (some 0) with
  accessFlags := 48
  interfaces := #[]
  cf := some (fileOf pool12 14 #[.nestMembers #[390, 221]] #[{ accessFlags := 0, nameIndex := 7, descriptorIndex := 8, attributes := #[] }, { accessFlags := 9, nameIndex := 252, descriptorIndex := 53, attributes := #[] }, { accessFlags := 9, nameIndex := 274, descriptorIndex := 275, attributes := #[] }, { accessFlags := 9, nameIndex := 17, descriptorIndex := 18, attributes := #[] }] 48 4 #[] #[{ accessFlags := 4120, nameIndex := 121, descriptorIndex := 122, attributes := #[] }])
  fields := #[{ name := "$assertionsDisabled", type := .boolean, accessFlags := 4120, slot := 0, constantValue := 0 }]
  methods := #[k12m0, k12m1, k12m2, k12m3]
  instanceTypes := #[]
  staticTypes := #[.boolean]
  resolved := Array.replicate 395 none
  statics := none }

def pool13 : Array CpInfo := pool [(9, u "<init>"), (6, .class_ 18), (1, u "java/lang/Object"), (0, u "()V"), (1, .class_ 23), (1, u "jdk/internal/util/ArraysSupport"), (0, u "LOG2_ARRAY_LONG_INDEX_SCALE"), (0, u "I"), (2, u "U"), (0, u "Ljdk/internal/misc/Unsafe;"), (8, u "BIG_ENDIAN"), (0, u "Z"), (8, u "LOG2_BYTE_BIT_SIZE"), (4, u "LOG2_ARRAY_INT_INDEX_SCALE"), (54, u "JLA"), (0, u "Ljdk/internal/access/JavaLangAccess;"), (11, u "LOG2_ARRAY_BOOLEAN_INDEX_SCALE"), (9, u "LOG2_ARRAY_BYTE_INDEX_SCALE"), (5, u "LOG2_ARRAY_CHAR_INDEX_SCALE"), (5, u "LOG2_ARRAY_SHORT_INDEX_SCALE"), (18, u "LOG2_ARRAY_FLOAT_INDEX_SCALE"), (24, u "LOG2_ARRAY_DOUBLE_INDEX_SCALE"), (89, u "T_BOOLEAN"), (2, u "T_CHAR"), (1, u "T_FLOAT"), (1, u "T_DOUBLE"), (1, u "T_BYTE"), (1, u "T_SHORT"), (1, u "T_INT"), (1, u "T_LONG"), (1, u "SOFT_MAX_ARRAY_LENGTH")] 83

def k13m0 : Method := { name := "<init>", desc := "()V", sig := { parameters := [], returnType := none }, accessFlags := 2, code := none }
/-- jdk/internal/util/ArraysSupport -/
def k13 : Class := { plain "jdk/internal/util/ArraysSupport" (some 0) with
  accessFlags := 33
  interfaces := #[]
  cf := some (fileOf pool13 21 #[] #[{ accessFlags := 2, nameIndex := 9, descriptorIndex := 19, attributes := #[] }] 33 16 #[] #[{ accessFlags := 24, nameIndex := 28, descriptorIndex := 29, attributes := #[] }, { accessFlags := 26, nameIndex := 38, descriptorIndex := 39, attributes := #[] }, { accessFlags := 25, nameIndex := 121, descriptorIndex := 25, attributes := #[] }, { accessFlags := 25, nameIndex := 131, descriptorIndex := 25, attributes := #[] }, { accessFlags := 25, nameIndex := 137, descriptorIndex := 25, attributes := #[] }, { accessFlags := 25, nameIndex := 143, descriptorIndex := 25, attributes := #[] }, { accessFlags := 25, nameIndex := 53, descriptorIndex := 25, attributes := #[] }, { accessFlags := 25, nameIndex := 24, descriptorIndex := 25, attributes := #[] }, { accessFlags := 25, nameIndex := 162, descriptorIndex := 25, attributes := #[] }, { accessFlags := 25, nameIndex := 187, descriptorIndex := 25, attributes := #[] }, { accessFlags := 26, nameIndex := 48, descriptorIndex := 25, attributes := #[] }, { accessFlags := 25, nameIndex := 277, descriptorIndex := 25, attributes := #[] }, { accessFlags := 25, nameIndex := 280, descriptorIndex := 25, attributes := #[] }, { accessFlags := 25, nameIndex := 282, descriptorIndex := 25, attributes := #[] }, { accessFlags := 25, nameIndex := 284, descriptorIndex := 25, attributes := #[] }, { accessFlags := 25, nameIndex := 286, descriptorIndex := 25, attributes := #[] }, { accessFlags := 25, nameIndex := 288, descriptorIndex := 25, attributes := #[] }, { accessFlags := 25, nameIndex := 290, descriptorIndex := 25, attributes := #[] }, { accessFlags := 25, nameIndex := 292, descriptorIndex := 25, attributes := #[] }, { accessFlags := 26, nameIndex := 108, descriptorIndex := 109, attributes := #[] }, { accessFlags := 25, nameIndex := 294, descriptorIndex := 25, attributes := #[] }])
  fields := #[{ name := "U", type := (.object "jdk/internal/misc/Unsafe"), accessFlags := 24, slot := 0, constantValue := 0 }, { name := "BIG_ENDIAN", type := .boolean, accessFlags := 26, slot := 1, constantValue := 0 }, { name := "LOG2_ARRAY_BOOLEAN_INDEX_SCALE", type := .int, accessFlags := 25, slot := 2, constantValue := 0 }, { name := "LOG2_ARRAY_BYTE_INDEX_SCALE", type := .int, accessFlags := 25, slot := 3, constantValue := 0 }, { name := "LOG2_ARRAY_CHAR_INDEX_SCALE", type := .int, accessFlags := 25, slot := 4, constantValue := 0 }, { name := "LOG2_ARRAY_SHORT_INDEX_SCALE", type := .int, accessFlags := 25, slot := 5, constantValue := 0 }, { name := "LOG2_ARRAY_INT_INDEX_SCALE", type := .int, accessFlags := 25, slot := 6, constantValue := 0 }, { name := "LOG2_ARRAY_LONG_INDEX_SCALE", type := .int, accessFlags := 25, slot := 7, constantValue := 0 }, { name := "LOG2_ARRAY_FLOAT_INDEX_SCALE", type := .int, accessFlags := 25, slot := 8, constantValue := 0 }, { name := "LOG2_ARRAY_DOUBLE_INDEX_SCALE", type := .int, accessFlags := 25, slot := 9, constantValue := 0 }, { name := "LOG2_BYTE_BIT_SIZE", type := .int, accessFlags := 26, slot := 10, constantValue := 0 }, { name := "T_BOOLEAN", type := .int, accessFlags := 25, slot := 11, constantValue := 0 }, { name := "T_CHAR", type := .int, accessFlags := 25, slot := 12, constantValue := 0 }, { name := "T_FLOAT", type := .int, accessFlags := 25, slot := 13, constantValue := 0 }, { name := "T_DOUBLE", type := .int, accessFlags := 25, slot := 14, constantValue := 0 }, { name := "T_BYTE", type := .int, accessFlags := 25, slot := 15, constantValue := 0 }, { name := "T_SHORT", type := .int, accessFlags := 25, slot := 16, constantValue := 0 }, { name := "T_INT", type := .int, accessFlags := 25, slot := 17, constantValue := 0 }, { name := "T_LONG", type := .int, accessFlags := 25, slot := 18, constantValue := 0 }, { name := "JLA", type := (.object "jdk/internal/access/JavaLangAccess"), accessFlags := 26, slot := 19, constantValue := 0 }, { name := "SOFT_MAX_ARRAY_LENGTH", type := .int, accessFlags := 25, slot := 20, constantValue := 0 }]
  methods := #[k13m0]
  instanceTypes := #[]
  staticTypes := #[(.object "jdk/internal/misc/Unsafe"), .boolean, .int, .int, .int, .int, .int, .int, .int, .int, .int, .int, .int, .int, .int, .int, .int, .int, .int, (.object "jdk/internal/access/JavaLangAccess"), .int]
  resolved := Array.replicate 378 none
  statics := none }

def pool14 : Array CpInfo := pool [(1, u "java/lang/Cloneable"), (0, .class_ 1), (0, u "java/lang/Object"), (0, .class_ 3)] 3

/-- java/lang/Cloneable -/
def k14 : Class := { plain "java/lang/Cloneable" (some 0) with
  accessFlags := 1537
  interfaces := #[]
  cf := some (fileOf pool14 2 #[] #[] 1537 4 #[] #[])
  fields := #[]
  methods := #[]
  instanceTypes := #[]
  staticTypes := #[]
  resolved := Array.replicate 8 none
  statics := none }

/-- the primitive byte -/
def k15 : Class := { plain "byte" none with kind := .primitive 'B', accessFlags := 0x411 }
/-- [B -/
def k16 : Class := { plain "[B" (some 0) with kind := .array 15 .byte, interfaces := #[14, 3], accessFlags := 1041 }

/-- the primitive char -/
def k17 : Class := { plain "char" none with kind := .primitive 'C', accessFlags := 0x411 }
/-- [C -/
def k18 : Class := { plain "[C" (some 0) with kind := .array 17 .char, interfaces := #[14, 3], accessFlags := 1041 }

/-- the primitive int -/
def k19 : Class := { plain "int" none with kind := .primitive 'I', accessFlags := 0x411 }
/-- [I -/
def k20 : Class := { plain "[I" (some 0) with kind := .array 19 .int, interfaces := #[14, 3], accessFlags := 1041 }

/-- [Ljava/lang/String; -/
def k21 : Class := { plain "[Ljava/lang/String;" (some 0) with kind := .array 8 (.object "java/lang/String"), interfaces := #[14, 3], accessFlags := 1041 }

def heap : Heap := #[{ cls := 8, slots := #[.long 0, .int 1, .null, .int 0, .null, .int 0, .int 0], vm := .statics 8 },
  { cls := 11, slots := #[.null, .null, .null], vm := .statics 11 }]
def classes : Array Class := #[k0, k1, k2, k3, k4, k5, k6, k7, k8, k9, k10, k11, k12, k13, k14, k15, k16, k17, k18, k19, k20, k21]
def interned : List (Array UInt16 × Addr) := []
def slotsUsed : Nat := 10
def theMethod : MethodId := ⟨1, 1⟩
def args0 : Array Value := #[.long 5, .int 5, .int 5, .int 5, .int 5]
def aboutOver (below : List Frame) : State where
  vm := { classes := classes, interned := interned.toArray }
  heap := heap
  slotsUsed := slotsUsed
  threads := #[{ frames := .invoking theMethod args0 :: below }]
def below0 : List Frame := [.native { method := ⟨0, 0⟩, args := #[] }]
def about1 : State := aboutOver below0
def p0 : Program := .bare "" "" ""
def e0 : Env := launch0.env 0 0 0
theorem w_frames : about1.frames = Frame.invoking theMethod args0 :: below0 := rfl
set_option maxRecDepth 65536 in
theorem w_args : argsFit about1.vm theMethod args0 = true := by decide +kernel
set_option maxRecDepth 65536 in
theorem w_heap : heapFits about1 = true := by decide +kernel
set_option maxRecDepth 65536 in
theorem w_runnable : about1.curStatus? = some .runnable := by decide +kernel
set_option maxRecDepth 65536 in
theorem w_alone : about1.alone = true := by decide +kernel
set_option maxRecDepth 65536 in
theorem w_named : about1.methodNamed? x = some theMethod := by decide +kernel
set_option maxRecDepth 65536 in
theorem w_hears : about1.hears theMethod below0 = true := by decide +kernel
set_option maxRecDepth 65536 in
theorem w_ripe : about1.ripe theMethod args0 below0 = true := by decide +kernel
theorem w_running : about1.status = .running := rfl
set_option maxRecDepth 65536 in
theorem w_room : about1.hasRoom e0.platform room_1 = true :=
  launch0.hasRoom_least _ room_1 (by decide +kernel) (by decide +kernel) (by decide +kernel) (by decide +kernel) (by decide +kernel) (by decide +kernel)
theorem allAtoms_all (ts : List Jvm.Cond) (a : Array Jvm.Value) (st : Jvm.State) : (allAtoms ts).before a st = ts.all (fun c => c.before a st) := by
  induction ts with
  | nil => rfl
  | cons c t ih =>
    show (Jvm.Cond.and c (allAtoms t)).before a st = _
    rw [Jvm.Cond.before_and, ih, List.all_cons]
def words1 : List Jvm.Cond := Jvm.Cond.code x code maxLocals ret :: tables_1
/-- a 'code' word, met by the world's own term for the bytes: nothing is compared byte by byte -/
theorem code_word {y : MethodName} {bytes : ByteArray} {mx : Nat} {rt : Option FieldType} {a : Array Value} {s : State} {m : MethodId} {meth : Method} {c : Code} (h1 : s.methodNamed? y = some m) (h2 : s.vm.method? m = some meth) (h3 : meth.code = some c) (h4 : c.code = bytes)
    (h5 : (c.maxLocals == mx && c.exceptionTable.isEmpty && decide (c.maxStack ≤ mostOperands) && decide (meth.sig.returnType = rt) && !meth.locks && decide (parseMethodDescriptor y.desc = some meth.sig)) = true) : (Jvm.Cond.code y bytes mx rt).before a s = true := by
  simp only [Bool.and_eq_true, beq_iff_eq, Bool.not_eq_true', decide_eq_true_eq] at h5
  obtain ⟨⟨⟨⟨⟨g1, g2⟩, g3⟩, g4⟩, g5⟩, g6⟩ := h5
  simp [Cond.before, Cond.holds, Cond.value, h1, h2, h3, h4, g1, g2, g3, g4, g5, g6]
def isCode : Jvm.Cond → Bool
  | .code _ _ _ _ => true
  | _ => false
theorem all_split {L : List Jvm.Cond} {P : Jvm.Cond → Bool} (h1 : L.all (fun c => isCode c || P c) = true) (h2 : ∀ c ∈ L.filter isCode, P c = true) : L.all P = true := by
  refine List.all_eq_true.mpr fun c hc => ?_
  have h := List.all_eq_true.mp h1 c hc
  rcases Bool.eq_false_or_eq_true (isCode c) with hi | hi
  · exact h2 c (List.mem_filter.mpr ⟨hc, hi⟩)
  · simpa [hi] using h
set_option maxRecDepth 65536 in
theorem w_c0 : (Jvm.Cond.code x code maxLocals ret).before args0 about1 = true := code_word (m := ⟨1, 1⟩) (meth := k1m1) (c := k1c1) (by decide +kernel) rfl rfl rfl (by decide +kernel)
set_option maxRecDepth 65536 in
theorem w_c1 : (Jvm.Cond.code ({ cls := "java/lang/Math", name := "min", desc := "(II)I" } : Jvm.MethodName) jdk_29_method_69_code (2 : Nat) (Option.some Jvm.ClassFile.FieldType.int)).before args0 about1 = true := code_word (m := ⟨2, 1⟩) (meth := k2m1) (c := k2c1) (by decide +kernel) rfl rfl rfl (by decide +kernel)
set_option maxRecDepth 65536 in
theorem w_c2 : (Jvm.Cond.code ({ cls := "com/example/haku/haku/index/UnitPathsAddPinLaw", name := "ch", desc := "(JI)C" } : Jvm.MethodName) method_3_code (3 : Nat) (Option.some Jvm.ClassFile.FieldType.char)).before args0 about1 = true := code_word (m := ⟨1, 2⟩) (meth := k1m2) (c := k1c2) (by decide +kernel) rfl rfl rfl (by decide +kernel)
set_option maxRecDepth 65536 in
theorem w_c3 : (Jvm.Cond.code ({ cls := "com/example/haku/haku/index/UnitPathsAddPinLaw", name := "next", desc := "([CI[C)[C" } : Jvm.MethodName) method_6_code (3 : Nat) (Option.some (Jvm.ClassFile.FieldType.array Jvm.ClassFile.FieldType.char))).before args0 about1 = true := code_word (m := ⟨1, 5⟩) (meth := k1m5) (c := k1c5) (by decide +kernel) rfl rfl rfl (by decide +kernel)
set_option maxRecDepth 65536 in
theorem w_c4 : (Jvm.Cond.code ({ cls := "com/example/haku/haku/index/UnitPathsAddPinLaw", name := "at", desc := "([CI[CI)C" } : Jvm.MethodName) method_5_code (5 : Nat) (Option.some Jvm.ClassFile.FieldType.char)).before args0 about1 = true := code_word (m := ⟨1, 4⟩) (meth := k1m4) (c := k1c4) (by decide +kernel) rfl rfl rfl (by decide +kernel)
set_option maxRecDepth 65536 in
theorem w_c5 : (Jvm.Cond.code ({ cls := "com/example/haku/haku/index/UnitPathsAddPinLaw", name := "rest", desc := "(I[C)Ljava/lang/String;" } : Jvm.MethodName) method_4_code (2 : Nat) (Option.some (Jvm.ClassFile.FieldType.object "java/lang/String"))).before args0 about1 = true := code_word (m := ⟨1, 3⟩) (meth := k1m3) (c := k1c3) (by decide +kernel) rfl rfl rfl (by decide +kernel)
set_option maxRecDepth 65536 in
theorem w_c6 : (Jvm.Cond.code ({ cls := "java/lang/String", name := "<init>", desc := "([C)V" } : Jvm.MethodName) jdk_42_method_3_code (2 : Nat) (Option.none : Option Jvm.ClassFile.FieldType)).before args0 about1 = true := code_word (m := ⟨8, 1⟩) (meth := k8m1) (c := k8c1) (by decide +kernel) rfl rfl rfl (by decide +kernel)
set_option maxRecDepth 65536 in
theorem w_c7 : (Jvm.Cond.code ({ cls := "java/lang/String", name := "<init>", desc := "([CIILjava/lang/Void;)V" } : Jvm.MethodName) jdk_42_method_149_code (6 : Nat) (Option.none : Option Jvm.ClassFile.FieldType)).before args0 about1 = true := code_word (m := ⟨8, 5⟩) (meth := k8m5) (c := k8c5) (by decide +kernel) rfl rfl rfl (by decide +kernel)
set_option maxRecDepth 65536 in
theorem w_c8 : (Jvm.Cond.code ({ cls := "java/lang/Object", name := "<init>", desc := "()V" } : Jvm.MethodName) object_method_1_code (1 : Nat) (Option.none : Option Jvm.ClassFile.FieldType)).before args0 about1 = true := code_word (m := ⟨0, 0⟩) (meth := k0m0) (c := k0c0) (by decide +kernel) rfl rfl rfl (by decide +kernel)
set_option maxRecDepth 65536 in
theorem w_c9 : (Jvm.Cond.code ({ cls := "java/lang/StringUTF16", name := "compress", desc := "([CII)[B" } : Jvm.MethodName) jdk_52_method_16_code (6 : Nat) (Option.some (Jvm.ClassFile.FieldType.array Jvm.ClassFile.FieldType.byte))).before args0 about1 = true := code_word (m := ⟨9, 2⟩) (meth := k9m2) (c := k9c2) (by decide +kernel) rfl rfl rfl (by decide +kernel)
set_option maxRecDepth 65536 in
theorem w_c10 : (Jvm.Cond.code ({ cls := "java/lang/StringUTF16", name := "compress", desc := "([CI[BII)I" } : Jvm.MethodName) jdk_52_method_21_code (7 : Nat) (Option.some Jvm.ClassFile.FieldType.int)).before args0 about1 = true := code_word (m := ⟨9, 3⟩) (meth := k9m3) (c := k9c3) (by decide +kernel) rfl rfl rfl (by decide +kernel)
set_option maxRecDepth 65536 in
theorem w_c11 : (Jvm.Cond.code ({ cls := "java/lang/StringUTF16", name := "coderFromArrayLen", desc := "([BI)B" } : Jvm.MethodName) jdk_52_method_15_code (2 : Nat) (Option.some Jvm.ClassFile.FieldType.byte)).before args0 about1 = true := code_word (m := ⟨9, 1⟩) (meth := k9m1) (c := k9c1) (by decide +kernel) rfl rfl rfl (by decide +kernel)
set_option maxRecDepth 65536 in
theorem w_c12 : (Jvm.Cond.code ({ cls := "com/example/haku/haku/index/UnitPaths", name := "<init>", desc := "(I)V" } : Jvm.MethodName) prog_85_method_1_code (2 : Nat) (Option.none : Option Jvm.ClassFile.FieldType)).before args0 about1 = true := code_word (m := ⟨10, 0⟩) (meth := k10m0) (c := k10c0) (by decide +kernel) rfl rfl rfl (by decide +kernel)
set_option maxRecDepth 65536 in
theorem w_c13 : (Jvm.Cond.code ({ cls := "com/example/haku/haku/index/UnitPaths", name := "add", desc := "(ILjava/lang/String;)V" } : Jvm.MethodName) prog_85_method_2_code (4 : Nat) (Option.none : Option Jvm.ClassFile.FieldType)).before args0 about1 = true := code_word (m := ⟨10, 1⟩) (meth := k10m1) (c := k10c1) (by decide +kernel) rfl rfl rfl (by decide +kernel)
set_option maxRecDepth 65536 in
theorem w_c14 : (Jvm.Cond.code ({ cls := "com/example/haku/haku/index/UnitPaths", name := "get", desc := "(I)Ljava/lang/String;" } : Jvm.MethodName) prog_85_method_3_code (5 : Nat) (Option.some (Jvm.ClassFile.FieldType.object "java/lang/String"))).before args0 about1 = true := code_word (m := ⟨10, 2⟩) (meth := k10m2) (c := k10c2) (by decide +kernel) rfl rfl rfl (by decide +kernel)
set_option maxRecDepth 65536 in
theorem w_c15 : (Jvm.Cond.code ({ cls := "java/lang/String", name := "length", desc := "()I" } : Jvm.MethodName) jdk_42_method_54_code (1 : Nat) (Option.some Jvm.ClassFile.FieldType.int)).before args0 about1 = true := code_word (m := ⟨8, 2⟩) (meth := k8m2) (c := k8c2) (by decide +kernel) rfl rfl rfl (by decide +kernel)
set_option maxRecDepth 65536 in
theorem w_c16 : (Jvm.Cond.code ({ cls := "java/lang/String", name := "coder", desc := "()B" } : Jvm.MethodName) jdk_42_method_152_code (1 : Nat) (Option.some Jvm.ClassFile.FieldType.byte)).before args0 about1 = true := code_word (m := ⟨8, 6⟩) (meth := k8m6) (c := k8c6) (by decide +kernel) rfl rfl rfl (by decide +kernel)
set_option maxRecDepth 65536 in
theorem w_c17 : (Jvm.Cond.code ({ cls := "java/lang/String", name := "getChars", desc := "(II[CI)V" } : Jvm.MethodName) jdk_42_method_61_code (5 : Nat) (Option.none : Option Jvm.ClassFile.FieldType)).before args0 about1 = true := code_word (m := ⟨8, 4⟩) (meth := k8m4) (c := k8c4) (by decide +kernel) rfl rfl rfl (by decide +kernel)
set_option maxRecDepth 65536 in
theorem w_c18 : (Jvm.Cond.code ({ cls := "java/lang/String", name := "checkBoundsBeginEnd", desc := "(III)V" } : Jvm.MethodName) jdk_42_method_158_code (3 : Nat) (Option.none : Option Jvm.ClassFile.FieldType)).before args0 about1 = true := code_word (m := ⟨8, 10⟩) (meth := k8m10) (c := k8c10) (by decide +kernel) rfl rfl rfl (by decide +kernel)
set_option maxRecDepth 65536 in
theorem w_c19 : (Jvm.Cond.code ({ cls := "jdk/internal/util/Preconditions", name := "checkFromToIndex", desc := "(IIILjava/util/function/BiFunction;)I" } : Jvm.MethodName) jdk_41_method_12_code (4 : Nat) (Option.some Jvm.ClassFile.FieldType.int)).before args0 about1 = true := code_word (m := ⟨11, 2⟩) (meth := k11m2) (c := k11c2) (by decide +kernel) rfl rfl rfl (by decide +kernel)
set_option maxRecDepth 65536 in
theorem w_c20 : (Jvm.Cond.code ({ cls := "java/lang/String", name := "checkBoundsOffCount", desc := "(III)I" } : Jvm.MethodName) jdk_42_method_157_code (3 : Nat) (Option.some Jvm.ClassFile.FieldType.int)).before args0 about1 = true := code_word (m := ⟨8, 9⟩) (meth := k8m9) (c := k8c9) (by decide +kernel) rfl rfl rfl (by decide +kernel)
set_option maxRecDepth 65536 in
theorem w_c21 : (Jvm.Cond.code ({ cls := "jdk/internal/util/Preconditions", name := "checkFromIndexSize", desc := "(IIILjava/util/function/BiFunction;)I" } : Jvm.MethodName) jdk_41_method_13_code (4 : Nat) (Option.some Jvm.ClassFile.FieldType.int)).before args0 about1 = true := code_word (m := ⟨11, 3⟩) (meth := k11m3) (c := k11c3) (by decide +kernel) rfl rfl rfl (by decide +kernel)
set_option maxRecDepth 65536 in
theorem w_c22 : (Jvm.Cond.code ({ cls := "java/lang/String", name := "isLatin1", desc := "()Z" } : Jvm.MethodName) jdk_42_method_154_code (1 : Nat) (Option.some Jvm.ClassFile.FieldType.boolean)).before args0 about1 = true := code_word (m := ⟨8, 7⟩) (meth := k8m7) (c := k8c7) (by decide +kernel) rfl rfl rfl (by decide +kernel)
set_option maxRecDepth 65536 in
theorem w_c23 : (Jvm.Cond.code ({ cls := "java/lang/StringLatin1", name := "getChars", desc := "([BII[CI)V" } : Jvm.MethodName) jdk_43_method_11_code (5 : Nat) (Option.none : Option Jvm.ClassFile.FieldType)).before args0 about1 = true := code_word (m := ⟨12, 2⟩) (meth := k12m2) (c := k12c2) (by decide +kernel) rfl rfl rfl (by decide +kernel)
set_option maxRecDepth 65536 in
theorem w_c24 : (Jvm.Cond.code ({ cls := "java/lang/StringLatin1", name := "inflate", desc := "([BI[CII)V" } : Jvm.MethodName) jdk_43_method_49_code (6 : Nat) (Option.none : Option Jvm.ClassFile.FieldType)).before args0 about1 = true := code_word (m := ⟨12, 3⟩) (meth := k12m3) (c := k12c3) (by decide +kernel) rfl rfl rfl (by decide +kernel)
set_option maxRecDepth 65536 in
theorem w_c25 : (Jvm.Cond.code ({ cls := "com/example/haku/haku/index/UnitPathsAddPinLaw", name := "same", desc := "(Ljava/lang/String;[CI)Z" } : Jvm.MethodName) method_7_code (3 : Nat) (Option.some Jvm.ClassFile.FieldType.boolean)).before args0 about1 = true := code_word (m := ⟨1, 6⟩) (meth := k1m6) (c := k1c6) (by decide +kernel) rfl rfl rfl (by decide +kernel)
set_option maxRecDepth 65536 in
theorem w_c26 : (Jvm.Cond.code ({ cls := "java/lang/String", name := "charAt", desc := "(I)C" } : Jvm.MethodName) jdk_42_method_56_code (2 : Nat) (Option.some Jvm.ClassFile.FieldType.char)).before args0 about1 = true := code_word (m := ⟨8, 3⟩) (meth := k8m3) (c := k8c3) (by decide +kernel) rfl rfl rfl (by decide +kernel)
set_option maxRecDepth 65536 in
theorem w_c27 : (Jvm.Cond.code ({ cls := "java/lang/StringLatin1", name := "charAt", desc := "([BI)C" } : Jvm.MethodName) jdk_43_method_2_code (2 : Nat) (Option.some Jvm.ClassFile.FieldType.char)).before args0 about1 = true := code_word (m := ⟨12, 1⟩) (meth := k12m1) (c := k12c1) (by decide +kernel) rfl rfl rfl (by decide +kernel)
set_option maxRecDepth 65536 in
theorem w_c28 : (Jvm.Cond.code ({ cls := "java/lang/String", name := "checkIndex", desc := "(II)V" } : Jvm.MethodName) jdk_42_method_155_code (2 : Nat) (Option.none : Option Jvm.ClassFile.FieldType)).before args0 about1 = true := code_word (m := ⟨8, 8⟩) (meth := k8m8) (c := k8c8) (by decide +kernel) rfl rfl rfl (by decide +kernel)
set_option maxRecDepth 65536 in
theorem w_c29 : (Jvm.Cond.code ({ cls := "jdk/internal/util/Preconditions", name := "checkIndex", desc := "(IILjava/util/function/BiFunction;)I" } : Jvm.MethodName) jdk_41_method_11_code (3 : Nat) (Option.some Jvm.ClassFile.FieldType.int)).before args0 about1 = true := code_word (m := ⟨11, 1⟩) (meth := k11m1) (c := k11c1) (by decide +kernel) rfl rfl rfl (by decide +kernel)
def codes1 : List Jvm.Cond := [Jvm.Cond.code x code maxLocals ret, Jvm.Cond.code ({ cls := "java/lang/Math", name := "min", desc := "(II)I" } : Jvm.MethodName) jdk_29_method_69_code (2 : Nat) (Option.some Jvm.ClassFile.FieldType.int), Jvm.Cond.code ({ cls := "com/example/haku/haku/index/UnitPathsAddPinLaw", name := "ch", desc := "(JI)C" } : Jvm.MethodName) method_3_code (3 : Nat) (Option.some Jvm.ClassFile.FieldType.char), Jvm.Cond.code ({ cls := "com/example/haku/haku/index/UnitPathsAddPinLaw", name := "next", desc := "([CI[C)[C" } : Jvm.MethodName) method_6_code (3 : Nat) (Option.some (Jvm.ClassFile.FieldType.array Jvm.ClassFile.FieldType.char)), Jvm.Cond.code ({ cls := "com/example/haku/haku/index/UnitPathsAddPinLaw", name := "at", desc := "([CI[CI)C" } : Jvm.MethodName) method_5_code (5 : Nat) (Option.some Jvm.ClassFile.FieldType.char), Jvm.Cond.code ({ cls := "com/example/haku/haku/index/UnitPathsAddPinLaw", name := "rest", desc := "(I[C)Ljava/lang/String;" } : Jvm.MethodName) method_4_code (2 : Nat) (Option.some (Jvm.ClassFile.FieldType.object "java/lang/String")), Jvm.Cond.code ({ cls := "java/lang/String", name := "<init>", desc := "([C)V" } : Jvm.MethodName) jdk_42_method_3_code (2 : Nat) (Option.none : Option Jvm.ClassFile.FieldType), Jvm.Cond.code ({ cls := "java/lang/String", name := "<init>", desc := "([CIILjava/lang/Void;)V" } : Jvm.MethodName) jdk_42_method_149_code (6 : Nat) (Option.none : Option Jvm.ClassFile.FieldType), Jvm.Cond.code ({ cls := "java/lang/Object", name := "<init>", desc := "()V" } : Jvm.MethodName) object_method_1_code (1 : Nat) (Option.none : Option Jvm.ClassFile.FieldType), Jvm.Cond.code ({ cls := "java/lang/StringUTF16", name := "compress", desc := "([CII)[B" } : Jvm.MethodName) jdk_52_method_16_code (6 : Nat) (Option.some (Jvm.ClassFile.FieldType.array Jvm.ClassFile.FieldType.byte)), Jvm.Cond.code ({ cls := "java/lang/StringUTF16", name := "compress", desc := "([CI[BII)I" } : Jvm.MethodName) jdk_52_method_21_code (7 : Nat) (Option.some Jvm.ClassFile.FieldType.int), Jvm.Cond.code ({ cls := "java/lang/StringUTF16", name := "coderFromArrayLen", desc := "([BI)B" } : Jvm.MethodName) jdk_52_method_15_code (2 : Nat) (Option.some Jvm.ClassFile.FieldType.byte), Jvm.Cond.code ({ cls := "com/example/haku/haku/index/UnitPaths", name := "<init>", desc := "(I)V" } : Jvm.MethodName) prog_85_method_1_code (2 : Nat) (Option.none : Option Jvm.ClassFile.FieldType), Jvm.Cond.code ({ cls := "com/example/haku/haku/index/UnitPaths", name := "add", desc := "(ILjava/lang/String;)V" } : Jvm.MethodName) prog_85_method_2_code (4 : Nat) (Option.none : Option Jvm.ClassFile.FieldType), Jvm.Cond.code ({ cls := "com/example/haku/haku/index/UnitPaths", name := "get", desc := "(I)Ljava/lang/String;" } : Jvm.MethodName) prog_85_method_3_code (5 : Nat) (Option.some (Jvm.ClassFile.FieldType.object "java/lang/String")), Jvm.Cond.code ({ cls := "java/lang/String", name := "length", desc := "()I" } : Jvm.MethodName) jdk_42_method_54_code (1 : Nat) (Option.some Jvm.ClassFile.FieldType.int), Jvm.Cond.code ({ cls := "java/lang/String", name := "coder", desc := "()B" } : Jvm.MethodName) jdk_42_method_152_code (1 : Nat) (Option.some Jvm.ClassFile.FieldType.byte), Jvm.Cond.code ({ cls := "java/lang/String", name := "getChars", desc := "(II[CI)V" } : Jvm.MethodName) jdk_42_method_61_code (5 : Nat) (Option.none : Option Jvm.ClassFile.FieldType), Jvm.Cond.code ({ cls := "java/lang/String", name := "checkBoundsBeginEnd", desc := "(III)V" } : Jvm.MethodName) jdk_42_method_158_code (3 : Nat) (Option.none : Option Jvm.ClassFile.FieldType), Jvm.Cond.code ({ cls := "jdk/internal/util/Preconditions", name := "checkFromToIndex", desc := "(IIILjava/util/function/BiFunction;)I" } : Jvm.MethodName) jdk_41_method_12_code (4 : Nat) (Option.some Jvm.ClassFile.FieldType.int), Jvm.Cond.code ({ cls := "java/lang/String", name := "checkBoundsOffCount", desc := "(III)I" } : Jvm.MethodName) jdk_42_method_157_code (3 : Nat) (Option.some Jvm.ClassFile.FieldType.int), Jvm.Cond.code ({ cls := "jdk/internal/util/Preconditions", name := "checkFromIndexSize", desc := "(IIILjava/util/function/BiFunction;)I" } : Jvm.MethodName) jdk_41_method_13_code (4 : Nat) (Option.some Jvm.ClassFile.FieldType.int), Jvm.Cond.code ({ cls := "java/lang/String", name := "isLatin1", desc := "()Z" } : Jvm.MethodName) jdk_42_method_154_code (1 : Nat) (Option.some Jvm.ClassFile.FieldType.boolean), Jvm.Cond.code ({ cls := "java/lang/StringLatin1", name := "getChars", desc := "([BII[CI)V" } : Jvm.MethodName) jdk_43_method_11_code (5 : Nat) (Option.none : Option Jvm.ClassFile.FieldType), Jvm.Cond.code ({ cls := "java/lang/StringLatin1", name := "inflate", desc := "([BI[CII)V" } : Jvm.MethodName) jdk_43_method_49_code (6 : Nat) (Option.none : Option Jvm.ClassFile.FieldType), Jvm.Cond.code ({ cls := "com/example/haku/haku/index/UnitPathsAddPinLaw", name := "same", desc := "(Ljava/lang/String;[CI)Z" } : Jvm.MethodName) method_7_code (3 : Nat) (Option.some Jvm.ClassFile.FieldType.boolean), Jvm.Cond.code ({ cls := "java/lang/String", name := "charAt", desc := "(I)C" } : Jvm.MethodName) jdk_42_method_56_code (2 : Nat) (Option.some Jvm.ClassFile.FieldType.char), Jvm.Cond.code ({ cls := "java/lang/StringLatin1", name := "charAt", desc := "([BI)C" } : Jvm.MethodName) jdk_43_method_2_code (2 : Nat) (Option.some Jvm.ClassFile.FieldType.char), Jvm.Cond.code ({ cls := "java/lang/String", name := "checkIndex", desc := "(II)V" } : Jvm.MethodName) jdk_42_method_155_code (2 : Nat) (Option.none : Option Jvm.ClassFile.FieldType), Jvm.Cond.code ({ cls := "jdk/internal/util/Preconditions", name := "checkIndex", desc := "(IILjava/util/function/BiFunction;)I" } : Jvm.MethodName) jdk_41_method_11_code (3 : Nat) (Option.some Jvm.ClassFile.FieldType.int)]
set_option maxRecDepth 65536 in
theorem codes_eq : words1.filter isCode = codes1 := rfl
theorem w_codes : ∀ c ∈ words1.filter isCode, c.before args0 about1 = true := by
  rw [codes_eq]
  intro c hc
  simp only [codes1, List.mem_cons, List.not_mem_nil, or_false] at hc
  rcases hc with rfl | rfl | rfl | rfl | rfl | rfl | rfl | rfl | rfl | rfl | rfl | rfl | rfl | rfl | rfl | rfl | rfl | rfl | rfl | rfl | rfl | rfl | rfl | rfl | rfl | rfl | rfl | rfl | rfl | rfl
  · exact w_c0
  · exact w_c1
  · exact w_c2
  · exact w_c3
  · exact w_c4
  · exact w_c5
  · exact w_c6
  · exact w_c7
  · exact w_c8
  · exact w_c9
  · exact w_c10
  · exact w_c11
  · exact w_c12
  · exact w_c13
  · exact w_c14
  · exact w_c15
  · exact w_c16
  · exact w_c17
  · exact w_c18
  · exact w_c19
  · exact w_c20
  · exact w_c21
  · exact w_c22
  · exact w_c23
  · exact w_c24
  · exact w_c25
  · exact w_c26
  · exact w_c27
  · exact w_c28
  · exact w_c29
set_option maxRecDepth 65536 in
theorem w_t1 : (words1.take 24).all (fun c => isCode c || c.before args0 about1) = true := by decide +kernel
set_option maxRecDepth 65536 in
theorem w_t2 : ((words1.drop 24).take 24).all (fun c => isCode c || c.before args0 about1) = true := by decide +kernel
set_option maxRecDepth 65536 in
theorem w_t3 : (((words1.drop 24).drop 24).take 24).all (fun c => isCode c || c.before args0 about1) = true := by decide +kernel
set_option maxRecDepth 65536 in
theorem w_t4 : ((((words1.drop 24).drop 24).drop 24).take 24).all (fun c => isCode c || c.before args0 about1) = true := by decide +kernel
set_option maxRecDepth 65536 in
theorem w_t5 : (((((words1.drop 24).drop 24).drop 24).drop 24).take 24).all (fun c => isCode c || c.before args0 about1) = true := by decide +kernel
set_option maxRecDepth 65536 in
theorem w_t6 : (((((words1.drop 24).drop 24).drop 24).drop 24).drop 24).all (fun c => isCode c || c.before args0 about1) = true := by decide +kernel
theorem w_tables : (allAtoms (Jvm.Cond.code x code maxLocals ret :: tables_1)).before args0 about1 = true := by
  rw [allAtoms_all]
  show words1.all (fun c => c.before args0 about1) = true
  refine all_split ?_ w_codes
  rw [← List.take_append_drop 24 words1, List.all_append, w_t1, ← List.take_append_drop 24 (words1.drop 24), List.all_append, w_t2, ← List.take_append_drop 24 ((words1.drop 24).drop 24), List.all_append, w_t3, ← List.take_append_drop 24 (((words1.drop 24).drop 24).drop 24), List.all_append, w_t4, ← List.take_append_drop 24 ((((words1.drop 24).drop 24).drop 24).drop 24), List.all_append, w_t5, w_t6]
  rfl
set_option maxRecDepth 65536 in
theorem w_rest : rest_1_c.before args0 about1 = true := by decide +kernel
set_option maxRecDepth 65536 in
theorem w_case : (Jvm.Cond.and given_1 narrow_1).before args0 about1 = true := by decide +kernel
set_option maxRecDepth 65536 in
theorem w_consts : constsHeld consts_1 about1 := Jvm.Lit.constsHeldB_iff.mp (by decide +kernel)
theorem w_applies : (headSpec (Jvm.Cond.code x code maxLocals ret :: tables_1) room_1).applies x e0.platform about1 = true :=
  (Spec.applies_iff w_frames).mpr ⟨w_running, w_runnable, w_alone, w_named, w_hears, w_ripe, w_room, w_tables⟩
theorem atStart : AtStart classFile x code maxLocals ret World_1 tables_1 room_1 Calls_1 rest_1 Pre_1 launch0 p0 e0 about1 theMethod args0 below0 :=
  ⟨lists_1, trivial, launch0.admits_env _ _ _, launch0.least_env, fairChoices_fair.cas, fairChoices_fair.clock, w_frames, w_args, w_heap, w_applies, ⟨w_consts, trivial⟩, w_rest, w_case⟩
end start1
theorem witness_1 : WitnessClaimed_1 := ⟨start1.p0, start1.e0, start1.about1, start1.theMethod, start1.args0, start1.below0, start1.atStart⟩
end Jvm.Pilot.@@N@@
