import JvmDerived
import JvmDerived.Pilot.@@N@@Statement
import JvmDerived.Pilot.@@N@@Code
set_option linter.unusedVariables false
set_option linter.unusedSimpArgs false
/- laws to paste: Road.backV, Road.eqW, Road.codOf (cut by pick.py; bodies as the Statement names them) -/
namespace Jvm.Pilot.@@N@@
namespace StrChars
open Jvm Sem ClassFile Op Lib Jvm.Stand Jvm.Free.XT Jvm.Free.ALB Jvm.Free.JM Jvm.Free
open Jvm.Lib.Cold (StaticIs)
/-- a char array whose places are chars -/
def Ch (a : Addr) (A : Cell) (U : State) : Prop := Arr .char a A U ∧ Typed .char A
theorem Ch.mv {a : Addr} {A : Cell} {U U' : State} (h : Ch a A U) (hal : U.vm.Alike U'.vm) (hh : U'.heap = U.heap) : Ch a A U' := ⟨h.1.mv hal hh, h.2⟩
theorem Ch.keep {a : Addr} {A : Cell} {U U' : State} (h : Ch a A U) (hal : U.vm.Alike U'.vm) (hk : U'.heap[a]? = some A) : Ch a A U' := ⟨h.1.keep hal hk, h.2⟩
/-- what place i of a char[]'s cell holds -/
def cv (A : Cell) (i : Nat) : Int32 := match A.slots[i]? with | some (.int x) => x | _ => 0
theorem Ch.get {a : Addr} {A : Cell} {U : State} (h : Ch a A U) {i : Nat} (hi : i < A.slots.size) : A.slots[i]? = some (.int (cv A i)) := by
  have e := Array.getElem?_eq_getElem hi
  have f := h.2 i _ e
  unfold cv; rw [e]
  generalize A.slots[i] = v at f
  cases v <;> simp [fits] at f ⊢
/-- the byte that i2b leaves of a char -/
def lo8 (x : Int32) : Int32 := x.toInt8.toInt32
theorem fits_lo8 (y : Int32) : fits .byte (.int (lo8 y)) = true := by
  have h1 := y.toInt8.le_toInt
  have h2 := y.toInt8.toInt_lt
  simp only [lo8, fits, Bool.and_eq_true, decide_eq_true_eq, Int32.le_iff_toInt_le, Int8.toInt_toInt32, show (-128 : Int32).toInt = -128 from by decide, show (127 : Int32).toInt = 127 from by decide]
  omega
/-- A' is A but that each place j of lo .. hi - 1 holds f j -/
def Laid (A A' : Cell) (lo hi : Nat) (f : Nat → Value) : Prop := A'.cls = A.cls ∧ A'.vm = A.vm ∧ A'.slots.size = A.slots.size ∧ ∀ i, A'.slots[i]? = if lo ≤ i ∧ i < hi then some (f i) else A.slots[i]?
theorem Laid.zero (A : Cell) (lo : Nat) (f : Nat → Value) : Laid A A lo (lo + 0) f := ⟨rfl, rfl, rfl, fun i => by rw [if_neg (by omega)]⟩
theorem Laid.step {A Ak : Cell} {lo k : Nat} {f : Nat → Value} {v : Value} (h : Laid A Ak lo k f) (hlo : lo ≤ k) (hk : k < Ak.slots.size) (hv : v = f k) : Laid A (Ak.setSlot k v) lo (k + 1) f := by
  refine ⟨h.1, h.2.1, by simpa [Cell.setSlot] using h.2.2.1, fun i => ?_⟩
  by_cases e : k = i
  · subst e; rw [Cell.slots_setSlot_self v hk, if_pos (by omega), hv]
  · rw [Cell.slots_setSlot_ne v e, h.2.2.2 i]
    by_cases q : lo ≤ i ∧ i < k
    · rw [if_pos q, if_pos (by omega)]
    · rw [if_neg q, if_neg (by omega)]
def U16 : String := "java/lang/StringUTF16"
namespace Cmp5
def yN : MethodName := ⟨"java/lang/StringUTF16", "compress", "([CI[BII)I"⟩
abbrev yB : ByteArray := jdk_52_method_21_code
theorem d0 : decode yB 0 = .ok (.iconst 0, 1) := by decide +kernel
theorem d1 : decode yB 1 = .ok (.istore 5, 2) := by decide +kernel
theorem d3 : decode yB 3 = .ok (.iload 5, 2) := by decide +kernel
theorem d5 : decode yB 5 = .ok (.iload 4, 2) := by decide +kernel
theorem d7 : decode yB 7 = .ok (.if_icmp (.ge) 37, 3) := by decide +kernel
theorem d10 : decode yB 10 = .ok (.aload_n 0, 1) := by decide +kernel
theorem d11 : decode yB 11 = .ok (.iload_n 1, 1) := by decide +kernel
theorem d12 : decode yB 12 = .ok (.caload, 1) := by decide +kernel
theorem d13 : decode yB 13 = .ok (.istore 6, 2) := by decide +kernel
theorem d15 : decode yB 15 = .ok (.iload 6, 2) := by decide +kernel
theorem d17 : decode yB 17 = .ok (.sipush 255, 3) := by decide +kernel
theorem d20 : decode yB 20 = .ok (.if_icmp (.le) 6, 3) := by decide +kernel
theorem d26 : decode yB 26 = .ok (.aload_n 2, 1) := by decide +kernel
theorem d27 : decode yB 27 = .ok (.iload_n 3, 1) := by decide +kernel
theorem d28 : decode yB 28 = .ok (.iload 6, 2) := by decide +kernel
theorem d30 : decode yB 30 = .ok (.i2b, 1) := by decide +kernel
theorem d31 : decode yB 31 = .ok (.bastore, 1) := by decide +kernel
theorem d32 : decode yB 32 = .ok (.iinc 1 1, 3) := by decide +kernel
theorem d35 : decode yB 35 = .ok (.iinc 3 1, 3) := by decide +kernel
theorem d38 : decode yB 38 = .ok (.iinc 5 1, 3) := by decide +kernel
theorem d41 : decode yB 41 = .ok (.goto (-38), 3) := by decide +kernel
theorem d44 : decode yB 44 = .ok (.iload 4, 2) := by decide +kernel
theorem d46 : decode yB 46 = .ok (.ireturn, 1) := by decide +kernel
def site : List Cond := []
def tab : Cond := tabOf yN yB 7 (some .int) site
def P (b : Addr) (A : Cell) (d : Addr) (B : Cell) (o q len : Nat) (args : Array Value) (s : State) : Prop := args = #[.ref b, .int (Int32.ofNat o), .ref d, .int (Int32.ofNat q), .int (Int32.ofNat len)] ∧ Ch b A s ∧ Arr .byte d B s ∧ b ≠ d ∧ o + len ≤ A.slots.size ∧ q + len ≤ B.slots.size ∧ ∀ i, i < len → ¬ 255 < cv A (o + i)
def E (b : Addr) (A : Cell) (d : Addr) (B : Cell) (o q len : Nat) (r : Option Value) (s u : State) : Prop := r = some (.int (Int32.ofNat len)) ∧ ∃ B', Put d B' s u ∧ Laid B B' q (q + len) (fun j => Value.int (lo8 (cv A (o + (j - q)))))
/-- no char of the range above 255: len; the places written hold each char's low byte -/
theorem law (l : Launch) (b : Addr) (A : Cell) (d : Addr) (B : Cell) (o q len : Nat) : Law l yN 5 5 0 0 yB 7 (some .int) site (P b A d B o q len) (E b A d B o q len) (copyLocs d q len) 0 0 := by
  refine Law.of_walk (plainFor_of_name (by decide +kernel)) (by decide +kernel) (by decide +kernel) (by decide) (fun _ _ h => by rw [h.1]; rfl) (fun _ U U' hal hh h => ⟨h.1, h.2.1.mv hal hh, h.2.2.1.mv hal hh, h.2.2.2⟩) (fun r U U' V V' h1 hal h2 h => ⟨h.1, h.2.elim fun B' q => ⟨B', q.1.mv h1 h2, q.2⟩⟩) ?_
  intro p e s m args below meth c s₁ X0 hexec hbytes hml hret hlk hnm hown hh0 W hP
  obtain ⟨rfl, hA, hB, hne, l1, l2, hp⟩ := hP
  have c1 : Steps p.tables e below (s₁.setTop (entryFrame m #[.ref b, .int (Int32.ofNat o), .ref d, .int (Int32.ofNat q), .int (Int32.ofNat len)] 7)) (s₁.setTop (mkF m 0 #[.val (.ref b), .val (.int (Int32.ofNat o)), .val (.ref d), .val (.int (Int32.ofNat q)), .val (.int (Int32.ofNat len)), .unset, .unset] [])) := entry rfl
  have hA0 := hA.1.mv X0.warmed.alike hh0
  have hB0 := hB.mv X0.warmed.alike hh0
  have a31 := hA.1.2.2.2
  have c2 : Steps p.tables e below (s₁.setTop (entryFrame m #[.ref b, .int (Int32.ofNat o), .ref d, .int (Int32.ofNat q), .int (Int32.ofNat len)] 7)) (s₁.setTop (mkF m 3 #[.val (.ref b), .val (.int (Int32.ofNat o)), .val (.ref d), .val (.int (Int32.ofNat q)), .val (.int (Int32.ofNat len)), .val (.int 0), .unset] [])) := c1.trans (by
    refine iconstV X0.here hexec rfl 0 (hb hbytes d0) (by decide) ?_
    refine XS.istore X0.here hexec rfl (hb hbytes d1) rfl rfl ?_
    exact Steps.refl _)
  have loop : ∀ (r i : Nat), i + r = len → ∀ (z : Slot), (z = .unset ∨ ∃ w, z = .val w ∧ w.category = 1) → ∀ (Tl : State) (Bk : Cell), Stand p l e { frames := 0, locals := 0, cells := 0, slots := 0 } s m #[.ref b, .int (Int32.ofNat o), .ref d, .int (Int32.ofNat q), .int (Int32.ofNat len)] below meth c Tl ([] ++ copyLocs d q i) 0 0 → Put d Bk s₁ Tl → Laid B Bk q (q + i) (fun j => Value.int (lo8 (cv A (o + (j - q))))) →
      Steps p.tables e below (s₁.setTop (entryFrame m #[.ref b, .int (Int32.ofNat o), .ref d, .int (Int32.ofNat q), .int (Int32.ofNat len)] 7)) (Tl.setTop (mkF m 3 #[.val (.ref b), .val (.int (Int32.ofNat (o + i))), .val (.ref d), .val (.int (Int32.ofNat (q + i))), .val (.int (Int32.ofNat len)), .val (.int (Int32.ofNat i)), z] [])) → ∃ (T' : State) (B' : Cell) (z' : Slot), Stand p l e { frames := 0, locals := 0, cells := 0, slots := 0 } s m #[.ref b, .int (Int32.ofNat o), .ref d, .int (Int32.ofNat q), .int (Int32.ofNat len)] below meth c T' ([] ++ copyLocs d q len) 0 0 ∧ Put d B' s₁ T' ∧ Laid B B' q (q + len) (fun j => Value.int (lo8 (cv A (o + (j - q))))) ∧
      Steps p.tables e below (s₁.setTop (entryFrame m #[.ref b, .int (Int32.ofNat o), .ref d, .int (Int32.ofNat q), .int (Int32.ofNat len)] 7)) (T'.setTop (mkF m 3 #[.val (.ref b), .val (.int (Int32.ofNat (o + len))), .val (.ref d), .val (.int (Int32.ofNat (q + len))), .val (.int (Int32.ofNat len)), .val (.int (Int32.ofNat len)), z'] [])) := by
    intro r
    induction r with
    | zero =>
      intro i hi z hz Tl Bk Xl pl fl cl
      have hil : i = len := by omega
      rw [hil] at Xl fl cl
      exact ⟨Tl, Bk, z, Xl, pl, fl, cl⟩
    | succ r ih =>
      intro i hi z hz Tl Bk Xl pl fl cl
      have all := X0.warmed.alike.symm.trans Xl.warmed.alike
      have hAl := hA0.keep all (pl.other hne hA0.1)
      have hBk := hB0.like all pl.1 fl.1 fl.2.1 fl.2.2.1
      have hlt : q + i < Bk.slots.size := by rw [fl.2.2.1]; omega
      have c3 : Steps p.tables e below (s₁.setTop (entryFrame m #[.ref b, .int (Int32.ofNat o), .ref d, .int (Int32.ofNat q), .int (Int32.ofNat len)] 7)) (Tl.setTop (mkF m 12 #[.val (.ref b), .val (.int (Int32.ofNat (o + i))), .val (.ref d), .val (.int (Int32.ofNat (q + i))), .val (.int (Int32.ofNat len)), .val (.int (Int32.ofNat i)), z] [.int (Int32.ofNat (o + i)), .ref b])) := cl.trans (by
        refine XS.iload Xl.here hexec rfl (hb hbytes d3) rfl ?_
        refine XS.iload Xl.here hexec rfl (hb hbytes d5) rfl ?_
        refine XS.icmpNo Xl.here hexec rfl (hb hbytes d7) rfl (ii_ge_f (lt32 (by omega) (by omega))) ?_
        refine XS.aloadN Xl.here hexec rfl (hb hbytes d10) rfl rfl ?_
        refine XS.iloadN Xl.here hexec rfl (hb hbytes d11) rfl ?_
        exact Steps.refl _)
      have c4 : Steps p.tables e below (s₁.setTop (entryFrame m #[.ref b, .int (Int32.ofNat o), .ref d, .int (Int32.ofNat q), .int (Int32.ofNat len)] 7)) (Tl.setTop (mkF m 13 #[.val (.ref b), .val (.int (Int32.ofNat (o + i))), .val (.ref d), .val (.int (Int32.ofNat (q + i))), .val (.int (Int32.ofNat len)), .val (.int (Int32.ofNat i)), z] [.int (cv A (o + i))])) := c3.trans (by
        refine Xl.aget hexec hAl rfl (hA.get (i := o + i) (by omega)) rfl rfl (hb hbytes d12) ?_
        exact Steps.refl _)
      have c5 : Steps p.tables e below (s₁.setTop (entryFrame m #[.ref b, .int (Int32.ofNat o), .ref d, .int (Int32.ofNat q), .int (Int32.ofNat len)] 7)) (Tl.setTop (mkF m 15 #[.val (.ref b), .val (.int (Int32.ofNat (o + i))), .val (.ref d), .val (.int (Int32.ofNat (q + i))), .val (.int (Int32.ofNat len)), .val (.int (Int32.ofNat i)), .val (.int (cv A (o + i)))] [])) := c4.trans (by
        refine XS.istoreS Xl.here hexec rfl (hb hbytes d13) rfl rfl hz ?_
        exact Steps.refl _)
      have c6 : Steps p.tables e below (s₁.setTop (entryFrame m #[.ref b, .int (Int32.ofNat o), .ref d, .int (Int32.ofNat q), .int (Int32.ofNat len)] 7)) (Tl.setTop (mkF m 31 #[.val (.ref b), .val (.int (Int32.ofNat (o + i))), .val (.ref d), .val (.int (Int32.ofNat (q + i))), .val (.int (Int32.ofNat len)), .val (.int (Int32.ofNat i)), .val (.int (cv A (o + i)))] [.int (lo8 (cv A (o + i))), .int (Int32.ofNat (q + i)), .ref d])) := c5.trans (by
        refine XS.iload Xl.here hexec rfl (hb hbytes d15) rfl ?_
        refine sipushV Xl.here hexec rfl 255 (hb hbytes d17) (by decide) ?_
        refine XS.icmpYes Xl.here hexec rfl (pc0 := 20) rfl (hb hbytes d20) rfl (ii_le_t (hp i (by omega))) (by decide) rfl ?_
        refine XS.aloadN Xl.here hexec rfl (hb hbytes d26) rfl rfl ?_
        refine XS.iloadN Xl.here hexec rfl (hb hbytes d27) rfl ?_
        refine XS.iload Xl.here hexec rfl (hb hbytes d28) rfl ?_
        refine i2b Xl.here hexec rfl (hb hbytes d30) rfl ?_
        exact Steps.refl _)
      obtain ⟨T7, X7, p7, st7⟩ := Xl.aput hexec hBk rfl hlt rfl (fits_lo8 (cv A (o + i))) (g := (mkF m 31 #[.val (.ref b), .val (.int (Int32.ofNat (o + i))), .val (.ref d), .val (.int (Int32.ofNat (q + i))), .val (.int (Int32.ofNat len)), .val (.int (Int32.ofNat i)), .val (.int (cv A (o + i)))] [.int (lo8 (cv A (o + i))), .int (Int32.ofNat (q + i)), .ref d])) rfl (rest := []) rfl (hb hbytes d31)
      have c8 : Steps p.tables e below (s₁.setTop (entryFrame m #[.ref b, .int (Int32.ofNat o), .ref d, .int (Int32.ofNat q), .int (Int32.ofNat len)] 7)) (T7.setTop (mkF m 32 #[.val (.ref b), .val (.int (Int32.ofNat (o + i))), .val (.ref d), .val (.int (Int32.ofNat (q + i))), .val (.int (Int32.ofNat len)), .val (.int (Int32.ofNat i)), .val (.int (cv A (o + i)))] [])) := c6.trans (st7 _ (Steps.refl _))
      have c9 : Steps p.tables e below (s₁.setTop (entryFrame m #[.ref b, .int (Int32.ofNat o), .ref d, .int (Int32.ofNat q), .int (Int32.ofNat len)] 7)) (T7.setTop (mkF m 3 #[.val (.ref b), .val (.int (Int32.ofNat (o + i) + 1)), .val (.ref d), .val (.int (Int32.ofNat (q + i) + 1)), .val (.int (Int32.ofNat len)), .val (.int (Int32.ofNat i + 1)), .val (.int (cv A (o + i)))] [])) := c8.trans (by
        refine iincV X7.here hexec rfl 1 (hb hbytes d32) (by decide) rfl rfl ?_
        refine iincV X7.here hexec rfl 1 (hb hbytes d35) (by decide) rfl rfl ?_
        refine iincV X7.here hexec rfl 1 (hb hbytes d38) (by decide) rfl rfl ?_
        refine XS.goto X7.here hexec rfl (pc0 := 41) rfl (hb hbytes d41) (by decide) rfl ?_
        exact Steps.refl _)
      have c10 : Steps p.tables e below (s₁.setTop (entryFrame m #[.ref b, .int (Int32.ofNat o), .ref d, .int (Int32.ofNat q), .int (Int32.ofNat len)] 7)) (T7.setTop (mkF m 3 #[.val (.ref b), .val (.int (Int32.ofNat (o + (i + 1)))), .val (.ref d), .val (.int (Int32.ofNat (q + (i + 1)))), .val (.int (Int32.ofNat len)), .val (.int (Int32.ofNat (i + 1))), .val (.int (cv A (o + i)))] [])) := by
        have := c9
        rw [succ32, succ32, succ32] at this
        exact this
      exact ih (i + 1) (by omega) _ (Or.inr ⟨_, rfl, rfl⟩) T7 _ (by rw [copyLocs_step, ← List.append_assoc]; exact X7) (pl.trans p7) (fl.step (by omega) hlt (by simp)) c10
  obtain ⟨T9, B9, z9, X9, p9, f9, g9⟩ := loop len 0 (by omega) .unset (Or.inl rfl) s₁ B (by simpa [copyLocs] using X0) ⟨hB0.1, fun _ _ => rfl, rfl⟩ (Laid.zero _ _ _) c2
  have c11 : Steps p.tables e below (s₁.setTop (entryFrame m #[.ref b, .int (Int32.ofNat o), .ref d, .int (Int32.ofNat q), .int (Int32.ofNat len)] 7)) (T9.setTop (mkF m 46 #[.val (.ref b), .val (.int (Int32.ofNat (o + len))), .val (.ref d), .val (.int (Int32.ofNat (q + len))), .val (.int (Int32.ofNat len)), .val (.int (Int32.ofNat len)), z9] [.int (Int32.ofNat len)])) := g9.trans (by
    refine XS.iload X9.here hexec rfl (hb hbytes d3) rfl ?_
    refine XS.iload X9.here hexec rfl (hb hbytes d5) rfl ?_
    refine XS.icmpYes X9.here hexec rfl (pc0 := 7) rfl (hb hbytes d7) rfl (ii_ge_t (nlt32 (by omega) (Nat.le_refl _))) (by decide) rfl ?_
    refine XS.iload X9.here hexec rfl (hb hbytes d44) rfl ?_
    exact Steps.refl _)
  exact ⟨T9, some (.int (Int32.ofNat len)), _, _, _, X9, by simp, rfl, rfl, (fun h => by cases h), ⟨rfl, B9, p9.from hh0, f9⟩, fun fs hl => c11.trans (X9.ireturnOut hexec hret rfl (Or.inl rfl) (hb hbytes d46) hl)⟩
end Cmp5
namespace Cmp3
def yN : MethodName := ⟨"java/lang/StringUTF16", "compress", "([CII)[B"⟩
abbrev yB : ByteArray := jdk_52_method_16_code
theorem d0 : decode yB 0 = .ok (.iload_n 2, 1) := by decide +kernel
theorem d1 : decode yB 1 = .ok (.newarray .byte, 2) := by decide +kernel
theorem d3 : decode yB 3 = .ok (.astore_n 3, 1) := by decide +kernel
theorem d4 : decode yB 4 = .ok (.aload_n 0, 1) := by decide +kernel
theorem d5 : decode yB 5 = .ok (.iload_n 1, 1) := by decide +kernel
theorem d6 : decode yB 6 = .ok (.aload_n 3, 1) := by decide +kernel
theorem d7 : decode yB 7 = .ok (.iconst 0, 1) := by decide +kernel
theorem d8 : decode yB 8 = .ok (.iload_n 2, 1) := by decide +kernel
theorem d9 : decode yB 9 = .ok (.invokestatic 115, 3) := by decide +kernel
theorem d12 : decode yB 12 = .ok (.istore 4, 2) := by decide +kernel
theorem d14 : decode yB 14 = .ok (.iload 4, 2) := by decide +kernel
theorem d16 : decode yB 16 = .ok (.iload_n 2, 1) := by decide +kernel
theorem d17 : decode yB 17 = .ok (.if_icmp (.eq) 40, 3) := by decide +kernel
theorem d57 : decode yB 57 = .ok (.aload_n 3, 1) := by decide +kernel
theorem d58 : decode yB 58 = .ok (.areturn, 1) := by decide +kernel
def site : List Cond := [.arrayClass .byte, Cmp5.tab] ++ staticW U16 115 Cmp5.yN
def tab : Cond := tabOf yN yB 6 (some (.array .byte)) site
def P (b : Addr) (A : Cell) (o len : Nat) (args : Array Value) (s : State) : Prop := args = #[.ref b, .int (Int32.ofNat o), .int (Int32.ofNat len)] ∧ Ch b A s ∧ o + len ≤ A.slots.size ∧ len ≤ 536870912 ∧ ∀ i, i < len → ¬ 255 < cv A (o + i)
def E (b : Addr) (A : Cell) (o len : Nat) (r : Option Value) (s u : State) : Prop := NewArr .byte "[B" len (fun j => .int (lo8 (cv A (o + j)))) r s u ∧ u.heap.size = s.heap.size + 1
/-- no char of the range above 255: a new byte[] of their low bytes -/
theorem law (l : Launch) (b : Addr) (A : Cell) (o len : Nat) : Law l yN 3 3 1 18 yB 6 (some (.array .byte)) site (P b A o len) (E b A o len) [] 1 len := by
  refine Law.of_walk (plainFor_of_name (by decide +kernel)) (by decide +kernel) (by decide +kernel) (by decide) (fun _ _ h => by rw [h.1]; rfl) (fun _ U U' hal hh h => ⟨h.1, h.2.1.mv hal hh, h.2.2⟩) (fun r U U' V V' h1 hal h2 h => ⟨NewArr.mv r U U' V V' h1 hal h2 h.1, by rw [h1, h2]; exact h.2⟩) ?_
  intro p e s m args below meth c s₁ X0 hexec hbytes hml hret hlk hnm hown hh0 W hP
  obtain ⟨rfl, hA, l1, l2, hp⟩ := hP
  have a31 := hA.1.2.2.2
  have c1 : Steps p.tables e below (s₁.setTop (entryFrame m #[.ref b, .int (Int32.ofNat o), .int (Int32.ofNat len)] 6)) (s₁.setTop (mkF m 0 #[.val (.ref b), .val (.int (Int32.ofNat o)), .val (.int (Int32.ofNat len)), .unset, .unset, .unset] [])) := entry rfl
  have c2 : Steps p.tables e below (s₁.setTop (entryFrame m #[.ref b, .int (Int32.ofNat o), .int (Int32.ofNat len)] 6)) (s₁.setTop (mkF m 1 #[.val (.ref b), .val (.int (Int32.ofNat o)), .val (.int (Int32.ofNat len)), .unset, .unset, .unset] [.int (Int32.ofNat len)])) := c1.trans (by
    refine XS.iloadN X0.here hexec rfl (hb hbytes d0) rfl ?_
    exact Steps.refl _)
  obtain ⟨T3, B3, X3, ba3, bs3, bv3, bh3, bf3, st3⟩ := X0.anew hexec (atype := .byte) (wk W (.arrayClass .byte)) rfl (by show len * 1 ≤ _; omega) (by omega) (g := (mkF m 1 #[.val (.ref b), .val (.int (Int32.ofNat o)), .val (.int (Int32.ofNat len)), .unset, .unset, .unset] [.int (Int32.ofNat len)])) rfl (hb hbytes d1) (rest := []) rfl (Nat.le_refl _) (by show 0 + len ≤ len; omega)
  rw [hh0] at ba3 st3
  have kp3 : XT.Kept s T3 := (XT.Kept.of_eq hh0).push bh3
  have hA3 := hA.keep X3.warmed.alike (kp3 _ _ hA.1.1)
  have hne : b ≠ s.heap.size := hA.1.ne
  have c4 : Steps p.tables e below (s₁.setTop (entryFrame m #[.ref b, .int (Int32.ofNat o), .int (Int32.ofNat len)] 6)) (T3.setTop (mkF m 3 #[.val (.ref b), .val (.int (Int32.ofNat o)), .val (.int (Int32.ofNat len)), .unset, .unset, .unset] [.ref s.heap.size])) := c2.trans (st3 _ (Steps.refl _))
  have c5 : Steps p.tables e below (s₁.setTop (entryFrame m #[.ref b, .int (Int32.ofNat o), .int (Int32.ofNat len)] 6)) (T3.setTop (mkF m 9 #[.val (.ref b), .val (.int (Int32.ofNat o)), .val (.int (Int32.ofNat len)), .val (.ref s.heap.size), .unset, .unset] [.int (Int32.ofNat len), .int 0, .ref s.heap.size, .int (Int32.ofNat o), .ref b])) := c4.trans (by
    refine XS.astoreN X3.here hexec rfl (hb hbytes d3) rfl rfl rfl ?_
    refine XS.aloadN X3.here hexec rfl (hb hbytes d4) rfl rfl ?_
    refine XS.iloadN X3.here hexec rfl (hb hbytes d5) rfl ?_
    refine XS.aloadN X3.here hexec rfl (hb hbytes d6) rfl rfl ?_
    refine iconstV X3.here hexec rfl 0 (hb hbytes d7) (by decide) ?_
    refine XS.iloadN X3.here hexec rfl (hb hbytes d8) rfl ?_
    exact Steps.refl _)
  obtain ⟨v6, T6, X6, E6, g6⟩ := X3.callS hexec (Cmp5.law l b A s.heap.size B3 o 0 len) hown (wks W (staticW U16 115 Cmp5.yN)) (wk W Cmp5.tab) (W := 0) (Nat.le_of_ble_eq_true rfl) (Nat.le_of_ble_eq_true rfl) (Nat.le_refl _) (by show 0 + len + 0 ≤ len; omega) (g := (mkF m 9 #[.val (.ref b), .val (.int (Int32.ofNat o)), .val (.int (Int32.ofNat len)), .val (.ref s.heap.size), .unset, .unset] [.int (Int32.ofNat len), .int (Int32.ofNat 0), .ref s.heap.size, .int (Int32.ofNat o), .ref b])) rfl (by rw [hml]; rfl) c5 (argsL := [.ref b, .int (Int32.ofNat o), .ref s.heap.size, .int (Int32.ofNat 0), .int (Int32.ofNat len)]) (rest := []) rfl rfl (by show 2 * 0 + 0 ≤ _; decide) (hb hbytes d9) (⟨rfl, hA3, ba3, hne, l1, by rw [bs3]; simp, hp⟩)
  obtain ⟨rfl, B6, p6, f6⟩ := E6
  have c7 : Steps p.tables e below (s₁.setTop (entryFrame m #[.ref b, .int (Int32.ofNat o), .int (Int32.ofNat len)] 6)) (T6.setTop (mkF m 12 #[.val (.ref b), .val (.int (Int32.ofNat o)), .val (.int (Int32.ofNat len)), .val (.ref s.heap.size), .unset, .unset] [.int (Int32.ofNat len)])) := g6
  have c8 : Steps p.tables e below (s₁.setTop (entryFrame m #[.ref b, .int (Int32.ofNat o), .int (Int32.ofNat len)] 6)) (T6.setTop (mkF m 58 #[.val (.ref b), .val (.int (Int32.ofNat o)), .val (.int (Int32.ofNat len)), .val (.ref s.heap.size), .val (.int (Int32.ofNat len)), .unset] [.ref s.heap.size])) := c7.trans (by
    refine XS.istore X6.here hexec rfl (hb hbytes d12) rfl rfl ?_
    refine XS.iload X6.here hexec rfl (hb hbytes d14) rfl ?_
    refine XS.iloadN X6.here hexec rfl (hb hbytes d16) rfl ?_
    refine XS.icmpYes X6.here hexec rfl (pc0 := 17) rfl (hb hbytes d17) rfl (ii_eq_t rfl) (by decide) rfl ?_
    refine XS.aloadN X6.here hexec rfl (hb hbytes d57) rfl rfl ?_
    exact Steps.refl _)
  have X8 := X6.wide (L' := []) (cells' := 1) (slots' := len) (fun x hx hlt => by
    simp only [List.nil_append, copyLocs, List.mem_map, List.mem_range] at hx
    obtain ⟨i, -, rfl⟩ := hx
    exact absurd hlt (Nat.lt_irrefl _)) (Nat.le_refl _) (by omega)
  exact ⟨T6, some (.ref s.heap.size), _, _, _, X8, rfl, rfl, rfl, (fun h => by cases h), ⟨⟨rfl, B6, ba3.like (X3.warmed.alike.symm.trans X6.warmed.alike) p6.1 f6.1 f6.2.1 f6.2.2.1, f6.2.1.trans bv3, by rw [X6.warmed.alike.findClass, f6.1]; exact bf3, by rw [f6.2.2.1, bs3]; simp, fun j hj => by rw [f6.2.2.2 j, if_pos (by omega)]; rfl, kp3.put p6 (Nat.le_refl _)⟩, by rw [p6.2.2, bh3, hh0]; simp⟩, fun fs hl => c8.trans (X8.areturnOut hexec rfl hret rfl (hb hbytes d58) hl)⟩
end Cmp3
namespace CodL
def yN : MethodName := ⟨"java/lang/StringUTF16", "coderFromArrayLen", "([BI)B"⟩
abbrev yB : ByteArray := jdk_52_method_15_code
theorem d0 : decode yB 0 = .ok (.iload_n 1, 1) := by decide +kernel
theorem d1 : decode yB 1 = .ok (.aload_n 0, 1) := by decide +kernel
theorem d2 : decode yB 2 = .ok (.arraylength, 1) := by decide +kernel
theorem d3 : decode yB 3 = .ok (.isub, 1) := by decide +kernel
theorem d4 : decode yB 4 = .ok (.bipush 31, 2) := by decide +kernel
theorem d6 : decode yB 6 = .ok (.iushr, 1) := by decide +kernel
theorem d7 : decode yB 7 = .ok (.i2b, 1) := by decide +kernel
theorem d8 : decode yB 8 = .ok (.ireturn, 1) := by decide +kernel
def site : List Cond := []
def tab : Cond := tabOf yN yB 2 (some .byte) site
def P (d : Addr) (B : Cell) (args : Array Value) (s : State) : Prop := args = #[.ref d, .int (Int32.ofNat B.slots.size)] ∧ Arr .byte d B s
def E (r : Option Value) (s u : State) : Prop := XT.PureE (some (.int 0)) r s u
/-- an array as long as the number of chars: LATIN1 -/
theorem law (l : Launch) (d : Addr) (B : Cell) : Law l yN 2 2 0 0 yB 2 (some .byte) site (P d B) E [] 0 0 := by
  refine Law.of_walk (plainFor_of_name (by decide +kernel)) (by decide +kernel) (by decide +kernel) (by decide) (fun _ _ h => by rw [h.1]; rfl) (fun _ U U' hal hh h => ⟨h.1, h.2.mv hal hh⟩) (fun r U U' V V' h1 hal h2 h => XT.PureE.mv r U U' V V' h1 hal h2 h) ?_
  intro p e s m args below meth c s₁ X0 hexec hbytes hml hret hlk hnm hown hh0 W hP
  obtain ⟨rfl, hB⟩ := hP
  have hB0 := hB.mv X0.warmed.alike hh0
  have c1 : Steps p.tables e below (s₁.setTop (entryFrame m #[.ref d, .int (Int32.ofNat B.slots.size)] 2)) (s₁.setTop (mkF m 0 #[.val (.ref d), .val (.int (Int32.ofNat B.slots.size))] [])) := entry rfl
  have c2 : Steps p.tables e below (s₁.setTop (entryFrame m #[.ref d, .int (Int32.ofNat B.slots.size)] 2)) (s₁.setTop (mkF m 2 #[.val (.ref d), .val (.int (Int32.ofNat B.slots.size))] [.ref d, .int (Int32.ofNat B.slots.size)])) := c1.trans (by
    refine XS.iloadN X0.here hexec rfl (hb hbytes d0) rfl ?_
    refine XS.aloadN X0.here hexec rfl (hb hbytes d1) rfl rfl ?_
    exact Steps.refl _)
  have c3 : Steps p.tables e below (s₁.setTop (entryFrame m #[.ref d, .int (Int32.ofNat B.slots.size)] 2)) (s₁.setTop (mkF m 8 #[.val (.ref d), .val (.int (Int32.ofNat B.slots.size))] [.int (lo8 (ushr (Int32.ofNat B.slots.size - Int32.ofNat B.slots.size) 31))])) := c2.trans (by
    refine X0.alen hexec hB0 rfl rfl (hb hbytes d2) ?_
    refine XS.isub X0.here hexec rfl (hb hbytes d3) rfl ?_
    refine bipushV X0.here hexec rfl 31 (hb hbytes d4) (by decide) ?_
    refine iushr X0.here hexec rfl (hb hbytes d6) rfl ?_
    refine i2b X0.here hexec rfl (hb hbytes d7) rfl ?_
    exact Steps.refl _)
  have e0 : lo8 (ushr (Int32.ofNat B.slots.size - Int32.ofNat B.slots.size) 31) = 0 := by rw [Int32.sub_self]; decide
  rw [e0] at c3
  exact ⟨s₁, some (.int 0), _, _, _, X0, rfl, rfl, rfl, (fun h => by cases h), ⟨rfl, hh0⟩, fun fs hl => c3.trans (X0.ireturnOut hexec hret rfl (Or.inr (Or.inr (Or.inl rfl))) (hb hbytes d8) hl)⟩
end CodL
/-- the String at a is Latin-1 over a new byte[] (the heap's one new cell): the low bytes of the len chars of A from o on; every cell but a is kept -/
def Got (a : Addr) (D : Cell) (fV fC : Field) (A : Cell) (o len : Nat) (r : Option Value) (s u : State) : Prop := r = none ∧ ∃ D' V : Cell, Blank "java/lang/String" a D' u ∧ Same D D' [fV.slot, fC.slot] ∧ D'.slots[fV.slot]? = some (.ref s.heap.size) ∧ D'.slots[fC.slot]? = some (.int 0) ∧ Arr .byte s.heap.size V u ∧ V.vm = .none ∧ u.vm.findClass "[B" = some V.cls ∧ V.slots.size = len ∧ (∀ j, j < len → V.slots[j]? = some (.int (lo8 (cv A (o + j))))) ∧ (∀ (y : Addr) (c : Cell), y ≠ a → s.heap[y]? = some c → u.heap[y]? = some c) ∧ u.heap.size = s.heap.size + 1
theorem Got.mv {a : Addr} {D A : Cell} {fV fC : Field} {o len : Nat} : ∀ r (U U' V V' : State), U'.heap = U.heap → V.vm.Alike V'.vm → V'.heap = V.heap → Got a D fV fC A o len r U V → Got a D fV fC A o len r U' V' :=
  fun r U U' V V' h1 hal h2 ⟨e0, D', X, a1, a2, a3, a4, a5, a6, a7, a8, a9, a10, a11⟩ => ⟨e0, D', X, a1.mv hal h2, a2, by rw [h1]; exact a3, a4, by rw [h1]; exact a5.mv hal h2, a6, by rw [hal.findClass]; exact a7, a8, a9, by rw [h1, h2]; exact a10, by rw [h1, h2]; exact a11⟩
namespace New4
def yN : MethodName := ⟨"java/lang/String", "<init>", "([CIILjava/lang/Void;)V"⟩
abbrev yB : ByteArray := jdk_42_method_149_code
theorem d0 : decode yB 0 = .ok (.aload_n 0, 1) := by decide +kernel
theorem d1 : decode yB 1 = .ok (.invokespecial 1, 3) := by decide +kernel
theorem d4 : decode yB 4 = .ok (.iload_n 3, 1) := by decide +kernel
theorem d5 : decode yB 5 = .ok (.ifCond (.ne) 22, 3) := by decide +kernel
theorem d27 : decode yB 27 = .ok (.getstatic 38, 3) := by decide +kernel
theorem d30 : decode yB 30 = .ok (.ifCond (.eq) 28, 3) := by decide +kernel
theorem d33 : decode yB 33 = .ok (.aload_n 1, 1) := by decide +kernel
theorem d34 : decode yB 34 = .ok (.iload_n 2, 1) := by decide +kernel
theorem d35 : decode yB 35 = .ok (.iload_n 3, 1) := by decide +kernel
theorem d36 : decode yB 36 = .ok (.invokestatic 177, 3) := by decide +kernel
theorem d39 : decode yB 39 = .ok (.astore 5, 2) := by decide +kernel
theorem d41 : decode yB 41 = .ok (.aload_n 0, 1) := by decide +kernel
theorem d42 : decode yB 42 = .ok (.aload 5, 2) := by decide +kernel
theorem d44 : decode yB 44 = .ok (.iload_n 3, 1) := by decide +kernel
theorem d45 : decode yB 45 = .ok (.invokestatic 47, 3) := by decide +kernel
theorem d48 : decode yB 48 = .ok (.putfield 15, 3) := by decide +kernel
theorem d51 : decode yB 51 = .ok (.aload_n 0, 1) := by decide +kernel
theorem d52 : decode yB 52 = .ok (.aload 5, 2) := by decide +kernel
theorem d54 : decode yB 54 = .ok (.putfield 9, 3) := by decide +kernel
theorem d57 : decode yB 57 = .ok (.return_, 1) := by decide +kernel
def site : List Cond := [.fieldLink "java/lang/String" 38 "java/lang/String" "COMPACT_STRINGS" "Z", Cmp3.tab, CodL.tab, .laysFinal "java/lang/String" "java/lang/String" "value" "[B", .fieldLink "java/lang/String" 9 "java/lang/String" "value" "[B", .laysFinal "java/lang/String" "java/lang/String" "coder" "B", .fieldLink "java/lang/String" 15 "java/lang/String" "coder" "B"] ++ objW "java/lang/String" 1 ++ staticW "java/lang/String" 177 Cmp3.yN ++ staticW "java/lang/String" 47 CodL.yN
def tab : Cond := tabOf yN yB 6 none site
def P (a : Addr) (D : Cell) (fV fC : Field) (b : Addr) (A : Cell) (z : Int32) (o len : Nat) (args : Array Value) (s : State) : Prop := args = #[.ref a, .ref b, .int (Int32.ofNat o), .int (Int32.ofNat len), .null] ∧ Blank "java/lang/String" a D s ∧ Found "java/lang/String" "value" "[B" fV s ∧ Found "java/lang/String" "coder" "B" fC s ∧ Ch b A s ∧ StaticIs s "java/lang/String" "COMPACT_STRINGS" "Z" (.int z) ∧ ¬ z = 0 ∧ 0 < len ∧ o + len ≤ A.slots.size ∧ len ≤ 536870912 ∧ ∀ i, i < len → ¬ 255 < cv A (o + i)
def E (a : Addr) (D : Cell) (fV fC : Field) (A : Cell) (o len : Nat) (r : Option Value) (s u : State) : Prop := Got a D fV fC A o len r s u
/-- len > 0, no char of the range above 255: a Latin-1 String of their low bytes -/
theorem law (l : Launch) (a : Addr) (D : Cell) (fV fC : Field) (b : Addr) (A : Cell) (z : Int32) (o len : Nat) : Law l yN 5 4 2 35 yB 6 none site (P a D fV fC b A z o len) (E a D fV fC A o len) [⟨a, fC.slot⟩, ⟨a, fV.slot⟩] 1 len := by
  refine Law.of_walk (plainFor_of_name (by decide +kernel)) (by decide +kernel) (by decide +kernel) (by decide) (fun _ _ h => by rw [h.1]; rfl) (fun _ U U' hal hh h => ⟨h.1, h.2.1.mv hal hh, h.2.2.1.al hal, h.2.2.2.1.al hal, h.2.2.2.2.1.mv hal hh, h.2.2.2.2.2.1.there hal hh, h.2.2.2.2.2.2⟩) (fun r U U' V V' h1 hal h2 h => Got.mv r U U' V V' h1 hal h2 h) ?_
  intro p e s m args below meth c s₁ X0 hexec hbytes hml hret hlk hnm hown hh0 W hP
  obtain ⟨rfl, hB, f1, f2, hA, s1, hz, l0, l1, l2, hp⟩ := hP
  have a31 := hA.1.2.2.2
  have c1 : Steps p.tables e below (s₁.setTop (entryFrame m #[.ref a, .ref b, .int (Int32.ofNat o), .int (Int32.ofNat len), .null] 6)) (s₁.setTop (mkF m 0 #[.val (.ref a), .val (.ref b), .val (.int (Int32.ofNat o)), .val (.int (Int32.ofNat len)), .val .null, .unset] [])) := entry rfl
  have c2 : Steps p.tables e below (s₁.setTop (entryFrame m #[.ref a, .ref b, .int (Int32.ofNat o), .int (Int32.ofNat len), .null] 6)) (s₁.setTop (mkF m 1 #[.val (.ref a), .val (.ref b), .val (.int (Int32.ofNat o)), .val (.int (Int32.ofNat len)), .val .null, .unset] [.ref a])) := c1.trans (by
    refine XS.aloadN X0.here hexec rfl (hb hbytes d0) rfl rfl ?_
    exact Steps.refl _)
  obtain ⟨T3, X3, q3, st3⟩ := X0.oinit hexec hown (wks W (objW "java/lang/String" 1)) (g := (mkF m 1 #[.val (.ref a), .val (.ref b), .val (.int (Int32.ofNat o)), .val (.int (Int32.ofNat len)), .val .null, .unset] [.ref a])) rfl (by rw [hml]; rfl) (rest := []) rfl (hb hbytes d1) (W := 0) (by show 2 * 0 + 0 ≤ _; decide) (Nat.le_of_ble_eq_true rfl) (Nat.le_of_ble_eq_true rfl)
  have hh3 := q3.trans hh0
  have c4 : Steps p.tables e below (s₁.setTop (entryFrame m #[.ref a, .ref b, .int (Int32.ofNat o), .int (Int32.ofNat len), .null] 6)) (T3.setTop (mkF m 27 #[.val (.ref a), .val (.ref b), .val (.int (Int32.ofNat o)), .val (.int (Int32.ofNat len)), .val .null, .unset] [])) := (c2.trans (st3 _ (Steps.refl _))).trans (by
    refine XS.iloadN X3.here hexec rfl (hb hbytes d4) rfl ?_
    refine XS.ifYes X3.here hexec rfl (pc0 := 5) rfl (hb hbytes d5) rfl (i0_ne_t (nz32 (by omega) l0)) (by decide) rfl ?_
    exact Steps.refl _)
  obtain ⟨T5, X5, q5, st5⟩ := X3.sget hexec hown (wk W (.fieldLink "java/lang/String" 38 "java/lang/String" "COMPACT_STRINGS" "Z")) s1 (fun _ _ h => by rw [hh3]; exact h) (g := (mkF m 27 #[.val (.ref a), .val (.ref b), .val (.int (Int32.ofNat o)), .val (.int (Int32.ofNat len)), .val .null, .unset] [])) rfl (hb hbytes d27)
  have hh5 := q5.trans hh3
  have c6 : Steps p.tables e below (s₁.setTop (entryFrame m #[.ref a, .ref b, .int (Int32.ofNat o), .int (Int32.ofNat len), .null] 6)) (T5.setTop (mkF m 30 #[.val (.ref a), .val (.ref b), .val (.int (Int32.ofNat o)), .val (.int (Int32.ofNat len)), .val .null, .unset] [.int z])) := c4.trans (st5 _ (Steps.refl _))
  have c7 : Steps p.tables e below (s₁.setTop (entryFrame m #[.ref a, .ref b, .int (Int32.ofNat o), .int (Int32.ofNat len), .null] 6)) (T5.setTop (mkF m 36 #[.val (.ref a), .val (.ref b), .val (.int (Int32.ofNat o)), .val (.int (Int32.ofNat len)), .val .null, .unset] [.int (Int32.ofNat len), .int (Int32.ofNat o), .ref b])) := c6.trans (by
    refine XS.ifNo X5.here hexec rfl (hb hbytes d30) rfl (i0_eq_f hz) ?_
    refine XS.aloadN X5.here hexec rfl (hb hbytes d33) rfl rfl ?_
    refine XS.iloadN X5.here hexec rfl (hb hbytes d34) rfl ?_
    refine XS.iloadN X5.here hexec rfl (hb hbytes d35) rfl ?_
    exact Steps.refl _)
  obtain ⟨v8, T8, X8, E8, g8⟩ := X5.callS hexec (Cmp3.law l b A o len) hown (wks W (staticW "java/lang/String" 177 Cmp3.yN)) (wk W Cmp3.tab) (W := 0) (Nat.le_of_ble_eq_true rfl) (Nat.le_of_ble_eq_true rfl) (Nat.le_refl _) (by show 0 + len ≤ len; omega) (g := (mkF m 36 #[.val (.ref a), .val (.ref b), .val (.int (Int32.ofNat o)), .val (.int (Int32.ofNat len)), .val .null, .unset] [.int (Int32.ofNat len), .int (Int32.ofNat o), .ref b])) rfl (by rw [hml]; rfl) c7 (argsL := [.ref b, .int (Int32.ofNat o), .int (Int32.ofNat len)]) (rest := []) rfl rfl (by show 2 * 0 + 0 ≤ _; decide) (hb hbytes d36) (⟨rfl, hA.mv X5.warmed.alike hh5, l1, l2, hp⟩)
  obtain ⟨e8, z8⟩ := E8
  obtain ⟨rfl, N, n1, n2, n3, n4, n5, n6⟩ := NewArr.mv _ T5 s _ _ hh5.symm (Vm.Alike.refl _) rfl e8
  rw [hh5] at z8
  have hB1 := hB.keep X8.warmed.alike (n6 _ _ hB.1)
  have hne : s.heap.size ≠ a := (Nat.ne_of_lt (Array.getElem?_eq_some_iff.mp hB.1).1).symm
  have c9 : Steps p.tables e below (s₁.setTop (entryFrame m #[.ref a, .ref b, .int (Int32.ofNat o), .int (Int32.ofNat len), .null] 6)) (T8.setTop (mkF m 39 #[.val (.ref a), .val (.ref b), .val (.int (Int32.ofNat o)), .val (.int (Int32.ofNat len)), .val .null, .unset] [.ref s.heap.size])) := g8
  have c10 : Steps p.tables e below (s₁.setTop (entryFrame m #[.ref a, .ref b, .int (Int32.ofNat o), .int (Int32.ofNat len), .null] 6)) (T8.setTop (mkF m 45 #[.val (.ref a), .val (.ref b), .val (.int (Int32.ofNat o)), .val (.int (Int32.ofNat len)), .val .null, .val (.ref s.heap.size)] [.int (Int32.ofNat N.slots.size), .ref s.heap.size, .ref a])) := by
    have hc : Steps p.tables e below (s₁.setTop (entryFrame m #[.ref a, .ref b, .int (Int32.ofNat o), .int (Int32.ofNat len), .null] 6)) (T8.setTop (mkF m 45 #[.val (.ref a), .val (.ref b), .val (.int (Int32.ofNat o)), .val (.int (Int32.ofNat len)), .val .null, .val (.ref s.heap.size)] [.int (Int32.ofNat len), .ref s.heap.size, .ref a])) := c9.trans (by
      refine XS.astore X8.here hexec rfl (hb hbytes d39) rfl rfl rfl ?_
      refine XS.aloadN X8.here hexec rfl (hb hbytes d41) rfl rfl ?_
      refine XS.aload X8.here hexec rfl (hb hbytes d42) rfl rfl ?_
      refine XS.iloadN X8.here hexec rfl (hb hbytes d44) rfl ?_
      exact Steps.refl _)
    rw [n4]; exact hc
  obtain ⟨v11, T11, X11, E11, g11⟩ := X8.callS hexec (CodL.law l s.heap.size N) hown (wks W (staticW "java/lang/String" 47 CodL.yN)) (wk W CodL.tab) (W := 1) (Nat.le_of_ble_eq_true rfl) (Nat.le_of_ble_eq_true rfl) (Nat.le_refl _) (by show 0 + len + 0 ≤ len; omega) (g := (mkF m 45 #[.val (.ref a), .val (.ref b), .val (.int (Int32.ofNat o)), .val (.int (Int32.ofNat len)), .val .null, .val (.ref s.heap.size)] [.int (Int32.ofNat N.slots.size), .ref s.heap.size, .ref a])) rfl (by rw [hml]; rfl) c10 (argsL := [.ref s.heap.size, .int (Int32.ofNat N.slots.size)]) (rest := [.ref a]) rfl rfl (by show 2 * 0 + (1 + 0) ≤ _; decide) (hb hbytes d45) (⟨rfl, n1⟩)
  obtain ⟨rfl, q11⟩ := E11
  have hB11 := hB1.mv (X8.warmed.alike.symm.trans X11.warmed.alike) q11
  have c12 : Steps p.tables e below (s₁.setTop (entryFrame m #[.ref a, .ref b, .int (Int32.ofNat o), .int (Int32.ofNat len), .null] 6)) (T11.setTop (mkF m 48 #[.val (.ref a), .val (.ref b), .val (.int (Int32.ofNat o)), .val (.int (Int32.ofNat len)), .val .null, .val (.ref s.heap.size)] [.int 0, .ref a])) := g11
  obtain ⟨T13, X13, p13, bl13, sl13, st13⟩ := X11.finit hexec hown (wk W (.fieldLink "java/lang/String" 15 "java/lang/String" "coder" "B")) (Or.inr ⟨_, (wk W (.laysFinal "java/lang/String" "java/lang/String" "coder" "B"))⟩) (Or.inl ⟨rfl, hnm⟩) f2 (Or.inl rfl) hB11 (t := .byte) (by decide +kernel) rfl (g := (mkF m 48 #[.val (.ref a), .val (.ref b), .val (.int (Int32.ofNat o)), .val (.int (Int32.ofNat len)), .val .null, .val (.ref s.heap.size)] [.int 0, .ref a])) rfl (rest := []) rfl (hb hbytes d48)
  have c14 : Steps p.tables e below (s₁.setTop (entryFrame m #[.ref a, .ref b, .int (Int32.ofNat o), .int (Int32.ofNat len), .null] 6)) (T13.setTop (mkF m 54 #[.val (.ref a), .val (.ref b), .val (.int (Int32.ofNat o)), .val (.int (Int32.ofNat len)), .val .null, .val (.ref s.heap.size)] [.ref s.heap.size, .ref a])) := (c12.trans (st13 _ (Steps.refl _))).trans (by
    refine XS.aloadN X13.here hexec rfl (hb hbytes d51) rfl rfl ?_
    refine XS.aload X13.here hexec rfl (hb hbytes d52) rfl rfl ?_
    exact Steps.refl _)
  obtain ⟨T15, X15, p15, bl15, sl15, st15⟩ := X13.finit hexec hown (wk W (.fieldLink "java/lang/String" 9 "java/lang/String" "value" "[B")) (Or.inr ⟨_, (wk W (.laysFinal "java/lang/String" "java/lang/String" "value" "[B"))⟩) (Or.inl ⟨rfl, hnm⟩) f1 (Or.inl rfl) bl13 (t := (.array .byte)) (by decide +kernel) rfl (g := (mkF m 54 #[.val (.ref a), .val (.ref b), .val (.int (Int32.ofNat o)), .val (.int (Int32.ofNat len)), .val .null, .val (.ref s.heap.size)] [.ref s.heap.size, .ref a])) rfl (rest := []) rfl (hb hbytes d54)
  have c16 : Steps p.tables e below (s₁.setTop (entryFrame m #[.ref a, .ref b, .int (Int32.ofNat o), .int (Int32.ofNat len), .null] 6)) (T15.setTop (mkF m 57 #[.val (.ref a), .val (.ref b), .val (.int (Int32.ofNat o)), .val (.int (Int32.ofNat len)), .val .null, .val (.ref s.heap.size)] [])) := c14.trans (st15 _ (Steps.refl _))
  have ap := apart (Or.inr ⟨_, (wk W (.laysFinal "java/lang/String" "java/lang/String" "value" "[B"))⟩) (Or.inr ⟨_, (wk W (.laysFinal "java/lang/String" "java/lang/String" "coder" "B"))⟩) f1 f2 (t₁ := .array .byte) (t₂ := .byte) (by decide +kernel) (by decide +kernel) (by decide)
  have al := X8.warmed.alike.symm.trans X15.warmed.alike
  have n7 : T11.heap[s.heap.size]? = some N := by rw [q11]; exact n1.1
  exact ⟨T15, none, _, _, _, X15, by simp, rfl, by omega, (fun _ => rfl), ⟨rfl, _, N, bl15, ((Same.refl D _).set _ (by simp)).set _ (by simp), sl15, (Cell.slots_setSlot_ne _ ap).trans sl13, n1.keep al (p15.other hne (p13.other hne n7)), n2, by rw [al.findClass]; exact n3, n4, n5, fun y c h1 h2 => p15.other h1 (p13.other h1 (by rw [q11]; exact n6 y c h2)), by rw [p15.2.2, p13.2.2, q11]; exact z8⟩, fun fs hl => c16.trans (X15.returnOut hexec hret (hb hbytes d57) hl)⟩
end New4
namespace New1
def yN : MethodName := ⟨"java/lang/String", "<init>", "([C)V"⟩
abbrev yB : ByteArray := jdk_42_method_3_code
theorem d0 : decode yB 0 = .ok (.aload_n 0, 1) := by decide +kernel
theorem d1 : decode yB 1 = .ok (.aload_n 1, 1) := by decide +kernel
theorem d2 : decode yB 2 = .ok (.iconst 0, 1) := by decide +kernel
theorem d3 : decode yB 3 = .ok (.aload_n 1, 1) := by decide +kernel
theorem d4 : decode yB 4 = .ok (.arraylength, 1) := by decide +kernel
theorem d5 : decode yB 5 = .ok (.aconst_null, 1) := by decide +kernel
theorem d6 : decode yB 6 = .ok (.invokespecial 27, 3) := by decide +kernel
theorem d9 : decode yB 9 = .ok (.return_, 1) := by decide +kernel
def site : List Cond := [New4.tab] ++ initW "java/lang/String" 27 New4.yN
def tab : Cond := tabOf yN yB 2 none site
def P (a : Addr) (D : Cell) (fV fC : Field) (b : Addr) (A : Cell) (z : Int32) (args : Array Value) (s : State) : Prop := args = #[.ref a, .ref b] ∧ Blank "java/lang/String" a D s ∧ Found "java/lang/String" "value" "[B" fV s ∧ Found "java/lang/String" "coder" "B" fC s ∧ Ch b A s ∧ StaticIs s "java/lang/String" "COMPACT_STRINGS" "Z" (.int z) ∧ ¬ z = 0 ∧ 0 < A.slots.size ∧ A.slots.size ≤ 536870912 ∧ ∀ i, i < A.slots.size → ¬ 255 < cv A i
def E (a : Addr) (D : Cell) (fV fC : Field) (A : Cell) (r : Option Value) (s u : State) : Prop := Got a D fV fC A 0 A.slots.size r s u
/-- new String(chars), not empty, no char above 255: a Latin-1 String of their low bytes -/
theorem law (l : Launch) (a : Addr) (D : Cell) (fV fC : Field) (b : Addr) (A : Cell) (z : Int32) : Law l yN 2 1 3 52 yB 2 none site (P a D fV fC b A z) (E a D fV fC A) [⟨a, fC.slot⟩, ⟨a, fV.slot⟩] 1 A.slots.size := by
  refine Law.of_walk (plainFor_of_name (by decide +kernel)) (by decide +kernel) (by decide +kernel) (by decide) (fun _ _ h => by rw [h.1]; rfl) (fun _ U U' hal hh h => ⟨h.1, h.2.1.mv hal hh, h.2.2.1.al hal, h.2.2.2.1.al hal, h.2.2.2.2.1.mv hal hh, h.2.2.2.2.2.1.there hal hh, h.2.2.2.2.2.2⟩) (fun r U U' V V' h1 hal h2 h => Got.mv r U U' V V' h1 hal h2 h) ?_
  intro p e s m args below meth c s₁ X0 hexec hbytes hml hret hlk hnm hown hh0 W hP
  obtain ⟨rfl, hB, f1, f2, hA, s1, hz, l0, l2, hp⟩ := hP
  have c1 : Steps p.tables e below (s₁.setTop (entryFrame m #[.ref a, .ref b] 2)) (s₁.setTop (mkF m 0 #[.val (.ref a), .val (.ref b)] [])) := entry rfl
  have c2 : Steps p.tables e below (s₁.setTop (entryFrame m #[.ref a, .ref b] 2)) (s₁.setTop (mkF m 6 #[.val (.ref a), .val (.ref b)] [.null, .int (Int32.ofNat A.slots.size), .int 0, .ref b, .ref a])) := c1.trans (by
    refine XS.aloadN X0.here hexec rfl (hb hbytes d0) rfl rfl ?_
    refine XS.aloadN X0.here hexec rfl (hb hbytes d1) rfl rfl ?_
    refine iconstV X0.here hexec rfl 0 (hb hbytes d2) (by decide) ?_
    refine XS.aloadN X0.here hexec rfl (hb hbytes d3) rfl rfl ?_
    refine X0.alen hexec (hA.1.mv X0.warmed.alike hh0) rfl rfl (hb hbytes d4) ?_
    refine XS.aconstNull X0.here hexec rfl (hb hbytes d5) ?_
    exact Steps.refl _)
  obtain ⟨v3, T3, X3, E3, g3⟩ := X0.callN hexec (New4.law l a D fV fC b A z 0 A.slots.size) rfl hown (wks W (initW "java/lang/String" 27 New4.yN)) (W New4.tab (by simp only [site, List.mem_cons, List.mem_append, true_or, or_true])) (W := 0) (Nat.le_of_ble_eq_true rfl) (Nat.le_of_ble_eq_true rfl) (Nat.le_refl _) (by show 0 + A.slots.size ≤ A.slots.size; omega) (g := (mkF m 6 #[.val (.ref a), .val (.ref b)] [.null, .int (Int32.ofNat A.slots.size), .int (Int32.ofNat 0), .ref b, .ref a])) rfl (by rw [hml]; rfl) c2 (argsL := [.ref b, .int (Int32.ofNat 0), .int (Int32.ofNat A.slots.size), .null]) (rest := []) rfl rfl (by show 2 * 0 + 0 ≤ _; decide) (hb hbytes d6) (⟨rfl, hB.mv X0.warmed.alike hh0, f1.al X0.warmed.alike, f2.al X0.warmed.alike, hA.mv X0.warmed.alike hh0, s1.there X0.warmed.alike hh0, hz, l0, by omega, l2, fun i hi => by rw [Nat.zero_add]; exact hp i hi⟩)
  have e0 := Got.mv _ s₁ s _ _ hh0.symm (Vm.Alike.refl _) rfl E3
  obtain rfl := e0.1
  have c4 : Steps p.tables e below (s₁.setTop (entryFrame m #[.ref a, .ref b] 2)) (T3.setTop (mkF m 9 #[.val (.ref a), .val (.ref b)] [])) := g3
  exact ⟨T3, none, _, _, _, X3, by simp, rfl, by omega, (fun _ => rfl), e0, fun fs hl => c4.trans (X3.returnOut hexec hret (hb hbytes d9) hl)⟩
theorem pays {l : Launch} {R : Room} {p : Program} {e : Env} {below : List Frame} {s : State} {sargs : Array Value} {len W : Nat} (a : Addr) (D : Cell) (fV fC : Field) (b : Addr) (A : Cell) (z : Int32) (htab : tab.before sargs s = true) (hfr : 4 ≤ R.frames) (hlo : W + 65 ≤ R.locals) :
    Back l R p e below s sargs yN len W (fun A₁ a₁ => A₁.cells + 1 ≤ R.cells ∧ A₁.slots + A.slots.size ≤ R.slots ∧ P a D fV fC b A z a₁ A₁.U) (fun A₁ _ v₁ B₁ => E a D fV fC A v₁ A₁.U B₁.U ∧ B₁.locs = A₁.locs ++ [⟨a, fC.slot⟩, ⟨a, fV.slot⟩] ∧ B₁.cells = A₁.cells + 1 ∧ B₁.slots = A₁.slots + A.slots.size) :=
  (law l a D fV fC b A z).pays htab hfr (by omega)
end New1
/-- the byte, read back as charAt reads it, is the char -/
theorem lo8_mask {x : Int32} (h0 : ¬ x < 0) (h1 : ¬ 255 < x) : lo8 x &&& 255 = x := by
  have t : ∀ k : Fin 256, lo8 (Int32.ofNat k.val) &&& 255 = Int32.ofNat k.val := by decide +kernel
  rw [Int32.lt_iff_toInt_lt] at h0 h1
  have e0 : (0 : Int32).toInt = 0 := rfl
  have e1 : (255 : Int32).toInt = 255 := rfl
  obtain ⟨k, hk⟩ : ∃ k : Nat, x.toInt = k := ⟨x.toInt.toNat, by omega⟩
  have hx : x = Int32.ofNat k := Int32.toInt_inj.mp (by rw [hk, Int32.toInt_ofNat_small (by omega)])
  rw [hx]
  exact t ⟨k, by omega⟩
end StrChars
namespace StrChars.Road
open Jvm Sem ClassFile Op Lib Jvm.Stand Jvm.Free Jvm.Free.XT
open Jvm.Lib.Cold (StaticIs)
abbrev ST : String := "java/lang/String"
/-- every table word that New1's law asks, flat -/
abbrev words : List Jvm.Cond := [.code New1.yN New1.yB 2 none, .initialized ST, .methodLink ST 27 New4.yN, .instanceMethod New4.yN,
  .code New4.yN New4.yB 6 none, .fieldLink ST 38 ST "COMPACT_STRINGS" "Z", .laysFinal ST ST "value" "[B", .fieldLink ST 9 ST "value" "[B", .laysFinal ST ST "coder" "B", .fieldLink ST 15 ST "coder" "B",
  .methodLink ST 1 Lib.objectInit, .instanceMethod Lib.objectInit, .code Lib.objectInit ⟨#[0xb1]⟩ 1 none, .methodLink ST 177 Cmp3.yN, .static Cmp3.yN, .methodLink ST 47 CodL.yN, .static CodL.yN,
  .code Cmp3.yN Cmp3.yB 6 (some (.array .byte)), .initialized U16, .arrayClass .byte, .methodLink U16 115 Cmp5.yN, .static Cmp5.yN, .code Cmp5.yN Cmp5.yB 7 (some .int), .code CodL.yN CodL.yB 2 (some .byte)]
theorem tab_of {a : Array Value} {s : State} (h : ∀ w ∈ words, w.before a s = true) : New1.tab.before a s = true := by
  have h5 : Cmp5.tab.before a s = true := unparts (wk h (.code Cmp5.yN Cmp5.yB 7 (some .int))) (wks h (.initialized Cmp5.yN.cls :: Cmp5.site))
  have hc : CodL.tab.before a s = true := unparts (wk h (.code CodL.yN CodL.yB 2 (some .byte))) (wks h (.initialized CodL.yN.cls :: CodL.site))
  have q5 : ∀ w ∈ Cmp5.tab :: words, w.before a s = true := fun w hw => (List.mem_cons.mp hw).elim (fun e => e ▸ h5) (h w)
  have h3 : Cmp3.tab.before a s = true := unparts (wk q5 (.code Cmp3.yN Cmp3.yB 6 (some (.array .byte)))) (wks q5 (.initialized Cmp3.yN.cls :: Cmp3.site))
  have q3 : ∀ w ∈ Cmp3.tab :: CodL.tab :: words, w.before a s = true := fun w hw => (List.mem_cons.mp hw).elim (fun e => e ▸ h3) fun hw => (List.mem_cons.mp hw).elim (fun e => e ▸ hc) (h w)
  have h4 : New4.tab.before a s = true := unparts (wk q3 (.code New4.yN New4.yB 6 none)) (wks q3 (.initialized New4.yN.cls :: New4.site))
  have q4 : ∀ w ∈ New4.tab :: words, w.before a s = true := fun w hw => (List.mem_cons.mp hw).elim (fun e => e ▸ h4) (h w)
  exact unparts (wk q4 (.code New1.yN New1.yB 2 none)) (wks q4 (.initialized New1.yN.cls :: New1.site))
/-- the words ride from the start Z to the walk's own state -/
theorem moved {Z s : State} {a0 args : Array Value} (hZ : Z.Warmed39 s.vm) (hw : ∀ d ∈ words, d.before a0 Z = true) : ∀ d ∈ words, d.before args s = true := fun d hd => by
  have q := hw d hd
  have t : ∀ d ∈ words, d = .arrayClass .byte ∨ (d.onTables && d.keepsFace) = true := by decide +kernel
  rcases t d hd with rfl | t
  · exact RoadKit.mvA hZ q
  · exact RoadKit.mv hZ q t
/-- WHAT COMES BACK, over the tables of the start Z: h the heap at the call, h' behind it -/
def Q (Z : State) (x : Addr) (A : Cell) (h : Heap) (v : Option Value) (h' : Heap) (L : List Loc) : Prop := v = none ∧ (∀ y ∈ L, y.base = x) ∧ RoadKit.Keep h h' [x] ∧ h'.size = h.size + 1 ∧ RoadKit.Exa Z h' x ST ∧ RoadKit.Fld Z h' x ST "value" "[B" (.ref h.size) ∧ RoadKit.Fld Z h' x ST "coder" "B" (.int 0) ∧
  (∃ V : Cell, RoadKit.Arr Z h' h.size V .byte ∧ V.vm = .none ∧ Z.vm.findClass "[B" = some V.cls ∧ V.slots.size = A.slots.size ∧ ∀ j, j < A.slots.size → V.slots[j]? = some (.int (lo8 (cv A j)))) ∧
  ∀ (O n d : String) (w : Value), RoadKit.Fld Z h x O n d w → RoadKit.slotOf Z O n d ≠ RoadKit.slotOf Z ST "value" "[B" → RoadKit.slotOf Z O n d ≠ RoadKit.slotOf Z ST "coder" "B" → RoadKit.Fld Z h' x O n d w
/-- **new String(chars) AT A CALL, IN THE ROAD'S FORM**: for specialBack behind newO: x the fresh String, b the char[] with the cell A -/
theorem back {p : Program} {l : Launch} {e : Env} {R : Room} {s : State} {args : Array Value} {below : List Frame} {len W : Nat} {Z : State} {a0 : Array Value} {h : Heap} (hZ : Z.Warmed39 s.vm) (hw : ∀ d ∈ words, d.before a0 Z = true) {kI : Nat} (wi : (Jvm.Cond.instantiable ST kI).before a0 Z = true)
    {x b : Addr} {A : Cell} {z : Int32} {v0 c0 : Value} (E : RoadKit.Exa Z h x ST) (V : RoadKit.Fld Z h x ST "value" "[B" v0) (C : RoadKit.Fld Z h x ST "coder" "B" c0) (K : RoadKit.Arr Z h b A .char) (hty : Typed .char A) (S : RoadKit.Sta Z h ST "COMPACT_STRINGS" "Z" (.int z)) (hz : ¬ z = 0)
    (l0 : 0 < A.slots.size) (l2 : A.slots.size ≤ 536870912) (hp : ∀ i, i < A.slots.size → ¬ 255 < cv A i) (hfr : 4 ≤ R.frames) (hlo : W + 65 ≤ R.locals) :
    Back l R p e below s args New1.yN len W (fun P a => a = #[.ref x, .ref b] ∧ P.U.heap = h ∧ P.cells + 1 ≤ R.cells ∧ P.slots + A.slots.size ≤ R.slots)
      (fun P _ v B => ∃ L, Q Z x A h v B.U.heap L ∧ B.locs = P.locs ++ L ∧ B.cells = P.cells + 1 ∧ B.slots = P.slots + A.slots.size) := by
  intro m meth c P g ig mk a X hg hsize hdg hW hn hp'
  obtain ⟨rfl, rfl, r1, r2⟩ := hp'
  have al : Z.vm.Alike P.U.vm := hZ.alike.trans X.warmed.alike
  obtain ⟨D, cfV, kV, iV, fV, hD, gV, stV, knV, obV, asV, slV⟩ := id V
  obtain ⟨D', cfC, kC, iC, fC, hD', gC, stC, -, -, asC, slC⟩ := id C
  cases hD.symm.trans hD'
  obtain ⟨D2, kD, e1, e2, e3, e4, e5⟩ := id E
  cases hD.symm.trans e1
  obtain ⟨c2, k2, i1, i2, i3, -⟩ := Cond.instantiable_spec wi
  cases e2.symm.trans i1
  cases e3.symm.trans i2
  obtain ⟨kU, u1, u2⟩ := al.2.2 _ _ e3
  have hB : Blank ST x D P.U := ⟨hD, ⟨knV, fun q hq => by rw [hq] at obV; cases obV⟩, by rw [al.findClass]; exact e2, kU, u1, by rw [u2]; exact i3, by rw [u2]; exact e5 i3⟩
  have F1 : Found ST "value" "[B" fV P.U := ⟨SBG.found_only al ⟨cfV, kV, iV, gV⟩, stV⟩
  have F2 : Found ST "coder" "B" fC P.U := ⟨SBG.found_only al ⟨cfC, kC, iC, gC⟩, stC⟩
  have hA : Ch b A P.U := ⟨⟨K.1, State.isArrayOf_alike al K.2.1, K.2.2, by omega⟩, hty⟩
  have hS : StaticIs P.U ST "COMPACT_STRINGS" "Z" (.int z) := by
    obtain ⟨cfS, iS, kS, fS, st, cS, t1, t2, t3, t4, t5, t6, t7⟩ := S
    exact StaticIs.there (s := { Z with heap := P.U.heap }) ⟨cfS, iS, kS, fS, st, cS, t1, t2, t3, t4, t5, (fun q => by rw [q] at t6; cases t6), t7⟩ al rfl
  obtain ⟨v, B, X', ⟨⟨hv, E', V', q1, q2, q3, q4, q5, q6, q7, q8, q9, q10, q11⟩, hl, hc, hs⟩, st⟩ := New1.pays x D fV fC b A z (tab_of (moved hZ hw)) hfr hlo m meth c P g ig mk _ X hg hsize hdg hW hn ⟨r1, r2, rfl, hB, F1, F2, hA, hS, hz, l0, l2, hp⟩
  have al' : Z.vm.Alike B.U.vm := hZ.alike.trans X'.warmed.alike
  have hsz : E'.slots.size = D.slots.size := by
    obtain ⟨-, -, -, kB, w1, w2, w3⟩ := q1
    obtain ⟨kB', y1, y2⟩ := al'.2.2 _ _ e3
    rw [q2.2.1] at w1
    cases w1.symm.trans y1
    rw [w3, e5 i3, y2]
  refine ⟨v, B, X', ⟨_, ⟨hv, ?_, ⟨by omega, fun y cy hy hn' => q10 y cy (by simpa using hn') hy, fun y cy hy => ?_⟩, q11, ⟨E', _, q1.1, by rw [q2.2.1]; exact e2, by rw [q2.2.1]; exact e3, by rw [q2.1]; exact obV, fun _ => by rw [hsz]; exact e5 i3⟩,
    ⟨E', cfV, kV, iV, fV, q1.1, gV, stV, by rw [q2.1]; exact knV, by rw [q2.1]; exact obV, by rw [q2.2.1]; exact asV, q3⟩, ⟨E', cfC, kC, iC, fC, q1.1, gC, stC, by rw [q2.1]; exact knV, by rw [q2.1]; exact obV, by rw [q2.2.1]; exact asC, q4⟩,
    ⟨V', ⟨q5.1, State.isArrayOf_alike al'.symm q5.2.1, q5.2.2.1⟩, q6, by rw [← al'.findClass]; exact q7, q8, fun j hj => by have := q9 j hj; rwa [Nat.zero_add] at this⟩, fun O n d w F n1 n2 => ?_⟩, hl, hc, hs⟩, st⟩
  · intro y hy
    simp only [List.mem_cons, List.not_mem_nil, or_false] at hy
    rcases hy with rfl | rfl <;> rfl
  · by_cases q : y = x
    · subst q
      cases hD.symm.trans hy
      exact ⟨E', q1.1, q2.2.1, q2.1, hsz⟩
    · exact ⟨cy, q10 y cy q hy, rfl, rfl, rfl⟩
  · obtain ⟨D3, cf, k, i, f, g1, g2, g3, g4, g5, g6, g7⟩ := F
    cases hD.symm.trans g1
    simp only [RoadKit.slotOf, g2, gV, gC, Option.map_some, Option.getD_some] at n1 n2
    exact ⟨E', cf, k, i, f, q1.1, g2, g3, by rw [q2.1]; exact g4, by rw [q2.1]; exact g5, by rw [q2.2.1]; exact g6, by rw [q2.2.2 f.slot (by simp [n1, n2])]; exact g7⟩
end StrChars.Road
namespace StrChars.Road
open Jvm Sem ClassFile Op Lib Jvm.Stand Jvm.Free Jvm.Free.XT
/-- WHAT COMES BACK, the byte[] as a list of values -/
def QA (Z : State) (x : Addr) (zn : Int32) (cs : List Int32) (h : Heap) (v : Option Value) (h' : Heap) (L : List Loc) : Prop := v = none ∧ (∀ y ∈ L, y.base = x) ∧ RoadKit.Keep h h' [x] ∧ h'.size = h.size + 1 ∧ RoadKit.Exa Z h' x ST ∧ RoadKit.Fld Z h' x ST "value" "[B" (.ref h.size) ∧ RoadKit.Fld Z h' x ST "coder" "B" (.int 0) ∧
  (∃ kb, Z.vm.findClass "[B" = some kb ∧ RoadKit.Arv Z h' h.size kb .byte zn (cs.map fun c => .int (lo8 c)) (.int 0)) ∧
  ∀ (O n d : String) (w : Value), RoadKit.Fld Z h x O n d w → RoadKit.slotOf Z O n d ≠ RoadKit.slotOf Z ST "value" "[B" → RoadKit.slotOf Z O n d ≠ RoadKit.slotOf Z ST "coder" "B" → RoadKit.Fld Z h' x O n d w
/-- **new String(chars) AT A CALL, THE ARRAYS AS LISTS**: the char[] at b holds cs, not empty, no char above 255 -/
theorem backArv {p : Program} {l : Launch} {e : Env} {R : Room} {s : State} {args : Array Value} {below : List Frame} {len W : Nat} {Z : State} {a0 : Array Value} {h : Heap} (hZ : Z.Warmed39 s.vm) (hw : ∀ d ∈ words, d.before a0 Z = true) {kI : Nat} (wi : (Jvm.Cond.instantiable ST kI).before a0 Z = true)
    {x b : Addr} {k : ClassId} {zn z : Int32} {cs : List Int32} {dv v0 c0 : Value} (E : RoadKit.Exa Z h x ST) (V : RoadKit.Fld Z h x ST "value" "[B" v0) (C : RoadKit.Fld Z h x ST "coder" "B" c0) (K : RoadKit.Arv Z h b k .char zn (cs.map Value.int) dv) (S : RoadKit.Sta Z h ST "COMPACT_STRINGS" "Z" (.int z)) (hz : ¬ z = 0)
    (hlen : zn.toNatClampNeg = cs.length) (h0 : 0 < cs.length) (hbig : cs.length ≤ 536870912) (hall : ∀ c ∈ cs, ¬ 255 < c) (hfr : 4 ≤ R.frames) (hlo : W + 65 ≤ R.locals) :
    Back l R p e below s args New1.yN len W (fun P a => a = #[.ref x, .ref b] ∧ P.U.heap = h ∧ P.cells + 1 ≤ R.cells ∧ P.slots + cs.length ≤ R.slots)
      (fun P _ v B => ∃ L, QA Z x zn cs h v B.U.heap L ∧ B.locs = P.locs ++ L ∧ B.cells = P.cells + 1 ∧ B.slots = P.slots + cs.length) := by
  obtain ⟨A, K1, K2, K3, K4, K5, K6⟩ := K
  have e : A.slots.size = cs.length := K3.trans hlen
  have hat : ∀ (i : Nat) (hi : i < cs.length), A.slots[i]? = some (.int cs[i]) := fun i hi => by rw [K5 i (by omega)]; simp [List.getD_eq_getElem?_getD, hi]
  have hcv : ∀ (i : Nat) (hi : i < cs.length), cv A i = cs[i] := fun i hi => by unfold cv; rw [hat i hi]
  have hty : Typed .char A := fun i v hv => by
    have hi : i < A.slots.size := (Array.getElem?_eq_some_iff.mp hv).1
    have q := K5 i hi
    rw [hv] at q
    rw [Option.some.inj q]
    exact K6 i hi
  refine Back.mono (back hZ hw wi E V C K1 hty S hz (by omega) (by omega) (fun i hi => by rw [hcv i (by omega)]; exact hall _ (List.getElem_mem _)) hfr hlo) (fun P a hp => ⟨hp.1, hp.2.1, hp.2.2.1, by rw [e]; exact hp.2.2.2⟩) (fun P a v B hp hq => ?_)
  obtain ⟨L, ⟨q1, q2, q3, q4, q5, q6, q7, ⟨V', v1, v2, v3, v4, v5⟩, q9⟩, hl, hc, hs⟩ := hq
  refine ⟨L, ⟨q1, q2, q3, q4, q5, q6, q7, ⟨V'.cls, v3, V', v1, rfl, by rw [v4, e, hlen], K4, fun i hi => ?_, fun i hi => ?_⟩, q9⟩, hl, hc, by rw [hs, e]⟩
  · have hi' : i < cs.length := by omega
    rw [v5 i (by omega), hcv i hi']; simp [List.getD_eq_getElem?_getD, hi']
  · have hi' : i < cs.length := by omega
    simp only [List.getD_eq_getElem?_getD, List.getElem?_map, List.getElem?_eq_getElem hi', Option.map_some, Option.getD_some]
    exact fits_lo8 _
end StrChars.Road
namespace StrChars.Road
open Jvm Sem ClassFile Op Lib Jvm.Stand Jvm.Free Jvm.Free.XT
/-- WHAT COMES BACK, in the writer's own shape -/
def QV (Z : State) (x : Addr) (N : Int32) (bs : List Int32) (h : Heap) (n0 : Nat) (v : Option Value) (h' : Heap) (L : List Loc) : Prop := v = none ∧ RoadKit.Fr n0 L ∧ RoadKit.Keep h h' [x] ∧ RoadKit.Exa Z h' x ST ∧ RoadKit.Fld Z h' x ST "coder" "B" (.int 0) ∧
  ∃ (t : Addr) (kb : ClassId), n0 ≤ t ∧ h.size ≤ t ∧ ¬ t = x ∧ RoadKit.Fld Z h' x ST "value" "[B" (.ref t) ∧ RoadKit.Arv Z h' t kb .byte N (bs.map Value.int) (.int 0)
/-- **new String(chars) AT A CALL, FOR THE WRITER**: a char[] of n known ints, each 0 to 255 -/
theorem backV {p : Program} {l : Launch} {e : Env} {R : Room} {s : State} {args : Array Value} {below : List Frame} {len W : Nat} {Z : State} {a0 : Array Value} {h : Heap} (hZ : Z.Warmed39 s.vm) (hw : ∀ d ∈ words, d.before a0 Z = true) {kI : Nat} (wi : (Jvm.Cond.instantiable ST kI).before a0 Z = true)
    {x b : Addr} {kC : ClassId} {cs bs : List Int32} {d v0 c0 : Value} {z N : Int32} {n n0 : Nat} (hx0 : n0 ≤ x) (hh0 : n0 ≤ h.size) (E : RoadKit.Exa Z h x ST) (V : RoadKit.Fld Z h x ST "value" "[B" v0) (C : RoadKit.Fld Z h x ST "coder" "B" c0) (K : RoadKit.Arv Z h b kC .char N (cs.map Value.int) d) (S : RoadKit.Sta Z h ST "COMPACT_STRINGS" "Z" (.int z)) (hz : ¬ z = 0)
    (hn : cs.length = n) (hN : N = Int32.ofNat n) (l0 : 0 < n) (l2 : n ≤ 4000) (hp : ∀ c ∈ cs, ¬ c < 0 ∧ ¬ (255 : Int32) < c) (hb : bs = cs.map (fun c => c.toInt8.toInt32)) (hfr : 4 ≤ R.frames) (hlo : W + 65 ≤ R.locals) :
    Back l R p e below s args (⟨"java/lang/String", "<init>", "([C)V"⟩ : MethodName) len W (fun P a => a = #[.ref x, .ref b] ∧ P.U.heap = h ∧ P.cells + 1 ≤ R.cells ∧ P.slots + n ≤ R.slots)
      (fun P _ v B => ∃ L, QV Z x N bs h n0 v B.U.heap L ∧ B.locs = P.locs ++ L ∧ B.cells = P.cells + 1 ∧ B.slots = P.slots + n) := by
  subst hn hN hb
  refine Back.mono (backArv hZ hw wi E V C K S hz (n32 (by omega)) l0 (by omega) (fun c hc => (hp c hc).2) hfr hlo) (fun P a hp => hp) (fun P a v B hp hq => ?_)
  obtain ⟨L, ⟨q1, q2, q3, q4, q5, q6, q7, ⟨kb, v1, v2⟩, q9⟩, hl, hc, hs⟩ := hq
  exact ⟨L, ⟨q1, fun y hy => by rw [q2 y hy]; exact hx0, q3, q5, q7, h.size, kb, hh0, Nat.le_refl _, Nat.ne_of_gt E.lt, q6, by rw [List.map_map]; exact v2⟩, hl, hc, hs⟩
end StrChars.Road
namespace StrChars
open Jvm Sem ClassFile Op Lib Jvm.Stand Jvm.Free.XT Jvm.Free.ALB Jvm.Free.JM Jvm.Free
open Jvm.Lib.Cold (StaticIs)
def hi8 (x : Int32) : Int32 := lo8 (x >>> ((8 : Int32) &&& 31))
/-- what StringUTF16.getChar makes of two bytes -/
def pairCh (u v : Int32) : Int32 := (((u &&& 255) <<< ((0 : Int32) &&& 31)) ||| ((v &&& 255) <<< ((8 : Int32) &&& 31))).toUInt32.toUInt16.toUInt32.toInt32
theorem lo8_and (x : Int32) : (lo8 x &&& 255).toBitVec.toNat = x.toBitVec.toNat % 256 := by
  have h : (lo8 x).toBitVec = (x.toBitVec.signExtend 8).signExtend 32 := by rw [lo8, Int8.toBitVec_toInt32, Int32.toBitVec_toInt8]
  rw [Int32.toBitVec_and, BitVec.toNat_and, h]
  have e : ((x.toBitVec.signExtend 8).signExtend 32).toNat % 256 = x.toBitVec.toNat % 256 := by
    rw [BitVec.toNat_signExtend]
    have hlt := x.toBitVec.isLt
    simp only [BitVec.toNat_setWidth, BitVec.toNat_signExtend]
    split <;> split <;> omega
  rw [← e]
  exact Nat.and_two_pow_sub_one_eq_mod _ 8
theorem pair_says {c : Int32} (h0 : ¬ c < 0) (h1 : ¬ 65535 < c) : pairCh (lo8 c) (hi8 c) = c := by
  rw [Int32.lt_iff_toInt_lt] at h0 h1
  have e0 : (0 : Int32).toInt = 0 := rfl
  have e1 : (65535 : Int32).toInt = 65535 := rfl
  have hc : c.toInt = c.toBitVec.toNat := by
    have := c.toBitVec.isLt
    have e : c.toInt = c.toBitVec.toInt := rfl
    rw [e] at h0 h1
    rw [e]
    rw [BitVec.toInt_eq_toNat_cond] at h0 h1 ⊢
    split at h0 <;> split <;> omega
  have hn : c.toBitVec.toNat < 65536 := by omega
  have a1 := lo8_and c
  have a2 : (hi8 c &&& 255).toBitVec.toNat = c.toBitVec.toNat / 256 := by
    rw [hi8, lo8_and]
    have e : ((8 : Int32) &&& 31) = 8 := by decide
    rw [e, Int32.toBitVec_shiftRight]
    have e2 : ((8 : Int32).toBitVec.smod 32) = 8#32 := by decide
    rw [e2, BitVec.sshiftRight_eq', BitVec.toNat_sshiftRight_of_msb_false (by rw [BitVec.msb_eq_false_iff_two_mul_lt]; omega)]
    show c.toBitVec.toNat >>> 8 % 256 = _
    rw [Nat.shiftRight_eq_div_pow]
    omega
  unfold pairCh
  apply Int32.toBitVec_inj.mp
  apply BitVec.eq_of_toNat_eq
  have f0 : ((0 : Int32) &&& 31) = 0 := by decide
  have f8 : ((8 : Int32) &&& 31) = 8 := by decide
  rw [f0, f8]
  have g : (((lo8 c &&& 255) <<< (0 : Int32)) ||| ((hi8 c &&& 255) <<< (8 : Int32))).toBitVec.toNat = c.toBitVec.toNat := by
    rw [Int32.toBitVec_or, Int32.toBitVec_shiftLeft, Int32.toBitVec_shiftLeft]
    have s0 : ((0 : Int32).toBitVec.smod 32) = 0#32 := by decide
    have s8 : ((8 : Int32).toBitVec.smod 32) = 8#32 := by decide
    rw [s0, s8, BitVec.toNat_or]
    simp only [BitVec.shiftLeft_eq', BitVec.toNat_shiftLeft, a1, a2]
    show (c.toBitVec.toNat % 256) <<< 0 % 2 ^ 32 ||| (c.toBitVec.toNat / 256) <<< 8 % 2 ^ 32 = _
    rw [Nat.shiftLeft_zero, Nat.mod_eq_of_lt (show c.toBitVec.toNat % 256 < 2 ^ 32 by omega), Nat.mod_eq_of_lt (show (c.toBitVec.toNat / 256) <<< 8 < 2 ^ 32 by rw [Nat.shiftLeft_eq]; omega), Nat.or_comm, ← Nat.shiftLeft_add_eq_or_of_lt (by omega), Nat.shiftLeft_eq]
    omega
  show BitVec.toNat (((((lo8 c &&& 255) <<< (0 : Int32)) ||| ((hi8 c &&& 255) <<< (8 : Int32))).toBitVec.setWidth 16).setWidth 32) = _
  rw [BitVec.toNat_setWidth, BitVec.toNat_setWidth, g]
  omega
end StrChars
namespace StrChars
open Jvm Sem ClassFile Op Lib Jvm.Stand Jvm.Free.XT Jvm.Free.ALB Jvm.Free.JM Jvm.Free
open Jvm.Lib.Cold (StaticIs)
/-- the array's cell V codes the n chars f 0 .. f (n - 1) by the coder cd, as the JDK does: coder 1 just where some char is above 255 -/
def Cod (cd : Int32) (n : Nat) (f : Nat → Int32) (V : Cell) : Prop := (cd = 0 ∧ V.slots.size = n ∧ ∀ j, j < n → V.slots[j]? = some (.int (lo8 (f j))) ∧ ¬ 255 < f j) ∨ (cd = 1 ∧ V.slots.size = 2 * n ∧ (∀ j, j < n → V.slots[2 * j]? = some (.int (lo8 (f j))) ∧ V.slots[2 * j + 1]? = some (.int (hi8 (f j)))) ∧ ∃ j, j < n ∧ 255 < f j)
/-- **x is a String of the n chars f 0 .. f (n - 1)**, Latin-1 or UTF-16; its array at t has the cell V -/
def Txt (x t : Addr) (V : Cell) (cd : Int32) (n : Nat) (f : Nat → Int32) (U : State) : Prop := Exact "java/lang/String" x U ∧ Has x "java/lang/String" "value" "[B" (.ref t) U ∧ Has x "java/lang/String" "coder" "B" (.int cd) U ∧ XT.Arr .byte t V U ∧ Cod cd n f V ∧ ∀ j, j < n → ¬ f j < 0 ∧ ¬ 65535 < f j
theorem Txt.mv {x t : Addr} {V : Cell} {cd : Int32} {n : Nat} {f : Nat → Int32} {U U' : State} (h : Txt x t V cd n f U) (hal : U.vm.Alike U'.vm) (hh : U'.heap = U.heap) : Txt x t V cd n f U' := ⟨h.1.mv hal hh, h.2.1.mv hal hh, h.2.2.1.mv hal hh, h.2.2.2.1.mv hal hh, h.2.2.2.2⟩
end StrChars
namespace StrChars.Road
open Jvm Sem ClassFile Op Lib Jvm.Stand Jvm.Free Jvm.Free.XT
open Jvm.Lib.Cold (StaticIs)
theorem consq {a : Array Value} {s : State} {c : Jvm.Cond} {L : List Jvm.Cond} (h0 : c.before a s = true) (h : ∀ w ∈ L, w.before a s = true) : ∀ w ∈ c :: L, w.before a s = true := fun w hw => (List.mem_cons.mp hw).elim (fun e => e ▸ h0) (h w)
/-- the bytes of the chars cs, low before high -/
def wideBytes : List Int32 → List Value
  | [] => []
  | c :: cs => .int (lo8 c) :: .int (hi8 c) :: wideBytes cs
theorem wide_lo (d : Value) : ∀ (cs : List Int32) (j : Nat), j < cs.length → (wideBytes cs).getD (2 * j) d = .int (lo8 (cs.getD j 0))
  | [], j, h => absurd h (Nat.not_lt_zero j)
  | c :: cs, 0, _ => rfl
  | c :: cs, j + 1, h => by
    have q := wide_lo d cs j (by simpa using h)
    rw [show 2 * (j + 1) = 2 * j + 1 + 1 from by omega]
    simpa [wideBytes] using q
theorem wide_hi (d : Value) : ∀ (cs : List Int32) (j : Nat), j < cs.length → (wideBytes cs).getD (2 * j + 1) d = .int (hi8 (cs.getD j 0))
  | [], j, h => absurd h (Nat.not_lt_zero j)
  | c :: cs, 0, _ => rfl
  | c :: cs, j + 1, h => by
    have q := wide_hi d cs j (by simpa using h)
    rw [show 2 * (j + 1) + 1 = 2 * j + 1 + 1 + 1 from by omega]
    simpa [wideBytes] using q
theorem low_at (d : Value) (cs : List Int32) (j : Nat) (h : j < cs.length) : (cs.map fun c => Value.int (lo8 c)).getD j d = .int (lo8 (cs.getD j 0)) := by
  simp [List.getD_eq_getElem?_getD, h]
/-- an array of N2 bytes vs codes the chars cs by the coder cd -/
def CodA (cs : List Int32) (cd N2 : Int32) (vs : List Value) : Prop := (cd = 0 ∧ N2 = Int32.ofNat cs.length ∧ vs = (cs.map fun c => Value.int (lo8 c)) ∧ ∀ c ∈ cs, ¬ 255 < c) ∨ (cd = 1 ∧ N2 = Int32.ofNat (2 * cs.length) ∧ vs = wideBytes cs ∧ ∃ c ∈ cs, 255 < c)
theorem CodA.cod {cs : List Int32} {cd N2 : Int32} {vs : List Value} {V : Cell} (h : CodA cs cd N2 vs) (hn : 2 * cs.length < 2 ^ 31) (hs : V.slots.size = N2.toNatClampNeg) (hv : RoadKit.Has V vs (.int 0)) : Cod cd cs.length (fun j => cs.getD j 0) V := by
  rcases h with ⟨rfl, rfl, rfl, h⟩ | ⟨rfl, rfl, rfl, c, hc, hw⟩
  · rw [n32 (by omega)] at hs
    exact Or.inl ⟨rfl, hs, fun j hj => ⟨by rw [hv j (by omega), low_at _ _ _ hj], by
      have e : cs.getD j 0 = cs[j] := by simp [List.getD_eq_getElem?_getD, hj]
      show ¬ 255 < cs.getD j 0
      rw [e]; exact h _ (List.getElem_mem _)⟩⟩
  · rw [n32 (by omega)] at hs
    obtain ⟨j, hj, rfl⟩ := List.getElem_of_mem hc
    exact Or.inr ⟨rfl, hs, fun j hj => ⟨by rw [hv _ (by omega), wide_lo _ _ _ hj], by rw [hv _ (by omega), wide_hi _ _ _ hj]⟩, j, hj, by
      have e : cs.getD j 0 = cs[j] := by simp [List.getD_eq_getElem?_getD, hj]
      show 255 < cs.getD j 0
      rw [e]; exact hw⟩
/-- an object of exactly java/lang/String, its two fields found: as the laws ask it -/
theorem strObj {Z U : State} {a0 : Array Value} {kI : Nat} (wi : (Jvm.Cond.instantiable ST kI).before a0 Z = true) (al : Z.vm.Alike U.vm) {x : Addr} {v0 c0 : Value} (E : RoadKit.Exa Z U.heap x ST) (V : RoadKit.Fld Z U.heap x ST "value" "[B" v0) (C : RoadKit.Fld Z U.heap x ST "coder" "B" c0) :
    ∃ (D : Cell) (fV fC : Field), Blank ST x D U ∧ Found ST "value" "[B" fV U ∧ Found ST "coder" "B" fC U ∧ D.slots[fV.slot]? = some v0 ∧ D.slots[fC.slot]? = some c0 ∧ RoadKit.slotOf Z ST "value" "[B" = fV.slot ∧ RoadKit.slotOf Z ST "coder" "B" = fC.slot := by
  obtain ⟨D, cfV, kV, iV, fV, hD, gV, stV, knV, obV, asV, slV⟩ := V
  obtain ⟨D', cfC, kC, iC, fC, hD', gC, stC, -, -, asC, slC⟩ := C
  cases hD.symm.trans hD'
  obtain ⟨D2, kD, e1, e2, e3, e4, e5⟩ := E
  cases hD.symm.trans e1
  obtain ⟨c2, k2, i1, i2, i3, -⟩ := Cond.instantiable_spec wi
  cases e2.symm.trans i1
  cases e3.symm.trans i2
  obtain ⟨kU, u1, u2⟩ := al.2.2 _ _ e3
  exact ⟨D, fV, fC, ⟨hD, ⟨knV, fun q hq => by rw [hq] at obV; cases obV⟩, by rw [al.findClass]; exact e2, kU, u1, by rw [u2]; exact i3, by rw [u2]; exact e5 i3⟩, ⟨SBG.found_only al ⟨cfV, kV, iV, gV⟩, stV⟩, ⟨SBG.found_only al ⟨cfC, kC, iC, gC⟩, stC⟩, slV, slC, by simp [RoadKit.slotOf, gV], by simp [RoadKit.slotOf, gC]⟩
theorem sta_is {Z U : State} (al : Z.vm.Alike U.vm) {C n d : String} {v : Value} (S : RoadKit.Sta Z U.heap C n d v) : StaticIs U C n d v := by
  obtain ⟨cfS, iS, kS, fS, st, cS, t1, t2, t3, t4, t5, t6, t7⟩ := S
  exact StaticIs.there (s := { Z with heap := U.heap }) ⟨cfS, iS, kS, fS, st, cS, t1, t2, t3, t4, t5, (fun q => by rw [q] at t6; cases t6), t7⟩ al rfl
end StrChars.Road
namespace StrChars
open Jvm Sem ClassFile Op Lib Jvm.Stand Jvm.Free.XT Jvm.Free.ALB Jvm.Free.JM Jvm.Free
open Jvm.Lib.Cold (StaticIs)
/-- what place i of a byte[]'s cell holds -/
def yv (A : Cell) (i : Nat) : Int32 := match A.slots[i]? with | some (.int x) => x | _ => 0
theorem yv_get {a : Addr} {A : Cell} {U : State} (h : XT.Arr .byte a A U) (ht : Typed .byte A) {i : Nat} (hi : i < A.slots.size) : A.slots[i]? = some (.int (yv A i)) := by
  have e := Array.getElem?_eq_getElem hi
  have f := ht i _ e
  unfold yv; rw [e]
  generalize A.slots[i] = v at f
  cases v <;> simp [fits] at f ⊢
/-- the two arrays are equal, place for place -/
def EqC (A B : Cell) : Prop := A.slots.size = B.slots.size ∧ ∀ i, i < A.slots.size → yv A i = yv B i
/-- a boolean that says whether p -/
def Says01 (q : Prop) (r : Option Value) (s u : State) : Prop := ∃ v : Int32, r = some (.int v) ∧ u.heap = s.heap ∧ ((v = 1 ∧ q) ∨ (v = 0 ∧ ¬ q))
theorem Says01.mv {q : Prop} : ∀ r (U U' V V' : State), U'.heap = U.heap → V.vm.Alike V'.vm → V'.heap = V.heap → Says01 q r U V → Says01 q r U' V' :=
  fun r U U' V V' h1 _ h2 ⟨v, a, b, c⟩ => ⟨v, a, by rw [h1, h2]; exact b, c⟩
namespace LEq
def yN : MethodName := ⟨"java/lang/StringLatin1", "equals", "([B[B)Z"⟩
abbrev yB : ByteArray := jdk_43_method_13_code
theorem d0 : decode yB 0 = .ok (.aload_n 0, 1) := by decide +kernel
theorem d1 : decode yB 1 = .ok (.arraylength, 1) := by decide +kernel
theorem d2 : decode yB 2 = .ok (.aload_n 1, 1) := by decide +kernel
theorem d3 : decode yB 3 = .ok (.arraylength, 1) := by decide +kernel
theorem d4 : decode yB 4 = .ok (.if_icmp (.ne) 30, 3) := by decide +kernel
theorem d7 : decode yB 7 = .ok (.iconst 0, 1) := by decide +kernel
theorem d8 : decode yB 8 = .ok (.istore_n 2, 1) := by decide +kernel
theorem d9 : decode yB 9 = .ok (.iload_n 2, 1) := by decide +kernel
theorem d10 : decode yB 10 = .ok (.aload_n 0, 1) := by decide +kernel
theorem d11 : decode yB 11 = .ok (.arraylength, 1) := by decide +kernel
theorem d12 : decode yB 12 = .ok (.if_icmp (.ge) 20, 3) := by decide +kernel
theorem d15 : decode yB 15 = .ok (.aload_n 0, 1) := by decide +kernel
theorem d16 : decode yB 16 = .ok (.iload_n 2, 1) := by decide +kernel
theorem d17 : decode yB 17 = .ok (.baload, 1) := by decide +kernel
theorem d18 : decode yB 18 = .ok (.aload_n 1, 1) := by decide +kernel
theorem d19 : decode yB 19 = .ok (.iload_n 2, 1) := by decide +kernel
theorem d20 : decode yB 20 = .ok (.baload, 1) := by decide +kernel
theorem d21 : decode yB 21 = .ok (.if_icmp (.eq) 5, 3) := by decide +kernel
theorem d24 : decode yB 24 = .ok (.iconst 0, 1) := by decide +kernel
theorem d25 : decode yB 25 = .ok (.ireturn, 1) := by decide +kernel
theorem d26 : decode yB 26 = .ok (.iinc 2 1, 3) := by decide +kernel
theorem d29 : decode yB 29 = .ok (.goto (-20), 3) := by decide +kernel
theorem d32 : decode yB 32 = .ok (.iconst 1, 1) := by decide +kernel
theorem d33 : decode yB 33 = .ok (.ireturn, 1) := by decide +kernel
theorem d34 : decode yB 34 = .ok (.iconst 0, 1) := by decide +kernel
theorem d35 : decode yB 35 = .ok (.ireturn, 1) := by decide +kernel
def site : List Cond := []
def tab : Cond := tabOf yN yB 3 (some .boolean) site
def P (a : Addr) (A : Cell) (b : Addr) (B : Cell) (args : Array Value) (s : State) : Prop := args = #[.ref a, .ref b] ∧ XT.Arr .byte a A s ∧ Typed .byte A ∧ XT.Arr .byte b B s ∧ Typed .byte B
/-- whether two byte[] are equal, place for place -/
theorem law (l : Launch) (a : Addr) (A : Cell) (b : Addr) (B : Cell) : Law l yN 2 2 0 0 yB 3 (some .boolean) site (P a A b B) (Says01 (EqC A B)) [] 0 0 := by
  refine Law.of_walk (plainFor_of_name (by decide +kernel)) (by decide +kernel) (by decide +kernel) (by decide) (fun _ _ h => by rw [h.1]; rfl) (fun _ U U' hal hh h => ⟨h.1, h.2.1.mv hal hh, h.2.2.1, h.2.2.2.1.mv hal hh, h.2.2.2.2⟩) (fun r U U' V V' h1 hal h2 h => Says01.mv r U U' V V' h1 hal h2 h) ?_
  intro p e s m args below meth c s₁ X0 hexec hbytes hml hret hlk hnm hown hh0 W hP
  obtain ⟨rfl, hA, tA, hB, tB⟩ := hP
  have a31 := hA.2.2.2
  have b31 := hB.2.2.2
  have hA0 := hA.mv X0.warmed.alike hh0
  have hB0 := hB.mv X0.warmed.alike hh0
  have c1 : Steps p.tables e below (s₁.setTop (entryFrame m #[.ref a, .ref b] 3)) (s₁.setTop (mkF m 0 #[.val (.ref a), .val (.ref b), .unset] [])) := entry rfl
  have c2 : Steps p.tables e below (s₁.setTop (entryFrame m #[.ref a, .ref b] 3)) (s₁.setTop (mkF m 4 #[.val (.ref a), .val (.ref b), .unset] [.int (Int32.ofNat B.slots.size), .int (Int32.ofNat A.slots.size)])) := c1.trans (by
    refine XS.aloadN X0.here hexec rfl (hb hbytes d0) rfl rfl ?_
    refine X0.alen hexec hA0 rfl rfl (hb hbytes d1) ?_
    refine XS.aloadN X0.here hexec rfl (hb hbytes d2) rfl rfl ?_
    refine X0.alen hexec hB0 rfl rfl (hb hbytes d3) ?_
    exact Steps.refl _)
  by_cases hs : A.slots.size = B.slots.size
  · have c3 : Steps p.tables e below (s₁.setTop (entryFrame m #[.ref a, .ref b] 3)) (s₁.setTop (mkF m 9 #[.val (.ref a), .val (.ref b), .val (.int 0)] [])) := c2.trans (by
      refine XS.icmpNo X0.here hexec rfl (hb hbytes d4) rfl (ii_ne_f (by rw [hs])) ?_
      refine iconstV X0.here hexec rfl 0 (hb hbytes d7) (by decide) ?_
      refine XS.istoreN X0.here hexec rfl (hb hbytes d8) rfl rfl ?_
      exact Steps.refl _)
    have loop : ∀ (r i : Nat), i + r = A.slots.size → (∀ j, j < i → yv A j = yv B j) → Steps p.tables e below (s₁.setTop (entryFrame m #[.ref a, .ref b] 3)) (s₁.setTop (mkF m 9 #[.val (.ref a), .val (.ref b), .val (.int (Int32.ofNat i))] [])) → ∃ (pc : Nat) (Ls : Array Slot) (v : Int32), (pc = 25 ∨ pc = 33) ∧ ((v = 1 ∧ EqC A B) ∨ (v = 0 ∧ ¬ EqC A B)) ∧ Steps p.tables e below (s₁.setTop (entryFrame m #[.ref a, .ref b] 3)) (s₁.setTop (mkF m pc Ls [.int v])) := by
      intro r
      induction r with
      | zero =>
        intro i hi he cl
        exact ⟨33, _, 1, Or.inr rfl, Or.inl ⟨rfl, hs, fun j hj => he j (by omega)⟩, cl.trans (by
          refine XS.iloadN X0.here hexec rfl (hb hbytes d9) rfl ?_
          refine XS.aloadN X0.here hexec rfl (hb hbytes d10) rfl rfl ?_
          refine X0.alen hexec hA0 rfl rfl (hb hbytes d11) ?_
          refine XS.icmpYes X0.here hexec rfl (pc0 := 12) rfl (hb hbytes d12) rfl (ii_ge_t (nlt32 (by omega) (by omega))) (by decide) rfl ?_
          refine iconstV X0.here hexec rfl 1 (hb hbytes d32) (by decide) ?_
          exact Steps.refl _)⟩
      | succ r ih =>
        intro i hi he cl
        have c4 : Steps p.tables e below (s₁.setTop (entryFrame m #[.ref a, .ref b] 3)) (s₁.setTop (mkF m 21 #[.val (.ref a), .val (.ref b), .val (.int (Int32.ofNat i))] [.int (yv B i), .int (yv A i)])) := cl.trans (by
          refine XS.iloadN X0.here hexec rfl (hb hbytes d9) rfl ?_
          refine XS.aloadN X0.here hexec rfl (hb hbytes d10) rfl rfl ?_
          refine X0.alen hexec hA0 rfl rfl (hb hbytes d11) ?_
          refine XS.icmpNo X0.here hexec rfl (hb hbytes d12) rfl (ii_ge_f (lt32 (by omega) (by omega))) ?_
          refine XS.aloadN X0.here hexec rfl (hb hbytes d15) rfl rfl ?_
          refine XS.iloadN X0.here hexec rfl (hb hbytes d16) rfl ?_
          refine X0.aget hexec hA0 rfl (yv_get hA tA (i := i) (by omega)) rfl rfl (hb hbytes d17) ?_
          refine XS.aloadN X0.here hexec rfl (hb hbytes d18) rfl rfl ?_
          refine XS.iloadN X0.here hexec rfl (hb hbytes d19) rfl ?_
          refine X0.aget hexec hB0 rfl (yv_get hB tB (i := i) (by omega)) rfl rfl (hb hbytes d20) ?_
          exact Steps.refl _)
        by_cases hv : yv A i = yv B i
        · have c5 : Steps p.tables e below (s₁.setTop (entryFrame m #[.ref a, .ref b] 3)) (s₁.setTop (mkF m 9 #[.val (.ref a), .val (.ref b), .val (.int (Int32.ofNat i + 1))] [])) := c4.trans (by
            refine XS.icmpYes X0.here hexec rfl (pc0 := 21) rfl (hb hbytes d21) rfl (ii_eq_t hv) (by decide) rfl ?_
            refine iincV X0.here hexec rfl 1 (hb hbytes d26) (by decide) rfl rfl ?_
            refine XS.goto X0.here hexec rfl (pc0 := 29) rfl (hb hbytes d29) (by decide) rfl ?_
            exact Steps.refl _)
          rw [succ32] at c5
          exact ih (i + 1) (by omega) (fun j hj => by
            by_cases e : j = i
            · rw [e]; exact hv
            · exact he j (by omega)) c5
        · exact ⟨25, _, 0, Or.inl rfl, Or.inr ⟨rfl, fun q => hv (q.2 i (by omega))⟩, c4.trans (by
            refine XS.icmpNo X0.here hexec rfl (hb hbytes d21) rfl (ii_eq_f hv) ?_
            refine iconstV X0.here hexec rfl 0 (hb hbytes d24) (by decide) ?_
            exact Steps.refl _)⟩
    obtain ⟨pc, Ls, v, hpc, hv, cz⟩ := loop A.slots.size 0 (by omega) (fun j hj => absurd hj (Nat.not_lt_zero j)) c3
    have nv : narrow .boolean (.int v) = .int v := by rcases hv with ⟨rfl, -⟩ | ⟨rfl, -⟩ <;> rfl
    rcases hpc with rfl | rfl
    · exact ⟨s₁, some (.int v), _, _, _, X0, rfl, rfl, rfl, (fun h => by cases h), ⟨v, rfl, hh0, hv⟩, fun fs hl => cz.trans (X0.ireturnOut hexec hret nv (Or.inr (Or.inl rfl)) (hb hbytes d25) hl)⟩
    · exact ⟨s₁, some (.int v), _, _, _, X0, rfl, rfl, rfl, (fun h => by cases h), ⟨v, rfl, hh0, hv⟩, fun fs hl => cz.trans (X0.ireturnOut hexec hret nv (Or.inr (Or.inl rfl)) (hb hbytes d33) hl)⟩
  · have c3 : Steps p.tables e below (s₁.setTop (entryFrame m #[.ref a, .ref b] 3)) (s₁.setTop (mkF m 35 #[.val (.ref a), .val (.ref b), .unset] [.int 0])) := c2.trans (by
      refine XS.icmpYes X0.here hexec rfl (pc0 := 4) rfl (hb hbytes d4) rfl (ii_ne_t (ne32 a31 b31 hs)) (by decide) rfl ?_
      refine iconstV X0.here hexec rfl 0 (hb hbytes d34) (by decide) ?_
      exact Steps.refl _)
    exact ⟨s₁, some (.int 0), _, _, _, X0, rfl, rfl, rfl, (fun h => by cases h), ⟨0, rfl, hh0, Or.inr ⟨rfl, fun q => hs q.1⟩⟩, fun fs hl => c3.trans (X0.ireturnOut hexec hret rfl (Or.inr (Or.inl rfl)) (hb hbytes d35) hl)⟩
end LEq
theorem Cod.ty {cd : Int32} {n : Nat} {f : Nat → Int32} {V : Cell} (h : Cod cd n f V) : Typed .byte V := fun i v hv => by
  have hi : i < V.slots.size := (Array.getElem?_eq_some_iff.mp hv).1
  rcases h with ⟨-, k1, k2⟩ | ⟨-, k1, k2, -⟩
  · rw [(k2 i (by omega)).1] at hv; cases hv; exact fits_lo8 _
  · rcases Nat.mod_two_eq_zero_or_one i with e | e
    · obtain ⟨j, rfl⟩ : ∃ j, i = 2 * j := ⟨i / 2, by omega⟩
      rw [(k2 j (by omega)).1] at hv; cases hv; exact fits_lo8 _
    · obtain ⟨j, rfl⟩ : ∃ j, i = 2 * j + 1 := ⟨i / 2, by omega⟩
      rw [(k2 j (by omega)).2] at hv; cases hv; exact fits_lo8 _
/-- the same text -/
def SameT (n : Nat) (f : Nat → Int32) (k : Nat) (g : Nat → Int32) : Prop := n = k ∧ ∀ j, j < n → f j = g j
theorem lo8_inj {x y : Int32} (h0 : ¬ x < 0) (h1 : ¬ 255 < x) (k0 : ¬ y < 0) (k1 : ¬ 255 < y) (h : lo8 x = lo8 y) : x = y := by
  rw [← lo8_mask h0 h1, ← lo8_mask k0 k1, h]
/-- arrays coded by one coder are equal just where the texts are -/
theorem Cod.eqv {cd : Int32} {n k : Nat} {f g : Nat → Int32} {V V' : Cell} (h : Cod cd n f V) (h' : Cod cd k g V') (hf : ∀ j, j < n → ¬ f j < 0 ∧ ¬ 65535 < f j) (hg : ∀ j, j < k → ¬ g j < 0 ∧ ¬ 65535 < g j) : EqC V V' ↔ SameT n f k g := by
  have yvv : ∀ {W : Cell} {i : Nat} {x : Int32}, W.slots[i]? = some (.int x) → yv W i = x := fun q => by unfold yv; rw [q]
  rcases h with ⟨rfl, k1, k2⟩ | ⟨rfl, k1, k2, -⟩
  · rcases h' with ⟨-, m1, m2⟩ | ⟨e, -⟩
    · constructor
      · rintro ⟨e1, e2⟩
        refine ⟨by omega, fun j hj => ?_⟩
        have q := e2 j (by omega)
        rw [yvv (k2 j hj).1, yvv (m2 j (by omega)).1] at q
        exact lo8_inj (hf j hj).1 (k2 j hj).2 (hg j (by omega)).1 (m2 j (by omega)).2 q
      · rintro ⟨rfl, e2⟩
        refine ⟨by omega, fun j hj => ?_⟩
        rw [yvv (k2 j (by omega)).1, yvv (m2 j (by omega)).1, e2 j (by omega)]
    · exact absurd e (by decide)
  · rcases h' with ⟨e, -⟩ | ⟨-, m1, m2, -⟩
    · exact absurd e (by decide)
    · constructor
      · rintro ⟨e1, e2⟩
        refine ⟨by omega, fun j hj => ?_⟩
        have q1 := e2 (2 * j) (by omega)
        have q2 := e2 (2 * j + 1) (by omega)
        rw [yvv (k2 j hj).1, yvv (m2 j (by omega)).1] at q1
        rw [yvv (k2 j hj).2, yvv (m2 j (by omega)).2] at q2
        rw [← pair_says (hf j hj).1 (hf j hj).2, ← pair_says (hg j (by omega)).1 (hg j (by omega)).2, q1, q2]
      · rintro ⟨rfl, e2⟩
        refine ⟨by omega, fun i hi => ?_⟩
        rcases Nat.mod_two_eq_zero_or_one i with e | e
        · obtain ⟨j, rfl⟩ : ∃ j, i = 2 * j := ⟨i / 2, by omega⟩
          rw [yvv (k2 j (by omega)).1, yvv (m2 j (by omega)).1, e2 j (by omega)]
        · obtain ⟨j, rfl⟩ : ∃ j, i = 2 * j + 1 := ⟨i / 2, by omega⟩
          rw [yvv (k2 j (by omega)).2, yvv (m2 j (by omega)).2, e2 j (by omega)]
/-- two codings differ: so do the texts -/
theorem Cod.dif {cd cd' : Int32} {n k : Nat} {f g : Nat → Int32} {V V' : Cell} (h : Cod cd n f V) (h' : Cod cd' k g V') (hne : ¬ cd = cd') : ¬ SameT n f k g := by
  rintro ⟨rfl, e⟩
  rcases h with ⟨rfl, -, k2⟩ | ⟨rfl, -, -, j, hj, hw⟩
  · rcases h' with ⟨rfl, -⟩ | ⟨-, -, -, j, hj, hw⟩
    · exact hne rfl
    · exact (k2 j hj).2 (by rw [e j hj]; exact hw)
  · rcases h' with ⟨-, -, m2⟩ | ⟨rfl, -⟩
    · exact (m2 j hj).2 (by rw [← e j hj]; exact hw)
    · exact hne rfl
/-- an object of exactly C is an instance of C -/
theorem cinst {p : Program} {l : Launch} {e : Env} {R : Room} {s : State} {m : MethodId} {args : Array Value} {below : List Frame} {meth : Method} {c : Code} {T : State} {locs : List Loc} {cells slots : Nat} (X : Stand p l e R s m args below meth c T locs cells slots) (hexec : p.tables.exec = Jvm.exec) {own C : String} {index : Nat} (hown : s.vm.findClass own = some m.cls) (hlink : (Cond.classLink own index C).before args s = true) {a : Addr} (hE : Exact C a T)
    {g : JFrame} (hg : g.method = m) {rest : List Value} (hstack : g.stack = .ref a :: rest) (hdg : decode c.code g.pc = .ok (.instanceof index, 3)) :
    ∃ T', Stand p l e R s m args below meth c T' locs cells slots ∧ T'.heap = T.heap ∧ ∀ target, Steps p.tables e below (T'.setTop { g with pc := g.pc + 3, stack := .int 1 :: rest }) target → Steps p.tables e below (T.setTop g) target := by
  obtain ⟨cB, h1, D, h2, h3, h4⟩ := hE
  have h1' : s.vm.findClass C = some cB := by rw [← X.warmed.alike.findClass]; exact h1
  obtain ⟨vm', X', st⟩ := X.instanceofYes hexec hown hlink h2 h4 h1' (by rw [h3]; exact Jvm.Free.SB.assignable_self _ _) hg hstack hdg
  exact ⟨_, X', rfl, st⟩
theorem cself {p : Program} {l : Launch} {e : Env} {R : Room} {s : State} {m : MethodId} {args : Array Value} {below : List Frame} {meth : Method} {c : Code} {T : State} {locs : List Loc} {cells slots : Nat} (X : Stand p l e R s m args below meth c T locs cells slots) (hexec : p.tables.exec = Jvm.exec) {own C : String} {index : Nat} (hown : s.vm.findClass own = some m.cls) (hlink : (Cond.classLink own index C).before args s = true) {a : Addr} (hE : Exact C a T)
    {g : JFrame} (hg : g.method = m) {rest : List Value} (hstack : g.stack = .ref a :: rest) (hdg : decode c.code g.pc = .ok (.checkcast index, 3)) :
    ∃ T', Stand p l e R s m args below meth c T' locs cells slots ∧ T'.heap = T.heap ∧ ∀ target, Steps p.tables e below (T'.setTop { g with pc := g.pc + 3, stack := .ref a :: rest }) target → Steps p.tables e below (T.setTop g) target := by
  obtain ⟨cB, h1, D, h2, h3, h4⟩ := hE
  have h1' : s.vm.findClass C = some cB := by rw [← X.warmed.alike.findClass]; exact h1
  obtain ⟨vm', X', st⟩ := X.checkcastYes hexec hown hlink h2 h4 h1' (by rw [h3]; exact Jvm.Free.SB.assignable_self _ _) hg hstack hdg
  exact ⟨_, X', rfl, fun t h => st t (by rw [← hstack] at h; exact h)⟩
namespace SEq
def yN : MethodName := ⟨"java/lang/String", "equals", "(Ljava/lang/Object;)Z"⟩
abbrev yB : ByteArray := jdk_42_method_66_code
theorem d0 : decode yB 0 = .ok (.aload_n 0, 1) := by decide +kernel
theorem d1 : decode yB 1 = .ok (.aload_n 1, 1) := by decide +kernel
theorem d2 : decode yB 2 = .ok (.if_acmp (.ne) 5, 3) := by decide +kernel
theorem d5 : decode yB 5 = .ok (.iconst 1, 1) := by decide +kernel
theorem d6 : decode yB 6 = .ok (.ireturn, 1) := by decide +kernel
theorem d7 : decode yB 7 = .ok (.aload_n 1, 1) := by decide +kernel
theorem d8 : decode yB 8 = .ok (.instanceof 10, 3) := by decide +kernel
theorem d11 : decode yB 11 = .ok (.ifCond (.eq) 43, 3) := by decide +kernel
theorem d14 : decode yB 14 = .ok (.aload_n 1, 1) := by decide +kernel
theorem d15 : decode yB 15 = .ok (.checkcast 10, 3) := by decide +kernel
theorem d18 : decode yB 18 = .ok (.astore_n 2, 1) := by decide +kernel
theorem d19 : decode yB 19 = .ok (.getstatic 38, 3) := by decide +kernel
theorem d22 : decode yB 22 = .ok (.ifCond (.eq) 14, 3) := by decide +kernel
theorem d25 : decode yB 25 = .ok (.aload_n 0, 1) := by decide +kernel
theorem d26 : decode yB 26 = .ok (.getfield 15, 3) := by decide +kernel
theorem d29 : decode yB 29 = .ok (.aload_n 2, 1) := by decide +kernel
theorem d30 : decode yB 30 = .ok (.getfield 15, 3) := by decide +kernel
theorem d33 : decode yB 33 = .ok (.if_icmp (.ne) 21, 3) := by decide +kernel
theorem d36 : decode yB 36 = .ok (.aload_n 0, 1) := by decide +kernel
theorem d37 : decode yB 37 = .ok (.getfield 9, 3) := by decide +kernel
theorem d40 : decode yB 40 = .ok (.aload_n 2, 1) := by decide +kernel
theorem d41 : decode yB 41 = .ok (.getfield 9, 3) := by decide +kernel
theorem d44 : decode yB 44 = .ok (.invokestatic 541, 3) := by decide +kernel
theorem d47 : decode yB 47 = .ok (.ifCond (.eq) 7, 3) := by decide +kernel
theorem d50 : decode yB 50 = .ok (.iconst 1, 1) := by decide +kernel
theorem d51 : decode yB 51 = .ok (.goto 4, 3) := by decide +kernel
theorem d54 : decode yB 54 = .ok (.iconst 0, 1) := by decide +kernel
theorem d55 : decode yB 55 = .ok (.ireturn, 1) := by decide +kernel
def site : List Cond := [.classLink "java/lang/String" 10 "java/lang/String", .fieldLink "java/lang/String" 38 "java/lang/String" "COMPACT_STRINGS" "Z", .fieldLink "java/lang/String" 15 "java/lang/String" "coder" "B", .fieldLink "java/lang/String" 9 "java/lang/String" "value" "[B", LEq.tab] ++ staticW "java/lang/String" 541 LEq.yN
def tab : Cond := tabOf yN yB 3 (some .boolean) site
def P (x t : Addr) (V : Cell) (cd : Int32) (n : Nat) (f : Nat → Int32) (y t' : Addr) (V' : Cell) (cd' : Int32) (k : Nat) (g : Nat → Int32) (z : Int32) (args : Array Value) (s : State) : Prop := args = #[.ref x, .ref y] ∧ Txt x t V cd n f s ∧ Txt y t' V' cd' k g s ∧ StaticIs s "java/lang/String" "COMPACT_STRINGS" "Z" (.int z) ∧ ¬ z = 0
/-- equals(Object) of two Strings: whether the texts are the same -/
theorem law (l : Launch) (x t : Addr) (V : Cell) (cd : Int32) (n : Nat) (f : Nat → Int32) (y t' : Addr) (V' : Cell) (cd' : Int32) (k : Nat) (g : Nat → Int32) (z : Int32) : Law l yN 2 1 1 14 yB 3 (some .boolean) site (P x t V cd n f y t' V' cd' k g z) (Says01 (SameT n f k g)) [] 0 0 := by
  refine Law.of_walk (plainFor_of_name (by decide +kernel)) (by decide +kernel) (by decide +kernel) (by decide) (fun _ _ h => by rw [h.1]; rfl) (fun _ U U' hal hh h => ⟨h.1, h.2.1.mv hal hh, h.2.2.1.mv hal hh, h.2.2.2.1.there hal hh, h.2.2.2.2⟩) (fun r U U' V V' h1 hal h2 h => Says01.mv r U U' V V' h1 hal h2 h) ?_
  intro p e s m args below meth c s₁ X0 hexec hbytes hml hret hlk hnm hown hh0 W hP
  obtain ⟨rfl, hx, hy, s1, hz⟩ := hP
  have c1 : Steps p.tables e below (s₁.setTop (entryFrame m #[.ref x, .ref y] 3)) (s₁.setTop (mkF m 2 #[.val (.ref x), .val (.ref y), .unset] [.ref y, .ref x])) := Steps.trans (entry rfl) (by
    show Steps p.tables e below (s₁.setTop (mkF m 0 #[.val (.ref x), .val (.ref y), .unset] [])) _
    refine XS.aloadN X0.here hexec rfl (hb hbytes d0) rfl rfl ?_
    refine XS.aloadN X0.here hexec rfl (hb hbytes d1) rfl rfl ?_
    exact Steps.refl _)
  by_cases hxy : x = y
  · have c2 : Steps p.tables e below (s₁.setTop (entryFrame m #[.ref x, .ref y] 3)) (s₁.setTop (mkF m 6 #[.val (.ref x), .val (.ref y), .unset] [.int 1])) := c1.trans (by
      refine acmpNo X0.here hexec rfl (hb hbytes d2) rfl rfl rfl (by simp [acmp, hxy]) ?_
      refine iconstV X0.here hexec rfl 1 (hb hbytes d5) (by decide) ?_
      exact Steps.refl _)
    subst hxy
    have ec : cd = cd' := by
      obtain ⟨D, fd, a1, a2, a3⟩ := hx.2.2.1
      obtain ⟨D', fd', b1, b2, b3⟩ := hy.2.2.1
      cases a1.symm.trans b1
      obtain ⟨q1, q2, q3, q4⟩ := a2.1
      obtain ⟨r1, r2, r3, r4⟩ := b2.1
      cases q4.symm.trans r4
      cases a3.symm.trans b3; rfl
    have et : t = t' := by
      obtain ⟨D, fd, a1, a2, a3⟩ := hx.2.1
      obtain ⟨D', fd', b1, b2, b3⟩ := hy.2.1
      cases a1.symm.trans b1
      obtain ⟨q1, q2, q3, q4⟩ := a2.1
      obtain ⟨r1, r2, r3, r4⟩ := b2.1
      cases q4.symm.trans r4
      cases a3.symm.trans b3; rfl
    subst ec et
    have ev : V = V' := by cases hx.2.2.2.1.1.symm.trans hy.2.2.2.1.1; rfl
    subst ev
    have hs : SameT n f k g := (Cod.eqv hx.2.2.2.2.1 hy.2.2.2.2.1 hx.2.2.2.2.2 hy.2.2.2.2.2).mp ⟨rfl, fun _ _ => rfl⟩
    exact ⟨s₁, some (.int 1), _, _, _, X0, rfl, rfl, rfl, (fun h => by cases h), ⟨1, rfl, hh0, Or.inl ⟨rfl, hs⟩⟩, fun fs hl => c2.trans (X0.ireturnOut hexec hret rfl (Or.inr (Or.inl rfl)) (hb hbytes d6) hl)⟩
  · have c2 : Steps p.tables e below (s₁.setTop (entryFrame m #[.ref x, .ref y] 3)) (s₁.setTop (mkF m 8 #[.val (.ref x), .val (.ref y), .unset] [.ref y])) := c1.trans (by
      refine acmpYes X0.here hexec rfl (pc0 := 2) rfl (hb hbytes d2) rfl rfl rfl (by simp [acmp, hxy]) (by decide) rfl ?_
      refine XS.aloadN X0.here hexec rfl (hb hbytes d7) rfl rfl ?_
      exact Steps.refl _)
    obtain ⟨T3, X3, q3, st3⟩ := cinst X0 hexec hown (wk W (.classLink "java/lang/String" 10 "java/lang/String")) (hy.mv X0.warmed.alike hh0).1 (g := (mkF m 8 #[.val (.ref x), .val (.ref y), .unset] [.ref y])) rfl (rest := []) rfl (hb hbytes d8)
    have hh3 := q3.trans hh0
    have c4 : Steps p.tables e below (s₁.setTop (entryFrame m #[.ref x, .ref y] 3)) (T3.setTop (mkF m 15 #[.val (.ref x), .val (.ref y), .unset] [.ref y])) := (c2.trans (st3 _ (Steps.refl _))).trans (by
      refine XS.ifNo X3.here hexec rfl (hb hbytes d11) rfl (i0_eq_f (by decide)) ?_
      refine XS.aloadN X3.here hexec rfl (hb hbytes d14) rfl rfl ?_
      exact Steps.refl _)
    obtain ⟨T5, X5, q5, st5⟩ := cself X3 hexec hown (wk W (.classLink "java/lang/String" 10 "java/lang/String")) (hy.mv X3.warmed.alike hh3).1 (g := (mkF m 15 #[.val (.ref x), .val (.ref y), .unset] [.ref y])) rfl (rest := []) rfl (hb hbytes d15)
    have hh5 := q5.trans hh3
    have c6 : Steps p.tables e below (s₁.setTop (entryFrame m #[.ref x, .ref y] 3)) (T5.setTop (mkF m 19 #[.val (.ref x), .val (.ref y), .val (.ref y)] [])) := (c4.trans (st5 _ (Steps.refl _))).trans (by
      refine XS.astoreN X5.here hexec rfl (hb hbytes d18) rfl rfl rfl ?_
      exact Steps.refl _)
    obtain ⟨T7, X7, q7, st7⟩ := X5.sget hexec hown (wk W (.fieldLink "java/lang/String" 38 "java/lang/String" "COMPACT_STRINGS" "Z")) s1 (fun _ _ h => by rw [hh5]; exact h) (g := (mkF m 19 #[.val (.ref x), .val (.ref y), .val (.ref y)] [])) rfl (hb hbytes d19)
    have hh7 := q7.trans hh5
    have c8 : Steps p.tables e below (s₁.setTop (entryFrame m #[.ref x, .ref y] 3)) (T7.setTop (mkF m 26 #[.val (.ref x), .val (.ref y), .val (.ref y)] [.ref x])) := (c6.trans (st7 _ (Steps.refl _))).trans (by
      refine XS.ifNo X7.here hexec rfl (hb hbytes d22) rfl (i0_eq_f hz) ?_
      refine XS.aloadN X7.here hexec rfl (hb hbytes d25) rfl rfl ?_
      exact Steps.refl _)
    obtain ⟨T9, X9, q9, st9⟩ := X7.hget hexec hown (wk W (.fieldLink "java/lang/String" 15 "java/lang/String" "coder" "B")) (hx.mv X7.warmed.alike hh7).2.2.1 (g := (mkF m 26 #[.val (.ref x), .val (.ref y), .val (.ref y)] [.ref x])) rfl (rest := []) rfl (hb hbytes d26)
    have hh9 := q9.trans hh7
    have c10 : Steps p.tables e below (s₁.setTop (entryFrame m #[.ref x, .ref y] 3)) (T9.setTop (mkF m 30 #[.val (.ref x), .val (.ref y), .val (.ref y)] [.ref y, .int cd])) := (c8.trans (st9 _ (Steps.refl _))).trans (by
      refine XS.aloadN X9.here hexec rfl (hb hbytes d29) rfl rfl ?_
      exact Steps.refl _)
    obtain ⟨T11, X11, q11, st11⟩ := X9.hget hexec hown (wk W (.fieldLink "java/lang/String" 15 "java/lang/String" "coder" "B")) (hy.mv X9.warmed.alike hh9).2.2.1 (g := (mkF m 30 #[.val (.ref x), .val (.ref y), .val (.ref y)] [.ref y, .int cd])) rfl (rest := [.int cd]) rfl (hb hbytes d30)
    have hh11 := q11.trans hh9
    have c12 : Steps p.tables e below (s₁.setTop (entryFrame m #[.ref x, .ref y] 3)) (T11.setTop (mkF m 33 #[.val (.ref x), .val (.ref y), .val (.ref y)] [.int cd', .int cd])) := c10.trans (st11 _ (Steps.refl _))
    by_cases hcd : cd = cd'
    · subst hcd
      have c13 : Steps p.tables e below (s₁.setTop (entryFrame m #[.ref x, .ref y] 3)) (T11.setTop (mkF m 37 #[.val (.ref x), .val (.ref y), .val (.ref y)] [.ref x])) := c12.trans (by
        refine XS.icmpNo X11.here hexec rfl (hb hbytes d33) rfl (ii_ne_f rfl) ?_
        refine XS.aloadN X11.here hexec rfl (hb hbytes d36) rfl rfl ?_
        exact Steps.refl _)
      obtain ⟨T14, X14, q14, st14⟩ := X11.hget hexec hown (wk W (.fieldLink "java/lang/String" 9 "java/lang/String" "value" "[B")) (hx.mv X11.warmed.alike hh11).2.1 (g := (mkF m 37 #[.val (.ref x), .val (.ref y), .val (.ref y)] [.ref x])) rfl (rest := []) rfl (hb hbytes d37)
      have hh14 := q14.trans hh11
      have c15 : Steps p.tables e below (s₁.setTop (entryFrame m #[.ref x, .ref y] 3)) (T14.setTop (mkF m 41 #[.val (.ref x), .val (.ref y), .val (.ref y)] [.ref y, .ref t])) := (c13.trans (st14 _ (Steps.refl _))).trans (by
        refine XS.aloadN X14.here hexec rfl (hb hbytes d40) rfl rfl ?_
        exact Steps.refl _)
      obtain ⟨T16, X16, q16, st16⟩ := X14.hget hexec hown (wk W (.fieldLink "java/lang/String" 9 "java/lang/String" "value" "[B")) (hy.mv X14.warmed.alike hh14).2.1 (g := (mkF m 41 #[.val (.ref x), .val (.ref y), .val (.ref y)] [.ref y, .ref t])) rfl (rest := [.ref t]) rfl (hb hbytes d41)
      have hh16 := q16.trans hh14
      have c17 : Steps p.tables e below (s₁.setTop (entryFrame m #[.ref x, .ref y] 3)) (T16.setTop (mkF m 44 #[.val (.ref x), .val (.ref y), .val (.ref y)] [.ref t', .ref t])) := c15.trans (st16 _ (Steps.refl _))
      obtain ⟨v18, T18, X18, E18, g18⟩ := X16.callS hexec (LEq.law l t V t' V') hown (wks W (staticW "java/lang/String" 541 LEq.yN)) (wk W LEq.tab) (W := 0) (Nat.le_of_ble_eq_true rfl) (Nat.le_of_ble_eq_true rfl) (Nat.le_refl _) (Nat.le_refl _) (g := (mkF m 44 #[.val (.ref x), .val (.ref y), .val (.ref y)] [.ref t', .ref t])) rfl (by rw [hml]; rfl) c17 (argsL := [.ref t, .ref t']) (rest := []) rfl rfl (by show 2 * 0 + 0 ≤ _; decide) (hb hbytes d44) (⟨rfl, hx.2.2.2.1.mv X16.warmed.alike hh16, hx.2.2.2.2.1.ty, hy.2.2.2.1.mv X16.warmed.alike hh16, hy.2.2.2.2.1.ty⟩)
      obtain ⟨v, rfl, q18, hv⟩ := E18
      have iff := Cod.eqv hx.2.2.2.2.1 hy.2.2.2.2.1 hx.2.2.2.2.2 hy.2.2.2.2.2
      rcases hv with ⟨rfl, he⟩ | ⟨rfl, he⟩
      · have c19 : Steps p.tables e below (s₁.setTop (entryFrame m #[.ref x, .ref y] 3)) (T18.setTop (mkF m 55 #[.val (.ref x), .val (.ref y), .val (.ref y)] [.int 1])) := Steps.trans g18 (by
          refine XS.ifNo X18.here hexec rfl (hb hbytes d47) rfl (i0_eq_f (by decide)) ?_
          refine iconstV X18.here hexec rfl 1 (hb hbytes d50) (by decide) ?_
          refine XS.goto X18.here hexec rfl (pc0 := 51) rfl (hb hbytes d51) (by decide) rfl ?_
          exact Steps.refl _)
        exact ⟨T18, some (.int 1), _, _, _, X18, rfl, rfl, rfl, (fun h => by cases h), ⟨1, rfl, q18.trans hh16, Or.inl ⟨rfl, iff.mp he⟩⟩, fun fs hl => c19.trans (X18.ireturnOut hexec hret rfl (Or.inr (Or.inl rfl)) (hb hbytes d55) hl)⟩
      · have c19 : Steps p.tables e below (s₁.setTop (entryFrame m #[.ref x, .ref y] 3)) (T18.setTop (mkF m 55 #[.val (.ref x), .val (.ref y), .val (.ref y)] [.int 0])) := Steps.trans g18 (by
          refine XS.ifYes X18.here hexec rfl (pc0 := 47) rfl (hb hbytes d47) rfl (i0_eq_t rfl) (by decide) rfl ?_
          refine iconstV X18.here hexec rfl 0 (hb hbytes d54) (by decide) ?_
          exact Steps.refl _)
        exact ⟨T18, some (.int 0), _, _, _, X18, rfl, rfl, rfl, (fun h => by cases h), ⟨0, rfl, q18.trans hh16, Or.inr ⟨rfl, fun q => he (iff.mpr q)⟩⟩, fun fs hl => c19.trans (X18.ireturnOut hexec hret rfl (Or.inr (Or.inl rfl)) (hb hbytes d55) hl)⟩
    · have c13 : Steps p.tables e below (s₁.setTop (entryFrame m #[.ref x, .ref y] 3)) (T11.setTop (mkF m 55 #[.val (.ref x), .val (.ref y), .val (.ref y)] [.int 0])) := c12.trans (by
        refine XS.icmpYes X11.here hexec rfl (pc0 := 33) rfl (hb hbytes d33) rfl (ii_ne_t hcd) (by decide) rfl ?_
        refine iconstV X11.here hexec rfl 0 (hb hbytes d54) (by decide) ?_
        exact Steps.refl _)
      exact ⟨T11, some (.int 0), _, _, _, X11, rfl, rfl, rfl, (fun h => by cases h), ⟨0, rfl, hh11, Or.inr ⟨rfl, Cod.dif hx.2.2.2.2.1 hy.2.2.2.2.1 hcd⟩⟩, fun fs hl => c13.trans (X11.ireturnOut hexec hret rfl (Or.inr (Or.inl rfl)) (hb hbytes d55) hl)⟩
theorem pays {l : Launch} {R : Room} {p : Program} {e : Env} {below : List Frame} {s : State} {sargs : Array Value} {len W : Nat} (x t : Addr) (V : Cell) (cd : Int32) (n : Nat) (f : Nat → Int32) (y t' : Addr) (V' : Cell) (cd' : Int32) (k : Nat) (g : Nat → Int32) (z : Int32) (htab : tab.before sargs s = true) (hfr : 2 ≤ R.frames) (hlo : W + 28 ≤ R.locals) :
    Back l R p e below s sargs yN len W (fun A₁ a₁ => A₁.cells + 0 ≤ R.cells ∧ A₁.slots + 0 ≤ R.slots ∧ P x t V cd n f y t' V' cd' k g z a₁ A₁.U) (fun A₁ _ v₁ B₁ => Says01 (SameT n f k g) v₁ A₁.U B₁.U ∧ B₁.locs = A₁.locs ++ [] ∧ B₁.cells = A₁.cells + 0 ∧ B₁.slots = A₁.slots + 0) :=
  (law l x t V cd n f y t' V' cd' k g z).pays htab hfr (by omega)
end SEq
end StrChars
namespace StrChars.Road
open Jvm Sem ClassFile Op Lib Jvm.Stand Jvm.Free Jvm.Free.XT
open Jvm.Lib.Cold (StaticIs)
/-- the words of String.equals(Object) -/
abbrev wordsEq : List Jvm.Cond := [.code SEq.yN SEq.yB 3 (some .boolean), .initialized ST, .classLink ST 10 ST, .fieldLink ST 38 ST "COMPACT_STRINGS" "Z", .fieldLink ST 15 ST "coder" "B", .fieldLink ST 9 ST "value" "[B", .methodLink ST 541 LEq.yN, .static LEq.yN, .code LEq.yN LEq.yB 3 (some .boolean), .initialized "java/lang/StringLatin1"]
theorem tabEq_of {a : Array Value} {s : State} (h : ∀ w ∈ wordsEq, w.before a s = true) : SEq.tab.before a s = true := by
  have hl : LEq.tab.before a s = true := unparts (wk h (.code LEq.yN LEq.yB 3 (some .boolean))) (wks h (.initialized LEq.yN.cls :: LEq.site))
  have q := consq hl h
  exact unparts (wk q (.code SEq.yN SEq.yB 3 (some .boolean))) (wks q (.initialized SEq.yN.cls :: SEq.site))
theorem movedEq {Z s : State} {a0 args : Array Value} (hZ : Z.Warmed39 s.vm) (hw : ∀ d ∈ wordsEq, d.before a0 Z = true) : ∀ d ∈ wordsEq, d.before args s = true := fun d hd => by
  have t : ∀ d ∈ wordsEq, (d.onTables && d.keepsFace) = true := by decide +kernel
  exact RoadKit.mv hZ (hw d hd) (t d hd)
/-- the road's facts of a String, as the laws ask it -/
theorem txt_of {Z U : State} {a0 : Array Value} {kI : Nat} (wi : (Jvm.Cond.instantiable ST kI).before a0 Z = true) (al : Z.vm.Alike U.vm) {x t : Addr} {kb : ClassId} {cs : List Int32} {cd N2 : Int32} {vs : List Value} (E : RoadKit.Exa Z U.heap x ST) (V : RoadKit.Fld Z U.heap x ST "value" "[B" (.ref t)) (C : RoadKit.Fld Z U.heap x ST "coder" "B" (.int cd)) (K : RoadKit.Arv Z U.heap t kb .byte N2 vs (.int 0)) (hc : CodA cs cd N2 vs) (hb : ∀ c ∈ cs, ¬ c < 0 ∧ ¬ (65535 : Int32) < c) (l2 : cs.length ≤ 4000) :
    ∃ A, Txt x t A cd cs.length (fun j => cs.getD j 0) U := by
  obtain ⟨A, K1, K2, K3, K4, K5, K6⟩ := K
  have hcod := hc.cod (by omega) K3 K5
  obtain ⟨D, fV, fC, hB, F1, F2, g1, g2, -, -⟩ := strObj wi al E V C
  exact ⟨A, ⟨_, hB.2.2.1, D, hB.1, rfl, by cases q : D.vm <;> first | rfl | exact absurd q (hB.2.1.2 _)⟩, Has.of hB F1 g1, Has.of hB F2 g2, ⟨K1.1, State.isArrayOf_alike al K1.2.1, K1.2.2, by rcases hcod with ⟨-, q, -⟩ | ⟨-, q, -⟩ <;> omega⟩, hcod, fun j hj => by
    have e : cs.getD j 0 = cs[j] := by simp [List.getD_eq_getElem?_getD, hj]
    show ¬ cs.getD j 0 < 0 ∧ ¬ 65535 < cs.getD j 0
    rw [e]; exact hb _ (List.getElem_mem _)⟩
theorem same_list (cs ds : List Int32) : SameT cs.length (fun j => cs.getD j 0) ds.length (fun j => ds.getD j 0) ↔ cs = ds := by
  constructor
  · rintro ⟨e, q⟩
    refine List.ext_getElem e fun j h1 h2 => ?_
    have := q j h1
    simpa [List.getD_eq_getElem?_getD, h1, h2] using this
  · rintro rfl
    exact ⟨rfl, fun _ _ => rfl⟩
/-- **equals(Object) OF TWO SUCH STRINGS**: 1 just where the chars are the same -/
theorem eqW {p : Program} {l : Launch} {e : Env} {R : Room} {s : State} {args : Array Value} {below : List Frame} {len W : Nat} {Z : State} {a0 : Array Value} {h : Heap} (hZ : Z.Warmed39 s.vm) (hw : ∀ d ∈ wordsEq, d.before a0 Z = true) {kI : Nat} (wi : (Jvm.Cond.instantiable ST kI).before a0 Z = true)
    {x t : Addr} {kb : ClassId} {cs : List Int32} {cd N2 : Int32} {vs : List Value} (E : RoadKit.Exa Z h x ST) (V : RoadKit.Fld Z h x ST "value" "[B" (.ref t)) (C : RoadKit.Fld Z h x ST "coder" "B" (.int cd)) (K : RoadKit.Arv Z h t kb .byte N2 vs (.int 0)) (hc : CodA cs cd N2 vs) (hb : ∀ c ∈ cs, ¬ c < 0 ∧ ¬ (65535 : Int32) < c) (l2 : cs.length ≤ 4000)
    {y t' : Addr} {kb' : ClassId} {ds : List Int32} {cd' N2' : Int32} {vs' : List Value} (E' : RoadKit.Exa Z h y ST) (V' : RoadKit.Fld Z h y ST "value" "[B" (.ref t')) (C' : RoadKit.Fld Z h y ST "coder" "B" (.int cd')) (K' : RoadKit.Arv Z h t' kb' .byte N2' vs' (.int 0)) (hc' : CodA ds cd' N2' vs') (hb' : ∀ c ∈ ds, ¬ c < 0 ∧ ¬ (65535 : Int32) < c) (l2' : ds.length ≤ 4000)
    {z : Int32} (S : RoadKit.Sta Z h ST "COMPACT_STRINGS" "Z" (.int z)) (hz : ¬ z = 0) (hfr : 2 ≤ R.frames) (hlo : W + 28 ≤ R.locals) :
    Back l R p e below s args (⟨"java/lang/String", "equals", "(Ljava/lang/Object;)Z"⟩ : MethodName) len W (fun P a => a = #[.ref x, .ref y] ∧ P.U.heap = h ∧ P.cells + 0 ≤ R.cells ∧ P.slots + 0 ≤ R.slots)
      (fun P _ v B => ∃ L, (((v = some (.int 1) ∧ cs = ds) ∨ (v = some (.int 0) ∧ ¬ cs = ds)) ∧ L = [] ∧ B.U.heap = h) ∧ B.locs = P.locs ++ L ∧ B.cells = P.cells + 0 ∧ B.slots = P.slots + 0) := by
  intro m meth c P g ig mk a X hg hsize hdg hW hn hp'
  obtain ⟨rfl, rfl, r1, r2⟩ := hp'
  have al : Z.vm.Alike P.U.vm := hZ.alike.trans X.warmed.alike
  obtain ⟨A, hx⟩ := txt_of wi al E V C K hc hb l2
  obtain ⟨A', hy⟩ := txt_of wi al E' V' C' K' hc' hb' l2'
  obtain ⟨v, B, X', ⟨⟨w, hv, hh, hq⟩, hl, hk, hs⟩, st⟩ := SEq.pays x t A cd cs.length (fun j => cs.getD j 0) y t' A' cd' ds.length (fun j => ds.getD j 0) z (tabEq_of (movedEq hZ hw)) hfr hlo m meth c P g ig mk _ X hg hsize hdg hW hn ⟨r1, r2, rfl, hx, hy, sta_is al S, hz⟩
  refine ⟨v, B, X', ⟨[], ⟨?_, rfl, hh⟩, hl, hk, hs⟩, st⟩
  rcases hq with ⟨rfl, q⟩ | ⟨rfl, q⟩
  · exact Or.inl ⟨hv, (same_list cs ds).mp q⟩
  · exact Or.inr ⟨hv, fun e => q ((same_list cs ds).mpr e)⟩
end StrChars.Road
namespace StrChars.Road
open Jvm Sem ClassFile Op Lib Jvm.Stand Jvm.Free Jvm.Free.XT
open Jvm.Lib.Cold (StaticIs)
/-- what backV says of its String, as the contracts of this text ask it: cs's low bytes, coder 0 -/
theorem codOf {cs : List Int32} {n : Nat} (hn : cs.length = n) (hb : ∀ c ∈ cs, ¬ 255 < c) : CodA cs 0 (Int32.ofNat n) ((cs.map lo8).map Value.int) := Or.inl ⟨rfl, by rw [hn], by simp [List.map_map, Function.comp_def], hb⟩
end StrChars.Road
end Jvm.Pilot.@@N@@
namespace Jvm.RoadKit
open Sem ClassFile Op Lib Jvm.Stand Jvm.Free Jvm.LawKit
section New
variable {p : Program} {l : Launch} {e : Env} {R : Room} {s : State} {m : MethodId} {args : Array Value} {below : List Frame} {meth : Method} {c : Code} {T : State} {locs : List Loc} {cells slots : Nat}
theorem retI (X : Stand p l e R s m args below meth c T locs cells slots) (hx : p.tables.exec = Jvm.exec) {pc : Nat} {Ls : Array Slot} {z : Int32} {rest : List Value} (hret : meth.sig.returnType = some .int) (hd : decode c.code pc = .ok (.ireturn, 1)) {fs : List Frame}
    (hl : ∀ (f : JFrame) (acts : List Action), f.method = m → f.locked = none → f.entered = [] → (doReturn e (T.setTop f) acts (some (.int z))).1 = T.setFrames fs) : Steps p.tables e below (T.setTop (mkF m pc Ls (.int z :: rest))) (T.setFrames fs) := by
  have hm' : T.vm.method? m = some meth := X.method'
  have hn : narrow .int (.int z) = .int z := rfl
  show Steps p.tables e below (T.setTop { method := m, pc := pc, locals := Ls, stack := _ :: rest, locked := none }) _
  jvm_step X.here [X.here.top, hx, hd, hm', hret, hn]
  first | (intro acts; rw [hl _ acts rfl rfl rfl]) | rw [hl _ _ rfl rfl rfl]
  exact Steps.refl _
theorem retD (X : Stand p l e R s m args below meth c T locs cells slots) (hx : p.tables.exec = Jvm.exec) {pc : Nat} {Ls : Array Slot} {z : UInt64} {rest : List Value} (hret : meth.sig.returnType = some .double) (hd : decode c.code pc = .ok (.dreturn, 1)) {fs : List Frame}
    (hl : ∀ (f : JFrame) (acts : List Action), f.method = m → f.locked = none → f.entered = [] → (doReturn e (T.setTop f) acts (some (.double z))).1 = T.setFrames fs) : Steps p.tables e below (T.setTop (mkF m pc Ls (.double z :: rest))) (T.setFrames fs) := by
  have hm' : T.vm.method? m = some meth := X.method'
  have hn : narrow .double (.double z) = .double z := rfl
  show Steps p.tables e below (T.setTop { method := m, pc := pc, locals := Ls, stack := _ :: rest, locked := none }) _
  jvm_step X.here [X.here.top, hx, hd, hm', hret, hn]
  first | (intro acts; rw [hl _ acts rfl rfl rfl]) | rw [hl _ _ rfl rfl rfl]
  exact Steps.refl _
end New
end Jvm.RoadKit
namespace Jvm.RoadKit
open Sem ClassFile Op Lib Jvm.Stand Jvm.Free Jvm.LawKit
theorem own_lsw {tb : Tables} [Ours tb] {e : Env} {below : List Frame} {T target : State} {m : MethodId} {c : Code} {g : JFrame} (h : At T m c below) (hx : tb.exec = Jvm.exec) (hg : g.method = m) {dflt : Int} {pairs : Array (Int × Int)} {len : Nat} {pc0 pc' : Nat} (hpc : g.pc = pc0) (hd : decode c.code g.pc = .ok (.lookupswitch dflt pairs, len)) {i : Int32} {rest : List Value} (hs : g.stack = .int i :: rest) {o : Int}
    (hoff : lookupswitch.offset pairs.toList dflt i.toInt = o) (hso : (pairs.toList.zip (pairs.toList.drop 1)).all (fun (a, next) => a.1 < next.1) = true) (ho : 0 ≤ (pc0 : Int) + o) (hp : ((pc0 : Int) + o).toNat = pc')
    (hr : Steps tb e below (T.setTop { g with pc := pc', stack := rest }) target) : Steps tb e below (T.setTop g) target := by
  subst hg hpc hp
  jvm_step h [h.top, hx, hd, hs, hoff, ho, lookupswitch.wp_chain]
  exact ⟨by simpa using hso, hr⟩
theorem own_off_no {k d : Int} : ∀ {L : List (Int × Int)}, (∀ q ∈ L, ¬ q.1 = k) → lookupswitch.offset L d k = d
  | [], _ => rfl
  | (a, o) :: r, h => by rw [lookupswitch.offset_cons, if_neg (h (a, o) (List.mem_cons_self ..))]; exact own_off_no fun q hq => h q (List.mem_cons_of_mem _ hq)
theorem own_ne_lit {x k : Int32} (h : ¬ x = k) {z : Int} (hz : k.toInt = z) : ¬ z = x.toInt := fun q => h (Int32.toInt_inj.mp (by rw [← q, hz]))
def own_rem (x y : Int32) : Int32 := x - (x / y) * y
def bi (P : Prop) [Decidable P] : Int32 := if P then 1 else 0
theorem bi_t {P : Prop} [Decidable P] (h : P) : bi P = 1 := if_pos h
theorem bi_f {P : Prop} [Decidable P] (h : ¬ P) : bi P = 0 := if_neg h
theorem bi_nar {P : Prop} [Decidable P] : nar .boolean (bi P) = bi P := by unfold bi; split <;> rfl
theorem bi_0 {P : Prop} [Decidable P] : (bi P = 0) ↔ ¬ P := by unfold bi; split <;> simp_all
theorem bi_inj {P Q : Prop} [Decidable P] [Decidable Q] (h : P ↔ Q) : bi P = bi Q := by unfold bi; simp only [h]
end Jvm.RoadKit
namespace Jvm.RoadKit
open Sem ClassFile Op Lib Jvm.Stand Jvm.Free Jvm.LawKit
section OwnWords
variable {args : Array Value} {s : State} {idx : List Nat} {t i : Term} {aT : Addr} {cl : Cell} {b k A B z : Int32}
theorem own_or {G Y : Cond} (h : (Cond.or G Y).value args s none s idx = some true) (hg : G.value args s none s idx = some false) : Y.value args s none s idx = some true := by
  simpa only [Cond.value, hg] using h
theorem own_el (h : (Cond.eq (.elem t i) (.int b)).value args s none s idx = some true) (ht : t.eval args s none idx s = some (.ref aT)) (hi : i.eval args s none idx s = some (.int k)) (hc : s.heap[aT]? = some cl) : atv cl k = b := by
  obtain ⟨x, y, e1, e2, -, -⟩ := cmp_v (Or.inl h)
  obtain ⟨-, e3⟩ := elem_in e1 ht hi hc
  have e4 : (Term.int b).eval args s none idx s = some (.int b) := rfl
  cases e4.symm.trans e2
  have e5 : x = .int b := by cases x <;> simp [Cond.value, e1, e4] at h; rw [h]
  subst e5
  exact atv_of e3
theorem own_r1 (h : (Cond.all t (.or (.le (.int A) (.index 0)) (.eq (.elem t (.index 0)) (.int b)))).value args s none s [] = some true) (ht : ∀ idx, t.eval args s none idx s = some (.ref aT)) (hc : s.heap[aT]? = some cl) (ha : s.arrayAt? aT = some cl) {n : Nat} (hn : n < cl.slots.size) (h1 : ¬ A ≤ n.toInt32) : atv cl n.toInt32 = b := by
  have q := Cond.all_elim (ht []) ha h n hn
  exact own_el (own_or q (by simp [Cond.value, Term.eval, h1])) (ht _) (by simp [Term.eval]) hc
theorem own_r2 (h : (Cond.all t (.or (.lt (.index 0) (.int A)) (.or (.le (.int B) (.index 0)) (.eq (.elem t (.index 0)) (.int b))))).value args s none s [] = some true) (ht : ∀ idx, t.eval args s none idx s = some (.ref aT)) (hc : s.heap[aT]? = some cl) (ha : s.arrayAt? aT = some cl) {n : Nat} (hn : n < cl.slots.size) (h1 : ¬ n.toInt32 < A) (h2 : ¬ B ≤ n.toInt32) : atv cl n.toInt32 = b := by
  have q := Cond.all_elim (ht []) ha h n hn
  exact own_el (own_or (own_or q (by simp [Cond.value, Term.eval, h1])) (by simp [Cond.value, Term.eval, h2])) (ht _) (by simp [Term.eval]) hc
theorem own_len (h : (Cond.eq (.length t) (.int z)).value args s none s idx = some true) (ht : t.eval args s none idx s = some (.ref aT)) (ha : s.arrayAt? aT = some cl) : cl.slots.size < 2 ^ 31 ∧ cl.slots.size.toInt32 = z := by
  by_cases q : cl.slots.size < 2 ^ 31
  · simp [Cond.value, Term.eval, ht, ha, q] at h; exact ⟨q, h⟩
  · simp [Cond.value, Term.eval, ht, ha, q] at h
theorem own_sta_idx {C n d : String} {v : Value} (h : (Term.static C n d).eval args s none [] s = some v) (idx : List Nat) : (Term.static C n d).eval args s none idx s = some v := by
  simp only [Term.eval] at h ⊢; exact h
end OwnWords
theorem own_toInt_ofNat {n : Nat} (h : n < 2147483648) : (Int32.ofNat n).toInt = n := Int32.toInt_ofNat_small h
theorem own_of_rng {c : Int32} (h0 : ¬ c < 0) : c = Int32.ofNat c.toInt.toNat := by
  have h0' : 0 ≤ c.toInt := by rw [Int32.lt_iff_toInt_lt] at h0; have : (0 : Int32).toInt = 0 := rfl; omega
  have := c.toInt_lt
  apply Int32.toInt_inj.mp
  rw [own_toInt_ofNat (by omega)]; omega
end Jvm.RoadKit
namespace Jvm.RoadKit
open Sem ClassFile Op Lib Jvm.Stand Jvm.Free Jvm.LawKit
theorem own_ord {args : Array Value} {s : State} {t : Term} {a : Addr} {k : Int32} {C n d : String} (h : (Cond.eq (.field t C n d) (.int k)).value args s none s [] = some true) (ht : t.eval args s none [] s = some (.ref a)) : s.fieldOf? a C n d = some (.int k) := by
  obtain ⟨x, y, e1, e2, -, -⟩ := cmp_v (Or.inl h)
  have e4 : (Term.int k).eval args s none [] s = some (.int k) := rfl
  have e5 : x = .int k := by cases x <;> simp [Cond.value, e1, e4] at h; rw [h]
  rw [fld_at ht] at e1
  rw [e1, e5]
theorem own_ord_ne {o : Addr → Option Value} {a b : Addr} {j k : Int32} (h1 : o a = some (.int j)) (h2 : o b = some (.int k)) (hjk : ¬ j = k) : ¬ a = b := fun e => by
  subst e; exact hjk (Value.int.inj (Option.some.inj (h1.symm.trans h2)))
theorem own_and7 (x : Int32) : (x &&& 7).toInt = 0 ∨ (x &&& 7).toInt = 1 ∨ (x &&& 7).toInt = 2 ∨ (x &&& 7).toInt = 3 ∨ (x &&& 7).toInt = 4 ∨ (x &&& 7).toInt = 5 ∨ (x &&& 7).toInt = 6 ∨ (x &&& 7).toInt = 7 := by
  have h := c_mask x 7 3 (by decide) (by decide)
  have : ((2 ^ 3 : Nat) : Int) = 8 := rfl
  omega
theorem own_i32 {x k : Int32} {z : Int} (h : x.toInt = z) (hk : k.toInt = z) : x = k := Int32.toInt_inj.mp (h.trans hk.symm)
end Jvm.RoadKit
namespace Jvm.Pilot.@@N@@
open Jvm Jvm.ClassFile Sem Op Lib Jvm.Free Jvm.Stand Jvm.LawKit Jvm.RoadKit Bundle Jvm.Pilot.@@N@@.Jvm.D
def own_EL : List (String × Nat) := [("java/lang/String", 7)]
def own_i (P : Prop) [Decidable P] (a b : Int32) : Int32 := if P then a else b
def own_ch (x i : Int32) : Int32 := (((x.toUInt32 >>> (((2 : Int32) + ((8 : Int32) * i)) &&& 31).toUInt32).toInt32) &&& (255 : Int32))
theorem own_b8 (y : Int32) : 0 ≤ (y &&& (255 : Int32)).toInt ∧ (y &&& (255 : Int32)).toInt < 256 := by
  have h := c_mask y 255 8 (by decide) (by decide)
  have e : ((2 ^ 8 : Nat) : Int) = 256 := rfl
  rw [e] at h; omega
theorem own_c2 {x : Int32} (h : 0 ≤ x.toInt ∧ x.toInt < 256) : x.toUInt32.toUInt16.toUInt32.toInt32 = x := Int32.toInt_inj.mp (by have := c_i2c x; omega)
theorem own_c8 (y : Int32) : nar .char ((y &&& (255 : Int32)).toUInt32.toUInt16.toUInt32.toInt32) = (y &&& (255 : Int32)) := by
  rw [own_c2 (own_b8 y)]; exact own_c2 (own_b8 y)
theorem own_n8 (x i : Int32) : nar .char (own_ch x i) = own_ch x i := own_c2 (own_b8 _)
theorem own_r8 (x i : Int32) : ¬ own_ch x i < 0 ∧ ¬ (255 : Int32) < own_ch x i := by
  have h : 0 ≤ (own_ch x i).toInt ∧ (own_ch x i).toInt < 256 := own_b8 _
  rw [Int32.lt_iff_toInt_lt, Int32.lt_iff_toInt_lt]
  have e0 : (0 : Int32).toInt = 0 := rfl
  have e1 : (255 : Int32).toInt = 255 := rfl
  omega
def own_cs (x : Int32) : List Int32 := [own_ch x 0, own_ch x 1, own_ch x 2].take (x &&& (3 : Int32)).toNatClampNeg
theorem own_and3 (x : Int32) : (x &&& (3 : Int32)) = 0 ∨ (x &&& (3 : Int32)) = 1 ∨ (x &&& (3 : Int32)) = 2 ∨ (x &&& (3 : Int32)) = 3 := by
  have h := c_mask x 3 2 (by decide) (by decide)
  have e : ((2 ^ 2 : Nat) : Int) = 4 := rfl
  rw [e] at h
  have q : (x &&& (3 : Int32)).toInt = 0 ∨ (x &&& (3 : Int32)).toInt = 1 ∨ (x &&& (3 : Int32)).toInt = 2 ∨ (x &&& (3 : Int32)).toInt = 3 := by omega
  rcases q with q | q | q | q
  · exact Or.inl (own_i32 q rfl)
  · exact Or.inr (Or.inl (own_i32 q rfl))
  · exact Or.inr (Or.inr (Or.inl (own_i32 q rfl)))
  · exact Or.inr (Or.inr (Or.inr (own_i32 q rfl)))
theorem own_cs0 {x : Int32} (h : (x &&& (3 : Int32)) = 0) : own_cs x = [] := by unfold own_cs; rw [h]; rfl
theorem own_cs1 {x : Int32} (h : (x &&& (3 : Int32)) = 1) : own_cs x = [own_ch x 0] := by unfold own_cs; rw [h]; rfl
theorem own_cs2 {x : Int32} (h : (x &&& (3 : Int32)) = 2) : own_cs x = [own_ch x 0, own_ch x 1] := by unfold own_cs; rw [h]; rfl
theorem own_cs3 {x : Int32} (h : (x &&& (3 : Int32)) = 3) : own_cs x = [own_ch x 0, own_ch x 1, own_ch x 2] := by unfold own_cs; rw [h]; rfl
theorem own_cs_r (x : Int32) : ∀ c ∈ own_cs x, ¬ c < 0 ∧ ¬ (255 : Int32) < c := fun c hc => by
  have q := List.mem_of_mem_take hc
  simp only [List.mem_cons, List.not_mem_nil, or_false] at q
  rcases q with rfl | rfl | rfl <;> exact own_r8 _ _
theorem own_cs_l (x : Int32) : (own_cs x).length ≤ 3 := by unfold own_cs; rw [List.length_take]; exact Nat.min_le_right _ _
theorem own_ne3 {x : Int32} (h0 : ¬ (x &&& (3 : Int32)) = 0) (h1 : ¬ (x &&& (3 : Int32)) = 1) (h2 : ¬ (x &&& (3 : Int32)) = 2) : (x &&& (3 : Int32)) = 3 := (((own_and3 x).resolve_left h0).resolve_left h1).resolve_left h2
def own_Str (Z : State) (h : Heap) (a : Addr) (cs : List Int32) : Prop := Exa Z h a "java/lang/String" ∧ Fld Z h a "java/lang/String" "coder" "B" (.int 0) ∧ ∃ (tt : Addr) (kb : ClassId), Fld Z h a "java/lang/String" "value" "[B" (.ref tt) ∧ Arv Z h tt kb .byte (Int32.ofNat cs.length) ((cs.map (fun c => c.toInt8.toInt32)).map Value.int) (.int 0)
theorem own_Str_keep {Z : State} {h h' : Heap} {a : Addr} {cs : List Int32} (S : own_Str Z h a cs) (K : Keep h h' []) : own_Str Z h' a cs := by
  obtain ⟨h1, h2, tt, kb, h3, h4⟩ := S
  exact ⟨h1.keep K, h2.keep K nin0, tt, kb, h3.keep K nin0, h4.keep K nin0⟩
theorem own_safe {Z : State} {EL : List (String × Nat)} {vm : Vm} {h : Heap} {x : Addr} (hal : Z.vm.Alike vm) (E : Exa Z h x "java/lang/String") (V : Fld Z h x "java/lang/String" "value" "[B" .null) : Safe Z EL vm h x := fun B => by
  obtain ⟨p, -, u, a, -, q, -, F, rfl | rfl⟩ := B
  · obtain ⟨cell, cf, k, i, f, h1, h2, h3, h4, h5, h6, h7⟩ := V
    have s1 : h[q.sa]? = some q.sC := F.ha
    obtain ⟨cS, ⟨⟨-, -, -, ⟨c1, k1, i1, f1, -⟩, -, -, -, v1, -⟩, -⟩, -⟩ := F
    obtain ⟨k3, e3, -⟩ := State.fieldFound?_setVm (s := ({ Z with heap := h } : State)) (vm' := vm) hal (show ({ Z with heap := h } : State).fieldFound? "java/lang/String" "value" "[B" = some (cf, k, i, f) from h2)
    have e4 := (show (Wst Z vm h).fieldFound? _ _ _ = _ from e3).symm.trans f1
    simp only [Option.some.injEq, Prod.mk.injEq] at e4
    cases h1.symm.trans s1
    rw [e4.2.2.2, v1] at h7
    cases h7
  · obtain ⟨cell, k, e1, e2, e3, -, -⟩ := E
    cases (show h[q.sd]? = some q.SA from F.hd).symm.trans e1
    obtain ⟨cS, -, -, f, -⟩ := F
    have f' : vm.findClass "[B" = some q.SA.cls := f
    rw [hal.findClass] at f'
    obtain ⟨k1, q1, q2⟩ := Vm.findClass_spec f'
    obtain ⟨k2, q3, q4⟩ := Vm.findClass_spec e2
    cases q1.symm.trans q3
    exact absurd (q2.symm.trans q4) (by decide)
theorem own_bd {cs : List Int32} (h : ∀ c ∈ cs, ¬ c < 0 ∧ ¬ (255 : Int32) < c) : ∀ c ∈ cs, ¬ c < 0 ∧ ¬ (65535 : Int32) < c := fun c hc => by
  obtain ⟨h1, h2⟩ := h c hc
  refine ⟨h1, ?_⟩
  rw [Int32.lt_iff_toInt_lt] at h2 ⊢
  have e0 : (255 : Int32).toInt = 255 := rfl
  have e1 : (65535 : Int32).toInt = 65535 := rfl
  omega
def QV (Z : State) (x : Addr) (b : Addr) (h0 : Heap) (n0 : Nat) (v : Option Value) (h : Heap) (L : List Loc) : Prop := v = none ∧ Fr n0 L ∧ Keep h0 h [x] ∧ own_Str Z h x []
theorem ef_V (m : MethodId) (x0 : Addr) (x1 : Addr) (x2 : Int32) (x3 : Int32) : entryFrame m #[(.ref x0), (.ref x1), (.int x2), (.int x3), .null] 6 = mkF m 0 #[.val (.ref x0), .val (.ref x1), .val (.int x2), .val (.int x3), .val .null, .unset] [] := by first | (simp [entryFrame, mkF, argsToLocals, Value.category]; done) | rfl
theorem pn_String : plainName "java/lang/String" = true := by first | (simp [plainName, overriddenIn]; done) | decide +kernel
theorem d_jdk_42_method_149_0 : decode jdk_42_method_149_code 0 = .ok (.aload_n 0, 1) := by decide +kernel
theorem d_jdk_42_method_149_1 : decode jdk_42_method_149_code 1 = .ok (.invokespecial 1, 3) := by decide +kernel
theorem d_jdk_42_method_149_4 : decode jdk_42_method_149_code 4 = .ok (.iload_n 3, 1) := by decide +kernel
theorem d_jdk_42_method_149_5 : decode jdk_42_method_149_code 5 = .ok (.ifCond .ne 22, 3) := by decide +kernel
theorem d_jdk_42_method_149_8 : decode jdk_42_method_149_code 8 = .ok (.aload_n 0, 1) := by decide +kernel
theorem d_jdk_42_method_149_9 : decode jdk_42_method_149_code 9 = .ok (.ldc 7, 2) := by decide +kernel
theorem d_jdk_42_method_149_11 : decode jdk_42_method_149_code 11 = .ok (.getfield 9, 3) := by decide +kernel
theorem d_jdk_42_method_149_14 : decode jdk_42_method_149_code 14 = .ok (.putfield 9, 3) := by decide +kernel
theorem d_jdk_42_method_149_17 : decode jdk_42_method_149_code 17 = .ok (.aload_n 0, 1) := by decide +kernel
theorem d_jdk_42_method_149_18 : decode jdk_42_method_149_code 18 = .ok (.ldc 7, 2) := by decide +kernel
theorem d_jdk_42_method_149_20 : decode jdk_42_method_149_code 20 = .ok (.getfield 15, 3) := by decide +kernel
theorem d_jdk_42_method_149_23 : decode jdk_42_method_149_code 23 = .ok (.putfield 15, 3) := by decide +kernel
theorem d_jdk_42_method_149_26 : decode jdk_42_method_149_code 26 = .ok (.return_, 1) := by decide +kernel
set_option maxRecDepth 65536 in
set_option maxHeartbeats 40000000 in
theorem rmV (l : Launch) (Z : State) (a0 : Array Value) (hw : ∀ d ∈ tables_1, d.before a0 Z = true) (ws : List Jvm.Cond) (x : Addr) (b : Addr) (h0 : Heap) (n0 : Nat) (Z0 : n0 ≤ h0.size) (E : Exa Z h0 x "java/lang/String") (V : Fld Z h0 x "java/lang/String" "value" "[B" .null) (Co : Fld Z h0 x "java/lang/String" "coder" "B" (.int (0 : Int32))) (gx : n0 ≤ x) (wS : ∀ a ∈ Bundle.stringAtoms, a.before a0 Z = true) (hEL : EW Z a0 own_EL) :
    MetFree l (⟨"java/lang/String", "<init>", "([CIILjava/lang/Void;)V"⟩ : MethodName) (head1 (Jvm.Cond.code (⟨"java/lang/String", "<init>", "([CIILjava/lang/Void;)V"⟩ : MethodName) jdk_42_method_149_code 6 none :: ws) ({ frames := 1, cells := 2, slots := 4, locals := 12 } : Room)) (fun a_ U_ => a_ = #[(.ref x), (.ref b), (.int (0 : Int32)), (.int (0 : Int32)), .null] ∧ Z.Warmed39 U_.vm ∧ U_.heap = h0 ∧ CHv Z own_EL U_.vm h0) (fun _ _ _ _ _ => True) (fun _ U_ o_ E_ => ∃ v_ L_, o_ = .returned v_ ∧ QV Z x b h0 n0 v_ E_.heap L_ ∧ CHr Z own_EL U_.vm U_.heap E_.vm E_.heap ∧ ReturnedEndW U_ o_ E_ L_ ({ frames := 1, cells := 2, slots := 4, locals := 12 } : Room).cells ({ frames := 1, cells := 2, slots := 4, locals := 12 } : Room).slots) := by
  refine MetFree.of_bodySF (plainFor_of_name pn_String) hisR ?_
  intro p e s m args below meth c s₁ Bd hml0 hP hK
  obtain ⟨rfl, hZ, hh, hCH0⟩ := hP
  have hx := Bd.exec
  have hby := Bd.bytes
  have hml : c.maxLocals = 6 := hml0
  have hown : (s.setVm s.vm).vm.findClass "java/lang/String" = some m.cls := findClass_of_methodNamed Bd.named
  have hnm := (name_of_methodNamed Bd.named Bd.method).1
  replace hZ : Z.Warmed39 (s.setVm s.vm).vm := hZ
  have X0 : Stand p l e ({ frames := 1, cells := 2, slots := 4, locals := 12 } : Room) (s.setVm s.vm) m #[(.ref x), (.ref b), (.int (0 : Int32)), (.int (0 : Int32)), .null] below meth c s₁ [] 0 0 := Stand.of_body Bd
  have e0 : s₁.heap = h0 := by rw [← hh, Bd.state]; rfl
  have N0 := Fr.nil n0
  have Zn := Z0
  have hS : s.Since s.vm s.heap.size := (State.WarmedH.refl s).since _
  have hk : s.heap.size ≤ h0.size := by rw [hh]; exact Nat.le_refl _
  have hCH : CHr Z own_EL s.vm h0 s.vm h0 := CHr.refl hCH0
  have pre0 : ∀ t, Steps p.tables e below (s₁.setTop (mkF m 0 #[.val (.ref x), .val (.ref b), .val (.int (0 : Int32)), .val (.int (0 : Int32)), .val .null, .unset] [])) t → Steps p.tables e below (s₁.setTop (entryFrame m #[(.ref x), (.ref b), (.int (0 : Int32)), (.int (0 : Int32)), .null] 6)) t := fun t q => castTop (ef_V m x b (0 : Int32) (0 : Int32)) q
  have k0 : ∀ t, Steps p.tables e below (s₁.setTop (mkF m 0 #[.val (.ref x), .val (.ref b), .val (.int (0 : Int32)), .val (.int (0 : Int32)), .val .null, .unset] [])) t → Steps p.tables e below (s₁.setTop (mkF m 0 #[.val (.ref x), .val (.ref b), .val (.int (0 : Int32)), .val (.int (0 : Int32)), .val .null, .unset] [])) t := fun t q => q
  have SX : Safe Z own_EL s.vm h0 x := own_safe (hZ.alike) E V
  have lx := E.lt
  have KP := Keep.refl h0 [x]
  have k1_ : ∀ t, Steps p.tables e below (s₁.setTop (mkF m 1 #[.val (.ref x), .val (.ref b), .val (.int (0 : Int32)), .val (.int (0 : Int32)), .val .null, .unset] [(.ref x)])) t → Steps p.tables e below (s₁.setTop (mkF m 0 #[.val (.ref x), .val (.ref b), .val (.int (0 : Int32)), .val (.int (0 : Int32)), .val .null, .unset] [])) t := by
    intro t q
    refine k0 _ ?_
    show Steps p.tables e below (s₁.setTop (mkF m 0 #[.val (.ref x), .val (.ref b), .val (.int (0 : Int32)), .val (.int (0 : Int32)), .val .null, .unset] [])) _
    refine XS.aloadN X0.here hx rfl (hb hby d_jdk_42_method_149_0) rfl rfl ?_
    show Steps p.tables e below (s₁.setTop (mkF m 1 #[.val (.ref x), .val (.ref b), .val (.int (0 : Int32)), .val (.int (0 : Int32)), .val .null, .unset] [(.ref x)])) _
    exact q
  obtain ⟨T2, X2, e2, st2⟩ := initO X0 hx hZ hown (hw _ (List.mem_of_getElem? (i := 19) rfl)) (hw _ (List.mem_of_getElem? (i := 20) rfl)) (hw _ (List.mem_of_getElem? (i := 21) rfl)) e0 (g := (mkF m 1 #[.val (.ref x), .val (.ref b), .val (.int (0 : Int32)), .val (.int (0 : Int32)), .val .null, .unset] [(.ref x)])) rfl (by rw [hml]; rfl) rfl (hb hby d_jdk_42_method_149_1) (by decide) (W := 0) (by show 2 * 0 + _ ≤ _; exact Nat.le_of_eq rfl) (by decide)
  have k3_ : ∀ t, Steps p.tables e below (T2.setTop (mkF m 4 #[.val (.ref x), .val (.ref b), .val (.int (0 : Int32)), .val (.int (0 : Int32)), .val .null, .unset] [])) t → Steps p.tables e below (s₁.setTop (mkF m 0 #[.val (.ref x), .val (.ref b), .val (.int (0 : Int32)), .val (.int (0 : Int32)), .val .null, .unset] [])) t := fun t q => k1_ t (st2 t q)
  have k4_ : ∀ t, Steps p.tables e below (T2.setTop (mkF m 5 #[.val (.ref x), .val (.ref b), .val (.int (0 : Int32)), .val (.int (0 : Int32)), .val .null, .unset] [(.int (0 : Int32))])) t → Steps p.tables e below (s₁.setTop (mkF m 0 #[.val (.ref x), .val (.ref b), .val (.int (0 : Int32)), .val (.int (0 : Int32)), .val .null, .unset] [])) t := by
    intro t q
    refine k3_ _ ?_
    show Steps p.tables e below (T2.setTop (mkF m 4 #[.val (.ref x), .val (.ref b), .val (.int (0 : Int32)), .val (.int (0 : Int32)), .val .null, .unset] [])) _
    refine XS.iloadN X2.here hx rfl (hb hby d_jdk_42_method_149_4) rfl ?_
    show Steps p.tables e below (T2.setTop (mkF m 5 #[.val (.ref x), .val (.ref b), .val (.int (0 : Int32)), .val (.int (0 : Int32)), .val .null, .unset] [(.int (0 : Int32))])) _
    exact q
  have k5_ : ∀ t, Steps p.tables e below (T2.setTop (mkF m 8 #[.val (.ref x), .val (.ref b), .val (.int (0 : Int32)), .val (.int (0 : Int32)), .val .null, .unset] [])) t → Steps p.tables e below (s₁.setTop (mkF m 0 #[.val (.ref x), .val (.ref b), .val (.int (0 : Int32)), .val (.int (0 : Int32)), .val .null, .unset] [])) t := by
    intro t q
    refine k4_ _ ?_
    show Steps p.tables e below (T2.setTop (mkF m 5 #[.val (.ref x), .val (.ref b), .val (.int (0 : Int32)), .val (.int (0 : Int32)), .val .null, .unset] [(.int (0 : Int32))])) _
    refine XS.ifNo X2.here hx rfl (hb hby d_jdk_42_method_149_5) rfl ((if0 _ _).trans (teq rfl).2) ?_
    show Steps p.tables e below (T2.setTop (mkF m 8 #[.val (.ref x), .val (.ref b), .val (.int (0 : Int32)), .val (.int (0 : Int32)), .val .null, .unset] [])) _
    exact q
  have k6_ : ∀ t, Steps p.tables e below (T2.setTop (mkF m 9 #[.val (.ref x), .val (.ref b), .val (.int (0 : Int32)), .val (.int (0 : Int32)), .val .null, .unset] [(.ref x)])) t → Steps p.tables e below (s₁.setTop (mkF m 0 #[.val (.ref x), .val (.ref b), .val (.int (0 : Int32)), .val (.int (0 : Int32)), .val .null, .unset] [])) t := by
    intro t q
    refine k5_ _ ?_
    show Steps p.tables e below (T2.setTop (mkF m 8 #[.val (.ref x), .val (.ref b), .val (.int (0 : Int32)), .val (.int (0 : Int32)), .val .null, .unset] [])) _
    refine XS.aloadN X2.here hx rfl (hb hby d_jdk_42_method_149_8) rfl rfl ?_
    show Steps p.tables e below (T2.setTop (mkF m 9 #[.val (.ref x), .val (.ref b), .val (.int (0 : Int32)), .val (.int (0 : Int32)), .val .null, .unset] [(.ref x)])) _
    exact q
  obtain ⟨a_em, T7, h7, kk7, b_em, kc_em, X7, e7, E7, hS7, hk7, hZ7, hown7, EA_em, FC_em, FV_em, VB_em, -, -, hc7, LT_em, SF_em, st7⟩ := ldcCH (s := s) (vm0 := s.vm) (EL := own_EL) X2 hx hZ hown (hw _ (List.mem_of_getElem? (i := 22) rfl)) wS e2 hS hk hEL (List.mem_of_getElem? (i := 0) rfl) hCH.1 (vs := []) (z := (0 : Int32)) ⟨by decide, by decide⟩ (by decide) rfl (g := (mkF m 9 #[.val (.ref x), .val (.ref b), .val (.int (0 : Int32)), .val (.int (0 : Int32)), .val .null, .unset] [(.ref x)])) rfl (hb hby d_jdk_42_method_149_9) (n := 0) (by decide) (by decide) (by decide) (by decide)
  replace hS := hS7
  replace hZ := hZ7
  replace hown := hown7
  replace hCH := hCH.trans hc7
  replace Zn := Nat.le_trans Zn E7.1
  replace hk := hk7
  replace E := E.ext E7
  replace V := V.ext E7
  replace Co := Co.ext E7
  have k8_ : ∀ t, Steps p.tables e below (T7.setTop (mkF m 11 #[.val (.ref x), .val (.ref b), .val (.int (0 : Int32)), .val (.int (0 : Int32)), .val .null, .unset] [(.ref a_em), (.ref x)])) t → Steps p.tables e below (s₁.setTop (mkF m 0 #[.val (.ref x), .val (.ref b), .val (.int (0 : Int32)), .val (.int (0 : Int32)), .val .null, .unset] [])) t := fun t q => k6_ t (st7 t q)
  replace SX := hc7.safe lx SX
  replace KP := KP.ext E7
  obtain ⟨nx1, nx2⟩ := SF_em x SX
  obtain ⟨T9, X9, e9, st9⟩ := getF X7 hx hZ hown (host := "") (Or.inl (hw _ (List.mem_of_getElem? (i := 28) rfl))) Via.refl e7 FV_em (g := (mkF m 11 #[.val (.ref x), .val (.ref b), .val (.int (0 : Int32)), .val (.int (0 : Int32)), .val .null, .unset] [(.ref a_em), (.ref x)])) rfl rfl (hb hby d_jdk_42_method_149_11)
  have k10_ : ∀ t, Steps p.tables e below (T9.setTop (mkF m 14 #[.val (.ref x), .val (.ref b), .val (.int (0 : Int32)), .val (.int (0 : Int32)), .val .null, .unset] [(.ref b_em), (.ref x)])) t → Steps p.tables e below (s₁.setTop (mkF m 0 #[.val (.ref x), .val (.ref b), .val (.int (0 : Int32)), .val (.int (0 : Int32)), .val .null, .unset] [])) t := fun t q => k8_ t (st9 t q)
  obtain ⟨T11, h11, X11, e11, W11, st11⟩ := putF X9 hx hZ hown (host := "") (Or.inl (hw _ (List.mem_of_getElem? (i := 28) rfl))) Via.refl e9 V E (Or.inr ⟨(hw _ (List.mem_of_getElem? (i := 24) rfl)), rfl, hnm⟩) (hw _ (List.mem_of_getElem? (i := 10) rfl)) (ty := (.array .byte)) (by decide) rfl rfl (g := (mkF m 14 #[.val (.ref x), .val (.ref b), .val (.int (0 : Int32)), .val (.int (0 : Int32)), .val .null, .unset] [(.ref b_em), (.ref x)])) rfl rfl (hb hby d_jdk_42_method_149_14)
  have k12_ : ∀ t, Steps p.tables e below (T11.setTop (mkF m 17 #[.val (.ref x), .val (.ref b), .val (.int (0 : Int32)), .val (.int (0 : Int32)), .val .null, .unset] [])) t → Steps p.tables e below (s₁.setTop (mkF m 0 #[.val (.ref x), .val (.ref b), .val (.int (0 : Int32)), .val (.int (0 : Int32)), .val .null, .unset] [])) t := fun t q => k10_ t (st11 t q)
  have N11 := Fr.snoc X11 N0 gx
  replace Zn := Nat.le_trans Zn (Keep.of_wr W11).1
  replace hk := Nat.le_trans hk (Keep.of_wr W11).1
  replace E := E.wr W11
  replace Co := Co.other W11 (Or.inr (slot_ne (Or.inr (hw _ (List.mem_of_getElem? (i := 25) rfl))) (Or.inr (hw _ (List.mem_of_getElem? (i := 24) rfl))) (by decide) (t := .byte) (t' := (.array .byte)) (by decide) (by decide)))
  replace EA_em := EA_em.wr W11
  replace FC_em := FC_em.other W11 (Or.inl (Ne.symm nx1))
  replace FV_em := FV_em.other W11 (Or.inl (Ne.symm nx1))
  replace VB_em := VB_em.other W11 (Ne.symm nx2)
  replace V := V.same W11
  replace KP := KP.wr W11 (Or.inl (List.mem_of_getElem? (i := 0) rfl))
  have SX' := Safe.wr W11 SX hCH.1 SX
  replace hCH := hCH.trans (CHr.wr W11 SX hCH.1)
  replace SX := SX'
  have k13_ : ∀ t, Steps p.tables e below (T11.setTop (mkF m 18 #[.val (.ref x), .val (.ref b), .val (.int (0 : Int32)), .val (.int (0 : Int32)), .val .null, .unset] [(.ref x)])) t → Steps p.tables e below (s₁.setTop (mkF m 0 #[.val (.ref x), .val (.ref b), .val (.int (0 : Int32)), .val (.int (0 : Int32)), .val .null, .unset] [])) t := by
    intro t q
    refine k12_ _ ?_
    show Steps p.tables e below (T11.setTop (mkF m 17 #[.val (.ref x), .val (.ref b), .val (.int (0 : Int32)), .val (.int (0 : Int32)), .val .null, .unset] [])) _
    refine XS.aloadN X11.here hx rfl (hb hby d_jdk_42_method_149_17) rfl rfl ?_
    show Steps p.tables e below (T11.setTop (mkF m 18 #[.val (.ref x), .val (.ref b), .val (.int (0 : Int32)), .val (.int (0 : Int32)), .val .null, .unset] [(.ref x)])) _
    exact q
  have k14_ : ∀ t, Steps p.tables e below (T11.setTop (mkF m 20 #[.val (.ref x), .val (.ref b), .val (.int (0 : Int32)), .val (.int (0 : Int32)), .val .null, .unset] [(.ref a_em), (.ref x)])) t → Steps p.tables e below (s₁.setTop (mkF m 0 #[.val (.ref x), .val (.ref b), .val (.int (0 : Int32)), .val (.int (0 : Int32)), .val .null, .unset] [])) t := fun t q => k13_ t (ldcAgain (s := s) (vm0 := T7.vm) X11 hx hZ hown (hw _ (List.mem_of_getElem? (i := 22) rfl)) LT_em (g := (mkF m 18 #[.val (.ref x), .val (.ref b), .val (.int (0 : Int32)), .val (.int (0 : Int32)), .val .null, .unset] [(.ref x)])) rfl (hb hby d_jdk_42_method_149_18) t q)
  obtain ⟨T15, X15, e15, st15⟩ := getF X11 hx hZ hown (host := "") (Or.inl (hw _ (List.mem_of_getElem? (i := 29) rfl))) Via.refl e11 FC_em (g := (mkF m 20 #[.val (.ref x), .val (.ref b), .val (.int (0 : Int32)), .val (.int (0 : Int32)), .val .null, .unset] [(.ref a_em), (.ref x)])) rfl rfl (hb hby d_jdk_42_method_149_20)
  have k16_ : ∀ t, Steps p.tables e below (T15.setTop (mkF m 23 #[.val (.ref x), .val (.ref b), .val (.int (0 : Int32)), .val (.int (0 : Int32)), .val .null, .unset] [(.int (0 : Int32)), (.ref x)])) t → Steps p.tables e below (s₁.setTop (mkF m 0 #[.val (.ref x), .val (.ref b), .val (.int (0 : Int32)), .val (.int (0 : Int32)), .val .null, .unset] [])) t := fun t q => k14_ t (st15 t q)
  obtain ⟨T17, h17, X17, e17, W17, st17⟩ := putF X15 hx hZ hown (host := "") (Or.inl (hw _ (List.mem_of_getElem? (i := 29) rfl))) Via.refl e15 Co E (Or.inr ⟨(hw _ (List.mem_of_getElem? (i := 25) rfl)), rfl, hnm⟩) (hw _ (List.mem_of_getElem? (i := 10) rfl)) (ty := .byte) (by decide) rfl rfl (g := (mkF m 23 #[.val (.ref x), .val (.ref b), .val (.int (0 : Int32)), .val (.int (0 : Int32)), .val .null, .unset] [(.int (0 : Int32)), (.ref x)])) rfl rfl (hb hby d_jdk_42_method_149_23)
  have k18_ : ∀ t, Steps p.tables e below (T17.setTop (mkF m 26 #[.val (.ref x), .val (.ref b), .val (.int (0 : Int32)), .val (.int (0 : Int32)), .val .null, .unset] [])) t → Steps p.tables e below (s₁.setTop (mkF m 0 #[.val (.ref x), .val (.ref b), .val (.int (0 : Int32)), .val (.int (0 : Int32)), .val .null, .unset] [])) t := fun t q => k16_ t (st17 t q)
  have N17 := Fr.snoc X17 N11 gx
  replace Zn := Nat.le_trans Zn (Keep.of_wr W17).1
  replace hk := Nat.le_trans hk (Keep.of_wr W17).1
  replace E := E.wr W17
  replace V := V.other W17 (Or.inr (slot_ne (Or.inr (hw _ (List.mem_of_getElem? (i := 24) rfl))) (Or.inr (hw _ (List.mem_of_getElem? (i := 25) rfl))) (by decide) (t := (.array .byte)) (t' := .byte) (by decide) (by decide)))
  replace EA_em := EA_em.wr W17
  replace FC_em := FC_em.other W17 (Or.inl (Ne.symm nx1))
  replace FV_em := FV_em.other W17 (Or.inl (Ne.symm nx1))
  replace VB_em := VB_em.other W17 (Ne.symm nx2)
  replace Co := Co.same W17
  replace KP := KP.wr W17 (Or.inl (List.mem_of_getElem? (i := 0) rfl))
  replace hCH := hCH.trans (CHr.wr W17 SX hCH.1)
  obtain ⟨fs, hr, hrun, hended, r1, r2, r3, r4⟩ := Stand.leaveW (s := s) (vm₁ := T7.vm) X17 hS (by rw [e17]; exact hk) (v := none) (fun _ => rfl)
  refine ⟨_, _, pre0 _ (k18_ _ ?_), hrun, hended, _, _, rfl, ?_, ?_, r1, r2, r3, r4.mono (by decide) (by decide)⟩
  · show Steps p.tables e below (T17.setTop (mkF m 26 #[.val (.ref x), .val (.ref b), .val (.int (0 : Int32)), .val (.int (0 : Int32)), .val .null, .unset] [])) _
    exact X17.returnOut hx Bd.returns (hb hby d_jdk_42_method_149_26) hr
  · show QV Z x b h0 n0 _ T17.heap _
    rw [e17]
    exact ⟨rfl, N17, KP, E, Co, b_em, kc_em, V, VB_em⟩
  · show CHr Z own_EL s.vm s.heap T17.vm T17.heap
    rw [hh, e17]
    exact hCH.trans (CHv.at (s := s) X17 hZ hEL hCH.1)
def QS (Z : State) (x : Addr) (b : Addr) (kB : ClassId) (h0 : Heap) (n0 : Nat) (v : Option Value) (h : Heap) (L : List Loc) : Prop := v = none ∧ Fr n0 L ∧ Keep h0 h [x] ∧ own_Str Z h x []
theorem ef_S (m : MethodId) (x0 : Addr) (x1 : Addr) : entryFrame m #[(.ref x0), (.ref x1)] 2 = mkF m 0 #[.val (.ref x0), .val (.ref x1)] [] := by first | (simp [entryFrame, mkF, argsToLocals, Value.category]; done) | rfl
theorem d_jdk_42_method_3_0 : decode jdk_42_method_3_code 0 = .ok (.aload_n 0, 1) := by decide +kernel
theorem d_jdk_42_method_3_1 : decode jdk_42_method_3_code 1 = .ok (.aload_n 1, 1) := by decide +kernel
theorem d_jdk_42_method_3_2 : decode jdk_42_method_3_code 2 = .ok (.iconst 0, 1) := by decide +kernel
theorem d_jdk_42_method_3_3 : decode jdk_42_method_3_code 3 = .ok (.aload_n 1, 1) := by decide +kernel
theorem d_jdk_42_method_3_4 : decode jdk_42_method_3_code 4 = .ok (.arraylength, 1) := by decide +kernel
theorem d_jdk_42_method_3_5 : decode jdk_42_method_3_code 5 = .ok (.aconst_null, 1) := by decide +kernel
theorem pd_41319 : parseMethodDescriptor "([CIILjava/lang/Void;)V" = some ⟨[(.array .char), .int, .int, (.object "java/lang/Void")], none⟩ := by decide +kernel
theorem d_jdk_42_method_3_6 : decode jdk_42_method_3_code 6 = .ok (.invokespecial 27, 3) := by decide +kernel
theorem d_jdk_42_method_3_9 : decode jdk_42_method_3_code 9 = .ok (.return_, 1) := by decide +kernel
set_option maxRecDepth 65536 in
set_option maxHeartbeats 40000000 in
theorem rmS (l : Launch) (Z : State) (a0 : Array Value) (hw : ∀ d ∈ tables_1, d.before a0 Z = true) (ws : List Jvm.Cond) (x : Addr) (b : Addr) (kB : ClassId) (h0 : Heap) (n0 : Nat) (Z0 : n0 ≤ h0.size) (E : Exa Z h0 x "java/lang/String") (V : Fld Z h0 x "java/lang/String" "value" "[B" .null) (Co : Fld Z h0 x "java/lang/String" "coder" "B" (.int (0 : Int32))) (gx : n0 ≤ x) (VB : Arv Z h0 b kB .char (0 : Int32) [] (.int (0 : Int32))) (wS : ∀ a ∈ Bundle.stringAtoms, a.before a0 Z = true) (hEL : EW Z a0 own_EL) :
    MetFree l (⟨"java/lang/String", "<init>", "([C)V"⟩ : MethodName) (head1 (Jvm.Cond.code (⟨"java/lang/String", "<init>", "([C)V"⟩ : MethodName) jdk_42_method_3_code 2 none :: ws) ({ frames := 2, cells := 2, slots := 4, locals := 29 } : Room)) (fun a_ U_ => a_ = #[(.ref x), (.ref b)] ∧ Z.Warmed39 U_.vm ∧ U_.heap = h0 ∧ CHv Z own_EL U_.vm h0) (fun _ _ _ _ _ => True) (fun _ U_ o_ E_ => ∃ v_ L_, o_ = .returned v_ ∧ QS Z x b kB h0 n0 v_ E_.heap L_ ∧ CHr Z own_EL U_.vm U_.heap E_.vm E_.heap ∧ ReturnedEndW U_ o_ E_ L_ ({ frames := 2, cells := 2, slots := 4, locals := 29 } : Room).cells ({ frames := 2, cells := 2, slots := 4, locals := 29 } : Room).slots) := by
  refine MetFree.of_bodySF (plainFor_of_name pn_String) hisR ?_
  intro p e s m args below meth c s₁ Bd hml0 hP hK
  obtain ⟨rfl, hZ, hh, hCH0⟩ := hP
  have hx := Bd.exec
  have hby := Bd.bytes
  have hml : c.maxLocals = 2 := hml0
  have hown : (s.setVm s.vm).vm.findClass "java/lang/String" = some m.cls := findClass_of_methodNamed Bd.named
  have hnm := (name_of_methodNamed Bd.named Bd.method).1
  replace hZ : Z.Warmed39 (s.setVm s.vm).vm := hZ
  have X0 : Stand p l e ({ frames := 2, cells := 2, slots := 4, locals := 29 } : Room) (s.setVm s.vm) m #[(.ref x), (.ref b)] below meth c s₁ [] 0 0 := Stand.of_body Bd
  have e0 : s₁.heap = h0 := by rw [← hh, Bd.state]; rfl
  have N0 := Fr.nil n0
  have Zn := Z0
  have hS : s.Since s.vm s.heap.size := (State.WarmedH.refl s).since _
  have hk : s.heap.size ≤ h0.size := by rw [hh]; exact Nat.le_refl _
  have hCH : CHr Z own_EL s.vm h0 s.vm h0 := CHr.refl hCH0
  have pre0 : ∀ t, Steps p.tables e below (s₁.setTop (mkF m 0 #[.val (.ref x), .val (.ref b)] [])) t → Steps p.tables e below (s₁.setTop (entryFrame m #[(.ref x), (.ref b)] 2)) t := fun t q => castTop (ef_S m x b) q
  have k0 : ∀ t, Steps p.tables e below (s₁.setTop (mkF m 0 #[.val (.ref x), .val (.ref b)] [])) t → Steps p.tables e below (s₁.setTop (mkF m 0 #[.val (.ref x), .val (.ref b)] [])) t := fun t q => q
  obtain ⟨cl1, Ar1, q1, S1, M1, H1, G1⟩ := id VB
  have k2_ : ∀ t, Steps p.tables e below (s₁.setTop (mkF m 6 #[.val (.ref x), .val (.ref b)] [.null, (.int (0 : Int32)), (.int (0 : Int32)), (.ref b), (.ref x)])) t → Steps p.tables e below (s₁.setTop (mkF m 0 #[.val (.ref x), .val (.ref b)] [])) t := by
    intro t q
    refine k0 _ ?_
    show Steps p.tables e below (s₁.setTop (mkF m 0 #[.val (.ref x), .val (.ref b)] [])) _
    refine XS.aloadN X0.here hx rfl (hb hby d_jdk_42_method_3_0) rfl rfl ?_
    show Steps p.tables e below (s₁.setTop (mkF m 1 #[.val (.ref x), .val (.ref b)] [(.ref x)])) _
    refine XS.aloadN X0.here hx rfl (hb hby d_jdk_42_method_3_1) rfl rfl ?_
    show Steps p.tables e below (s₁.setTop (mkF m 2 #[.val (.ref x), .val (.ref b)] [(.ref b), (.ref x)])) _
    refine XS.iconst X0.here hx rfl (hb hby d_jdk_42_method_3_2) ?_
    show Steps p.tables e below (s₁.setTop (mkF m 3 #[.val (.ref x), .val (.ref b)] [(.int (0 : Int32)), (.ref b), (.ref x)])) _
    refine XS.aloadN X0.here hx rfl (hb hby d_jdk_42_method_3_3) rfl rfl ?_
    show Steps p.tables e below (s₁.setTop (mkF m 4 #[.val (.ref x), .val (.ref b)] [(.ref b), (.int (0 : Int32)), (.ref b), (.ref x)])) _
    refine X0.arraylength hx (by rw [e0]; exact Ar1.1) (State.isArrayOf_alike hZ.alike Ar1.2.1) (g := (mkF m 4 #[.val (.ref x), .val (.ref b)] [(.ref b), (.int (0 : Int32)), (.ref b), (.ref x)])) rfl rfl (hb hby d_jdk_42_method_3_4) _ ?_
    rw [len_of S1 M1]
    show Steps p.tables e below (s₁.setTop (mkF m 5 #[.val (.ref x), .val (.ref b)] [(.int (0 : Int32)), (.int (0 : Int32)), (.ref b), (.ref x)])) _
    refine XS.aconstNull X0.here hx rfl (hb hby d_jdk_42_method_3_5) ?_
    show Steps p.tables e below (s₁.setTop (mkF m 6 #[.val (.ref x), .val (.ref b)] [.null, (.int (0 : Int32)), (.int (0 : Int32)), (.ref b), (.ref x)])) _
    exact q
  obtain ⟨_, _, ⟨T3, L3, kk3, n3⟩, -, X3_, hs3, hG3, ⟨Lc3, hQ3, l3, y3, z3, hc3⟩, st3⟩ := X0.specialBackS hx (y := (⟨"java/lang/String", "<init>", "([CIILjava/lang/Void;)V"⟩ : MethodName)) rfl hown (mvT hZ (hw _ (List.mem_of_getElem? (i := 15) rfl))) (mvT hZ (hw _ (List.mem_of_getElem? (i := 16) rfl))) (mvT hZ (hw _ (List.mem_of_getElem? (i := 18) rfl))) (by decide) (backOfSH (s := s) (vm0 := s.vm) (EL := own_EL) (W := 0) (rmV l Z a0 hw [] x b h0 n0 Zn E V Co gx wS hEL) hZ (hw _ (List.mem_of_getElem? (i := 18) rfl)) (hw _ (List.mem_of_getElem? (i := 11) rfl)) (by decide) (by decide) hEL hCH.1) (g := (mkF m 6 #[.val (.ref x), .val (.ref b)] [.null, (.int (0 : Int32)), (.int (0 : Int32)), (.ref b), (.ref x)])) rfl (by rw [hml]; rfl) (Steps.refl _) (a := x) (argsL := [(.ref b), (.int (0 : Int32)), (.int (0 : Int32)), .null]) (rest := []) (lenOf pd_41319 rfl) rfl (by show 2 * 0 + _ ≤ _; exact Nat.le_of_eq rfl) (hb hby d_jdk_42_method_3_6) (fun _ _ => ⟨rfl, e0, (by decide : 0 + 2 ≤ _), (by decide : 0 + 4 ≤ _)⟩)
  dsimp only [Pt.U, Pt.locs, Pt.cells, Pt.slots] at X3_ l3 y3 z3 st3 hQ3 hG3 hs3 hc3
  rw [l3, y3, z3] at X3_
  obtain ⟨X3, hS3, hZ3, hown3⟩ := rebS (s := s) (vm0 := s.vm) hS (by rw [e0]; exact hk) X3_ hs3 hG3 hZ hown
  replace hS := hS3
  replace hZ := hZ3
  replace hown := hown3
  replace hCH := hCH.trans hc3
  replace hk : T3.heap.size ≤ T3.heap.size := Nat.le_refl _
  obtain ⟨rfl, Nq3, KI, SI⟩ := hQ3
  have N3 := Fr.app N0 Nq3
  have k4_ : ∀ t, Steps p.tables e below (T3.setTop (mkF m 9 #[.val (.ref x), .val (.ref b)] [])) t → Steps p.tables e below (s₁.setTop (mkF m 0 #[.val (.ref x), .val (.ref b)] [])) t := fun t q => k2_ t (st3.trans q)
  obtain ⟨fs, hr, hrun, hended, r1, r2, r3, r4⟩ := Stand.leaveW (s := s) (vm₁ := T3.vm) X3 hS hk (v := none) (fun _ => rfl)
  refine ⟨_, _, pre0 _ (k4_ _ ?_), hrun, hended, _, _, rfl, ?_, ?_, r1, r2, r3, r4.mono (by decide) (by decide)⟩
  · show Steps p.tables e below (T3.setTop (mkF m 9 #[.val (.ref x), .val (.ref b)] [])) _
    exact X3.returnOut hx Bd.returns (hb hby d_jdk_42_method_3_9) hr
  · show QS Z x b kB h0 n0 _ T3.heap _
    exact ⟨rfl, N3, KI, SI⟩
  · show CHr Z own_EL s.vm s.heap T3.vm T3.heap
    rw [hh]
    exact hCH.trans (CHv.at (s := s) X3 hZ hEL hCH.1)
def QL (Z : State) (px : Int32) (h0 : Heap) (n0 : Nat) (v : Option Value) (h : Heap) (L : List Loc) : Prop := v = some (.int (px &&& (3 : Int32))) ∧ Fr n0 L ∧ h = h0
theorem ef_L (m : MethodId) (x0 : Int32) : entryFrame m #[(.int x0)] 1 = mkF m 0 #[.val (.int x0)] [] := by first | (simp [entryFrame, mkF, argsToLocals, Value.category]; done) | rfl
theorem pn_ElementNameMatchesPinLaw : plainName "com/example/triplewright/triplewright/source/ElementNameMatchesPinLaw" = true := by first | (simp [plainName, overriddenIn]; done) | decide +kernel
theorem d_method_2_0 : decode method_2_code 0 = .ok (.iload_n 0, 1) := by decide +kernel
theorem d_method_2_1 : decode method_2_code 1 = .ok (.iconst 3, 1) := by decide +kernel
theorem d_method_2_2 : decode method_2_code 2 = .ok (.iand, 1) := by decide +kernel
theorem d_method_2_3 : decode method_2_code 3 = .ok (.ireturn, 1) := by decide +kernel
set_option maxRecDepth 65536 in
set_option maxHeartbeats 40000000 in
theorem rmL (l : Launch) (Z : State) (a0 : Array Value) (hw : ∀ d ∈ tables_1, d.before a0 Z = true) (ws : List Jvm.Cond) (px : Int32) (h0 : Heap) (n0 : Nat) (Z0 : n0 ≤ h0.size) :
    MetFree l (⟨"com/example/triplewright/triplewright/source/ElementNameMatchesPinLaw", "len", "(I)I"⟩ : MethodName) (head1 (Jvm.Cond.code (⟨"com/example/triplewright/triplewright/source/ElementNameMatchesPinLaw", "len", "(I)I"⟩ : MethodName) method_2_code 1 (some .int) :: ws) ({ frames := 0, cells := 0, slots := 0, locals := 0 } : Room)) (fun a_ U_ => a_ = #[(.int px)] ∧ Z.Warmed39 U_.vm ∧ U_.heap = h0) (fun _ _ _ _ _ => True) (fun _ U_ o_ E_ => ∃ v_ L_, o_ = .returned v_ ∧ QL Z px h0 n0 v_ E_.heap L_ ∧ FrameEnd U_ o_ E_ L_ ({ frames := 0, cells := 0, slots := 0, locals := 0 } : Room).cells ({ frames := 0, cells := 0, slots := 0, locals := 0 } : Room).slots) := by
  refine MetFree.of_bodySF (plainFor_of_name pn_ElementNameMatchesPinLaw) hisR ?_
  intro p e s m args below meth c s₁ Bd hml0 hP hK
  obtain ⟨rfl, hZ, hh⟩ := hP
  have hx := Bd.exec
  have hby := Bd.bytes
  have hml : c.maxLocals = 1 := hml0
  have hown : s.vm.findClass "com/example/triplewright/triplewright/source/ElementNameMatchesPinLaw" = some m.cls := findClass_of_methodNamed Bd.named
  have hnm := (name_of_methodNamed Bd.named Bd.method).1
  have X0 : Stand p l e ({ frames := 0, cells := 0, slots := 0, locals := 0 } : Room) s m #[(.int px)] below meth c s₁ [] 0 0 := Stand.of_body Bd
  have e0 : s₁.heap = h0 := by rw [← hh, Bd.state]; rfl
  have N0 := Fr.nil n0
  have Zn := Z0
  have pre0 : ∀ t, Steps p.tables e below (s₁.setTop (mkF m 0 #[.val (.int px)] [])) t → Steps p.tables e below (s₁.setTop (entryFrame m #[(.int px)] 1)) t := fun t q => castTop (ef_L m px) q
  have k0 : ∀ t, Steps p.tables e below (s₁.setTop (mkF m 0 #[.val (.int px)] [])) t → Steps p.tables e below (s₁.setTop (mkF m 0 #[.val (.int px)] [])) t := fun t q => q
  have k1_ : ∀ t, Steps p.tables e below (s₁.setTop (mkF m 3 #[.val (.int px)] [(.int (px &&& (3 : Int32)))])) t → Steps p.tables e below (s₁.setTop (mkF m 0 #[.val (.int px)] [])) t := by
    intro t q
    refine k0 _ ?_
    show Steps p.tables e below (s₁.setTop (mkF m 0 #[.val (.int px)] [])) _
    refine XS.iloadN X0.here hx rfl (hb hby d_method_2_0) rfl ?_
    show Steps p.tables e below (s₁.setTop (mkF m 1 #[.val (.int px)] [(.int px)])) _
    refine XS.iconst X0.here hx rfl (hb hby d_method_2_1) ?_
    show Steps p.tables e below (s₁.setTop (mkF m 2 #[.val (.int px)] [(.int (3 : Int32)), (.int px)])) _
    refine XS.iand X0.here hx rfl (hb hby d_method_2_2) rfl ?_
    show Steps p.tables e below (s₁.setTop (mkF m 3 #[.val (.int px)] [(.int (px &&& (3 : Int32)))])) _
    exact q
  obtain ⟨fs, hr, hrun, hended, hW, hsame⟩ := X0.leave (v := some (.int (px &&& (3 : Int32)))) (fun h => by rw [Bd.returns] at h; cases h)
  refine ⟨_, _, pre0 _ (k1_ _ ?_), hrun, hended, _, _, rfl, ?_, ⟨_, rfl⟩, hW, hsame.mono (by decide) (by decide)⟩
  · show Steps p.tables e below (s₁.setTop (mkF m 3 #[.val (.int px)] [(.int (px &&& (3 : Int32)))])) _
    exact retI X0 hx Bd.returns (hb hby d_method_2_3) hr
  · show QL Z px h0 n0 _ s₁.heap _
    rw [e0]
    exact ⟨rfl, N0, rfl⟩
def QK (Z : State) (px : Int32) (ix : Int32) (h0 : Heap) (n0 : Nat) (v : Option Value) (h : Heap) (L : List Loc) : Prop := v = some (.int (own_ch px ix)) ∧ Fr n0 L ∧ h = h0
theorem ef_K (m : MethodId) (x0 : Int32) (x1 : Int32) : entryFrame m #[(.int x0), (.int x1)] 2 = mkF m 0 #[.val (.int x0), .val (.int x1)] [] := by first | (simp [entryFrame, mkF, argsToLocals, Value.category]; done) | rfl
theorem d_method_3_0 : decode method_3_code 0 = .ok (.iload_n 0, 1) := by decide +kernel
theorem d_method_3_1 : decode method_3_code 1 = .ok (.iconst 2, 1) := by decide +kernel
theorem d_method_3_2 : decode method_3_code 2 = .ok (.bipush 8, 2) := by decide +kernel
theorem d_method_3_4 : decode method_3_code 4 = .ok (.iload_n 1, 1) := by decide +kernel
theorem d_method_3_5 : decode method_3_code 5 = .ok (.imul, 1) := by decide +kernel
theorem d_method_3_6 : decode method_3_code 6 = .ok (.iadd, 1) := by decide +kernel
theorem d_method_3_7 : decode method_3_code 7 = .ok (.iushr, 1) := by decide +kernel
theorem d_method_3_8 : decode method_3_code 8 = .ok (.sipush 255, 3) := by decide +kernel
theorem d_method_3_11 : decode method_3_code 11 = .ok (.iand, 1) := by decide +kernel
theorem d_method_3_12 : decode method_3_code 12 = .ok (.i2c, 1) := by decide +kernel
theorem d_method_3_13 : decode method_3_code 13 = .ok (.ireturn, 1) := by decide +kernel
set_option maxRecDepth 65536 in
set_option maxHeartbeats 40000000 in
theorem rmK (l : Launch) (Z : State) (a0 : Array Value) (hw : ∀ d ∈ tables_1, d.before a0 Z = true) (ws : List Jvm.Cond) (px : Int32) (ix : Int32) (h0 : Heap) (n0 : Nat) (Z0 : n0 ≤ h0.size) :
    MetFree l (⟨"com/example/triplewright/triplewright/source/ElementNameMatchesPinLaw", "ch", "(II)C"⟩ : MethodName) (head1 (Jvm.Cond.code (⟨"com/example/triplewright/triplewright/source/ElementNameMatchesPinLaw", "ch", "(II)C"⟩ : MethodName) method_3_code 2 (some .char) :: ws) ({ frames := 0, cells := 0, slots := 0, locals := 0 } : Room)) (fun a_ U_ => a_ = #[(.int px), (.int ix)] ∧ Z.Warmed39 U_.vm ∧ U_.heap = h0) (fun _ _ _ _ _ => True) (fun _ U_ o_ E_ => ∃ v_ L_, o_ = .returned v_ ∧ QK Z px ix h0 n0 v_ E_.heap L_ ∧ FrameEnd U_ o_ E_ L_ ({ frames := 0, cells := 0, slots := 0, locals := 0 } : Room).cells ({ frames := 0, cells := 0, slots := 0, locals := 0 } : Room).slots) := by
  refine MetFree.of_bodySF (plainFor_of_name pn_ElementNameMatchesPinLaw) hisR ?_
  intro p e s m args below meth c s₁ Bd hml0 hP hK
  obtain ⟨rfl, hZ, hh⟩ := hP
  have hx := Bd.exec
  have hby := Bd.bytes
  have hml : c.maxLocals = 2 := hml0
  have hown : s.vm.findClass "com/example/triplewright/triplewright/source/ElementNameMatchesPinLaw" = some m.cls := findClass_of_methodNamed Bd.named
  have hnm := (name_of_methodNamed Bd.named Bd.method).1
  have X0 : Stand p l e ({ frames := 0, cells := 0, slots := 0, locals := 0 } : Room) s m #[(.int px), (.int ix)] below meth c s₁ [] 0 0 := Stand.of_body Bd
  have e0 : s₁.heap = h0 := by rw [← hh, Bd.state]; rfl
  have N0 := Fr.nil n0
  have Zn := Z0
  have pre0 : ∀ t, Steps p.tables e below (s₁.setTop (mkF m 0 #[.val (.int px), .val (.int ix)] [])) t → Steps p.tables e below (s₁.setTop (entryFrame m #[(.int px), (.int ix)] 2)) t := fun t q => castTop (ef_K m px ix) q
  have k0 : ∀ t, Steps p.tables e below (s₁.setTop (mkF m 0 #[.val (.int px), .val (.int ix)] [])) t → Steps p.tables e below (s₁.setTop (mkF m 0 #[.val (.int px), .val (.int ix)] [])) t := fun t q => q
  have k1_ : ∀ t, Steps p.tables e below (s₁.setTop (mkF m 13 #[.val (.int px), .val (.int ix)] [(.int ((((px.toUInt32 >>> (((2 : Int32) + ((8 : Int32) * ix)) &&& 31).toUInt32).toInt32) &&& (255 : Int32)).toUInt32.toUInt16.toUInt32.toInt32))])) t → Steps p.tables e below (s₁.setTop (mkF m 0 #[.val (.int px), .val (.int ix)] [])) t := by
    intro t q
    refine k0 _ ?_
    show Steps p.tables e below (s₁.setTop (mkF m 0 #[.val (.int px), .val (.int ix)] [])) _
    refine XS.iloadN X0.here hx rfl (hb hby d_method_3_0) rfl ?_
    show Steps p.tables e below (s₁.setTop (mkF m 1 #[.val (.int px), .val (.int ix)] [(.int px)])) _
    refine XS.iconst X0.here hx rfl (hb hby d_method_3_1) ?_
    show Steps p.tables e below (s₁.setTop (mkF m 2 #[.val (.int px), .val (.int ix)] [(.int (2 : Int32)), (.int px)])) _
    refine XS.bipush X0.here hx rfl (hb hby d_method_3_2) ?_
    show Steps p.tables e below (s₁.setTop (mkF m 4 #[.val (.int px), .val (.int ix)] [(.int (8 : Int32)), (.int (2 : Int32)), (.int px)])) _
    refine XS.iloadN X0.here hx rfl (hb hby d_method_3_4) rfl ?_
    show Steps p.tables e below (s₁.setTop (mkF m 5 #[.val (.int px), .val (.int ix)] [(.int ix), (.int (8 : Int32)), (.int (2 : Int32)), (.int px)])) _
    refine XS.imul X0.here hx rfl (hb hby d_method_3_5) rfl ?_
    show Steps p.tables e below (s₁.setTop (mkF m 6 #[.val (.int px), .val (.int ix)] [(.int ((8 : Int32) * ix)), (.int (2 : Int32)), (.int px)])) _
    refine XS.iadd X0.here hx rfl (hb hby d_method_3_6) rfl ?_
    show Steps p.tables e below (s₁.setTop (mkF m 7 #[.val (.int px), .val (.int ix)] [(.int ((2 : Int32) + ((8 : Int32) * ix))), (.int px)])) _
    refine XS.iushr X0.here hx rfl (hb hby d_method_3_7) rfl ?_
    show Steps p.tables e below (s₁.setTop (mkF m 8 #[.val (.int px), .val (.int ix)] [(.int ((px.toUInt32 >>> (((2 : Int32) + ((8 : Int32) * ix)) &&& 31).toUInt32).toInt32))])) _
    refine XS.sipush X0.here hx rfl (hb hby d_method_3_8) ?_
    show Steps p.tables e below (s₁.setTop (mkF m 11 #[.val (.int px), .val (.int ix)] [(.int (255 : Int32)), (.int ((px.toUInt32 >>> (((2 : Int32) + ((8 : Int32) * ix)) &&& 31).toUInt32).toInt32))])) _
    refine XS.iand X0.here hx rfl (hb hby d_method_3_11) rfl ?_
    show Steps p.tables e below (s₁.setTop (mkF m 12 #[.val (.int px), .val (.int ix)] [(.int (((px.toUInt32 >>> (((2 : Int32) + ((8 : Int32) * ix)) &&& 31).toUInt32).toInt32) &&& (255 : Int32)))])) _
    refine XS.i2c X0.here hx rfl (hb hby d_method_3_12) rfl ?_
    show Steps p.tables e below (s₁.setTop (mkF m 13 #[.val (.int px), .val (.int ix)] [(.int ((((px.toUInt32 >>> (((2 : Int32) + ((8 : Int32) * ix)) &&& 31).toUInt32).toInt32) &&& (255 : Int32)).toUInt32.toUInt16.toUInt32.toInt32))])) _
    exact q
  obtain ⟨fs, hr, hrun, hended, hW, hsame⟩ := X0.leave (v := some (.int (nar .char ((((px.toUInt32 >>> (((2 : Int32) + ((8 : Int32) * ix)) &&& 31).toUInt32).toInt32) &&& (255 : Int32)).toUInt32.toUInt16.toUInt32.toInt32)))) (fun h => by rw [Bd.returns] at h; cases h)
  refine ⟨_, _, pre0 _ (k1_ _ ?_), hrun, hended, _, _, rfl, ?_, ⟨_, rfl⟩, hW, hsame.mono (by decide) (by decide)⟩
  · show Steps p.tables e below (s₁.setTop (mkF m 13 #[.val (.int px), .val (.int ix)] [(.int ((((px.toUInt32 >>> (((2 : Int32) + ((8 : Int32) * ix)) &&& 31).toUInt32).toInt32) &&& (255 : Int32)).toUInt32.toUInt16.toUInt32.toInt32))])) _
    exact retN X0 hx (t := .char) Bd.returns (by simp) (hb hby d_method_3_13) hr
  · show QK Z px ix h0 n0 _ s₁.heap _
    rw [e0]
    exact ⟨congrArg (fun z => some (Value.int z)) (own_c8 _), N0, rfl⟩
def QM (Z : State) (px : Int32) (zc : Int32) (h0 : Heap) (n0 : Nat) (v : Option Value) (h : Heap) (L : List Loc) : Prop := ∃ sa, v = some (.ref sa) ∧ Fr n0 L ∧ Keep h0 h [] ∧ own_Str Z h sa (own_cs px)
theorem ef_M (m : MethodId) (x0 : Int32) : entryFrame m #[(.int x0)] 3 = mkF m 0 #[.val (.int x0), .unset, .unset] [] := by first | (simp [entryFrame, mkF, argsToLocals, Value.category]; done) | rfl
theorem d_method_4_0 : decode method_4_code 0 = .ok (.iload_n 0, 1) := by decide +kernel
theorem pd_27763 : parseMethodDescriptor "(I)I" = some ⟨[.int], some .int⟩ := by decide +kernel
theorem d_method_4_1 : decode method_4_code 1 = .ok (.invokestatic 7, 3) := by decide +kernel
theorem d_method_4_4 : decode method_4_code 4 = .ok (.istore_n 1, 1) := by decide +kernel
theorem d_method_4_5 : decode method_4_code 5 = .ok (.iload_n 1, 1) := by decide +kernel
theorem d_method_4_6 : decode method_4_code 6 = .ok (.ifCond .ne 10, 3) := by decide +kernel
theorem d_method_4_9 : decode method_4_code 9 = .ok (.iconst 0, 1) := by decide +kernel
theorem d_method_4_10 : decode method_4_code 10 = .ok (.newarray .char, 2) := by decide +kernel
theorem d_method_4_12 : decode method_4_code 12 = .ok (.astore_n 2, 1) := by decide +kernel
theorem d_method_4_13 : decode method_4_code 13 = .ok (.goto 79, 3) := by decide +kernel
theorem d_method_4_92 : decode method_4_code 92 = .ok (.new 17, 3) := by decide +kernel
theorem d_method_4_95 : decode method_4_code 95 = .ok (.dup, 1) := by decide +kernel
theorem d_method_4_96 : decode method_4_code 96 = .ok (.aload_n 2, 1) := by decide +kernel
theorem pd_20902 : parseMethodDescriptor "([C)V" = some ⟨[(.array .char)], none⟩ := by decide +kernel
theorem d_method_4_97 : decode method_4_code 97 = .ok (.invokespecial 19, 3) := by decide +kernel
theorem d_method_4_100 : decode method_4_code 100 = .ok (.areturn, 1) := by decide +kernel
theorem d_method_4_16 : decode method_4_code 16 = .ok (.iload_n 1, 1) := by decide +kernel
theorem d_method_4_17 : decode method_4_code 17 = .ok (.iconst 1, 1) := by decide +kernel
theorem d_method_4_18 : decode method_4_code 18 = .ok (.if_icmp .ne 18, 3) := by decide +kernel
theorem d_method_4_21 : decode method_4_code 21 = .ok (.iconst 1, 1) := by decide +kernel
theorem d_method_4_22 : decode method_4_code 22 = .ok (.newarray .char, 2) := by decide +kernel
theorem d_method_4_24 : decode method_4_code 24 = .ok (.dup, 1) := by decide +kernel
theorem d_method_4_25 : decode method_4_code 25 = .ok (.iconst 0, 1) := by decide +kernel
theorem d_method_4_26 : decode method_4_code 26 = .ok (.iload_n 0, 1) := by decide +kernel
theorem d_method_4_27 : decode method_4_code 27 = .ok (.iconst 0, 1) := by decide +kernel
theorem pd_90414 : parseMethodDescriptor "(II)C" = some ⟨[.int, .int], some .char⟩ := by decide +kernel
theorem d_method_4_28 : decode method_4_code 28 = .ok (.invokestatic 13, 3) := by decide +kernel
theorem d_method_4_31 : decode method_4_code 31 = .ok (.castore, 1) := by decide +kernel
theorem d_method_4_32 : decode method_4_code 32 = .ok (.astore_n 2, 1) := by decide +kernel
theorem d_method_4_33 : decode method_4_code 33 = .ok (.goto 59, 3) := by decide +kernel
theorem d_method_4_36 : decode method_4_code 36 = .ok (.iload_n 1, 1) := by decide +kernel
theorem d_method_4_37 : decode method_4_code 37 = .ok (.iconst 2, 1) := by decide +kernel
theorem d_method_4_38 : decode method_4_code 38 = .ok (.if_icmp .ne 26, 3) := by decide +kernel
theorem d_method_4_41 : decode method_4_code 41 = .ok (.iconst 2, 1) := by decide +kernel
theorem d_method_4_42 : decode method_4_code 42 = .ok (.newarray .char, 2) := by decide +kernel
theorem d_method_4_44 : decode method_4_code 44 = .ok (.dup, 1) := by decide +kernel
theorem d_method_4_45 : decode method_4_code 45 = .ok (.iconst 0, 1) := by decide +kernel
theorem d_method_4_46 : decode method_4_code 46 = .ok (.iload_n 0, 1) := by decide +kernel
theorem d_method_4_47 : decode method_4_code 47 = .ok (.iconst 0, 1) := by decide +kernel
theorem d_method_4_48 : decode method_4_code 48 = .ok (.invokestatic 13, 3) := by decide +kernel
theorem d_method_4_51 : decode method_4_code 51 = .ok (.castore, 1) := by decide +kernel
theorem d_method_4_52 : decode method_4_code 52 = .ok (.dup, 1) := by decide +kernel
theorem d_method_4_53 : decode method_4_code 53 = .ok (.iconst 1, 1) := by decide +kernel
theorem d_method_4_54 : decode method_4_code 54 = .ok (.iload_n 0, 1) := by decide +kernel
theorem d_method_4_55 : decode method_4_code 55 = .ok (.iconst 1, 1) := by decide +kernel
theorem d_method_4_56 : decode method_4_code 56 = .ok (.invokestatic 13, 3) := by decide +kernel
theorem d_method_4_59 : decode method_4_code 59 = .ok (.castore, 1) := by decide +kernel
theorem d_method_4_60 : decode method_4_code 60 = .ok (.astore_n 2, 1) := by decide +kernel
theorem d_method_4_61 : decode method_4_code 61 = .ok (.goto 31, 3) := by decide +kernel
theorem d_method_4_64 : decode method_4_code 64 = .ok (.iconst 3, 1) := by decide +kernel
theorem d_method_4_65 : decode method_4_code 65 = .ok (.newarray .char, 2) := by decide +kernel
theorem d_method_4_67 : decode method_4_code 67 = .ok (.dup, 1) := by decide +kernel
theorem d_method_4_68 : decode method_4_code 68 = .ok (.iconst 0, 1) := by decide +kernel
theorem d_method_4_69 : decode method_4_code 69 = .ok (.iload_n 0, 1) := by decide +kernel
theorem d_method_4_70 : decode method_4_code 70 = .ok (.iconst 0, 1) := by decide +kernel
theorem d_method_4_71 : decode method_4_code 71 = .ok (.invokestatic 13, 3) := by decide +kernel
theorem d_method_4_74 : decode method_4_code 74 = .ok (.castore, 1) := by decide +kernel
theorem d_method_4_75 : decode method_4_code 75 = .ok (.dup, 1) := by decide +kernel
theorem d_method_4_76 : decode method_4_code 76 = .ok (.iconst 1, 1) := by decide +kernel
theorem d_method_4_77 : decode method_4_code 77 = .ok (.iload_n 0, 1) := by decide +kernel
theorem d_method_4_78 : decode method_4_code 78 = .ok (.iconst 1, 1) := by decide +kernel
theorem d_method_4_79 : decode method_4_code 79 = .ok (.invokestatic 13, 3) := by decide +kernel
theorem d_method_4_82 : decode method_4_code 82 = .ok (.castore, 1) := by decide +kernel
theorem d_method_4_83 : decode method_4_code 83 = .ok (.dup, 1) := by decide +kernel
theorem d_method_4_84 : decode method_4_code 84 = .ok (.iconst 2, 1) := by decide +kernel
theorem d_method_4_85 : decode method_4_code 85 = .ok (.iload_n 0, 1) := by decide +kernel
theorem d_method_4_86 : decode method_4_code 86 = .ok (.iconst 2, 1) := by decide +kernel
theorem d_method_4_87 : decode method_4_code 87 = .ok (.invokestatic 13, 3) := by decide +kernel
theorem d_method_4_90 : decode method_4_code 90 = .ok (.castore, 1) := by decide +kernel
theorem d_method_4_91 : decode method_4_code 91 = .ok (.astore_n 2, 1) := by decide +kernel
set_option maxRecDepth 65536 in
set_option maxHeartbeats 40000000 in
theorem rmM (l : Launch) (Z : State) (a0 : Array Value) (hw : ∀ d ∈ tables_1, d.before a0 Z = true) (ws : List Jvm.Cond) (px : Int32) (zc : Int32) (h0 : Heap) (n0 : Nat) (Z0 : n0 ≤ h0.size) (O2 : Sta Z Z.heap "java/lang/String" "COMPACT_STRINGS" "Z" (.int zc)) (hzc : ¬ zc = (0 : Int32)) (X00 : Old Z n0 h0) (wS : ∀ a ∈ Bundle.stringAtoms, a.before a0 Z = true) (hEL : EW Z a0 own_EL) :
    MetFree l (⟨"com/example/triplewright/triplewright/source/ElementNameMatchesPinLaw", "mk", "(I)Ljava/lang/String;"⟩ : MethodName) (head1 (Jvm.Cond.code (⟨"com/example/triplewright/triplewright/source/ElementNameMatchesPinLaw", "mk", "(I)Ljava/lang/String;"⟩ : MethodName) method_4_code 3 (some (.object "java/lang/String")) :: ws) ({ frames := 4, cells := 4, slots := 11, locals := 66 } : Room)) (fun a_ U_ => a_ = #[(.int px)] ∧ Z.Warmed39 U_.vm ∧ U_.heap = h0 ∧ CHv Z own_EL U_.vm h0) (fun _ _ _ _ _ => True) (fun _ U_ o_ E_ => ∃ v_ L_, o_ = .returned v_ ∧ QM Z px zc h0 n0 v_ E_.heap L_ ∧ CHr Z own_EL U_.vm U_.heap E_.vm E_.heap ∧ ReturnedEndW U_ o_ E_ L_ ({ frames := 4, cells := 4, slots := 11, locals := 66 } : Room).cells ({ frames := 4, cells := 4, slots := 11, locals := 66 } : Room).slots) := by
  refine MetFree.of_bodySF (plainFor_of_name pn_ElementNameMatchesPinLaw) hisR ?_
  intro p e s m args below meth c s₁ Bd hml0 hP hK
  obtain ⟨rfl, hZ, hh, hCH0⟩ := hP
  have hx := Bd.exec
  have hby := Bd.bytes
  have hml : c.maxLocals = 3 := hml0
  have hown : (s.setVm s.vm).vm.findClass "com/example/triplewright/triplewright/source/ElementNameMatchesPinLaw" = some m.cls := findClass_of_methodNamed Bd.named
  have hnm := (name_of_methodNamed Bd.named Bd.method).1
  replace hZ : Z.Warmed39 (s.setVm s.vm).vm := hZ
  have X0 : Stand p l e ({ frames := 4, cells := 4, slots := 11, locals := 66 } : Room) (s.setVm s.vm) m #[(.int px)] below meth c s₁ [] 0 0 := Stand.of_body Bd
  have e0 : s₁.heap = h0 := by rw [← hh, Bd.state]; rfl
  have N0 := Fr.nil n0
  have Zn := Z0
  have hS : s.Since s.vm s.heap.size := (State.WarmedH.refl s).since _
  have hk : s.heap.size ≤ h0.size := by rw [hh]; exact Nat.le_refl _
  have hCH : CHr Z own_EL s.vm h0 s.vm h0 := CHr.refl hCH0
  have pre0 : ∀ t, Steps p.tables e below (s₁.setTop (mkF m 0 #[.val (.int px), .unset, .unset] [])) t → Steps p.tables e below (s₁.setTop (entryFrame m #[(.int px)] 3)) t := fun t q => castTop (ef_M m px) q
  have k0 : ∀ t, Steps p.tables e below (s₁.setTop (mkF m 0 #[.val (.int px), .unset, .unset] [])) t → Steps p.tables e below (s₁.setTop (mkF m 0 #[.val (.int px), .unset, .unset] [])) t := fun t q => q
  have hws : ∀ d ∈ StrChars.Road.words, d.before a0 Z = true := fun d hd => hw d ((by decide +kernel : ∀ d ∈ StrChars.Road.words, d ∈ tables_1) d hd)
  have KP := Keep.refl h0 []
  have k1_ : ∀ t, Steps p.tables e below (s₁.setTop (mkF m 1 #[.val (.int px), .unset, .unset] [(.int px)])) t → Steps p.tables e below (s₁.setTop (mkF m 0 #[.val (.int px), .unset, .unset] [])) t := by
    intro t q
    refine k0 _ ?_
    show Steps p.tables e below (s₁.setTop (mkF m 0 #[.val (.int px), .unset, .unset] [])) _
    refine XS.iloadN X0.here hx rfl (hb hby d_method_4_0) rfl ?_
    show Steps p.tables e below (s₁.setTop (mkF m 1 #[.val (.int px), .unset, .unset] [(.int px)])) _
    exact q
  obtain ⟨_, _, ⟨T2, L2, kk2, n2⟩, -, X2, ⟨Lc2, hQ2, l2, y2, z2⟩, st2⟩ := Jvm.LawKit.callS X0 hx (y := (⟨"com/example/triplewright/triplewright/source/ElementNameMatchesPinLaw", "len", "(I)I"⟩ : MethodName)) hown (mvT hZ (hw _ (List.mem_of_getElem? (i := 5) rfl))) (mvT hZ (hw _ (List.mem_of_getElem? (i := 6) rfl))) (mvT hZ (hw _ (List.mem_of_getElem? (i := 3) rfl))) (mvT hZ (hw _ (List.mem_of_getElem? (i := 7) rfl))) (by decide) (backOf (W := 0) (rmL l Z a0 hw [] px h0 n0 Zn) hZ (hw _ (List.mem_of_getElem? (i := 7) rfl)) (hw _ (List.mem_of_getElem? (i := 3) rfl)) (by decide) (by decide)) (g := (mkF m 1 #[.val (.int px), .unset, .unset] [(.int px)])) rfl (by rw [hml]; rfl) (argsL := [(.int px)]) (rest := []) (lenOf pd_27763 rfl) rfl (by show 2 * 0 + _ ≤ _; exact Nat.le_of_eq rfl) (hb hby d_method_4_1) (fun _ _ => ⟨rfl, e0, (by decide : 0 + 0 ≤ _), (by decide : 0 + 0 ≤ _)⟩)
  dsimp only [Pt.U, Pt.locs, Pt.cells, Pt.slots] at X2 l2 y2 z2 st2 hQ2
  rw [l2, y2, z2] at X2
  obtain ⟨rfl, Nq2, hq2⟩ := hQ2
  have N2 := Fr.app N0 Nq2
  have k3_ : ∀ t, Steps p.tables e below (T2.setTop (mkF m 4 #[.val (.int px), .unset, .unset] [(.int (px &&& (3 : Int32)))])) t → Steps p.tables e below (s₁.setTop (mkF m 0 #[.val (.int px), .unset, .unset] [])) t := fun t q => k1_ t (st2 t q)
  have k4_ : ∀ t, Steps p.tables e below (T2.setTop (mkF m 6 #[.val (.int px), .val (.int (px &&& (3 : Int32))), .unset] [(.int (px &&& (3 : Int32)))])) t → Steps p.tables e below (s₁.setTop (mkF m 0 #[.val (.int px), .unset, .unset] [])) t := by
    intro t q
    refine k3_ _ ?_
    show Steps p.tables e below (T2.setTop (mkF m 4 #[.val (.int px), .unset, .unset] [(.int (px &&& (3 : Int32)))])) _
    refine XS.istoreN X2.here hx rfl (hb hby d_method_4_4) rfl (l' := #[.val (.int px), .val (.int (px &&& (3 : Int32))), .unset]) rfl ?_
    show Steps p.tables e below (T2.setTop (mkF m 5 #[.val (.int px), .val (.int (px &&& (3 : Int32))), .unset] [])) _
    refine XS.iloadN X2.here hx rfl (hb hby d_method_4_5) rfl ?_
    show Steps p.tables e below (T2.setTop (mkF m 6 #[.val (.int px), .val (.int (px &&& (3 : Int32))), .unset] [(.int (px &&& (3 : Int32)))])) _
    exact q
  by_cases hn0 : (px &&& (3 : Int32)) = (0 : Int32)
  · have k5_ : ∀ t, Steps p.tables e below (T2.setTop (mkF m 9 #[.val (.int px), .val (.int (px &&& (3 : Int32))), .unset] [])) t → Steps p.tables e below (s₁.setTop (mkF m 0 #[.val (.int px), .unset, .unset] [])) t := by
      intro t q
      refine k4_ _ ?_
      show Steps p.tables e below (T2.setTop (mkF m 6 #[.val (.int px), .val (.int (px &&& (3 : Int32))), .unset] [(.int (px &&& (3 : Int32)))])) _
      refine XS.ifNo X2.here hx rfl (hb hby d_method_4_6) rfl ((if0 _ _).trans (teq hn0).2) ?_
      show Steps p.tables e below (T2.setTop (mkF m 9 #[.val (.int px), .val (.int (px &&& (3 : Int32))), .unset] [])) _
      exact q
    have k6_ : ∀ t, Steps p.tables e below (T2.setTop (mkF m 10 #[.val (.int px), .val (.int (px &&& (3 : Int32))), .unset] [(.int (0 : Int32))])) t → Steps p.tables e below (s₁.setTop (mkF m 0 #[.val (.int px), .unset, .unset] [])) t := by
      intro t q
      refine k5_ _ ?_
      show Steps p.tables e below (T2.setTop (mkF m 9 #[.val (.int px), .val (.int (px &&& (3 : Int32))), .unset] [])) _
      refine XS.iconst X2.here hx rfl (hb hby d_method_4_9) ?_
      show Steps p.tables e below (T2.setTop (mkF m 10 #[.val (.int px), .val (.int (px &&& (3 : Int32))), .unset] [(.int (0 : Int32))])) _
      exact q
    obtain ⟨T7, h7, c7, X7, e7, E7, A7, st7⟩ := newP X2 hx hZ (hw _ (List.mem_of_getElem? (i := 8) rfl)) hq2 (g := (mkF m 10 #[.val (.int px), .val (.int (px &&& (3 : Int32))), .unset] [(.int (0 : Int32))])) rfl (hb hby d_method_4_10) rfl (by decide) (cap := 0) (by decide) (by decide) (by decide) (by decide)
    obtain ⟨b7, g7⟩ : ∃ z, z = h0.size := ⟨_, rfl⟩
    rw [← g7] at A7 st7
    have k8_ : ∀ t, Steps p.tables e below (T7.setTop (mkF m 12 #[.val (.int px), .val (.int (px &&& (3 : Int32))), .unset] [(.ref b7)])) t → Steps p.tables e below (s₁.setTop (mkF m 0 #[.val (.int px), .unset, .unset] [])) t := fun t q => k6_ t (st7 t q)
    have g_b7 : n0 ≤ b7 := Nat.le_trans Zn (Nat.le_of_eq g7.symm)
    replace Zn := Nat.le_trans Zn E7.1
    replace hk := Nat.le_trans hk E7.1
    have V_b7 : Arv Z h7 b7 c7 .char (0 : Int32) [] (.int (0 : Int32)) := (Arv.new A7 (by decide)).pad (pad_rep [] (.int (0 : Int32)) 0)
    have z_b7 : h0.size ≤ b7 := by rw [g7]; exact KP.1
    replace KP := KP.ext E7
    replace X00 := X00.ext E7
    replace hCH := hCH.trans (CHr.ext E7 hCH.1)
    have k9_ : ∀ t, Steps p.tables e below (T7.setTop (mkF m 92 #[.val (.int px), .val (.int (px &&& (3 : Int32))), .val (.ref b7)] [])) t → Steps p.tables e below (s₁.setTop (mkF m 0 #[.val (.int px), .unset, .unset] [])) t := by
      intro t q
      refine k8_ _ ?_
      show Steps p.tables e below (T7.setTop (mkF m 12 #[.val (.int px), .val (.int (px &&& (3 : Int32))), .unset] [(.ref b7)])) _
      refine XS.astoreN X7.here hx rfl (hb hby d_method_4_12) rfl rfl (l' := #[.val (.int px), .val (.int (px &&& (3 : Int32))), .val (.ref b7)]) rfl ?_
      show Steps p.tables e below (T7.setTop (mkF m 13 #[.val (.int px), .val (.int (px &&& (3 : Int32))), .val (.ref b7)] [])) _
      refine XS.goto X7.here hx rfl (pc0 := 13) (pc' := 92) rfl (hb hby d_method_4_13) (by decide) (by decide) ?_
      show Steps p.tables e below (T7.setTop (mkF m 92 #[.val (.int px), .val (.int (px &&& (3 : Int32))), .val (.ref b7)] [])) _
      exact q
    obtain ⟨T10, h10, X10, e10, E10, A10, D10, -, st10⟩ := newO X7 hx hZ hown (hw _ (List.mem_of_getElem? (i := 9) rfl)) (hw _ (List.mem_of_getElem? (i := 10) rfl)) (hw _ (List.mem_of_getElem? (i := 11) rfl)) e7 (g := (mkF m 92 #[.val (.int px), .val (.int (px &&& (3 : Int32))), .val (.ref b7)] [])) rfl (hb hby d_method_4_92) (by decide) (by decide)
    obtain ⟨b10, g10⟩ : ∃ z, z = h7.size := ⟨_, rfl⟩
    rw [← g10] at A10 D10 st10
    have k11_ : ∀ t, Steps p.tables e below (T10.setTop (mkF m 95 #[.val (.int px), .val (.int (px &&& (3 : Int32))), .val (.ref b7)] [(.ref b10)])) t → Steps p.tables e below (s₁.setTop (mkF m 0 #[.val (.int px), .unset, .unset] [])) t := fun t q => k9_ t (st10 t q)
    have ne_b7_b10 : b7 ≠ b10 := Nat.ne_of_lt (Nat.lt_of_lt_of_le V_b7.lt (Nat.le_of_eq g10.symm))
    have g_b10 : n0 ≤ b10 := Nat.le_trans Zn (Nat.le_of_eq g10.symm)
    replace Zn := Nat.le_trans Zn E10.1
    replace hk := Nat.le_trans hk E10.1
    replace V_b7 := V_b7.ext E10
    have z_b10 : h0.size ≤ b10 := by rw [g10]; exact KP.1
    replace KP := KP.ext E10
    replace X00 := X00.ext E10
    replace hCH := hCH.trans (CHr.ext E10 hCH.1)
    have Vs : Fld Z h10 b10 "java/lang/String" "value" "[B" .null := D10 (Or.inr (hw _ (List.mem_of_getElem? (i := 24) rfl))) (ty := (.array .byte)) (by decide)
    have Cs : Fld Z h10 b10 "java/lang/String" "coder" "B" (.int (0 : Int32)) := D10 (Or.inr (hw _ (List.mem_of_getElem? (i := 25) rfl))) (ty := .byte) (by decide)
    have k12_ : ∀ t, Steps p.tables e below (T10.setTop (mkF m 97 #[.val (.int px), .val (.int (px &&& (3 : Int32))), .val (.ref b7)] [(.ref b7), (.ref b10), (.ref b10)])) t → Steps p.tables e below (s₁.setTop (mkF m 0 #[.val (.int px), .unset, .unset] [])) t := by
      intro t q
      refine k11_ _ ?_
      show Steps p.tables e below (T10.setTop (mkF m 95 #[.val (.int px), .val (.int (px &&& (3 : Int32))), .val (.ref b7)] [(.ref b10)])) _
      refine XS.dup X10.here hx rfl (hb hby d_method_4_95) rfl rfl ?_
      show Steps p.tables e below (T10.setTop (mkF m 96 #[.val (.int px), .val (.int (px &&& (3 : Int32))), .val (.ref b7)] [(.ref b10), (.ref b10)])) _
      refine XS.aloadN X10.here hx rfl (hb hby d_method_4_96) rfl rfl ?_
      show Steps p.tables e below (T10.setTop (mkF m 97 #[.val (.int px), .val (.int (px &&& (3 : Int32))), .val (.ref b7)] [(.ref b7), (.ref b10), (.ref b10)])) _
      exact q
    have V0 : Arv Z h10 b7 c7 .char (0 : Int32) [] (.int (0 : Int32)) := V_b7
    obtain ⟨_, _, ⟨T13, L13, kk13, n13⟩, -, X13_, hs13, hG13, ⟨Lc13, hQ13, l13, y13, z13, hc13⟩, st13⟩ := X10.specialBackS hx (y := (⟨"java/lang/String", "<init>", "([C)V"⟩ : MethodName)) rfl hown (mvT hZ (hw _ (List.mem_of_getElem? (i := 12) rfl))) (mvT hZ (hw _ (List.mem_of_getElem? (i := 13) rfl))) (mvT hZ (hw _ (List.mem_of_getElem? (i := 14) rfl))) (by decide) (backOfSH (s := s) (vm0 := s.vm) (EL := own_EL) (W := 1) (rmS l Z a0 hw [] b10 b7 c7 h10 n0 Zn A10 Vs Cs g_b10 V0 wS hEL) hZ (hw _ (List.mem_of_getElem? (i := 14) rfl)) (hw _ (List.mem_of_getElem? (i := 11) rfl)) (by decide) (by decide) hEL hCH.1) (g := (mkF m 97 #[.val (.int px), .val (.int (px &&& (3 : Int32))), .val (.ref b7)] [(.ref b7), (.ref b10), (.ref b10)])) rfl (by rw [hml]; rfl) (Steps.refl _) (a := b10) (argsL := [(.ref b7)]) (rest := [(.ref b10)]) (lenOf pd_20902 rfl) rfl (by show 2 * 0 + _ ≤ _; exact Nat.le_of_eq rfl) (hb hby d_method_4_97) (fun _ _ => ⟨rfl, e10, (by decide : 0 + 0 + 1 + 1 + 2 ≤ _), (by decide : 0 + 0 + 0 + 4 + 4 ≤ _)⟩)
    dsimp only [Pt.U, Pt.locs, Pt.cells, Pt.slots] at X13_ l13 y13 z13 st13 hQ13 hG13 hs13 hc13
    rw [l13, y13, z13] at X13_
    obtain ⟨X13, hS13, hZ13, hown13⟩ := rebS (s := s) (vm0 := s.vm) hS (by rw [e10]; exact hk) X13_ hs13 hG13 hZ hown
    replace hS := hS13
    replace hZ := hZ13
    replace hown := hown13
    replace hCH := hCH.trans hc13
    replace hk : T13.heap.size ≤ T13.heap.size := Nat.le_refl _
    obtain ⟨rfl, Nq13, KI, SI⟩ := hQ13
    have N13 := Fr.app N2 Nq13
    have k14_ : ∀ t, Steps p.tables e below (T13.setTop (mkF m 100 #[.val (.int px), .val (.int (px &&& (3 : Int32))), .val (.ref b7)] [(.ref b10)])) t → Steps p.tables e below (s₁.setTop (mkF m 0 #[.val (.int px), .unset, .unset] [])) t := fun t q => k12_ t (st13.trans q)
    replace KP := KP.trans KI (fun y hy => Or.inr (by cases List.mem_singleton.mp hy; exact z_b10))
    obtain ⟨fs, hr, hrun, hended, r1, r2, r3, r4⟩ := Stand.leaveW (s := s) (vm₁ := T13.vm) X13 hS hk (v := some (.ref b10)) (fun h => by rw [Bd.returns] at h; cases h)
    refine ⟨_, _, pre0 _ (k14_ _ ?_), hrun, hended, _, _, rfl, ?_, ?_, r1, r2, r3, r4.mono (by decide) (by decide)⟩
    · show Steps p.tables e below (T13.setTop (mkF m 100 #[.val (.int px), .val (.int (px &&& (3 : Int32))), .val (.ref b7)] [(.ref b10)])) _
      jvm_step X13.here [X13.here.top, hx, (hb hby d_method_4_100), X13.method', Bd.returns, Value.isRef, FieldType.isReference]
      first | (intro acts; rw [hr _ acts rfl rfl rfl]) | rw [hr _ _ rfl rfl rfl]
      exact Steps.refl _
    · show QM Z px zc h0 n0 _ T13.heap _
      exact ⟨b10, rfl, N13, KP, by rw [own_cs0 hn0]; exact SI⟩
    · show CHr Z own_EL s.vm s.heap T13.vm T13.heap
      rw [hh]
      exact hCH.trans (CHv.at (s := s) X13 hZ hEL hCH.1)
  · have k15_ : ∀ t, Steps p.tables e below (T2.setTop (mkF m 16 #[.val (.int px), .val (.int (px &&& (3 : Int32))), .unset] [])) t → Steps p.tables e below (s₁.setTop (mkF m 0 #[.val (.int px), .unset, .unset] [])) t := by
      intro t q
      refine k4_ _ ?_
      show Steps p.tables e below (T2.setTop (mkF m 6 #[.val (.int px), .val (.int (px &&& (3 : Int32))), .unset] [(.int (px &&& (3 : Int32)))])) _
      refine XS.ifYes X2.here hx rfl (pc0 := 6) (pc' := 16) rfl (hb hby d_method_4_6) rfl ((if0 _ _).trans (feq hn0).2) (by decide) (by decide) ?_
      show Steps p.tables e below (T2.setTop (mkF m 16 #[.val (.int px), .val (.int (px &&& (3 : Int32))), .unset] [])) _
      exact q
    have k16_ : ∀ t, Steps p.tables e below (T2.setTop (mkF m 18 #[.val (.int px), .val (.int (px &&& (3 : Int32))), .unset] [(.int (1 : Int32)), (.int (px &&& (3 : Int32)))])) t → Steps p.tables e below (s₁.setTop (mkF m 0 #[.val (.int px), .unset, .unset] [])) t := by
      intro t q
      refine k15_ _ ?_
      show Steps p.tables e below (T2.setTop (mkF m 16 #[.val (.int px), .val (.int (px &&& (3 : Int32))), .unset] [])) _
      refine XS.iloadN X2.here hx rfl (hb hby d_method_4_16) rfl ?_
      show Steps p.tables e below (T2.setTop (mkF m 17 #[.val (.int px), .val (.int (px &&& (3 : Int32))), .unset] [(.int (px &&& (3 : Int32)))])) _
      refine XS.iconst X2.here hx rfl (hb hby d_method_4_17) ?_
      show Steps p.tables e below (T2.setTop (mkF m 18 #[.val (.int px), .val (.int (px &&& (3 : Int32))), .unset] [(.int (1 : Int32)), (.int (px &&& (3 : Int32)))])) _
      exact q
    by_cases hn1 : (px &&& (3 : Int32)) = (1 : Int32)
    · have k17_ : ∀ t, Steps p.tables e below (T2.setTop (mkF m 21 #[.val (.int px), .val (.int (px &&& (3 : Int32))), .unset] [])) t → Steps p.tables e below (s₁.setTop (mkF m 0 #[.val (.int px), .unset, .unset] [])) t := by
        intro t q
        refine k16_ _ ?_
        show Steps p.tables e below (T2.setTop (mkF m 18 #[.val (.int px), .val (.int (px &&& (3 : Int32))), .unset] [(.int (1 : Int32)), (.int (px &&& (3 : Int32)))])) _
        refine XS.icmpNo X2.here hx rfl (hb hby d_method_4_18) rfl (teq hn1).2 ?_
        show Steps p.tables e below (T2.setTop (mkF m 21 #[.val (.int px), .val (.int (px &&& (3 : Int32))), .unset] [])) _
        exact q
      have k18_ : ∀ t, Steps p.tables e below (T2.setTop (mkF m 22 #[.val (.int px), .val (.int (px &&& (3 : Int32))), .unset] [(.int (1 : Int32))])) t → Steps p.tables e below (s₁.setTop (mkF m 0 #[.val (.int px), .unset, .unset] [])) t := by
        intro t q
        refine k17_ _ ?_
        show Steps p.tables e below (T2.setTop (mkF m 21 #[.val (.int px), .val (.int (px &&& (3 : Int32))), .unset] [])) _
        refine XS.iconst X2.here hx rfl (hb hby d_method_4_21) ?_
        show Steps p.tables e below (T2.setTop (mkF m 22 #[.val (.int px), .val (.int (px &&& (3 : Int32))), .unset] [(.int (1 : Int32))])) _
        exact q
      obtain ⟨T19, h19, c19, X19, e19, E19, A19, st19⟩ := newP X2 hx hZ (hw _ (List.mem_of_getElem? (i := 8) rfl)) hq2 (g := (mkF m 22 #[.val (.int px), .val (.int (px &&& (3 : Int32))), .unset] [(.int (1 : Int32))])) rfl (hb hby d_method_4_22) rfl (by decide) (cap := 1) (by decide) (by decide) (by decide) (by decide)
      obtain ⟨b19, g19⟩ : ∃ z, z = h0.size := ⟨_, rfl⟩
      rw [← g19] at A19 st19
      have k20_ : ∀ t, Steps p.tables e below (T19.setTop (mkF m 24 #[.val (.int px), .val (.int (px &&& (3 : Int32))), .unset] [(.ref b19)])) t → Steps p.tables e below (s₁.setTop (mkF m 0 #[.val (.int px), .unset, .unset] [])) t := fun t q => k18_ t (st19 t q)
      have g_b19 : n0 ≤ b19 := Nat.le_trans Zn (Nat.le_of_eq g19.symm)
      replace Zn := Nat.le_trans Zn E19.1
      replace hk := Nat.le_trans hk E19.1
      have V_b19 : Arv Z h19 b19 c19 .char (1 : Int32) [(.int (0 : Int32))] (.int (0 : Int32)) := (Arv.new A19 (by decide)).pad (pad_rep [] (.int (0 : Int32)) 1)
      have z_b19 : h0.size ≤ b19 := by rw [g19]; exact KP.1
      replace KP := KP.ext E19
      replace X00 := X00.ext E19
      replace hCH := hCH.trans (CHr.ext E19 hCH.1)
      have k21_ : ∀ t, Steps p.tables e below (T19.setTop (mkF m 28 #[.val (.int px), .val (.int (px &&& (3 : Int32))), .unset] [(.int (0 : Int32)), (.int px), (.int (0 : Int32)), (.ref b19), (.ref b19)])) t → Steps p.tables e below (s₁.setTop (mkF m 0 #[.val (.int px), .unset, .unset] [])) t := by
        intro t q
        refine k20_ _ ?_
        show Steps p.tables e below (T19.setTop (mkF m 24 #[.val (.int px), .val (.int (px &&& (3 : Int32))), .unset] [(.ref b19)])) _
        refine XS.dup X19.here hx rfl (hb hby d_method_4_24) rfl rfl ?_
        show Steps p.tables e below (T19.setTop (mkF m 25 #[.val (.int px), .val (.int (px &&& (3 : Int32))), .unset] [(.ref b19), (.ref b19)])) _
        refine XS.iconst X19.here hx rfl (hb hby d_method_4_25) ?_
        show Steps p.tables e below (T19.setTop (mkF m 26 #[.val (.int px), .val (.int (px &&& (3 : Int32))), .unset] [(.int (0 : Int32)), (.ref b19), (.ref b19)])) _
        refine XS.iloadN X19.here hx rfl (hb hby d_method_4_26) rfl ?_
        show Steps p.tables e below (T19.setTop (mkF m 27 #[.val (.int px), .val (.int (px &&& (3 : Int32))), .unset] [(.int px), (.int (0 : Int32)), (.ref b19), (.ref b19)])) _
        refine XS.iconst X19.here hx rfl (hb hby d_method_4_27) ?_
        show Steps p.tables e below (T19.setTop (mkF m 28 #[.val (.int px), .val (.int (px &&& (3 : Int32))), .unset] [(.int (0 : Int32)), (.int px), (.int (0 : Int32)), (.ref b19), (.ref b19)])) _
        exact q
      obtain ⟨_, _, ⟨T22, L22, kk22, n22⟩, -, X22, ⟨Lc22, hQ22, l22, y22, z22⟩, st22⟩ := Jvm.LawKit.callS X19 hx (y := (⟨"com/example/triplewright/triplewright/source/ElementNameMatchesPinLaw", "ch", "(II)C"⟩ : MethodName)) hown (mvT hZ (hw _ (List.mem_of_getElem? (i := 30) rfl))) (mvT hZ (hw _ (List.mem_of_getElem? (i := 31) rfl))) (mvT hZ (hw _ (List.mem_of_getElem? (i := 3) rfl))) (mvT hZ (hw _ (List.mem_of_getElem? (i := 32) rfl))) (by decide) (backOf (W := 3) (rmK l Z a0 hw [] px (0 : Int32) h19 n0 Zn) hZ (hw _ (List.mem_of_getElem? (i := 32) rfl)) (hw _ (List.mem_of_getElem? (i := 3) rfl)) (by decide) (by decide)) (g := (mkF m 28 #[.val (.int px), .val (.int (px &&& (3 : Int32))), .unset] [(.int (0 : Int32)), (.int px), (.int (0 : Int32)), (.ref b19), (.ref b19)])) rfl (by rw [hml]; rfl) (argsL := [(.int px), (.int (0 : Int32))]) (rest := [(.int (0 : Int32)), (.ref b19), (.ref b19)]) (lenOf pd_90414 rfl) rfl (by show 2 * 0 + _ ≤ _; exact Nat.le_of_eq rfl) (hb hby d_method_4_28) (fun _ _ => ⟨rfl, e19, (by decide : 0 + 0 + 1 + 0 ≤ _), (by decide : 0 + 0 + 1 + 0 ≤ _)⟩)
      dsimp only [Pt.U, Pt.locs, Pt.cells, Pt.slots] at X22 l22 y22 z22 st22 hQ22
      rw [l22, y22, z22] at X22
      obtain ⟨rfl, Nq22, hq22⟩ := hQ22
      have N22 := Fr.app N2 Nq22
      have k23_ : ∀ t, Steps p.tables e below (T22.setTop (mkF m 31 #[.val (.int px), .val (.int (px &&& (3 : Int32))), .unset] [(.int (own_ch px (0 : Int32))), (.int (0 : Int32)), (.ref b19), (.ref b19)])) t → Steps p.tables e below (s₁.setTop (mkF m 0 #[.val (.int px), .unset, .unset] [])) t := fun t q => k21_ t (st22 t q)
      obtain ⟨cl24, Ar24, q24, S24, M24, H24, G24⟩ := V_b19
      obtain ⟨T25, h25, X25, e25, W25, st25⟩ := stC X22 hx hZ hq22 Ar24 (j := (0 : Int32)) (inb_of S24 ⟨by decide, by decide⟩) (g := (mkF m 31 #[.val (.int px), .val (.int (px &&& (3 : Int32))), .unset] [(.int (own_ch px (0 : Int32))), (.int (0 : Int32)), (.ref b19), (.ref b19)])) rfl rfl (hb hby d_method_4_31)
      have k26_ : ∀ t, Steps p.tables e below (T25.setTop (mkF m 32 #[.val (.int px), .val (.int (px &&& (3 : Int32))), .unset] [(.ref b19)])) t → Steps p.tables e below (s₁.setTop (mkF m 0 #[.val (.int px), .unset, .unset] [])) t := fun t q => k23_ t (st25 t q)
      have N25 := Fr.snoc X25 N22 g_b19
      rw [own_n8] at W25
      replace Zn := Nat.le_trans Zn (Keep.of_wr W25).1
      replace hk := Nat.le_trans hk (Keep.of_wr W25).1
      have V_b19 : Arv Z h25 b19 c19 .char (1 : Int32) [(.int (own_ch px (0 : Int32)))] (.int (0 : Int32)) := Arv.set Ar24 q24 S24 M24 H24 G24 (by have q := fits_nar_char (own_ch px (0 : Int32)); rw [own_n8] at q; exact q) W25 0 rfl (Nat.le_of_ble_eq_true rfl)
      replace KP := KP.wr W25 (Or.inr z_b19)
      replace X00 := X00.wr W25 g_b19
      replace hCH := hCH.trans (CHr.wr W25 (Safe.arr (hZ.alike) Ar24 (fun h => by cases h)) hCH.1)
      have k27_ : ∀ t, Steps p.tables e below (T25.setTop (mkF m 92 #[.val (.int px), .val (.int (px &&& (3 : Int32))), .val (.ref b19)] [])) t → Steps p.tables e below (s₁.setTop (mkF m 0 #[.val (.int px), .unset, .unset] [])) t := by
        intro t q
        refine k26_ _ ?_
        show Steps p.tables e below (T25.setTop (mkF m 32 #[.val (.int px), .val (.int (px &&& (3 : Int32))), .unset] [(.ref b19)])) _
        refine XS.astoreN X25.here hx rfl (hb hby d_method_4_32) rfl rfl (l' := #[.val (.int px), .val (.int (px &&& (3 : Int32))), .val (.ref b19)]) rfl ?_
        show Steps p.tables e below (T25.setTop (mkF m 33 #[.val (.int px), .val (.int (px &&& (3 : Int32))), .val (.ref b19)] [])) _
        refine XS.goto X25.here hx rfl (pc0 := 33) (pc' := 92) rfl (hb hby d_method_4_33) (by decide) (by decide) ?_
        show Steps p.tables e below (T25.setTop (mkF m 92 #[.val (.int px), .val (.int (px &&& (3 : Int32))), .val (.ref b19)] [])) _
        exact q
      obtain ⟨T28, h28, X28, e28, E28, A28, D28, -, st28⟩ := newO X25 hx hZ hown (hw _ (List.mem_of_getElem? (i := 9) rfl)) (hw _ (List.mem_of_getElem? (i := 10) rfl)) (hw _ (List.mem_of_getElem? (i := 11) rfl)) e25 (g := (mkF m 92 #[.val (.int px), .val (.int (px &&& (3 : Int32))), .val (.ref b19)] [])) rfl (hb hby d_method_4_92) (by decide) (by decide)
      obtain ⟨b28, g28⟩ : ∃ z, z = h25.size := ⟨_, rfl⟩
      rw [← g28] at A28 D28 st28
      have k29_ : ∀ t, Steps p.tables e below (T28.setTop (mkF m 95 #[.val (.int px), .val (.int (px &&& (3 : Int32))), .val (.ref b19)] [(.ref b28)])) t → Steps p.tables e below (s₁.setTop (mkF m 0 #[.val (.int px), .unset, .unset] [])) t := fun t q => k27_ t (st28 t q)
      have ne_b19_b28 : b19 ≠ b28 := Nat.ne_of_lt (Nat.lt_of_lt_of_le V_b19.lt (Nat.le_of_eq g28.symm))
      have g_b28 : n0 ≤ b28 := Nat.le_trans Zn (Nat.le_of_eq g28.symm)
      replace Zn := Nat.le_trans Zn E28.1
      replace hk := Nat.le_trans hk E28.1
      replace V_b19 := V_b19.ext E28
      have z_b28 : h0.size ≤ b28 := by rw [g28]; exact KP.1
      replace KP := KP.ext E28
      replace X00 := X00.ext E28
      replace hCH := hCH.trans (CHr.ext E28 hCH.1)
      have Vs : Fld Z h28 b28 "java/lang/String" "value" "[B" .null := D28 (Or.inr (hw _ (List.mem_of_getElem? (i := 24) rfl))) (ty := (.array .byte)) (by decide)
      have Cs : Fld Z h28 b28 "java/lang/String" "coder" "B" (.int (0 : Int32)) := D28 (Or.inr (hw _ (List.mem_of_getElem? (i := 25) rfl))) (ty := .byte) (by decide)
      have k30_ : ∀ t, Steps p.tables e below (T28.setTop (mkF m 97 #[.val (.int px), .val (.int (px &&& (3 : Int32))), .val (.ref b19)] [(.ref b19), (.ref b28), (.ref b28)])) t → Steps p.tables e below (s₁.setTop (mkF m 0 #[.val (.int px), .unset, .unset] [])) t := by
        intro t q
        refine k29_ _ ?_
        show Steps p.tables e below (T28.setTop (mkF m 95 #[.val (.int px), .val (.int (px &&& (3 : Int32))), .val (.ref b19)] [(.ref b28)])) _
        refine XS.dup X28.here hx rfl (hb hby d_method_4_95) rfl rfl ?_
        show Steps p.tables e below (T28.setTop (mkF m 96 #[.val (.int px), .val (.int (px &&& (3 : Int32))), .val (.ref b19)] [(.ref b28), (.ref b28)])) _
        refine XS.aloadN X28.here hx rfl (hb hby d_method_4_96) rfl rfl ?_
        show Steps p.tables e below (T28.setTop (mkF m 97 #[.val (.int px), .val (.int (px &&& (3 : Int32))), .val (.ref b19)] [(.ref b19), (.ref b28), (.ref b28)])) _
        exact q
      have hp : ∀ c ∈ ([own_ch px (0 : Int32)] : List Int32), ¬ c < 0 ∧ ¬ (255 : Int32) < c := fun c hc => own_cs_r px c (by rw [own_cs1 hn1]; exact hc)
      have V0 : Arv Z h28 b19 c19 .char (1 : Int32) (([own_ch px (0 : Int32)] : List Int32).map Value.int) (.int (0 : Int32)) := V_b19
      obtain ⟨_, _, ⟨T31, L31, kk31, n31⟩, -, X31, ⟨Lc31, hQ31, l31, y31, z31⟩, st31⟩ := X28.specialBack hx (y := (⟨"java/lang/String", "<init>", "([C)V"⟩ : MethodName)) rfl hown (mvT hZ (hw _ (List.mem_of_getElem? (i := 12) rfl))) (mvT hZ (hw _ (List.mem_of_getElem? (i := 13) rfl))) (mvT hZ (hw _ (List.mem_of_getElem? (i := 14) rfl))) (by decide) (StrChars.Road.backV (W := 1) hZ hws (kI := 4) (hw _ (List.mem_of_getElem? (i := 10) rfl)) (cs := ([own_ch px (0 : Int32)] : List Int32)) (bs := ([own_ch px (0 : Int32)] : List Int32).map (fun c => c.toInt8.toInt32)) (n := 1) g_b28 Zn A28 Vs Cs V0 (O2.ext X00.2) hzc rfl rfl (by decide) (by decide) hp rfl (by decide) (by decide)) (g := (mkF m 97 #[.val (.int px), .val (.int (px &&& (3 : Int32))), .val (.ref b19)] [(.ref b19), (.ref b28), (.ref b28)])) rfl (by rw [hml]; rfl) (Steps.refl _) (a := b28) (argsL := [(.ref b19)]) (rest := [(.ref b28)]) (lenOf pd_20902 rfl) rfl (by show 2 * 0 + _ ≤ _; exact Nat.le_of_eq rfl) (hb hby d_method_4_97) (fun _ _ => ⟨rfl, e28, (by decide : 0 + 0 + 1 + 0 + 1 + 1 ≤ _), (by decide : 0 + 0 + 1 + 0 + 4 + 1 ≤ _)⟩)
      dsimp only [Pt.U, Pt.locs, Pt.cells, Pt.slots] at X31 l31 y31 z31 st31 hQ31
      rw [l31, y31, z31] at X31
      obtain ⟨rfl, Nq31, KI, EI, CI, tt, kb, -, -, -, VI, AI⟩ := hQ31
      have N31 := Fr.app N25 Nq31
      have k32_ : ∀ t, Steps p.tables e below (T31.setTop (mkF m 100 #[.val (.int px), .val (.int (px &&& (3 : Int32))), .val (.ref b19)] [(.ref b28)])) t → Steps p.tables e below (s₁.setTop (mkF m 0 #[.val (.int px), .unset, .unset] [])) t := fun t q => k30_ t (st31.trans q)
      replace hk := Nat.le_trans hk KI.1
      have SV : Safe Z own_EL s.vm h28 b28 := own_safe (hZ.alike) A28 Vs
      replace hCH := hCH.trans (CHr.keep KI (sfS SV sf0) hCH.1)
      replace KP := KP.trans KI (fun y hy => Or.inr (by cases List.mem_singleton.mp hy; exact z_b28))
      obtain ⟨fs, hr, hrun, hended, r1, r2, r3, r4⟩ := Stand.leaveW (s := s) (vm₁ := s.vm) X31 hS hk (v := some (.ref b28)) (fun h => by rw [Bd.returns] at h; cases h)
      refine ⟨_, _, pre0 _ (k32_ _ ?_), hrun, hended, _, _, rfl, ?_, ?_, r1, r2, r3, r4.mono (by decide) (by decide)⟩
      · show Steps p.tables e below (T31.setTop (mkF m 100 #[.val (.int px), .val (.int (px &&& (3 : Int32))), .val (.ref b19)] [(.ref b28)])) _
        jvm_step X31.here [X31.here.top, hx, (hb hby d_method_4_100), X31.method', Bd.returns, Value.isRef, FieldType.isReference]
        first | (intro acts; rw [hr _ acts rfl rfl rfl]) | rw [hr _ _ rfl rfl rfl]
        exact Steps.refl _
      · show QM Z px zc h0 n0 _ T31.heap _
        exact ⟨b28, rfl, N31, KP, by rw [own_cs1 hn1]; exact ⟨EI, CI, tt, kb, VI, AI⟩⟩
      · show CHr Z own_EL s.vm s.heap T31.vm T31.heap
        rw [hh]
        exact hCH.trans (CHv.at (s := s) X31 hZ hEL hCH.1)
    · have k33_ : ∀ t, Steps p.tables e below (T2.setTop (mkF m 36 #[.val (.int px), .val (.int (px &&& (3 : Int32))), .unset] [])) t → Steps p.tables e below (s₁.setTop (mkF m 0 #[.val (.int px), .unset, .unset] [])) t := by
        intro t q
        refine k16_ _ ?_
        show Steps p.tables e below (T2.setTop (mkF m 18 #[.val (.int px), .val (.int (px &&& (3 : Int32))), .unset] [(.int (1 : Int32)), (.int (px &&& (3 : Int32)))])) _
        refine XS.icmpYes X2.here hx rfl (pc0 := 18) (pc' := 36) rfl (hb hby d_method_4_18) rfl (feq hn1).2 (by decide) (by decide) ?_
        show Steps p.tables e below (T2.setTop (mkF m 36 #[.val (.int px), .val (.int (px &&& (3 : Int32))), .unset] [])) _
        exact q
      have k34_ : ∀ t, Steps p.tables e below (T2.setTop (mkF m 38 #[.val (.int px), .val (.int (px &&& (3 : Int32))), .unset] [(.int (2 : Int32)), (.int (px &&& (3 : Int32)))])) t → Steps p.tables e below (s₁.setTop (mkF m 0 #[.val (.int px), .unset, .unset] [])) t := by
        intro t q
        refine k33_ _ ?_
        show Steps p.tables e below (T2.setTop (mkF m 36 #[.val (.int px), .val (.int (px &&& (3 : Int32))), .unset] [])) _
        refine XS.iloadN X2.here hx rfl (hb hby d_method_4_36) rfl ?_
        show Steps p.tables e below (T2.setTop (mkF m 37 #[.val (.int px), .val (.int (px &&& (3 : Int32))), .unset] [(.int (px &&& (3 : Int32)))])) _
        refine XS.iconst X2.here hx rfl (hb hby d_method_4_37) ?_
        show Steps p.tables e below (T2.setTop (mkF m 38 #[.val (.int px), .val (.int (px &&& (3 : Int32))), .unset] [(.int (2 : Int32)), (.int (px &&& (3 : Int32)))])) _
        exact q
      by_cases hn2 : (px &&& (3 : Int32)) = (2 : Int32)
      · have k35_ : ∀ t, Steps p.tables e below (T2.setTop (mkF m 41 #[.val (.int px), .val (.int (px &&& (3 : Int32))), .unset] [])) t → Steps p.tables e below (s₁.setTop (mkF m 0 #[.val (.int px), .unset, .unset] [])) t := by
          intro t q
          refine k34_ _ ?_
          show Steps p.tables e below (T2.setTop (mkF m 38 #[.val (.int px), .val (.int (px &&& (3 : Int32))), .unset] [(.int (2 : Int32)), (.int (px &&& (3 : Int32)))])) _
          refine XS.icmpNo X2.here hx rfl (hb hby d_method_4_38) rfl (teq hn2).2 ?_
          show Steps p.tables e below (T2.setTop (mkF m 41 #[.val (.int px), .val (.int (px &&& (3 : Int32))), .unset] [])) _
          exact q
        have k36_ : ∀ t, Steps p.tables e below (T2.setTop (mkF m 42 #[.val (.int px), .val (.int (px &&& (3 : Int32))), .unset] [(.int (2 : Int32))])) t → Steps p.tables e below (s₁.setTop (mkF m 0 #[.val (.int px), .unset, .unset] [])) t := by
          intro t q
          refine k35_ _ ?_
          show Steps p.tables e below (T2.setTop (mkF m 41 #[.val (.int px), .val (.int (px &&& (3 : Int32))), .unset] [])) _
          refine XS.iconst X2.here hx rfl (hb hby d_method_4_41) ?_
          show Steps p.tables e below (T2.setTop (mkF m 42 #[.val (.int px), .val (.int (px &&& (3 : Int32))), .unset] [(.int (2 : Int32))])) _
          exact q
        obtain ⟨T37, h37, c37, X37, e37, E37, A37, st37⟩ := newP X2 hx hZ (hw _ (List.mem_of_getElem? (i := 8) rfl)) hq2 (g := (mkF m 42 #[.val (.int px), .val (.int (px &&& (3 : Int32))), .unset] [(.int (2 : Int32))])) rfl (hb hby d_method_4_42) rfl (by decide) (cap := 2) (by decide) (by decide) (by decide) (by decide)
        obtain ⟨b37, g37⟩ : ∃ z, z = h0.size := ⟨_, rfl⟩
        rw [← g37] at A37 st37
        have k38_ : ∀ t, Steps p.tables e below (T37.setTop (mkF m 44 #[.val (.int px), .val (.int (px &&& (3 : Int32))), .unset] [(.ref b37)])) t → Steps p.tables e below (s₁.setTop (mkF m 0 #[.val (.int px), .unset, .unset] [])) t := fun t q => k36_ t (st37 t q)
        have g_b37 : n0 ≤ b37 := Nat.le_trans Zn (Nat.le_of_eq g37.symm)
        replace Zn := Nat.le_trans Zn E37.1
        replace hk := Nat.le_trans hk E37.1
        have V_b37 : Arv Z h37 b37 c37 .char (2 : Int32) [(.int (0 : Int32)), (.int (0 : Int32))] (.int (0 : Int32)) := (Arv.new A37 (by decide)).pad (pad_rep [] (.int (0 : Int32)) 2)
        have z_b37 : h0.size ≤ b37 := by rw [g37]; exact KP.1
        replace KP := KP.ext E37
        replace X00 := X00.ext E37
        replace hCH := hCH.trans (CHr.ext E37 hCH.1)
        have k39_ : ∀ t, Steps p.tables e below (T37.setTop (mkF m 48 #[.val (.int px), .val (.int (px &&& (3 : Int32))), .unset] [(.int (0 : Int32)), (.int px), (.int (0 : Int32)), (.ref b37), (.ref b37)])) t → Steps p.tables e below (s₁.setTop (mkF m 0 #[.val (.int px), .unset, .unset] [])) t := by
          intro t q
          refine k38_ _ ?_
          show Steps p.tables e below (T37.setTop (mkF m 44 #[.val (.int px), .val (.int (px &&& (3 : Int32))), .unset] [(.ref b37)])) _
          refine XS.dup X37.here hx rfl (hb hby d_method_4_44) rfl rfl ?_
          show Steps p.tables e below (T37.setTop (mkF m 45 #[.val (.int px), .val (.int (px &&& (3 : Int32))), .unset] [(.ref b37), (.ref b37)])) _
          refine XS.iconst X37.here hx rfl (hb hby d_method_4_45) ?_
          show Steps p.tables e below (T37.setTop (mkF m 46 #[.val (.int px), .val (.int (px &&& (3 : Int32))), .unset] [(.int (0 : Int32)), (.ref b37), (.ref b37)])) _
          refine XS.iloadN X37.here hx rfl (hb hby d_method_4_46) rfl ?_
          show Steps p.tables e below (T37.setTop (mkF m 47 #[.val (.int px), .val (.int (px &&& (3 : Int32))), .unset] [(.int px), (.int (0 : Int32)), (.ref b37), (.ref b37)])) _
          refine XS.iconst X37.here hx rfl (hb hby d_method_4_47) ?_
          show Steps p.tables e below (T37.setTop (mkF m 48 #[.val (.int px), .val (.int (px &&& (3 : Int32))), .unset] [(.int (0 : Int32)), (.int px), (.int (0 : Int32)), (.ref b37), (.ref b37)])) _
          exact q
        obtain ⟨_, _, ⟨T40, L40, kk40, n40⟩, -, X40, ⟨Lc40, hQ40, l40, y40, z40⟩, st40⟩ := Jvm.LawKit.callS X37 hx (y := (⟨"com/example/triplewright/triplewright/source/ElementNameMatchesPinLaw", "ch", "(II)C"⟩ : MethodName)) hown (mvT hZ (hw _ (List.mem_of_getElem? (i := 30) rfl))) (mvT hZ (hw _ (List.mem_of_getElem? (i := 31) rfl))) (mvT hZ (hw _ (List.mem_of_getElem? (i := 3) rfl))) (mvT hZ (hw _ (List.mem_of_getElem? (i := 32) rfl))) (by decide) (backOf (W := 3) (rmK l Z a0 hw [] px (0 : Int32) h37 n0 Zn) hZ (hw _ (List.mem_of_getElem? (i := 32) rfl)) (hw _ (List.mem_of_getElem? (i := 3) rfl)) (by decide) (by decide)) (g := (mkF m 48 #[.val (.int px), .val (.int (px &&& (3 : Int32))), .unset] [(.int (0 : Int32)), (.int px), (.int (0 : Int32)), (.ref b37), (.ref b37)])) rfl (by rw [hml]; rfl) (argsL := [(.int px), (.int (0 : Int32))]) (rest := [(.int (0 : Int32)), (.ref b37), (.ref b37)]) (lenOf pd_90414 rfl) rfl (by show 2 * 0 + _ ≤ _; exact Nat.le_of_eq rfl) (hb hby d_method_4_48) (fun _ _ => ⟨rfl, e37, (by decide : 0 + 0 + 1 + 0 ≤ _), (by decide : 0 + 0 + 2 + 0 ≤ _)⟩)
        dsimp only [Pt.U, Pt.locs, Pt.cells, Pt.slots] at X40 l40 y40 z40 st40 hQ40
        rw [l40, y40, z40] at X40
        obtain ⟨rfl, Nq40, hq40⟩ := hQ40
        have N40 := Fr.app N2 Nq40
        have k41_ : ∀ t, Steps p.tables e below (T40.setTop (mkF m 51 #[.val (.int px), .val (.int (px &&& (3 : Int32))), .unset] [(.int (own_ch px (0 : Int32))), (.int (0 : Int32)), (.ref b37), (.ref b37)])) t → Steps p.tables e below (s₁.setTop (mkF m 0 #[.val (.int px), .unset, .unset] [])) t := fun t q => k39_ t (st40 t q)
        obtain ⟨cl42, Ar42, q42, S42, M42, H42, G42⟩ := V_b37
        obtain ⟨T43, h43, X43, e43, W43, st43⟩ := stC X40 hx hZ hq40 Ar42 (j := (0 : Int32)) (inb_of S42 ⟨by decide, by decide⟩) (g := (mkF m 51 #[.val (.int px), .val (.int (px &&& (3 : Int32))), .unset] [(.int (own_ch px (0 : Int32))), (.int (0 : Int32)), (.ref b37), (.ref b37)])) rfl rfl (hb hby d_method_4_51)
        have k44_ : ∀ t, Steps p.tables e below (T43.setTop (mkF m 52 #[.val (.int px), .val (.int (px &&& (3 : Int32))), .unset] [(.ref b37)])) t → Steps p.tables e below (s₁.setTop (mkF m 0 #[.val (.int px), .unset, .unset] [])) t := fun t q => k41_ t (st43 t q)
        have N43 := Fr.snoc X43 N40 g_b37
        rw [own_n8] at W43
        replace Zn := Nat.le_trans Zn (Keep.of_wr W43).1
        replace hk := Nat.le_trans hk (Keep.of_wr W43).1
        have V_b37 : Arv Z h43 b37 c37 .char (2 : Int32) [(.int (own_ch px (0 : Int32))), (.int (0 : Int32))] (.int (0 : Int32)) := Arv.set Ar42 q42 S42 M42 H42 G42 (by have q := fits_nar_char (own_ch px (0 : Int32)); rw [own_n8] at q; exact q) W43 0 rfl (Nat.le_of_ble_eq_true rfl)
        replace KP := KP.wr W43 (Or.inr z_b37)
        replace X00 := X00.wr W43 g_b37
        replace hCH := hCH.trans (CHr.wr W43 (Safe.arr (hZ.alike) Ar42 (fun h => by cases h)) hCH.1)
        have k45_ : ∀ t, Steps p.tables e below (T43.setTop (mkF m 56 #[.val (.int px), .val (.int (px &&& (3 : Int32))), .unset] [(.int (1 : Int32)), (.int px), (.int (1 : Int32)), (.ref b37), (.ref b37)])) t → Steps p.tables e below (s₁.setTop (mkF m 0 #[.val (.int px), .unset, .unset] [])) t := by
          intro t q
          refine k44_ _ ?_
          show Steps p.tables e below (T43.setTop (mkF m 52 #[.val (.int px), .val (.int (px &&& (3 : Int32))), .unset] [(.ref b37)])) _
          refine XS.dup X43.here hx rfl (hb hby d_method_4_52) rfl rfl ?_
          show Steps p.tables e below (T43.setTop (mkF m 53 #[.val (.int px), .val (.int (px &&& (3 : Int32))), .unset] [(.ref b37), (.ref b37)])) _
          refine XS.iconst X43.here hx rfl (hb hby d_method_4_53) ?_
          show Steps p.tables e below (T43.setTop (mkF m 54 #[.val (.int px), .val (.int (px &&& (3 : Int32))), .unset] [(.int (1 : Int32)), (.ref b37), (.ref b37)])) _
          refine XS.iloadN X43.here hx rfl (hb hby d_method_4_54) rfl ?_
          show Steps p.tables e below (T43.setTop (mkF m 55 #[.val (.int px), .val (.int (px &&& (3 : Int32))), .unset] [(.int px), (.int (1 : Int32)), (.ref b37), (.ref b37)])) _
          refine XS.iconst X43.here hx rfl (hb hby d_method_4_55) ?_
          show Steps p.tables e below (T43.setTop (mkF m 56 #[.val (.int px), .val (.int (px &&& (3 : Int32))), .unset] [(.int (1 : Int32)), (.int px), (.int (1 : Int32)), (.ref b37), (.ref b37)])) _
          exact q
        obtain ⟨_, _, ⟨T46, L46, kk46, n46⟩, -, X46, ⟨Lc46, hQ46, l46, y46, z46⟩, st46⟩ := Jvm.LawKit.callS X43 hx (y := (⟨"com/example/triplewright/triplewright/source/ElementNameMatchesPinLaw", "ch", "(II)C"⟩ : MethodName)) hown (mvT hZ (hw _ (List.mem_of_getElem? (i := 30) rfl))) (mvT hZ (hw _ (List.mem_of_getElem? (i := 31) rfl))) (mvT hZ (hw _ (List.mem_of_getElem? (i := 3) rfl))) (mvT hZ (hw _ (List.mem_of_getElem? (i := 32) rfl))) (by decide) (backOf (W := 3) (rmK l Z a0 hw [] px (1 : Int32) h43 n0 Zn) hZ (hw _ (List.mem_of_getElem? (i := 32) rfl)) (hw _ (List.mem_of_getElem? (i := 3) rfl)) (by decide) (by decide)) (g := (mkF m 56 #[.val (.int px), .val (.int (px &&& (3 : Int32))), .unset] [(.int (1 : Int32)), (.int px), (.int (1 : Int32)), (.ref b37), (.ref b37)])) rfl (by rw [hml]; rfl) (argsL := [(.int px), (.int (1 : Int32))]) (rest := [(.int (1 : Int32)), (.ref b37), (.ref b37)]) (lenOf pd_90414 rfl) rfl (by show 2 * 0 + _ ≤ _; exact Nat.le_of_eq rfl) (hb hby d_method_4_56) (fun _ _ => ⟨rfl, e43, (by decide : 0 + 0 + 1 + 0 + 0 ≤ _), (by decide : 0 + 0 + 2 + 0 + 0 ≤ _)⟩)
        dsimp only [Pt.U, Pt.locs, Pt.cells, Pt.slots] at X46 l46 y46 z46 st46 hQ46
        rw [l46, y46, z46] at X46
        obtain ⟨rfl, Nq46, hq46⟩ := hQ46
        have N46 := Fr.app N43 Nq46
        have k47_ : ∀ t, Steps p.tables e below (T46.setTop (mkF m 59 #[.val (.int px), .val (.int (px &&& (3 : Int32))), .unset] [(.int (own_ch px (1 : Int32))), (.int (1 : Int32)), (.ref b37), (.ref b37)])) t → Steps p.tables e below (s₁.setTop (mkF m 0 #[.val (.int px), .unset, .unset] [])) t := fun t q => k45_ t (st46 t q)
        obtain ⟨cl48, Ar48, q48, S48, M48, H48, G48⟩ := V_b37
        obtain ⟨T49, h49, X49, e49, W49, st49⟩ := stC X46 hx hZ hq46 Ar48 (j := (1 : Int32)) (inb_of S48 ⟨by decide, by decide⟩) (g := (mkF m 59 #[.val (.int px), .val (.int (px &&& (3 : Int32))), .unset] [(.int (own_ch px (1 : Int32))), (.int (1 : Int32)), (.ref b37), (.ref b37)])) rfl rfl (hb hby d_method_4_59)
        have k50_ : ∀ t, Steps p.tables e below (T49.setTop (mkF m 60 #[.val (.int px), .val (.int (px &&& (3 : Int32))), .unset] [(.ref b37)])) t → Steps p.tables e below (s₁.setTop (mkF m 0 #[.val (.int px), .unset, .unset] [])) t := fun t q => k47_ t (st49 t q)
        have N49 := Fr.snoc X49 N46 g_b37
        rw [own_n8] at W49
        replace Zn := Nat.le_trans Zn (Keep.of_wr W49).1
        replace hk := Nat.le_trans hk (Keep.of_wr W49).1
        have V_b37 : Arv Z h49 b37 c37 .char (2 : Int32) [(.int (own_ch px (0 : Int32))), (.int (own_ch px (1 : Int32)))] (.int (0 : Int32)) := Arv.set Ar48 q48 S48 M48 H48 G48 (by have q := fits_nar_char (own_ch px (1 : Int32)); rw [own_n8] at q; exact q) W49 1 rfl (Nat.le_of_ble_eq_true rfl)
        replace KP := KP.wr W49 (Or.inr z_b37)
        replace X00 := X00.wr W49 g_b37
        replace hCH := hCH.trans (CHr.wr W49 (Safe.arr (hZ.alike) Ar48 (fun h => by cases h)) hCH.1)
        have k51_ : ∀ t, Steps p.tables e below (T49.setTop (mkF m 92 #[.val (.int px), .val (.int (px &&& (3 : Int32))), .val (.ref b37)] [])) t → Steps p.tables e below (s₁.setTop (mkF m 0 #[.val (.int px), .unset, .unset] [])) t := by
          intro t q
          refine k50_ _ ?_
          show Steps p.tables e below (T49.setTop (mkF m 60 #[.val (.int px), .val (.int (px &&& (3 : Int32))), .unset] [(.ref b37)])) _
          refine XS.astoreN X49.here hx rfl (hb hby d_method_4_60) rfl rfl (l' := #[.val (.int px), .val (.int (px &&& (3 : Int32))), .val (.ref b37)]) rfl ?_
          show Steps p.tables e below (T49.setTop (mkF m 61 #[.val (.int px), .val (.int (px &&& (3 : Int32))), .val (.ref b37)] [])) _
          refine XS.goto X49.here hx rfl (pc0 := 61) (pc' := 92) rfl (hb hby d_method_4_61) (by decide) (by decide) ?_
          show Steps p.tables e below (T49.setTop (mkF m 92 #[.val (.int px), .val (.int (px &&& (3 : Int32))), .val (.ref b37)] [])) _
          exact q
        obtain ⟨T52, h52, X52, e52, E52, A52, D52, -, st52⟩ := newO X49 hx hZ hown (hw _ (List.mem_of_getElem? (i := 9) rfl)) (hw _ (List.mem_of_getElem? (i := 10) rfl)) (hw _ (List.mem_of_getElem? (i := 11) rfl)) e49 (g := (mkF m 92 #[.val (.int px), .val (.int (px &&& (3 : Int32))), .val (.ref b37)] [])) rfl (hb hby d_method_4_92) (by decide) (by decide)
        obtain ⟨b52, g52⟩ : ∃ z, z = h49.size := ⟨_, rfl⟩
        rw [← g52] at A52 D52 st52
        have k53_ : ∀ t, Steps p.tables e below (T52.setTop (mkF m 95 #[.val (.int px), .val (.int (px &&& (3 : Int32))), .val (.ref b37)] [(.ref b52)])) t → Steps p.tables e below (s₁.setTop (mkF m 0 #[.val (.int px), .unset, .unset] [])) t := fun t q => k51_ t (st52 t q)
        have ne_b37_b52 : b37 ≠ b52 := Nat.ne_of_lt (Nat.lt_of_lt_of_le V_b37.lt (Nat.le_of_eq g52.symm))
        have g_b52 : n0 ≤ b52 := Nat.le_trans Zn (Nat.le_of_eq g52.symm)
        replace Zn := Nat.le_trans Zn E52.1
        replace hk := Nat.le_trans hk E52.1
        replace V_b37 := V_b37.ext E52
        have z_b52 : h0.size ≤ b52 := by rw [g52]; exact KP.1
        replace KP := KP.ext E52
        replace X00 := X00.ext E52
        replace hCH := hCH.trans (CHr.ext E52 hCH.1)
        have Vs : Fld Z h52 b52 "java/lang/String" "value" "[B" .null := D52 (Or.inr (hw _ (List.mem_of_getElem? (i := 24) rfl))) (ty := (.array .byte)) (by decide)
        have Cs : Fld Z h52 b52 "java/lang/String" "coder" "B" (.int (0 : Int32)) := D52 (Or.inr (hw _ (List.mem_of_getElem? (i := 25) rfl))) (ty := .byte) (by decide)
        have k54_ : ∀ t, Steps p.tables e below (T52.setTop (mkF m 97 #[.val (.int px), .val (.int (px &&& (3 : Int32))), .val (.ref b37)] [(.ref b37), (.ref b52), (.ref b52)])) t → Steps p.tables e below (s₁.setTop (mkF m 0 #[.val (.int px), .unset, .unset] [])) t := by
          intro t q
          refine k53_ _ ?_
          show Steps p.tables e below (T52.setTop (mkF m 95 #[.val (.int px), .val (.int (px &&& (3 : Int32))), .val (.ref b37)] [(.ref b52)])) _
          refine XS.dup X52.here hx rfl (hb hby d_method_4_95) rfl rfl ?_
          show Steps p.tables e below (T52.setTop (mkF m 96 #[.val (.int px), .val (.int (px &&& (3 : Int32))), .val (.ref b37)] [(.ref b52), (.ref b52)])) _
          refine XS.aloadN X52.here hx rfl (hb hby d_method_4_96) rfl rfl ?_
          show Steps p.tables e below (T52.setTop (mkF m 97 #[.val (.int px), .val (.int (px &&& (3 : Int32))), .val (.ref b37)] [(.ref b37), (.ref b52), (.ref b52)])) _
          exact q
        have hp : ∀ c ∈ ([own_ch px (0 : Int32), own_ch px (1 : Int32)] : List Int32), ¬ c < 0 ∧ ¬ (255 : Int32) < c := fun c hc => own_cs_r px c (by rw [own_cs2 hn2]; exact hc)
        have V0 : Arv Z h52 b37 c37 .char (2 : Int32) (([own_ch px (0 : Int32), own_ch px (1 : Int32)] : List Int32).map Value.int) (.int (0 : Int32)) := V_b37
        obtain ⟨_, _, ⟨T55, L55, kk55, n55⟩, -, X55, ⟨Lc55, hQ55, l55, y55, z55⟩, st55⟩ := X52.specialBack hx (y := (⟨"java/lang/String", "<init>", "([C)V"⟩ : MethodName)) rfl hown (mvT hZ (hw _ (List.mem_of_getElem? (i := 12) rfl))) (mvT hZ (hw _ (List.mem_of_getElem? (i := 13) rfl))) (mvT hZ (hw _ (List.mem_of_getElem? (i := 14) rfl))) (by decide) (StrChars.Road.backV (W := 1) hZ hws (kI := 4) (hw _ (List.mem_of_getElem? (i := 10) rfl)) (cs := ([own_ch px (0 : Int32), own_ch px (1 : Int32)] : List Int32)) (bs := ([own_ch px (0 : Int32), own_ch px (1 : Int32)] : List Int32).map (fun c => c.toInt8.toInt32)) (n := 2) g_b52 Zn A52 Vs Cs V0 (O2.ext X00.2) hzc rfl rfl (by decide) (by decide) hp rfl (by decide) (by decide)) (g := (mkF m 97 #[.val (.int px), .val (.int (px &&& (3 : Int32))), .val (.ref b37)] [(.ref b37), (.ref b52), (.ref b52)])) rfl (by rw [hml]; rfl) (Steps.refl _) (a := b52) (argsL := [(.ref b37)]) (rest := [(.ref b52)]) (lenOf pd_20902 rfl) rfl (by show 2 * 0 + _ ≤ _; exact Nat.le_of_eq rfl) (hb hby d_method_4_97) (fun _ _ => ⟨rfl, e52, (by decide : 0 + 0 + 1 + 0 + 0 + 1 + 1 ≤ _), (by decide : 0 + 0 + 2 + 0 + 0 + 4 + 2 ≤ _)⟩)
        dsimp only [Pt.U, Pt.locs, Pt.cells, Pt.slots] at X55 l55 y55 z55 st55 hQ55
        rw [l55, y55, z55] at X55
        obtain ⟨rfl, Nq55, KI, EI, CI, tt, kb, -, -, -, VI, AI⟩ := hQ55
        have N55 := Fr.app N49 Nq55
        have k56_ : ∀ t, Steps p.tables e below (T55.setTop (mkF m 100 #[.val (.int px), .val (.int (px &&& (3 : Int32))), .val (.ref b37)] [(.ref b52)])) t → Steps p.tables e below (s₁.setTop (mkF m 0 #[.val (.int px), .unset, .unset] [])) t := fun t q => k54_ t (st55.trans q)
        replace hk := Nat.le_trans hk KI.1
        have SV : Safe Z own_EL s.vm h52 b52 := own_safe (hZ.alike) A52 Vs
        replace hCH := hCH.trans (CHr.keep KI (sfS SV sf0) hCH.1)
        replace KP := KP.trans KI (fun y hy => Or.inr (by cases List.mem_singleton.mp hy; exact z_b52))
        obtain ⟨fs, hr, hrun, hended, r1, r2, r3, r4⟩ := Stand.leaveW (s := s) (vm₁ := s.vm) X55 hS hk (v := some (.ref b52)) (fun h => by rw [Bd.returns] at h; cases h)
        refine ⟨_, _, pre0 _ (k56_ _ ?_), hrun, hended, _, _, rfl, ?_, ?_, r1, r2, r3, r4.mono (by decide) (by decide)⟩
        · show Steps p.tables e below (T55.setTop (mkF m 100 #[.val (.int px), .val (.int (px &&& (3 : Int32))), .val (.ref b37)] [(.ref b52)])) _
          jvm_step X55.here [X55.here.top, hx, (hb hby d_method_4_100), X55.method', Bd.returns, Value.isRef, FieldType.isReference]
          first | (intro acts; rw [hr _ acts rfl rfl rfl]) | rw [hr _ _ rfl rfl rfl]
          exact Steps.refl _
        · show QM Z px zc h0 n0 _ T55.heap _
          exact ⟨b52, rfl, N55, KP, by rw [own_cs2 hn2]; exact ⟨EI, CI, tt, kb, VI, AI⟩⟩
        · show CHr Z own_EL s.vm s.heap T55.vm T55.heap
          rw [hh]
          exact hCH.trans (CHv.at (s := s) X55 hZ hEL hCH.1)
      · have k57_ : ∀ t, Steps p.tables e below (T2.setTop (mkF m 64 #[.val (.int px), .val (.int (px &&& (3 : Int32))), .unset] [])) t → Steps p.tables e below (s₁.setTop (mkF m 0 #[.val (.int px), .unset, .unset] [])) t := by
          intro t q
          refine k34_ _ ?_
          show Steps p.tables e below (T2.setTop (mkF m 38 #[.val (.int px), .val (.int (px &&& (3 : Int32))), .unset] [(.int (2 : Int32)), (.int (px &&& (3 : Int32)))])) _
          refine XS.icmpYes X2.here hx rfl (pc0 := 38) (pc' := 64) rfl (hb hby d_method_4_38) rfl (feq hn2).2 (by decide) (by decide) ?_
          show Steps p.tables e below (T2.setTop (mkF m 64 #[.val (.int px), .val (.int (px &&& (3 : Int32))), .unset] [])) _
          exact q
        have hn3 := own_ne3 hn0 hn1 hn2
        have k58_ : ∀ t, Steps p.tables e below (T2.setTop (mkF m 65 #[.val (.int px), .val (.int (px &&& (3 : Int32))), .unset] [(.int (3 : Int32))])) t → Steps p.tables e below (s₁.setTop (mkF m 0 #[.val (.int px), .unset, .unset] [])) t := by
          intro t q
          refine k57_ _ ?_
          show Steps p.tables e below (T2.setTop (mkF m 64 #[.val (.int px), .val (.int (px &&& (3 : Int32))), .unset] [])) _
          refine XS.iconst X2.here hx rfl (hb hby d_method_4_64) ?_
          show Steps p.tables e below (T2.setTop (mkF m 65 #[.val (.int px), .val (.int (px &&& (3 : Int32))), .unset] [(.int (3 : Int32))])) _
          exact q
        obtain ⟨T59, h59, c59, X59, e59, E59, A59, st59⟩ := newP X2 hx hZ (hw _ (List.mem_of_getElem? (i := 8) rfl)) hq2 (g := (mkF m 65 #[.val (.int px), .val (.int (px &&& (3 : Int32))), .unset] [(.int (3 : Int32))])) rfl (hb hby d_method_4_65) rfl (by decide) (cap := 3) (by decide) (by decide) (by decide) (by decide)
        obtain ⟨b59, g59⟩ : ∃ z, z = h0.size := ⟨_, rfl⟩
        rw [← g59] at A59 st59
        have k60_ : ∀ t, Steps p.tables e below (T59.setTop (mkF m 67 #[.val (.int px), .val (.int (px &&& (3 : Int32))), .unset] [(.ref b59)])) t → Steps p.tables e below (s₁.setTop (mkF m 0 #[.val (.int px), .unset, .unset] [])) t := fun t q => k58_ t (st59 t q)
        have g_b59 : n0 ≤ b59 := Nat.le_trans Zn (Nat.le_of_eq g59.symm)
        replace Zn := Nat.le_trans Zn E59.1
        replace hk := Nat.le_trans hk E59.1
        have V_b59 : Arv Z h59 b59 c59 .char (3 : Int32) [(.int (0 : Int32)), (.int (0 : Int32)), (.int (0 : Int32))] (.int (0 : Int32)) := (Arv.new A59 (by decide)).pad (pad_rep [] (.int (0 : Int32)) 3)
        have z_b59 : h0.size ≤ b59 := by rw [g59]; exact KP.1
        replace KP := KP.ext E59
        replace X00 := X00.ext E59
        replace hCH := hCH.trans (CHr.ext E59 hCH.1)
        have k61_ : ∀ t, Steps p.tables e below (T59.setTop (mkF m 71 #[.val (.int px), .val (.int (px &&& (3 : Int32))), .unset] [(.int (0 : Int32)), (.int px), (.int (0 : Int32)), (.ref b59), (.ref b59)])) t → Steps p.tables e below (s₁.setTop (mkF m 0 #[.val (.int px), .unset, .unset] [])) t := by
          intro t q
          refine k60_ _ ?_
          show Steps p.tables e below (T59.setTop (mkF m 67 #[.val (.int px), .val (.int (px &&& (3 : Int32))), .unset] [(.ref b59)])) _
          refine XS.dup X59.here hx rfl (hb hby d_method_4_67) rfl rfl ?_
          show Steps p.tables e below (T59.setTop (mkF m 68 #[.val (.int px), .val (.int (px &&& (3 : Int32))), .unset] [(.ref b59), (.ref b59)])) _
          refine XS.iconst X59.here hx rfl (hb hby d_method_4_68) ?_
          show Steps p.tables e below (T59.setTop (mkF m 69 #[.val (.int px), .val (.int (px &&& (3 : Int32))), .unset] [(.int (0 : Int32)), (.ref b59), (.ref b59)])) _
          refine XS.iloadN X59.here hx rfl (hb hby d_method_4_69) rfl ?_
          show Steps p.tables e below (T59.setTop (mkF m 70 #[.val (.int px), .val (.int (px &&& (3 : Int32))), .unset] [(.int px), (.int (0 : Int32)), (.ref b59), (.ref b59)])) _
          refine XS.iconst X59.here hx rfl (hb hby d_method_4_70) ?_
          show Steps p.tables e below (T59.setTop (mkF m 71 #[.val (.int px), .val (.int (px &&& (3 : Int32))), .unset] [(.int (0 : Int32)), (.int px), (.int (0 : Int32)), (.ref b59), (.ref b59)])) _
          exact q
        obtain ⟨_, _, ⟨T62, L62, kk62, n62⟩, -, X62, ⟨Lc62, hQ62, l62, y62, z62⟩, st62⟩ := Jvm.LawKit.callS X59 hx (y := (⟨"com/example/triplewright/triplewright/source/ElementNameMatchesPinLaw", "ch", "(II)C"⟩ : MethodName)) hown (mvT hZ (hw _ (List.mem_of_getElem? (i := 30) rfl))) (mvT hZ (hw _ (List.mem_of_getElem? (i := 31) rfl))) (mvT hZ (hw _ (List.mem_of_getElem? (i := 3) rfl))) (mvT hZ (hw _ (List.mem_of_getElem? (i := 32) rfl))) (by decide) (backOf (W := 3) (rmK l Z a0 hw [] px (0 : Int32) h59 n0 Zn) hZ (hw _ (List.mem_of_getElem? (i := 32) rfl)) (hw _ (List.mem_of_getElem? (i := 3) rfl)) (by decide) (by decide)) (g := (mkF m 71 #[.val (.int px), .val (.int (px &&& (3 : Int32))), .unset] [(.int (0 : Int32)), (.int px), (.int (0 : Int32)), (.ref b59), (.ref b59)])) rfl (by rw [hml]; rfl) (argsL := [(.int px), (.int (0 : Int32))]) (rest := [(.int (0 : Int32)), (.ref b59), (.ref b59)]) (lenOf pd_90414 rfl) rfl (by show 2 * 0 + _ ≤ _; exact Nat.le_of_eq rfl) (hb hby d_method_4_71) (fun _ _ => ⟨rfl, e59, (by decide : 0 + 0 + 1 + 0 ≤ _), (by decide : 0 + 0 + 3 + 0 ≤ _)⟩)
        dsimp only [Pt.U, Pt.locs, Pt.cells, Pt.slots] at X62 l62 y62 z62 st62 hQ62
        rw [l62, y62, z62] at X62
        obtain ⟨rfl, Nq62, hq62⟩ := hQ62
        have N62 := Fr.app N2 Nq62
        have k63_ : ∀ t, Steps p.tables e below (T62.setTop (mkF m 74 #[.val (.int px), .val (.int (px &&& (3 : Int32))), .unset] [(.int (own_ch px (0 : Int32))), (.int (0 : Int32)), (.ref b59), (.ref b59)])) t → Steps p.tables e below (s₁.setTop (mkF m 0 #[.val (.int px), .unset, .unset] [])) t := fun t q => k61_ t (st62 t q)
        obtain ⟨cl64, Ar64, q64, S64, M64, H64, G64⟩ := V_b59
        obtain ⟨T65, h65, X65, e65, W65, st65⟩ := stC X62 hx hZ hq62 Ar64 (j := (0 : Int32)) (inb_of S64 ⟨by decide, by decide⟩) (g := (mkF m 74 #[.val (.int px), .val (.int (px &&& (3 : Int32))), .unset] [(.int (own_ch px (0 : Int32))), (.int (0 : Int32)), (.ref b59), (.ref b59)])) rfl rfl (hb hby d_method_4_74)
        have k66_ : ∀ t, Steps p.tables e below (T65.setTop (mkF m 75 #[.val (.int px), .val (.int (px &&& (3 : Int32))), .unset] [(.ref b59)])) t → Steps p.tables e below (s₁.setTop (mkF m 0 #[.val (.int px), .unset, .unset] [])) t := fun t q => k63_ t (st65 t q)
        have N65 := Fr.snoc X65 N62 g_b59
        rw [own_n8] at W65
        replace Zn := Nat.le_trans Zn (Keep.of_wr W65).1
        replace hk := Nat.le_trans hk (Keep.of_wr W65).1
        have V_b59 : Arv Z h65 b59 c59 .char (3 : Int32) [(.int (own_ch px (0 : Int32))), (.int (0 : Int32)), (.int (0 : Int32))] (.int (0 : Int32)) := Arv.set Ar64 q64 S64 M64 H64 G64 (by have q := fits_nar_char (own_ch px (0 : Int32)); rw [own_n8] at q; exact q) W65 0 rfl (Nat.le_of_ble_eq_true rfl)
        replace KP := KP.wr W65 (Or.inr z_b59)
        replace X00 := X00.wr W65 g_b59
        replace hCH := hCH.trans (CHr.wr W65 (Safe.arr (hZ.alike) Ar64 (fun h => by cases h)) hCH.1)
        have k67_ : ∀ t, Steps p.tables e below (T65.setTop (mkF m 79 #[.val (.int px), .val (.int (px &&& (3 : Int32))), .unset] [(.int (1 : Int32)), (.int px), (.int (1 : Int32)), (.ref b59), (.ref b59)])) t → Steps p.tables e below (s₁.setTop (mkF m 0 #[.val (.int px), .unset, .unset] [])) t := by
          intro t q
          refine k66_ _ ?_
          show Steps p.tables e below (T65.setTop (mkF m 75 #[.val (.int px), .val (.int (px &&& (3 : Int32))), .unset] [(.ref b59)])) _
          refine XS.dup X65.here hx rfl (hb hby d_method_4_75) rfl rfl ?_
          show Steps p.tables e below (T65.setTop (mkF m 76 #[.val (.int px), .val (.int (px &&& (3 : Int32))), .unset] [(.ref b59), (.ref b59)])) _
          refine XS.iconst X65.here hx rfl (hb hby d_method_4_76) ?_
          show Steps p.tables e below (T65.setTop (mkF m 77 #[.val (.int px), .val (.int (px &&& (3 : Int32))), .unset] [(.int (1 : Int32)), (.ref b59), (.ref b59)])) _
          refine XS.iloadN X65.here hx rfl (hb hby d_method_4_77) rfl ?_
          show Steps p.tables e below (T65.setTop (mkF m 78 #[.val (.int px), .val (.int (px &&& (3 : Int32))), .unset] [(.int px), (.int (1 : Int32)), (.ref b59), (.ref b59)])) _
          refine XS.iconst X65.here hx rfl (hb hby d_method_4_78) ?_
          show Steps p.tables e below (T65.setTop (mkF m 79 #[.val (.int px), .val (.int (px &&& (3 : Int32))), .unset] [(.int (1 : Int32)), (.int px), (.int (1 : Int32)), (.ref b59), (.ref b59)])) _
          exact q
        obtain ⟨_, _, ⟨T68, L68, kk68, n68⟩, -, X68, ⟨Lc68, hQ68, l68, y68, z68⟩, st68⟩ := Jvm.LawKit.callS X65 hx (y := (⟨"com/example/triplewright/triplewright/source/ElementNameMatchesPinLaw", "ch", "(II)C"⟩ : MethodName)) hown (mvT hZ (hw _ (List.mem_of_getElem? (i := 30) rfl))) (mvT hZ (hw _ (List.mem_of_getElem? (i := 31) rfl))) (mvT hZ (hw _ (List.mem_of_getElem? (i := 3) rfl))) (mvT hZ (hw _ (List.mem_of_getElem? (i := 32) rfl))) (by decide) (backOf (W := 3) (rmK l Z a0 hw [] px (1 : Int32) h65 n0 Zn) hZ (hw _ (List.mem_of_getElem? (i := 32) rfl)) (hw _ (List.mem_of_getElem? (i := 3) rfl)) (by decide) (by decide)) (g := (mkF m 79 #[.val (.int px), .val (.int (px &&& (3 : Int32))), .unset] [(.int (1 : Int32)), (.int px), (.int (1 : Int32)), (.ref b59), (.ref b59)])) rfl (by rw [hml]; rfl) (argsL := [(.int px), (.int (1 : Int32))]) (rest := [(.int (1 : Int32)), (.ref b59), (.ref b59)]) (lenOf pd_90414 rfl) rfl (by show 2 * 0 + _ ≤ _; exact Nat.le_of_eq rfl) (hb hby d_method_4_79) (fun _ _ => ⟨rfl, e65, (by decide : 0 + 0 + 1 + 0 + 0 ≤ _), (by decide : 0 + 0 + 3 + 0 + 0 ≤ _)⟩)
        dsimp only [Pt.U, Pt.locs, Pt.cells, Pt.slots] at X68 l68 y68 z68 st68 hQ68
        rw [l68, y68, z68] at X68
        obtain ⟨rfl, Nq68, hq68⟩ := hQ68
        have N68 := Fr.app N65 Nq68
        have k69_ : ∀ t, Steps p.tables e below (T68.setTop (mkF m 82 #[.val (.int px), .val (.int (px &&& (3 : Int32))), .unset] [(.int (own_ch px (1 : Int32))), (.int (1 : Int32)), (.ref b59), (.ref b59)])) t → Steps p.tables e below (s₁.setTop (mkF m 0 #[.val (.int px), .unset, .unset] [])) t := fun t q => k67_ t (st68 t q)
        obtain ⟨cl70, Ar70, q70, S70, M70, H70, G70⟩ := V_b59
        obtain ⟨T71, h71, X71, e71, W71, st71⟩ := stC X68 hx hZ hq68 Ar70 (j := (1 : Int32)) (inb_of S70 ⟨by decide, by decide⟩) (g := (mkF m 82 #[.val (.int px), .val (.int (px &&& (3 : Int32))), .unset] [(.int (own_ch px (1 : Int32))), (.int (1 : Int32)), (.ref b59), (.ref b59)])) rfl rfl (hb hby d_method_4_82)
        have k72_ : ∀ t, Steps p.tables e below (T71.setTop (mkF m 83 #[.val (.int px), .val (.int (px &&& (3 : Int32))), .unset] [(.ref b59)])) t → Steps p.tables e below (s₁.setTop (mkF m 0 #[.val (.int px), .unset, .unset] [])) t := fun t q => k69_ t (st71 t q)
        have N71 := Fr.snoc X71 N68 g_b59
        rw [own_n8] at W71
        replace Zn := Nat.le_trans Zn (Keep.of_wr W71).1
        replace hk := Nat.le_trans hk (Keep.of_wr W71).1
        have V_b59 : Arv Z h71 b59 c59 .char (3 : Int32) [(.int (own_ch px (0 : Int32))), (.int (own_ch px (1 : Int32))), (.int (0 : Int32))] (.int (0 : Int32)) := Arv.set Ar70 q70 S70 M70 H70 G70 (by have q := fits_nar_char (own_ch px (1 : Int32)); rw [own_n8] at q; exact q) W71 1 rfl (Nat.le_of_ble_eq_true rfl)
        replace KP := KP.wr W71 (Or.inr z_b59)
        replace X00 := X00.wr W71 g_b59
        replace hCH := hCH.trans (CHr.wr W71 (Safe.arr (hZ.alike) Ar70 (fun h => by cases h)) hCH.1)
        have k73_ : ∀ t, Steps p.tables e below (T71.setTop (mkF m 87 #[.val (.int px), .val (.int (px &&& (3 : Int32))), .unset] [(.int (2 : Int32)), (.int px), (.int (2 : Int32)), (.ref b59), (.ref b59)])) t → Steps p.tables e below (s₁.setTop (mkF m 0 #[.val (.int px), .unset, .unset] [])) t := by
          intro t q
          refine k72_ _ ?_
          show Steps p.tables e below (T71.setTop (mkF m 83 #[.val (.int px), .val (.int (px &&& (3 : Int32))), .unset] [(.ref b59)])) _
          refine XS.dup X71.here hx rfl (hb hby d_method_4_83) rfl rfl ?_
          show Steps p.tables e below (T71.setTop (mkF m 84 #[.val (.int px), .val (.int (px &&& (3 : Int32))), .unset] [(.ref b59), (.ref b59)])) _
          refine XS.iconst X71.here hx rfl (hb hby d_method_4_84) ?_
          show Steps p.tables e below (T71.setTop (mkF m 85 #[.val (.int px), .val (.int (px &&& (3 : Int32))), .unset] [(.int (2 : Int32)), (.ref b59), (.ref b59)])) _
          refine XS.iloadN X71.here hx rfl (hb hby d_method_4_85) rfl ?_
          show Steps p.tables e below (T71.setTop (mkF m 86 #[.val (.int px), .val (.int (px &&& (3 : Int32))), .unset] [(.int px), (.int (2 : Int32)), (.ref b59), (.ref b59)])) _
          refine XS.iconst X71.here hx rfl (hb hby d_method_4_86) ?_
          show Steps p.tables e below (T71.setTop (mkF m 87 #[.val (.int px), .val (.int (px &&& (3 : Int32))), .unset] [(.int (2 : Int32)), (.int px), (.int (2 : Int32)), (.ref b59), (.ref b59)])) _
          exact q
        obtain ⟨_, _, ⟨T74, L74, kk74, n74⟩, -, X74, ⟨Lc74, hQ74, l74, y74, z74⟩, st74⟩ := Jvm.LawKit.callS X71 hx (y := (⟨"com/example/triplewright/triplewright/source/ElementNameMatchesPinLaw", "ch", "(II)C"⟩ : MethodName)) hown (mvT hZ (hw _ (List.mem_of_getElem? (i := 30) rfl))) (mvT hZ (hw _ (List.mem_of_getElem? (i := 31) rfl))) (mvT hZ (hw _ (List.mem_of_getElem? (i := 3) rfl))) (mvT hZ (hw _ (List.mem_of_getElem? (i := 32) rfl))) (by decide) (backOf (W := 3) (rmK l Z a0 hw [] px (2 : Int32) h71 n0 Zn) hZ (hw _ (List.mem_of_getElem? (i := 32) rfl)) (hw _ (List.mem_of_getElem? (i := 3) rfl)) (by decide) (by decide)) (g := (mkF m 87 #[.val (.int px), .val (.int (px &&& (3 : Int32))), .unset] [(.int (2 : Int32)), (.int px), (.int (2 : Int32)), (.ref b59), (.ref b59)])) rfl (by rw [hml]; rfl) (argsL := [(.int px), (.int (2 : Int32))]) (rest := [(.int (2 : Int32)), (.ref b59), (.ref b59)]) (lenOf pd_90414 rfl) rfl (by show 2 * 0 + _ ≤ _; exact Nat.le_of_eq rfl) (hb hby d_method_4_87) (fun _ _ => ⟨rfl, e71, (by decide : 0 + 0 + 1 + 0 + 0 + 0 ≤ _), (by decide : 0 + 0 + 3 + 0 + 0 + 0 ≤ _)⟩)
        dsimp only [Pt.U, Pt.locs, Pt.cells, Pt.slots] at X74 l74 y74 z74 st74 hQ74
        rw [l74, y74, z74] at X74
        obtain ⟨rfl, Nq74, hq74⟩ := hQ74
        have N74 := Fr.app N71 Nq74
        have k75_ : ∀ t, Steps p.tables e below (T74.setTop (mkF m 90 #[.val (.int px), .val (.int (px &&& (3 : Int32))), .unset] [(.int (own_ch px (2 : Int32))), (.int (2 : Int32)), (.ref b59), (.ref b59)])) t → Steps p.tables e below (s₁.setTop (mkF m 0 #[.val (.int px), .unset, .unset] [])) t := fun t q => k73_ t (st74 t q)
        obtain ⟨cl76, Ar76, q76, S76, M76, H76, G76⟩ := V_b59
        obtain ⟨T77, h77, X77, e77, W77, st77⟩ := stC X74 hx hZ hq74 Ar76 (j := (2 : Int32)) (inb_of S76 ⟨by decide, by decide⟩) (g := (mkF m 90 #[.val (.int px), .val (.int (px &&& (3 : Int32))), .unset] [(.int (own_ch px (2 : Int32))), (.int (2 : Int32)), (.ref b59), (.ref b59)])) rfl rfl (hb hby d_method_4_90)
        have k78_ : ∀ t, Steps p.tables e below (T77.setTop (mkF m 91 #[.val (.int px), .val (.int (px &&& (3 : Int32))), .unset] [(.ref b59)])) t → Steps p.tables e below (s₁.setTop (mkF m 0 #[.val (.int px), .unset, .unset] [])) t := fun t q => k75_ t (st77 t q)
        have N77 := Fr.snoc X77 N74 g_b59
        rw [own_n8] at W77
        replace Zn := Nat.le_trans Zn (Keep.of_wr W77).1
        replace hk := Nat.le_trans hk (Keep.of_wr W77).1
        have V_b59 : Arv Z h77 b59 c59 .char (3 : Int32) [(.int (own_ch px (0 : Int32))), (.int (own_ch px (1 : Int32))), (.int (own_ch px (2 : Int32)))] (.int (0 : Int32)) := Arv.set Ar76 q76 S76 M76 H76 G76 (by have q := fits_nar_char (own_ch px (2 : Int32)); rw [own_n8] at q; exact q) W77 2 rfl (Nat.le_of_ble_eq_true rfl)
        replace KP := KP.wr W77 (Or.inr z_b59)
        replace X00 := X00.wr W77 g_b59
        replace hCH := hCH.trans (CHr.wr W77 (Safe.arr (hZ.alike) Ar76 (fun h => by cases h)) hCH.1)
        have k79_ : ∀ t, Steps p.tables e below (T77.setTop (mkF m 92 #[.val (.int px), .val (.int (px &&& (3 : Int32))), .val (.ref b59)] [])) t → Steps p.tables e below (s₁.setTop (mkF m 0 #[.val (.int px), .unset, .unset] [])) t := by
          intro t q
          refine k78_ _ ?_
          show Steps p.tables e below (T77.setTop (mkF m 91 #[.val (.int px), .val (.int (px &&& (3 : Int32))), .unset] [(.ref b59)])) _
          refine XS.astoreN X77.here hx rfl (hb hby d_method_4_91) rfl rfl (l' := #[.val (.int px), .val (.int (px &&& (3 : Int32))), .val (.ref b59)]) rfl ?_
          show Steps p.tables e below (T77.setTop (mkF m 92 #[.val (.int px), .val (.int (px &&& (3 : Int32))), .val (.ref b59)] [])) _
          exact q
        obtain ⟨T80, h80, X80, e80, E80, A80, D80, -, st80⟩ := newO X77 hx hZ hown (hw _ (List.mem_of_getElem? (i := 9) rfl)) (hw _ (List.mem_of_getElem? (i := 10) rfl)) (hw _ (List.mem_of_getElem? (i := 11) rfl)) e77 (g := (mkF m 92 #[.val (.int px), .val (.int (px &&& (3 : Int32))), .val (.ref b59)] [])) rfl (hb hby d_method_4_92) (by decide) (by decide)
        obtain ⟨b80, g80⟩ : ∃ z, z = h77.size := ⟨_, rfl⟩
        rw [← g80] at A80 D80 st80
        have k81_ : ∀ t, Steps p.tables e below (T80.setTop (mkF m 95 #[.val (.int px), .val (.int (px &&& (3 : Int32))), .val (.ref b59)] [(.ref b80)])) t → Steps p.tables e below (s₁.setTop (mkF m 0 #[.val (.int px), .unset, .unset] [])) t := fun t q => k79_ t (st80 t q)
        have ne_b59_b80 : b59 ≠ b80 := Nat.ne_of_lt (Nat.lt_of_lt_of_le V_b59.lt (Nat.le_of_eq g80.symm))
        have g_b80 : n0 ≤ b80 := Nat.le_trans Zn (Nat.le_of_eq g80.symm)
        replace Zn := Nat.le_trans Zn E80.1
        replace hk := Nat.le_trans hk E80.1
        replace V_b59 := V_b59.ext E80
        have z_b80 : h0.size ≤ b80 := by rw [g80]; exact KP.1
        replace KP := KP.ext E80
        replace X00 := X00.ext E80
        replace hCH := hCH.trans (CHr.ext E80 hCH.1)
        have Vs : Fld Z h80 b80 "java/lang/String" "value" "[B" .null := D80 (Or.inr (hw _ (List.mem_of_getElem? (i := 24) rfl))) (ty := (.array .byte)) (by decide)
        have Cs : Fld Z h80 b80 "java/lang/String" "coder" "B" (.int (0 : Int32)) := D80 (Or.inr (hw _ (List.mem_of_getElem? (i := 25) rfl))) (ty := .byte) (by decide)
        have k82_ : ∀ t, Steps p.tables e below (T80.setTop (mkF m 97 #[.val (.int px), .val (.int (px &&& (3 : Int32))), .val (.ref b59)] [(.ref b59), (.ref b80), (.ref b80)])) t → Steps p.tables e below (s₁.setTop (mkF m 0 #[.val (.int px), .unset, .unset] [])) t := by
          intro t q
          refine k81_ _ ?_
          show Steps p.tables e below (T80.setTop (mkF m 95 #[.val (.int px), .val (.int (px &&& (3 : Int32))), .val (.ref b59)] [(.ref b80)])) _
          refine XS.dup X80.here hx rfl (hb hby d_method_4_95) rfl rfl ?_
          show Steps p.tables e below (T80.setTop (mkF m 96 #[.val (.int px), .val (.int (px &&& (3 : Int32))), .val (.ref b59)] [(.ref b80), (.ref b80)])) _
          refine XS.aloadN X80.here hx rfl (hb hby d_method_4_96) rfl rfl ?_
          show Steps p.tables e below (T80.setTop (mkF m 97 #[.val (.int px), .val (.int (px &&& (3 : Int32))), .val (.ref b59)] [(.ref b59), (.ref b80), (.ref b80)])) _
          exact q
        have hp : ∀ c ∈ ([own_ch px (0 : Int32), own_ch px (1 : Int32), own_ch px (2 : Int32)] : List Int32), ¬ c < 0 ∧ ¬ (255 : Int32) < c := fun c hc => own_cs_r px c (by rw [own_cs3 hn3]; exact hc)
        have V0 : Arv Z h80 b59 c59 .char (3 : Int32) (([own_ch px (0 : Int32), own_ch px (1 : Int32), own_ch px (2 : Int32)] : List Int32).map Value.int) (.int (0 : Int32)) := V_b59
        obtain ⟨_, _, ⟨T83, L83, kk83, n83⟩, -, X83, ⟨Lc83, hQ83, l83, y83, z83⟩, st83⟩ := X80.specialBack hx (y := (⟨"java/lang/String", "<init>", "([C)V"⟩ : MethodName)) rfl hown (mvT hZ (hw _ (List.mem_of_getElem? (i := 12) rfl))) (mvT hZ (hw _ (List.mem_of_getElem? (i := 13) rfl))) (mvT hZ (hw _ (List.mem_of_getElem? (i := 14) rfl))) (by decide) (StrChars.Road.backV (W := 1) hZ hws (kI := 4) (hw _ (List.mem_of_getElem? (i := 10) rfl)) (cs := ([own_ch px (0 : Int32), own_ch px (1 : Int32), own_ch px (2 : Int32)] : List Int32)) (bs := ([own_ch px (0 : Int32), own_ch px (1 : Int32), own_ch px (2 : Int32)] : List Int32).map (fun c => c.toInt8.toInt32)) (n := 3) g_b80 Zn A80 Vs Cs V0 (O2.ext X00.2) hzc rfl rfl (by decide) (by decide) hp rfl (by decide) (by decide)) (g := (mkF m 97 #[.val (.int px), .val (.int (px &&& (3 : Int32))), .val (.ref b59)] [(.ref b59), (.ref b80), (.ref b80)])) rfl (by rw [hml]; rfl) (Steps.refl _) (a := b80) (argsL := [(.ref b59)]) (rest := [(.ref b80)]) (lenOf pd_20902 rfl) rfl (by show 2 * 0 + _ ≤ _; exact Nat.le_of_eq rfl) (hb hby d_method_4_97) (fun _ _ => ⟨rfl, e80, (by decide : 0 + 0 + 1 + 0 + 0 + 0 + 1 + 1 ≤ _), (by decide : 0 + 0 + 3 + 0 + 0 + 0 + 4 + 3 ≤ _)⟩)
        dsimp only [Pt.U, Pt.locs, Pt.cells, Pt.slots] at X83 l83 y83 z83 st83 hQ83
        rw [l83, y83, z83] at X83
        obtain ⟨rfl, Nq83, KI, EI, CI, tt, kb, -, -, -, VI, AI⟩ := hQ83
        have N83 := Fr.app N77 Nq83
        have k84_ : ∀ t, Steps p.tables e below (T83.setTop (mkF m 100 #[.val (.int px), .val (.int (px &&& (3 : Int32))), .val (.ref b59)] [(.ref b80)])) t → Steps p.tables e below (s₁.setTop (mkF m 0 #[.val (.int px), .unset, .unset] [])) t := fun t q => k82_ t (st83.trans q)
        replace hk := Nat.le_trans hk KI.1
        have SV : Safe Z own_EL s.vm h80 b80 := own_safe (hZ.alike) A80 Vs
        replace hCH := hCH.trans (CHr.keep KI (sfS SV sf0) hCH.1)
        replace KP := KP.trans KI (fun y hy => Or.inr (by cases List.mem_singleton.mp hy; exact z_b80))
        obtain ⟨fs, hr, hrun, hended, r1, r2, r3, r4⟩ := Stand.leaveW (s := s) (vm₁ := s.vm) X83 hS hk (v := some (.ref b80)) (fun h => by rw [Bd.returns] at h; cases h)
        refine ⟨_, _, pre0 _ (k84_ _ ?_), hrun, hended, _, _, rfl, ?_, ?_, r1, r2, r3, r4.mono (by decide) (by decide)⟩
        · show Steps p.tables e below (T83.setTop (mkF m 100 #[.val (.int px), .val (.int (px &&& (3 : Int32))), .val (.ref b59)] [(.ref b80)])) _
          jvm_step X83.here [X83.here.top, hx, (hb hby d_method_4_100), X83.method', Bd.returns, Value.isRef, FieldType.isReference]
          first | (intro acts; rw [hr _ acts rfl rfl rfl]) | rw [hr _ _ rfl rfl rfl]
          exact Steps.refl _
        · show QM Z px zc h0 n0 _ T83.heap _
          exact ⟨b80, rfl, N83, KP, by rw [own_cs3 hn3]; exact ⟨EI, CI, tt, kb, VI, AI⟩⟩
        · show CHr Z own_EL s.vm s.heap T83.vm T83.heap
          rw [hh]
          exact hCH.trans (CHv.at (s := s) X83 hZ hEL hCH.1)
def QR (Z : State) (a : Addr) (h0 : Heap) (n0 : Nat) (v : Option Value) (h : Heap) (L : List Loc) : Prop := v = none ∧ Fr n0 L ∧ h = h0
theorem ef_R (m : MethodId) (x0 : Addr) : entryFrame m #[(.ref x0)] 1 = mkF m 0 #[.val (.ref x0)] [] := by first | (simp [entryFrame, mkF, argsToLocals, Value.category]; done) | rfl
theorem pn_Record : plainName "java/lang/Record" = true := by first | (simp [plainName, overriddenIn]; done) | decide +kernel
theorem d_jdk_30_method_1_0 : decode jdk_30_method_1_code 0 = .ok (.aload_n 0, 1) := by decide +kernel
theorem d_jdk_30_method_1_1 : decode jdk_30_method_1_code 1 = .ok (.invokespecial 1, 3) := by decide +kernel
theorem d_jdk_30_method_1_4 : decode jdk_30_method_1_code 4 = .ok (.return_, 1) := by decide +kernel
set_option maxRecDepth 65536 in
set_option maxHeartbeats 40000000 in
theorem rmR (l : Launch) (Z : State) (a0 : Array Value) (hw : ∀ d ∈ tables_1, d.before a0 Z = true) (ws : List Jvm.Cond) (a : Addr) (h0 : Heap) (n0 : Nat) (Z0 : n0 ≤ h0.size) :
    MetFree l (⟨"java/lang/Record", "<init>", "()V"⟩ : MethodName) (head1 (Jvm.Cond.code (⟨"java/lang/Record", "<init>", "()V"⟩ : MethodName) jdk_30_method_1_code 1 none :: ws) ({ frames := 1, cells := 0, slots := 0, locals := 12 } : Room)) (fun a_ U_ => a_ = #[(.ref a)] ∧ Z.Warmed39 U_.vm ∧ U_.heap = h0) (fun _ _ _ _ _ => True) (fun _ U_ o_ E_ => ∃ v_ L_, o_ = .returned v_ ∧ QR Z a h0 n0 v_ E_.heap L_ ∧ FrameEnd U_ o_ E_ L_ ({ frames := 1, cells := 0, slots := 0, locals := 12 } : Room).cells ({ frames := 1, cells := 0, slots := 0, locals := 12 } : Room).slots) := by
  refine MetFree.of_bodySF (plainFor_of_name pn_Record) hisR ?_
  intro p e s m args below meth c s₁ Bd hml0 hP hK
  obtain ⟨rfl, hZ, hh⟩ := hP
  have hx := Bd.exec
  have hby := Bd.bytes
  have hml : c.maxLocals = 1 := hml0
  have hown : s.vm.findClass "java/lang/Record" = some m.cls := findClass_of_methodNamed Bd.named
  have hnm := (name_of_methodNamed Bd.named Bd.method).1
  have X0 : Stand p l e ({ frames := 1, cells := 0, slots := 0, locals := 12 } : Room) s m #[(.ref a)] below meth c s₁ [] 0 0 := Stand.of_body Bd
  have e0 : s₁.heap = h0 := by rw [← hh, Bd.state]; rfl
  have N0 := Fr.nil n0
  have Zn := Z0
  have pre0 : ∀ t, Steps p.tables e below (s₁.setTop (mkF m 0 #[.val (.ref a)] [])) t → Steps p.tables e below (s₁.setTop (entryFrame m #[(.ref a)] 1)) t := fun t q => castTop (ef_R m a) q
  have k0 : ∀ t, Steps p.tables e below (s₁.setTop (mkF m 0 #[.val (.ref a)] [])) t → Steps p.tables e below (s₁.setTop (mkF m 0 #[.val (.ref a)] [])) t := fun t q => q
  have k1_ : ∀ t, Steps p.tables e below (s₁.setTop (mkF m 1 #[.val (.ref a)] [(.ref a)])) t → Steps p.tables e below (s₁.setTop (mkF m 0 #[.val (.ref a)] [])) t := by
    intro t q
    refine k0 _ ?_
    show Steps p.tables e below (s₁.setTop (mkF m 0 #[.val (.ref a)] [])) _
    refine XS.aloadN X0.here hx rfl (hb hby d_jdk_30_method_1_0) rfl rfl ?_
    show Steps p.tables e below (s₁.setTop (mkF m 1 #[.val (.ref a)] [(.ref a)])) _
    exact q
  obtain ⟨T2, X2, e2, st2⟩ := initO X0 hx hZ hown (hw _ (List.mem_of_getElem? (i := 55) rfl)) (hw _ (List.mem_of_getElem? (i := 20) rfl)) (hw _ (List.mem_of_getElem? (i := 21) rfl)) e0 (g := (mkF m 1 #[.val (.ref a)] [(.ref a)])) rfl (by rw [hml]; rfl) rfl (hb hby d_jdk_30_method_1_1) (by decide) (W := 0) (by show 2 * 0 + _ ≤ _; exact Nat.le_of_eq rfl) (by decide)
  have k3_ : ∀ t, Steps p.tables e below (T2.setTop (mkF m 4 #[.val (.ref a)] [])) t → Steps p.tables e below (s₁.setTop (mkF m 0 #[.val (.ref a)] [])) t := fun t q => k1_ t (st2 t q)
  obtain ⟨fs, hr, hrun, hended, hW, hsame⟩ := X2.leave (v := none) (fun _ => rfl)
  refine ⟨_, _, pre0 _ (k3_ _ ?_), hrun, hended, _, _, rfl, ?_, ⟨_, rfl⟩, hW, hsame.mono (by decide) (by decide)⟩
  · show Steps p.tables e below (T2.setTop (mkF m 4 #[.val (.ref a)] [])) _
    exact X2.returnOut hx Bd.returns (hb hby d_jdk_30_method_1_4) hr
  · show QR Z a h0 n0 _ T2.heap _
    rw [e2]
    exact ⟨rfl, N0, rfl⟩
def QE00 (Z : State) (a : Addr) (s1 : Addr) (s2 : Addr) (h0 : Heap) (n0 : Nat) (v : Option Value) (h : Heap) (L : List Loc) : Prop := v = none ∧ Fr n0 L ∧ Keep h0 h [a] ∧ Exa Z h a "com/example/triplewright/triplewright/source/XmlParser$ElementName" ∧ Fld Z h a "com/example/triplewright/triplewright/source/XmlParser$ElementName" "namespace" "Ljava/lang/String;" (.ref s1) ∧ Fld Z h a "com/example/triplewright/triplewright/source/XmlParser$ElementName" "localName" "Ljava/lang/String;" (.ref s2)
theorem ef_E00 (m : MethodId) (x0 : Addr) (x1 : Addr) (x2 : Addr) : entryFrame m #[(.ref x0), (.ref x1), (.ref x2)] 3 = mkF m 0 #[.val (.ref x0), .val (.ref x1), .val (.ref x2)] [] := by first | (simp [entryFrame, mkF, argsToLocals, Value.category]; done) | rfl
theorem pn_XmlParser_ElementName : plainName "com/example/triplewright/triplewright/source/XmlParser$ElementName" = true := by first | (simp [plainName, overriddenIn]; done) | decide +kernel
theorem d_prog_70_method_1_0 : decode prog_70_method_1_code 0 = .ok (.aload_n 0, 1) := by decide +kernel
theorem pd_48334 : parseMethodDescriptor "()V" = some ⟨[], none⟩ := by decide +kernel
theorem d_prog_70_method_1_1 : decode prog_70_method_1_code 1 = .ok (.invokespecial 1, 3) := by decide +kernel
theorem d_prog_70_method_1_4 : decode prog_70_method_1_code 4 = .ok (.aload_n 0, 1) := by decide +kernel
theorem d_prog_70_method_1_5 : decode prog_70_method_1_code 5 = .ok (.aload_n 1, 1) := by decide +kernel
theorem d_prog_70_method_1_6 : decode prog_70_method_1_code 6 = .ok (.putfield 7, 3) := by decide +kernel
theorem d_prog_70_method_1_9 : decode prog_70_method_1_code 9 = .ok (.aload_n 0, 1) := by decide +kernel
theorem d_prog_70_method_1_10 : decode prog_70_method_1_code 10 = .ok (.aload_n 2, 1) := by decide +kernel
theorem d_prog_70_method_1_11 : decode prog_70_method_1_code 11 = .ok (.putfield 13, 3) := by decide +kernel
theorem d_prog_70_method_1_14 : decode prog_70_method_1_code 14 = .ok (.return_, 1) := by decide +kernel
set_option maxRecDepth 65536 in
set_option maxHeartbeats 40000000 in
theorem rmE00 (l : Launch) (Z : State) (a0 : Array Value) (hw : ∀ d ∈ tables_1, d.before a0 Z = true) (ws : List Jvm.Cond) (a : Addr) (s1 : Addr) (s2 : Addr) (h0 : Heap) (n0 : Nat) (Z0 : n0 ≤ h0.size) (EA : Exa Z h0 a "com/example/triplewright/triplewright/source/XmlParser$ElementName") (F1 : Fld Z h0 a "com/example/triplewright/triplewright/source/XmlParser$ElementName" "namespace" "Ljava/lang/String;" .null) (F2 : Fld Z h0 a "com/example/triplewright/triplewright/source/XmlParser$ElementName" "localName" "Ljava/lang/String;" .null) (ga : n0 ≤ a) :
    MetFree l (⟨"com/example/triplewright/triplewright/source/XmlParser$ElementName", "<init>", "(Ljava/lang/String;Ljava/lang/String;)V"⟩ : MethodName) (head1 (Jvm.Cond.code (⟨"com/example/triplewright/triplewright/source/XmlParser$ElementName", "<init>", "(Ljava/lang/String;Ljava/lang/String;)V"⟩ : MethodName) prog_70_method_1_code 3 none :: ws) ({ frames := 2, cells := 0, slots := 0, locals := 24 } : Room)) (fun a_ U_ => a_ = #[(.ref a), (.ref s1), (.ref s2)] ∧ Z.Warmed39 U_.vm ∧ U_.heap = h0) (fun _ _ _ _ _ => True) (fun _ U_ o_ E_ => ∃ v_ L_, o_ = .returned v_ ∧ QE00 Z a s1 s2 h0 n0 v_ E_.heap L_ ∧ FrameEnd U_ o_ E_ L_ ({ frames := 2, cells := 0, slots := 0, locals := 24 } : Room).cells ({ frames := 2, cells := 0, slots := 0, locals := 24 } : Room).slots) := by
  refine MetFree.of_bodySF (plainFor_of_name pn_XmlParser_ElementName) hisR ?_
  intro p e s m args below meth c s₁ Bd hml0 hP hK
  obtain ⟨rfl, hZ, hh⟩ := hP
  have hx := Bd.exec
  have hby := Bd.bytes
  have hml : c.maxLocals = 3 := hml0
  have hown : s.vm.findClass "com/example/triplewright/triplewright/source/XmlParser$ElementName" = some m.cls := findClass_of_methodNamed Bd.named
  have hnm := (name_of_methodNamed Bd.named Bd.method).1
  have X0 : Stand p l e ({ frames := 2, cells := 0, slots := 0, locals := 24 } : Room) s m #[(.ref a), (.ref s1), (.ref s2)] below meth c s₁ [] 0 0 := Stand.of_body Bd
  have e0 : s₁.heap = h0 := by rw [← hh, Bd.state]; rfl
  have N0 := Fr.nil n0
  have Zn := Z0
  have pre0 : ∀ t, Steps p.tables e below (s₁.setTop (mkF m 0 #[.val (.ref a), .val (.ref s1), .val (.ref s2)] [])) t → Steps p.tables e below (s₁.setTop (entryFrame m #[(.ref a), (.ref s1), (.ref s2)] 3)) t := fun t q => castTop (ef_E00 m a s1 s2) q
  have k0 : ∀ t, Steps p.tables e below (s₁.setTop (mkF m 0 #[.val (.ref a), .val (.ref s1), .val (.ref s2)] [])) t → Steps p.tables e below (s₁.setTop (mkF m 0 #[.val (.ref a), .val (.ref s1), .val (.ref s2)] [])) t := fun t q => q
  have k1_ : ∀ t, Steps p.tables e below (s₁.setTop (mkF m 1 #[.val (.ref a), .val (.ref s1), .val (.ref s2)] [(.ref a)])) t → Steps p.tables e below (s₁.setTop (mkF m 0 #[.val (.ref a), .val (.ref s1), .val (.ref s2)] [])) t := by
    intro t q
    refine k0 _ ?_
    show Steps p.tables e below (s₁.setTop (mkF m 0 #[.val (.ref a), .val (.ref s1), .val (.ref s2)] [])) _
    refine XS.aloadN X0.here hx rfl (hb hby d_prog_70_method_1_0) rfl rfl ?_
    show Steps p.tables e below (s₁.setTop (mkF m 1 #[.val (.ref a), .val (.ref s1), .val (.ref s2)] [(.ref a)])) _
    exact q
  obtain ⟨_, _, ⟨T2, L2, kk2, n2⟩, -, X2, ⟨Lc2, hQ2, l2, y2, z2⟩, st2⟩ := X0.specialBack hx (y := (⟨"java/lang/Record", "<init>", "()V"⟩ : MethodName)) rfl hown (mvT hZ (hw _ (List.mem_of_getElem? (i := 50) rfl))) (mvT hZ (hw _ (List.mem_of_getElem? (i := 51) rfl))) (mvT hZ (hw _ (List.mem_of_getElem? (i := 54) rfl))) (by decide) (backOf (W := 0) (rmR l Z a0 hw [] a h0 n0 Zn) hZ (hw _ (List.mem_of_getElem? (i := 54) rfl)) (hw _ (List.mem_of_getElem? (i := 53) rfl)) (by decide) (by decide)) (g := (mkF m 1 #[.val (.ref a), .val (.ref s1), .val (.ref s2)] [(.ref a)])) rfl (by rw [hml]; rfl) (Steps.refl _) (a := a) (argsL := []) (rest := []) (lenOf pd_48334 rfl) rfl (by show 2 * 0 + _ ≤ _; exact Nat.le_of_eq rfl) (hb hby d_prog_70_method_1_1) (fun _ _ => ⟨rfl, e0, (by decide : 0 + 0 ≤ _), (by decide : 0 + 0 ≤ _)⟩)
  dsimp only [Pt.U, Pt.locs, Pt.cells, Pt.slots] at X2 l2 y2 z2 st2 hQ2
  rw [l2, y2, z2] at X2
  obtain ⟨rfl, Nq2, hq2⟩ := hQ2
  have N2 := Fr.app N0 Nq2
  have k3_ : ∀ t, Steps p.tables e below (T2.setTop (mkF m 4 #[.val (.ref a), .val (.ref s1), .val (.ref s2)] [])) t → Steps p.tables e below (s₁.setTop (mkF m 0 #[.val (.ref a), .val (.ref s1), .val (.ref s2)] [])) t := fun t q => k1_ t (st2.trans q)
  have KP := Keep.refl h0 [a]
  have k4_ : ∀ t, Steps p.tables e below (T2.setTop (mkF m 6 #[.val (.ref a), .val (.ref s1), .val (.ref s2)] [(.ref s1), (.ref a)])) t → Steps p.tables e below (s₁.setTop (mkF m 0 #[.val (.ref a), .val (.ref s1), .val (.ref s2)] [])) t := by
    intro t q
    refine k3_ _ ?_
    show Steps p.tables e below (T2.setTop (mkF m 4 #[.val (.ref a), .val (.ref s1), .val (.ref s2)] [])) _
    refine XS.aloadN X2.here hx rfl (hb hby d_prog_70_method_1_4) rfl rfl ?_
    show Steps p.tables e below (T2.setTop (mkF m 5 #[.val (.ref a), .val (.ref s1), .val (.ref s2)] [(.ref a)])) _
    refine XS.aloadN X2.here hx rfl (hb hby d_prog_70_method_1_5) rfl rfl ?_
    show Steps p.tables e below (T2.setTop (mkF m 6 #[.val (.ref a), .val (.ref s1), .val (.ref s2)] [(.ref s1), (.ref a)])) _
    exact q
  obtain ⟨T5, h5, X5, e5, W5, st5⟩ := putF X2 hx hZ hown (host := "") (Or.inl (hw _ (List.mem_of_getElem? (i := 56) rfl))) Via.refl hq2 F1 EA (Or.inr ⟨(hw _ (List.mem_of_getElem? (i := 57) rfl)), rfl, hnm⟩) (hw _ (List.mem_of_getElem? (i := 45) rfl)) (ty := (.object "java/lang/String")) (by decide) rfl rfl (g := (mkF m 6 #[.val (.ref a), .val (.ref s1), .val (.ref s2)] [(.ref s1), (.ref a)])) rfl rfl (hb hby d_prog_70_method_1_6)
  have k6_ : ∀ t, Steps p.tables e below (T5.setTop (mkF m 9 #[.val (.ref a), .val (.ref s1), .val (.ref s2)] [])) t → Steps p.tables e below (s₁.setTop (mkF m 0 #[.val (.ref a), .val (.ref s1), .val (.ref s2)] [])) t := fun t q => k4_ t (st5 t q)
  have N5 := Fr.snoc X5 N2 ga
  replace Zn := Nat.le_trans Zn (Keep.of_wr W5).1
  replace EA := EA.wr W5
  replace F2 := F2.other W5 (Or.inr (slot_ne (Or.inr (hw _ (List.mem_of_getElem? (i := 59) rfl))) (Or.inr (hw _ (List.mem_of_getElem? (i := 57) rfl))) (by decide) (t := (.object "java/lang/String")) (t' := (.object "java/lang/String")) (by decide) (by decide)))
  replace F1 := F1.same W5
  replace KP := KP.wr W5 (Or.inl (List.mem_of_getElem? (i := 0) rfl))
  have k7_ : ∀ t, Steps p.tables e below (T5.setTop (mkF m 11 #[.val (.ref a), .val (.ref s1), .val (.ref s2)] [(.ref s2), (.ref a)])) t → Steps p.tables e below (s₁.setTop (mkF m 0 #[.val (.ref a), .val (.ref s1), .val (.ref s2)] [])) t := by
    intro t q
    refine k6_ _ ?_
    show Steps p.tables e below (T5.setTop (mkF m 9 #[.val (.ref a), .val (.ref s1), .val (.ref s2)] [])) _
    refine XS.aloadN X5.here hx rfl (hb hby d_prog_70_method_1_9) rfl rfl ?_
    show Steps p.tables e below (T5.setTop (mkF m 10 #[.val (.ref a), .val (.ref s1), .val (.ref s2)] [(.ref a)])) _
    refine XS.aloadN X5.here hx rfl (hb hby d_prog_70_method_1_10) rfl rfl ?_
    show Steps p.tables e below (T5.setTop (mkF m 11 #[.val (.ref a), .val (.ref s1), .val (.ref s2)] [(.ref s2), (.ref a)])) _
    exact q
  obtain ⟨T8, h8, X8, e8, W8, st8⟩ := putF X5 hx hZ hown (host := "") (Or.inl (hw _ (List.mem_of_getElem? (i := 58) rfl))) Via.refl e5 F2 EA (Or.inr ⟨(hw _ (List.mem_of_getElem? (i := 59) rfl)), rfl, hnm⟩) (hw _ (List.mem_of_getElem? (i := 45) rfl)) (ty := (.object "java/lang/String")) (by decide) rfl rfl (g := (mkF m 11 #[.val (.ref a), .val (.ref s1), .val (.ref s2)] [(.ref s2), (.ref a)])) rfl rfl (hb hby d_prog_70_method_1_11)
  have k9_ : ∀ t, Steps p.tables e below (T8.setTop (mkF m 14 #[.val (.ref a), .val (.ref s1), .val (.ref s2)] [])) t → Steps p.tables e below (s₁.setTop (mkF m 0 #[.val (.ref a), .val (.ref s1), .val (.ref s2)] [])) t := fun t q => k7_ t (st8 t q)
  have N8 := Fr.snoc X8 N5 ga
  replace Zn := Nat.le_trans Zn (Keep.of_wr W8).1
  replace EA := EA.wr W8
  replace F1 := F1.other W8 (Or.inr (slot_ne (Or.inr (hw _ (List.mem_of_getElem? (i := 57) rfl))) (Or.inr (hw _ (List.mem_of_getElem? (i := 59) rfl))) (by decide) (t := (.object "java/lang/String")) (t' := (.object "java/lang/String")) (by decide) (by decide)))
  replace F2 := F2.same W8
  replace KP := KP.wr W8 (Or.inl (List.mem_of_getElem? (i := 0) rfl))
  obtain ⟨fs, hr, hrun, hended, hW, hsame⟩ := X8.leave (v := none) (fun _ => rfl)
  refine ⟨_, _, pre0 _ (k9_ _ ?_), hrun, hended, _, _, rfl, ?_, ⟨_, rfl⟩, hW, hsame.mono (by decide) (by decide)⟩
  · show Steps p.tables e below (T8.setTop (mkF m 14 #[.val (.ref a), .val (.ref s1), .val (.ref s2)] [])) _
    exact X8.returnOut hx Bd.returns (hb hby d_prog_70_method_1_14) hr
  · show QE00 Z a s1 s2 h0 n0 _ T8.heap _
    rw [e8]
    exact ⟨rfl, N8, KP, EA, F1, F2⟩
def QE01 (Z : State) (a : Addr) (s1 : Addr) (h0 : Heap) (n0 : Nat) (v : Option Value) (h : Heap) (L : List Loc) : Prop := v = none ∧ Fr n0 L ∧ Keep h0 h [a] ∧ Exa Z h a "com/example/triplewright/triplewright/source/XmlParser$ElementName" ∧ Fld Z h a "com/example/triplewright/triplewright/source/XmlParser$ElementName" "namespace" "Ljava/lang/String;" (.ref s1) ∧ Fld Z h a "com/example/triplewright/triplewright/source/XmlParser$ElementName" "localName" "Ljava/lang/String;" .null
theorem ef_E01 (m : MethodId) (x0 : Addr) (x1 : Addr) : entryFrame m #[(.ref x0), (.ref x1), .null] 3 = mkF m 0 #[.val (.ref x0), .val (.ref x1), .val .null] [] := by first | (simp [entryFrame, mkF, argsToLocals, Value.category]; done) | rfl
set_option maxRecDepth 65536 in
set_option maxHeartbeats 40000000 in
theorem rmE01 (l : Launch) (Z : State) (a0 : Array Value) (hw : ∀ d ∈ tables_1, d.before a0 Z = true) (ws : List Jvm.Cond) (a : Addr) (s1 : Addr) (h0 : Heap) (n0 : Nat) (Z0 : n0 ≤ h0.size) (EA : Exa Z h0 a "com/example/triplewright/triplewright/source/XmlParser$ElementName") (F1 : Fld Z h0 a "com/example/triplewright/triplewright/source/XmlParser$ElementName" "namespace" "Ljava/lang/String;" .null) (F2 : Fld Z h0 a "com/example/triplewright/triplewright/source/XmlParser$ElementName" "localName" "Ljava/lang/String;" .null) (ga : n0 ≤ a) :
    MetFree l (⟨"com/example/triplewright/triplewright/source/XmlParser$ElementName", "<init>", "(Ljava/lang/String;Ljava/lang/String;)V"⟩ : MethodName) (head1 (Jvm.Cond.code (⟨"com/example/triplewright/triplewright/source/XmlParser$ElementName", "<init>", "(Ljava/lang/String;Ljava/lang/String;)V"⟩ : MethodName) prog_70_method_1_code 3 none :: ws) ({ frames := 2, cells := 0, slots := 0, locals := 24 } : Room)) (fun a_ U_ => a_ = #[(.ref a), (.ref s1), .null] ∧ Z.Warmed39 U_.vm ∧ U_.heap = h0) (fun _ _ _ _ _ => True) (fun _ U_ o_ E_ => ∃ v_ L_, o_ = .returned v_ ∧ QE01 Z a s1 h0 n0 v_ E_.heap L_ ∧ FrameEnd U_ o_ E_ L_ ({ frames := 2, cells := 0, slots := 0, locals := 24 } : Room).cells ({ frames := 2, cells := 0, slots := 0, locals := 24 } : Room).slots) := by
  refine MetFree.of_bodySF (plainFor_of_name pn_XmlParser_ElementName) hisR ?_
  intro p e s m args below meth c s₁ Bd hml0 hP hK
  obtain ⟨rfl, hZ, hh⟩ := hP
  have hx := Bd.exec
  have hby := Bd.bytes
  have hml : c.maxLocals = 3 := hml0
  have hown : s.vm.findClass "com/example/triplewright/triplewright/source/XmlParser$ElementName" = some m.cls := findClass_of_methodNamed Bd.named
  have hnm := (name_of_methodNamed Bd.named Bd.method).1
  have X0 : Stand p l e ({ frames := 2, cells := 0, slots := 0, locals := 24 } : Room) s m #[(.ref a), (.ref s1), .null] below meth c s₁ [] 0 0 := Stand.of_body Bd
  have e0 : s₁.heap = h0 := by rw [← hh, Bd.state]; rfl
  have N0 := Fr.nil n0
  have Zn := Z0
  have pre0 : ∀ t, Steps p.tables e below (s₁.setTop (mkF m 0 #[.val (.ref a), .val (.ref s1), .val .null] [])) t → Steps p.tables e below (s₁.setTop (entryFrame m #[(.ref a), (.ref s1), .null] 3)) t := fun t q => castTop (ef_E01 m a s1) q
  have k0 : ∀ t, Steps p.tables e below (s₁.setTop (mkF m 0 #[.val (.ref a), .val (.ref s1), .val .null] [])) t → Steps p.tables e below (s₁.setTop (mkF m 0 #[.val (.ref a), .val (.ref s1), .val .null] [])) t := fun t q => q
  have k1_ : ∀ t, Steps p.tables e below (s₁.setTop (mkF m 1 #[.val (.ref a), .val (.ref s1), .val .null] [(.ref a)])) t → Steps p.tables e below (s₁.setTop (mkF m 0 #[.val (.ref a), .val (.ref s1), .val .null] [])) t := by
    intro t q
    refine k0 _ ?_
    show Steps p.tables e below (s₁.setTop (mkF m 0 #[.val (.ref a), .val (.ref s1), .val .null] [])) _
    refine XS.aloadN X0.here hx rfl (hb hby d_prog_70_method_1_0) rfl rfl ?_
    show Steps p.tables e below (s₁.setTop (mkF m 1 #[.val (.ref a), .val (.ref s1), .val .null] [(.ref a)])) _
    exact q
  obtain ⟨_, _, ⟨T2, L2, kk2, n2⟩, -, X2, ⟨Lc2, hQ2, l2, y2, z2⟩, st2⟩ := X0.specialBack hx (y := (⟨"java/lang/Record", "<init>", "()V"⟩ : MethodName)) rfl hown (mvT hZ (hw _ (List.mem_of_getElem? (i := 50) rfl))) (mvT hZ (hw _ (List.mem_of_getElem? (i := 51) rfl))) (mvT hZ (hw _ (List.mem_of_getElem? (i := 54) rfl))) (by decide) (backOf (W := 0) (rmR l Z a0 hw [] a h0 n0 Zn) hZ (hw _ (List.mem_of_getElem? (i := 54) rfl)) (hw _ (List.mem_of_getElem? (i := 53) rfl)) (by decide) (by decide)) (g := (mkF m 1 #[.val (.ref a), .val (.ref s1), .val .null] [(.ref a)])) rfl (by rw [hml]; rfl) (Steps.refl _) (a := a) (argsL := []) (rest := []) (lenOf pd_48334 rfl) rfl (by show 2 * 0 + _ ≤ _; exact Nat.le_of_eq rfl) (hb hby d_prog_70_method_1_1) (fun _ _ => ⟨rfl, e0, (by decide : 0 + 0 ≤ _), (by decide : 0 + 0 ≤ _)⟩)
  dsimp only [Pt.U, Pt.locs, Pt.cells, Pt.slots] at X2 l2 y2 z2 st2 hQ2
  rw [l2, y2, z2] at X2
  obtain ⟨rfl, Nq2, hq2⟩ := hQ2
  have N2 := Fr.app N0 Nq2
  have k3_ : ∀ t, Steps p.tables e below (T2.setTop (mkF m 4 #[.val (.ref a), .val (.ref s1), .val .null] [])) t → Steps p.tables e below (s₁.setTop (mkF m 0 #[.val (.ref a), .val (.ref s1), .val .null] [])) t := fun t q => k1_ t (st2.trans q)
  have KP := Keep.refl h0 [a]
  have k4_ : ∀ t, Steps p.tables e below (T2.setTop (mkF m 6 #[.val (.ref a), .val (.ref s1), .val .null] [(.ref s1), (.ref a)])) t → Steps p.tables e below (s₁.setTop (mkF m 0 #[.val (.ref a), .val (.ref s1), .val .null] [])) t := by
    intro t q
    refine k3_ _ ?_
    show Steps p.tables e below (T2.setTop (mkF m 4 #[.val (.ref a), .val (.ref s1), .val .null] [])) _
    refine XS.aloadN X2.here hx rfl (hb hby d_prog_70_method_1_4) rfl rfl ?_
    show Steps p.tables e below (T2.setTop (mkF m 5 #[.val (.ref a), .val (.ref s1), .val .null] [(.ref a)])) _
    refine XS.aloadN X2.here hx rfl (hb hby d_prog_70_method_1_5) rfl rfl ?_
    show Steps p.tables e below (T2.setTop (mkF m 6 #[.val (.ref a), .val (.ref s1), .val .null] [(.ref s1), (.ref a)])) _
    exact q
  obtain ⟨T5, h5, X5, e5, W5, st5⟩ := putF X2 hx hZ hown (host := "") (Or.inl (hw _ (List.mem_of_getElem? (i := 56) rfl))) Via.refl hq2 F1 EA (Or.inr ⟨(hw _ (List.mem_of_getElem? (i := 57) rfl)), rfl, hnm⟩) (hw _ (List.mem_of_getElem? (i := 45) rfl)) (ty := (.object "java/lang/String")) (by decide) rfl rfl (g := (mkF m 6 #[.val (.ref a), .val (.ref s1), .val .null] [(.ref s1), (.ref a)])) rfl rfl (hb hby d_prog_70_method_1_6)
  have k6_ : ∀ t, Steps p.tables e below (T5.setTop (mkF m 9 #[.val (.ref a), .val (.ref s1), .val .null] [])) t → Steps p.tables e below (s₁.setTop (mkF m 0 #[.val (.ref a), .val (.ref s1), .val .null] [])) t := fun t q => k4_ t (st5 t q)
  have N5 := Fr.snoc X5 N2 ga
  replace Zn := Nat.le_trans Zn (Keep.of_wr W5).1
  replace EA := EA.wr W5
  replace F2 := F2.other W5 (Or.inr (slot_ne (Or.inr (hw _ (List.mem_of_getElem? (i := 59) rfl))) (Or.inr (hw _ (List.mem_of_getElem? (i := 57) rfl))) (by decide) (t := (.object "java/lang/String")) (t' := (.object "java/lang/String")) (by decide) (by decide)))
  replace F1 := F1.same W5
  replace KP := KP.wr W5 (Or.inl (List.mem_of_getElem? (i := 0) rfl))
  have k7_ : ∀ t, Steps p.tables e below (T5.setTop (mkF m 11 #[.val (.ref a), .val (.ref s1), .val .null] [.null, (.ref a)])) t → Steps p.tables e below (s₁.setTop (mkF m 0 #[.val (.ref a), .val (.ref s1), .val .null] [])) t := by
    intro t q
    refine k6_ _ ?_
    show Steps p.tables e below (T5.setTop (mkF m 9 #[.val (.ref a), .val (.ref s1), .val .null] [])) _
    refine XS.aloadN X5.here hx rfl (hb hby d_prog_70_method_1_9) rfl rfl ?_
    show Steps p.tables e below (T5.setTop (mkF m 10 #[.val (.ref a), .val (.ref s1), .val .null] [(.ref a)])) _
    refine XS.aloadN X5.here hx rfl (hb hby d_prog_70_method_1_10) rfl rfl ?_
    show Steps p.tables e below (T5.setTop (mkF m 11 #[.val (.ref a), .val (.ref s1), .val .null] [.null, (.ref a)])) _
    exact q
  obtain ⟨T8, h8, X8, e8, W8, st8⟩ := putF X5 hx hZ hown (host := "") (Or.inl (hw _ (List.mem_of_getElem? (i := 58) rfl))) Via.refl e5 F2 EA (Or.inr ⟨(hw _ (List.mem_of_getElem? (i := 59) rfl)), rfl, hnm⟩) (hw _ (List.mem_of_getElem? (i := 45) rfl)) (ty := (.object "java/lang/String")) (by decide) rfl rfl (g := (mkF m 11 #[.val (.ref a), .val (.ref s1), .val .null] [.null, (.ref a)])) rfl rfl (hb hby d_prog_70_method_1_11)
  have k9_ : ∀ t, Steps p.tables e below (T8.setTop (mkF m 14 #[.val (.ref a), .val (.ref s1), .val .null] [])) t → Steps p.tables e below (s₁.setTop (mkF m 0 #[.val (.ref a), .val (.ref s1), .val .null] [])) t := fun t q => k7_ t (st8 t q)
  have N8 := Fr.snoc X8 N5 ga
  replace Zn := Nat.le_trans Zn (Keep.of_wr W8).1
  replace EA := EA.wr W8
  replace F1 := F1.other W8 (Or.inr (slot_ne (Or.inr (hw _ (List.mem_of_getElem? (i := 57) rfl))) (Or.inr (hw _ (List.mem_of_getElem? (i := 59) rfl))) (by decide) (t := (.object "java/lang/String")) (t' := (.object "java/lang/String")) (by decide) (by decide)))
  replace F2 := F2.same W8
  replace KP := KP.wr W8 (Or.inl (List.mem_of_getElem? (i := 0) rfl))
  obtain ⟨fs, hr, hrun, hended, hW, hsame⟩ := X8.leave (v := none) (fun _ => rfl)
  refine ⟨_, _, pre0 _ (k9_ _ ?_), hrun, hended, _, _, rfl, ?_, ⟨_, rfl⟩, hW, hsame.mono (by decide) (by decide)⟩
  · show Steps p.tables e below (T8.setTop (mkF m 14 #[.val (.ref a), .val (.ref s1), .val .null] [])) _
    exact X8.returnOut hx Bd.returns (hb hby d_prog_70_method_1_14) hr
  · show QE01 Z a s1 h0 n0 _ T8.heap _
    rw [e8]
    exact ⟨rfl, N8, KP, EA, F1, F2⟩
def QE10 (Z : State) (a : Addr) (s2 : Addr) (h0 : Heap) (n0 : Nat) (v : Option Value) (h : Heap) (L : List Loc) : Prop := v = none ∧ Fr n0 L ∧ Keep h0 h [a] ∧ Exa Z h a "com/example/triplewright/triplewright/source/XmlParser$ElementName" ∧ Fld Z h a "com/example/triplewright/triplewright/source/XmlParser$ElementName" "namespace" "Ljava/lang/String;" .null ∧ Fld Z h a "com/example/triplewright/triplewright/source/XmlParser$ElementName" "localName" "Ljava/lang/String;" (.ref s2)
theorem ef_E10 (m : MethodId) (x0 : Addr) (x2 : Addr) : entryFrame m #[(.ref x0), .null, (.ref x2)] 3 = mkF m 0 #[.val (.ref x0), .val .null, .val (.ref x2)] [] := by first | (simp [entryFrame, mkF, argsToLocals, Value.category]; done) | rfl
set_option maxRecDepth 65536 in
set_option maxHeartbeats 40000000 in
theorem rmE10 (l : Launch) (Z : State) (a0 : Array Value) (hw : ∀ d ∈ tables_1, d.before a0 Z = true) (ws : List Jvm.Cond) (a : Addr) (s2 : Addr) (h0 : Heap) (n0 : Nat) (Z0 : n0 ≤ h0.size) (EA : Exa Z h0 a "com/example/triplewright/triplewright/source/XmlParser$ElementName") (F1 : Fld Z h0 a "com/example/triplewright/triplewright/source/XmlParser$ElementName" "namespace" "Ljava/lang/String;" .null) (F2 : Fld Z h0 a "com/example/triplewright/triplewright/source/XmlParser$ElementName" "localName" "Ljava/lang/String;" .null) (ga : n0 ≤ a) :
    MetFree l (⟨"com/example/triplewright/triplewright/source/XmlParser$ElementName", "<init>", "(Ljava/lang/String;Ljava/lang/String;)V"⟩ : MethodName) (head1 (Jvm.Cond.code (⟨"com/example/triplewright/triplewright/source/XmlParser$ElementName", "<init>", "(Ljava/lang/String;Ljava/lang/String;)V"⟩ : MethodName) prog_70_method_1_code 3 none :: ws) ({ frames := 2, cells := 0, slots := 0, locals := 24 } : Room)) (fun a_ U_ => a_ = #[(.ref a), .null, (.ref s2)] ∧ Z.Warmed39 U_.vm ∧ U_.heap = h0) (fun _ _ _ _ _ => True) (fun _ U_ o_ E_ => ∃ v_ L_, o_ = .returned v_ ∧ QE10 Z a s2 h0 n0 v_ E_.heap L_ ∧ FrameEnd U_ o_ E_ L_ ({ frames := 2, cells := 0, slots := 0, locals := 24 } : Room).cells ({ frames := 2, cells := 0, slots := 0, locals := 24 } : Room).slots) := by
  refine MetFree.of_bodySF (plainFor_of_name pn_XmlParser_ElementName) hisR ?_
  intro p e s m args below meth c s₁ Bd hml0 hP hK
  obtain ⟨rfl, hZ, hh⟩ := hP
  have hx := Bd.exec
  have hby := Bd.bytes
  have hml : c.maxLocals = 3 := hml0
  have hown : s.vm.findClass "com/example/triplewright/triplewright/source/XmlParser$ElementName" = some m.cls := findClass_of_methodNamed Bd.named
  have hnm := (name_of_methodNamed Bd.named Bd.method).1
  have X0 : Stand p l e ({ frames := 2, cells := 0, slots := 0, locals := 24 } : Room) s m #[(.ref a), .null, (.ref s2)] below meth c s₁ [] 0 0 := Stand.of_body Bd
  have e0 : s₁.heap = h0 := by rw [← hh, Bd.state]; rfl
  have N0 := Fr.nil n0
  have Zn := Z0
  have pre0 : ∀ t, Steps p.tables e below (s₁.setTop (mkF m 0 #[.val (.ref a), .val .null, .val (.ref s2)] [])) t → Steps p.tables e below (s₁.setTop (entryFrame m #[(.ref a), .null, (.ref s2)] 3)) t := fun t q => castTop (ef_E10 m a s2) q
  have k0 : ∀ t, Steps p.tables e below (s₁.setTop (mkF m 0 #[.val (.ref a), .val .null, .val (.ref s2)] [])) t → Steps p.tables e below (s₁.setTop (mkF m 0 #[.val (.ref a), .val .null, .val (.ref s2)] [])) t := fun t q => q
  have k1_ : ∀ t, Steps p.tables e below (s₁.setTop (mkF m 1 #[.val (.ref a), .val .null, .val (.ref s2)] [(.ref a)])) t → Steps p.tables e below (s₁.setTop (mkF m 0 #[.val (.ref a), .val .null, .val (.ref s2)] [])) t := by
    intro t q
    refine k0 _ ?_
    show Steps p.tables e below (s₁.setTop (mkF m 0 #[.val (.ref a), .val .null, .val (.ref s2)] [])) _
    refine XS.aloadN X0.here hx rfl (hb hby d_prog_70_method_1_0) rfl rfl ?_
    show Steps p.tables e below (s₁.setTop (mkF m 1 #[.val (.ref a), .val .null, .val (.ref s2)] [(.ref a)])) _
    exact q
  obtain ⟨_, _, ⟨T2, L2, kk2, n2⟩, -, X2, ⟨Lc2, hQ2, l2, y2, z2⟩, st2⟩ := X0.specialBack hx (y := (⟨"java/lang/Record", "<init>", "()V"⟩ : MethodName)) rfl hown (mvT hZ (hw _ (List.mem_of_getElem? (i := 50) rfl))) (mvT hZ (hw _ (List.mem_of_getElem? (i := 51) rfl))) (mvT hZ (hw _ (List.mem_of_getElem? (i := 54) rfl))) (by decide) (backOf (W := 0) (rmR l Z a0 hw [] a h0 n0 Zn) hZ (hw _ (List.mem_of_getElem? (i := 54) rfl)) (hw _ (List.mem_of_getElem? (i := 53) rfl)) (by decide) (by decide)) (g := (mkF m 1 #[.val (.ref a), .val .null, .val (.ref s2)] [(.ref a)])) rfl (by rw [hml]; rfl) (Steps.refl _) (a := a) (argsL := []) (rest := []) (lenOf pd_48334 rfl) rfl (by show 2 * 0 + _ ≤ _; exact Nat.le_of_eq rfl) (hb hby d_prog_70_method_1_1) (fun _ _ => ⟨rfl, e0, (by decide : 0 + 0 ≤ _), (by decide : 0 + 0 ≤ _)⟩)
  dsimp only [Pt.U, Pt.locs, Pt.cells, Pt.slots] at X2 l2 y2 z2 st2 hQ2
  rw [l2, y2, z2] at X2
  obtain ⟨rfl, Nq2, hq2⟩ := hQ2
  have N2 := Fr.app N0 Nq2
  have k3_ : ∀ t, Steps p.tables e below (T2.setTop (mkF m 4 #[.val (.ref a), .val .null, .val (.ref s2)] [])) t → Steps p.tables e below (s₁.setTop (mkF m 0 #[.val (.ref a), .val .null, .val (.ref s2)] [])) t := fun t q => k1_ t (st2.trans q)
  have KP := Keep.refl h0 [a]
  have k4_ : ∀ t, Steps p.tables e below (T2.setTop (mkF m 6 #[.val (.ref a), .val .null, .val (.ref s2)] [.null, (.ref a)])) t → Steps p.tables e below (s₁.setTop (mkF m 0 #[.val (.ref a), .val .null, .val (.ref s2)] [])) t := by
    intro t q
    refine k3_ _ ?_
    show Steps p.tables e below (T2.setTop (mkF m 4 #[.val (.ref a), .val .null, .val (.ref s2)] [])) _
    refine XS.aloadN X2.here hx rfl (hb hby d_prog_70_method_1_4) rfl rfl ?_
    show Steps p.tables e below (T2.setTop (mkF m 5 #[.val (.ref a), .val .null, .val (.ref s2)] [(.ref a)])) _
    refine XS.aloadN X2.here hx rfl (hb hby d_prog_70_method_1_5) rfl rfl ?_
    show Steps p.tables e below (T2.setTop (mkF m 6 #[.val (.ref a), .val .null, .val (.ref s2)] [.null, (.ref a)])) _
    exact q
  obtain ⟨T5, h5, X5, e5, W5, st5⟩ := putF X2 hx hZ hown (host := "") (Or.inl (hw _ (List.mem_of_getElem? (i := 56) rfl))) Via.refl hq2 F1 EA (Or.inr ⟨(hw _ (List.mem_of_getElem? (i := 57) rfl)), rfl, hnm⟩) (hw _ (List.mem_of_getElem? (i := 45) rfl)) (ty := (.object "java/lang/String")) (by decide) rfl rfl (g := (mkF m 6 #[.val (.ref a), .val .null, .val (.ref s2)] [.null, (.ref a)])) rfl rfl (hb hby d_prog_70_method_1_6)
  have k6_ : ∀ t, Steps p.tables e below (T5.setTop (mkF m 9 #[.val (.ref a), .val .null, .val (.ref s2)] [])) t → Steps p.tables e below (s₁.setTop (mkF m 0 #[.val (.ref a), .val .null, .val (.ref s2)] [])) t := fun t q => k4_ t (st5 t q)
  have N5 := Fr.snoc X5 N2 ga
  replace Zn := Nat.le_trans Zn (Keep.of_wr W5).1
  replace EA := EA.wr W5
  replace F2 := F2.other W5 (Or.inr (slot_ne (Or.inr (hw _ (List.mem_of_getElem? (i := 59) rfl))) (Or.inr (hw _ (List.mem_of_getElem? (i := 57) rfl))) (by decide) (t := (.object "java/lang/String")) (t' := (.object "java/lang/String")) (by decide) (by decide)))
  replace F1 := F1.same W5
  replace KP := KP.wr W5 (Or.inl (List.mem_of_getElem? (i := 0) rfl))
  have k7_ : ∀ t, Steps p.tables e below (T5.setTop (mkF m 11 #[.val (.ref a), .val .null, .val (.ref s2)] [(.ref s2), (.ref a)])) t → Steps p.tables e below (s₁.setTop (mkF m 0 #[.val (.ref a), .val .null, .val (.ref s2)] [])) t := by
    intro t q
    refine k6_ _ ?_
    show Steps p.tables e below (T5.setTop (mkF m 9 #[.val (.ref a), .val .null, .val (.ref s2)] [])) _
    refine XS.aloadN X5.here hx rfl (hb hby d_prog_70_method_1_9) rfl rfl ?_
    show Steps p.tables e below (T5.setTop (mkF m 10 #[.val (.ref a), .val .null, .val (.ref s2)] [(.ref a)])) _
    refine XS.aloadN X5.here hx rfl (hb hby d_prog_70_method_1_10) rfl rfl ?_
    show Steps p.tables e below (T5.setTop (mkF m 11 #[.val (.ref a), .val .null, .val (.ref s2)] [(.ref s2), (.ref a)])) _
    exact q
  obtain ⟨T8, h8, X8, e8, W8, st8⟩ := putF X5 hx hZ hown (host := "") (Or.inl (hw _ (List.mem_of_getElem? (i := 58) rfl))) Via.refl e5 F2 EA (Or.inr ⟨(hw _ (List.mem_of_getElem? (i := 59) rfl)), rfl, hnm⟩) (hw _ (List.mem_of_getElem? (i := 45) rfl)) (ty := (.object "java/lang/String")) (by decide) rfl rfl (g := (mkF m 11 #[.val (.ref a), .val .null, .val (.ref s2)] [(.ref s2), (.ref a)])) rfl rfl (hb hby d_prog_70_method_1_11)
  have k9_ : ∀ t, Steps p.tables e below (T8.setTop (mkF m 14 #[.val (.ref a), .val .null, .val (.ref s2)] [])) t → Steps p.tables e below (s₁.setTop (mkF m 0 #[.val (.ref a), .val .null, .val (.ref s2)] [])) t := fun t q => k7_ t (st8 t q)
  have N8 := Fr.snoc X8 N5 ga
  replace Zn := Nat.le_trans Zn (Keep.of_wr W8).1
  replace EA := EA.wr W8
  replace F1 := F1.other W8 (Or.inr (slot_ne (Or.inr (hw _ (List.mem_of_getElem? (i := 57) rfl))) (Or.inr (hw _ (List.mem_of_getElem? (i := 59) rfl))) (by decide) (t := (.object "java/lang/String")) (t' := (.object "java/lang/String")) (by decide) (by decide)))
  replace F2 := F2.same W8
  replace KP := KP.wr W8 (Or.inl (List.mem_of_getElem? (i := 0) rfl))
  obtain ⟨fs, hr, hrun, hended, hW, hsame⟩ := X8.leave (v := none) (fun _ => rfl)
  refine ⟨_, _, pre0 _ (k9_ _ ?_), hrun, hended, _, _, rfl, ?_, ⟨_, rfl⟩, hW, hsame.mono (by decide) (by decide)⟩
  · show Steps p.tables e below (T8.setTop (mkF m 14 #[.val (.ref a), .val .null, .val (.ref s2)] [])) _
    exact X8.returnOut hx Bd.returns (hb hby d_prog_70_method_1_14) hr
  · show QE10 Z a s2 h0 n0 _ T8.heap _
    rw [e8]
    exact ⟨rfl, N8, KP, EA, F1, F2⟩
def QE11 (Z : State) (a : Addr) (h0 : Heap) (n0 : Nat) (v : Option Value) (h : Heap) (L : List Loc) : Prop := v = none ∧ Fr n0 L ∧ Keep h0 h [a] ∧ Exa Z h a "com/example/triplewright/triplewright/source/XmlParser$ElementName" ∧ Fld Z h a "com/example/triplewright/triplewright/source/XmlParser$ElementName" "namespace" "Ljava/lang/String;" .null ∧ Fld Z h a "com/example/triplewright/triplewright/source/XmlParser$ElementName" "localName" "Ljava/lang/String;" .null
theorem ef_E11 (m : MethodId) (x0 : Addr) : entryFrame m #[(.ref x0), .null, .null] 3 = mkF m 0 #[.val (.ref x0), .val .null, .val .null] [] := by first | (simp [entryFrame, mkF, argsToLocals, Value.category]; done) | rfl
set_option maxRecDepth 65536 in
set_option maxHeartbeats 40000000 in
theorem rmE11 (l : Launch) (Z : State) (a0 : Array Value) (hw : ∀ d ∈ tables_1, d.before a0 Z = true) (ws : List Jvm.Cond) (a : Addr) (h0 : Heap) (n0 : Nat) (Z0 : n0 ≤ h0.size) (EA : Exa Z h0 a "com/example/triplewright/triplewright/source/XmlParser$ElementName") (F1 : Fld Z h0 a "com/example/triplewright/triplewright/source/XmlParser$ElementName" "namespace" "Ljava/lang/String;" .null) (F2 : Fld Z h0 a "com/example/triplewright/triplewright/source/XmlParser$ElementName" "localName" "Ljava/lang/String;" .null) (ga : n0 ≤ a) :
    MetFree l (⟨"com/example/triplewright/triplewright/source/XmlParser$ElementName", "<init>", "(Ljava/lang/String;Ljava/lang/String;)V"⟩ : MethodName) (head1 (Jvm.Cond.code (⟨"com/example/triplewright/triplewright/source/XmlParser$ElementName", "<init>", "(Ljava/lang/String;Ljava/lang/String;)V"⟩ : MethodName) prog_70_method_1_code 3 none :: ws) ({ frames := 2, cells := 0, slots := 0, locals := 24 } : Room)) (fun a_ U_ => a_ = #[(.ref a), .null, .null] ∧ Z.Warmed39 U_.vm ∧ U_.heap = h0) (fun _ _ _ _ _ => True) (fun _ U_ o_ E_ => ∃ v_ L_, o_ = .returned v_ ∧ QE11 Z a h0 n0 v_ E_.heap L_ ∧ FrameEnd U_ o_ E_ L_ ({ frames := 2, cells := 0, slots := 0, locals := 24 } : Room).cells ({ frames := 2, cells := 0, slots := 0, locals := 24 } : Room).slots) := by
  refine MetFree.of_bodySF (plainFor_of_name pn_XmlParser_ElementName) hisR ?_
  intro p e s m args below meth c s₁ Bd hml0 hP hK
  obtain ⟨rfl, hZ, hh⟩ := hP
  have hx := Bd.exec
  have hby := Bd.bytes
  have hml : c.maxLocals = 3 := hml0
  have hown : s.vm.findClass "com/example/triplewright/triplewright/source/XmlParser$ElementName" = some m.cls := findClass_of_methodNamed Bd.named
  have hnm := (name_of_methodNamed Bd.named Bd.method).1
  have X0 : Stand p l e ({ frames := 2, cells := 0, slots := 0, locals := 24 } : Room) s m #[(.ref a), .null, .null] below meth c s₁ [] 0 0 := Stand.of_body Bd
  have e0 : s₁.heap = h0 := by rw [← hh, Bd.state]; rfl
  have N0 := Fr.nil n0
  have Zn := Z0
  have pre0 : ∀ t, Steps p.tables e below (s₁.setTop (mkF m 0 #[.val (.ref a), .val .null, .val .null] [])) t → Steps p.tables e below (s₁.setTop (entryFrame m #[(.ref a), .null, .null] 3)) t := fun t q => castTop (ef_E11 m a) q
  have k0 : ∀ t, Steps p.tables e below (s₁.setTop (mkF m 0 #[.val (.ref a), .val .null, .val .null] [])) t → Steps p.tables e below (s₁.setTop (mkF m 0 #[.val (.ref a), .val .null, .val .null] [])) t := fun t q => q
  have k1_ : ∀ t, Steps p.tables e below (s₁.setTop (mkF m 1 #[.val (.ref a), .val .null, .val .null] [(.ref a)])) t → Steps p.tables e below (s₁.setTop (mkF m 0 #[.val (.ref a), .val .null, .val .null] [])) t := by
    intro t q
    refine k0 _ ?_
    show Steps p.tables e below (s₁.setTop (mkF m 0 #[.val (.ref a), .val .null, .val .null] [])) _
    refine XS.aloadN X0.here hx rfl (hb hby d_prog_70_method_1_0) rfl rfl ?_
    show Steps p.tables e below (s₁.setTop (mkF m 1 #[.val (.ref a), .val .null, .val .null] [(.ref a)])) _
    exact q
  obtain ⟨_, _, ⟨T2, L2, kk2, n2⟩, -, X2, ⟨Lc2, hQ2, l2, y2, z2⟩, st2⟩ := X0.specialBack hx (y := (⟨"java/lang/Record", "<init>", "()V"⟩ : MethodName)) rfl hown (mvT hZ (hw _ (List.mem_of_getElem? (i := 50) rfl))) (mvT hZ (hw _ (List.mem_of_getElem? (i := 51) rfl))) (mvT hZ (hw _ (List.mem_of_getElem? (i := 54) rfl))) (by decide) (backOf (W := 0) (rmR l Z a0 hw [] a h0 n0 Zn) hZ (hw _ (List.mem_of_getElem? (i := 54) rfl)) (hw _ (List.mem_of_getElem? (i := 53) rfl)) (by decide) (by decide)) (g := (mkF m 1 #[.val (.ref a), .val .null, .val .null] [(.ref a)])) rfl (by rw [hml]; rfl) (Steps.refl _) (a := a) (argsL := []) (rest := []) (lenOf pd_48334 rfl) rfl (by show 2 * 0 + _ ≤ _; exact Nat.le_of_eq rfl) (hb hby d_prog_70_method_1_1) (fun _ _ => ⟨rfl, e0, (by decide : 0 + 0 ≤ _), (by decide : 0 + 0 ≤ _)⟩)
  dsimp only [Pt.U, Pt.locs, Pt.cells, Pt.slots] at X2 l2 y2 z2 st2 hQ2
  rw [l2, y2, z2] at X2
  obtain ⟨rfl, Nq2, hq2⟩ := hQ2
  have N2 := Fr.app N0 Nq2
  have k3_ : ∀ t, Steps p.tables e below (T2.setTop (mkF m 4 #[.val (.ref a), .val .null, .val .null] [])) t → Steps p.tables e below (s₁.setTop (mkF m 0 #[.val (.ref a), .val .null, .val .null] [])) t := fun t q => k1_ t (st2.trans q)
  have KP := Keep.refl h0 [a]
  have k4_ : ∀ t, Steps p.tables e below (T2.setTop (mkF m 6 #[.val (.ref a), .val .null, .val .null] [.null, (.ref a)])) t → Steps p.tables e below (s₁.setTop (mkF m 0 #[.val (.ref a), .val .null, .val .null] [])) t := by
    intro t q
    refine k3_ _ ?_
    show Steps p.tables e below (T2.setTop (mkF m 4 #[.val (.ref a), .val .null, .val .null] [])) _
    refine XS.aloadN X2.here hx rfl (hb hby d_prog_70_method_1_4) rfl rfl ?_
    show Steps p.tables e below (T2.setTop (mkF m 5 #[.val (.ref a), .val .null, .val .null] [(.ref a)])) _
    refine XS.aloadN X2.here hx rfl (hb hby d_prog_70_method_1_5) rfl rfl ?_
    show Steps p.tables e below (T2.setTop (mkF m 6 #[.val (.ref a), .val .null, .val .null] [.null, (.ref a)])) _
    exact q
  obtain ⟨T5, h5, X5, e5, W5, st5⟩ := putF X2 hx hZ hown (host := "") (Or.inl (hw _ (List.mem_of_getElem? (i := 56) rfl))) Via.refl hq2 F1 EA (Or.inr ⟨(hw _ (List.mem_of_getElem? (i := 57) rfl)), rfl, hnm⟩) (hw _ (List.mem_of_getElem? (i := 45) rfl)) (ty := (.object "java/lang/String")) (by decide) rfl rfl (g := (mkF m 6 #[.val (.ref a), .val .null, .val .null] [.null, (.ref a)])) rfl rfl (hb hby d_prog_70_method_1_6)
  have k6_ : ∀ t, Steps p.tables e below (T5.setTop (mkF m 9 #[.val (.ref a), .val .null, .val .null] [])) t → Steps p.tables e below (s₁.setTop (mkF m 0 #[.val (.ref a), .val .null, .val .null] [])) t := fun t q => k4_ t (st5 t q)
  have N5 := Fr.snoc X5 N2 ga
  replace Zn := Nat.le_trans Zn (Keep.of_wr W5).1
  replace EA := EA.wr W5
  replace F2 := F2.other W5 (Or.inr (slot_ne (Or.inr (hw _ (List.mem_of_getElem? (i := 59) rfl))) (Or.inr (hw _ (List.mem_of_getElem? (i := 57) rfl))) (by decide) (t := (.object "java/lang/String")) (t' := (.object "java/lang/String")) (by decide) (by decide)))
  replace F1 := F1.same W5
  replace KP := KP.wr W5 (Or.inl (List.mem_of_getElem? (i := 0) rfl))
  have k7_ : ∀ t, Steps p.tables e below (T5.setTop (mkF m 11 #[.val (.ref a), .val .null, .val .null] [.null, (.ref a)])) t → Steps p.tables e below (s₁.setTop (mkF m 0 #[.val (.ref a), .val .null, .val .null] [])) t := by
    intro t q
    refine k6_ _ ?_
    show Steps p.tables e below (T5.setTop (mkF m 9 #[.val (.ref a), .val .null, .val .null] [])) _
    refine XS.aloadN X5.here hx rfl (hb hby d_prog_70_method_1_9) rfl rfl ?_
    show Steps p.tables e below (T5.setTop (mkF m 10 #[.val (.ref a), .val .null, .val .null] [(.ref a)])) _
    refine XS.aloadN X5.here hx rfl (hb hby d_prog_70_method_1_10) rfl rfl ?_
    show Steps p.tables e below (T5.setTop (mkF m 11 #[.val (.ref a), .val .null, .val .null] [.null, (.ref a)])) _
    exact q
  obtain ⟨T8, h8, X8, e8, W8, st8⟩ := putF X5 hx hZ hown (host := "") (Or.inl (hw _ (List.mem_of_getElem? (i := 58) rfl))) Via.refl e5 F2 EA (Or.inr ⟨(hw _ (List.mem_of_getElem? (i := 59) rfl)), rfl, hnm⟩) (hw _ (List.mem_of_getElem? (i := 45) rfl)) (ty := (.object "java/lang/String")) (by decide) rfl rfl (g := (mkF m 11 #[.val (.ref a), .val .null, .val .null] [.null, (.ref a)])) rfl rfl (hb hby d_prog_70_method_1_11)
  have k9_ : ∀ t, Steps p.tables e below (T8.setTop (mkF m 14 #[.val (.ref a), .val .null, .val .null] [])) t → Steps p.tables e below (s₁.setTop (mkF m 0 #[.val (.ref a), .val .null, .val .null] [])) t := fun t q => k7_ t (st8 t q)
  have N8 := Fr.snoc X8 N5 ga
  replace Zn := Nat.le_trans Zn (Keep.of_wr W8).1
  replace EA := EA.wr W8
  replace F1 := F1.other W8 (Or.inr (slot_ne (Or.inr (hw _ (List.mem_of_getElem? (i := 57) rfl))) (Or.inr (hw _ (List.mem_of_getElem? (i := 59) rfl))) (by decide) (t := (.object "java/lang/String")) (t' := (.object "java/lang/String")) (by decide) (by decide)))
  replace F2 := F2.same W8
  replace KP := KP.wr W8 (Or.inl (List.mem_of_getElem? (i := 0) rfl))
  obtain ⟨fs, hr, hrun, hended, hW, hsame⟩ := X8.leave (v := none) (fun _ => rfl)
  refine ⟨_, _, pre0 _ (k9_ _ ?_), hrun, hended, _, _, rfl, ?_, ⟨_, rfl⟩, hW, hsame.mono (by decide) (by decide)⟩
  · show Steps p.tables e below (T8.setTop (mkF m 14 #[.val (.ref a), .val .null, .val .null] [])) _
    exact X8.returnOut hx Bd.returns (hb hby d_prog_70_method_1_14) hr
  · show QE11 Z a h0 n0 _ T8.heap _
    rw [e8]
    exact ⟨rfl, N8, KP, EA, F1, F2⟩
def QT00 (Z : State) (a : Addr) (u1 : Addr) (u2 : Addr) (s1 : Addr) (s2 : Addr) (x1 : Int32) (y1 : Int32) (x2 : Int32) (y2 : Int32) (zc : Int32) (h0 : Heap) (n0 : Nat) (v : Option Value) (h : Heap) (L : List Loc) : Prop := v = some (.int (bi ((own_cs x1 = own_cs y1) ∧ (own_cs x2 = own_cs y2)))) ∧ Fr n0 L ∧ h = h0
theorem ef_T00 (m : MethodId) (x0 : Addr) (x1 : Addr) (x2 : Addr) : entryFrame m #[(.ref x0), (.ref x1), (.ref x2)] 3 = mkF m 0 #[.val (.ref x0), .val (.ref x1), .val (.ref x2)] [] := by first | (simp [entryFrame, mkF, argsToLocals, Value.category]; done) | rfl
theorem d_prog_70_method_2_0 : decode prog_70_method_2_code 0 = .ok (.aload_n 0, 1) := by decide +kernel
theorem d_prog_70_method_2_1 : decode prog_70_method_2_code 1 = .ok (.getfield 7, 3) := by decide +kernel
theorem d_prog_70_method_2_4 : decode prog_70_method_2_code 4 = .ok (.ifnull 14, 3) := by decide +kernel
theorem d_prog_70_method_2_7 : decode prog_70_method_2_code 7 = .ok (.aload_n 0, 1) := by decide +kernel
theorem d_prog_70_method_2_8 : decode prog_70_method_2_code 8 = .ok (.getfield 7, 3) := by decide +kernel
theorem d_prog_70_method_2_11 : decode prog_70_method_2_code 11 = .ok (.aload_n 1, 1) := by decide +kernel
theorem pd_81715 : parseMethodDescriptor "(Ljava/lang/Object;)Z" = some ⟨[(.object "java/lang/Object")], some .boolean⟩ := by decide +kernel
theorem d_prog_70_method_2_12 : decode prog_70_method_2_code 12 = .ok (.invokevirtual 16, 3) := by decide +kernel
theorem d_prog_70_method_2_15 : decode prog_70_method_2_code 15 = .ok (.ifCond .eq 25, 3) := by decide +kernel
theorem d_prog_70_method_2_18 : decode prog_70_method_2_code 18 = .ok (.aload_n 0, 1) := by decide +kernel
theorem d_prog_70_method_2_19 : decode prog_70_method_2_code 19 = .ok (.getfield 13, 3) := by decide +kernel
theorem d_prog_70_method_2_22 : decode prog_70_method_2_code 22 = .ok (.ifnull 14, 3) := by decide +kernel
theorem d_prog_70_method_2_25 : decode prog_70_method_2_code 25 = .ok (.aload_n 0, 1) := by decide +kernel
theorem d_prog_70_method_2_26 : decode prog_70_method_2_code 26 = .ok (.getfield 13, 3) := by decide +kernel
theorem d_prog_70_method_2_29 : decode prog_70_method_2_code 29 = .ok (.aload_n 2, 1) := by decide +kernel
theorem d_prog_70_method_2_30 : decode prog_70_method_2_code 30 = .ok (.invokevirtual 16, 3) := by decide +kernel
theorem d_prog_70_method_2_33 : decode prog_70_method_2_code 33 = .ok (.ifCond .eq 7, 3) := by decide +kernel
theorem d_prog_70_method_2_36 : decode prog_70_method_2_code 36 = .ok (.iconst 1, 1) := by decide +kernel
theorem d_prog_70_method_2_37 : decode prog_70_method_2_code 37 = .ok (.goto 4, 3) := by decide +kernel
theorem d_prog_70_method_2_41 : decode prog_70_method_2_code 41 = .ok (.ireturn, 1) := by decide +kernel
theorem d_prog_70_method_2_40 : decode prog_70_method_2_code 40 = .ok (.iconst 0, 1) := by decide +kernel
set_option maxRecDepth 65536 in
set_option maxHeartbeats 40000000 in
theorem rmT00 (l : Launch) (Z : State) (a0 : Array Value) (hw : ∀ d ∈ tables_1, d.before a0 Z = true) (ws : List Jvm.Cond) (a : Addr) (u1 : Addr) (u2 : Addr) (s1 : Addr) (s2 : Addr) (x1 : Int32) (y1 : Int32) (x2 : Int32) (y2 : Int32) (zc : Int32) (h0 : Heap) (n0 : Nat) (Z0 : n0 ≤ h0.size) (F1 : Fld Z h0 a "com/example/triplewright/triplewright/source/XmlParser$ElementName" "namespace" "Ljava/lang/String;" (.ref s1)) (F2 : Fld Z h0 a "com/example/triplewright/triplewright/source/XmlParser$ElementName" "localName" "Ljava/lang/String;" (.ref s2)) (U1 : own_Str Z h0 u1 (own_cs y1)) (U2 : own_Str Z h0 u2 (own_cs y2)) (S1 : own_Str Z h0 s1 (own_cs x1)) (S2 : own_Str Z h0 s2 (own_cs x2)) (O2 : Sta Z Z.heap "java/lang/String" "COMPACT_STRINGS" "Z" (.int zc)) (hzc : ¬ zc = (0 : Int32)) (X00 : Old Z n0 h0) :
    MetFree l (⟨"com/example/triplewright/triplewright/source/XmlParser$ElementName", "matches", "(Ljava/lang/String;Ljava/lang/String;)Z"⟩ : MethodName) (head1 (Jvm.Cond.code (⟨"com/example/triplewright/triplewright/source/XmlParser$ElementName", "matches", "(Ljava/lang/String;Ljava/lang/String;)Z"⟩ : MethodName) prog_70_method_2_code 3 (some .boolean) :: ws) ({ frames := 2, cells := 0, slots := 0, locals := 28 } : Room)) (fun a_ U_ => a_ = #[(.ref a), (.ref u1), (.ref u2)] ∧ Z.Warmed39 U_.vm ∧ U_.heap = h0) (fun _ _ _ _ _ => True) (fun _ U_ o_ E_ => ∃ v_ L_, o_ = .returned v_ ∧ QT00 Z a u1 u2 s1 s2 x1 y1 x2 y2 zc h0 n0 v_ E_.heap L_ ∧ FrameEnd U_ o_ E_ L_ ({ frames := 2, cells := 0, slots := 0, locals := 28 } : Room).cells ({ frames := 2, cells := 0, slots := 0, locals := 28 } : Room).slots) := by
  refine MetFree.of_bodySF (plainFor_of_name pn_XmlParser_ElementName) hisR ?_
  intro p e s m args below meth c s₁ Bd hml0 hP hK
  obtain ⟨rfl, hZ, hh⟩ := hP
  have hx := Bd.exec
  have hby := Bd.bytes
  have hml : c.maxLocals = 3 := hml0
  have hown : s.vm.findClass "com/example/triplewright/triplewright/source/XmlParser$ElementName" = some m.cls := findClass_of_methodNamed Bd.named
  have hnm := (name_of_methodNamed Bd.named Bd.method).1
  have X0 : Stand p l e ({ frames := 2, cells := 0, slots := 0, locals := 28 } : Room) s m #[(.ref a), (.ref u1), (.ref u2)] below meth c s₁ [] 0 0 := Stand.of_body Bd
  have e0 : s₁.heap = h0 := by rw [← hh, Bd.state]; rfl
  have N0 := Fr.nil n0
  have Zn := Z0
  have pre0 : ∀ t, Steps p.tables e below (s₁.setTop (mkF m 0 #[.val (.ref a), .val (.ref u1), .val (.ref u2)] [])) t → Steps p.tables e below (s₁.setTop (entryFrame m #[(.ref a), (.ref u1), (.ref u2)] 3)) t := fun t q => castTop (ef_T00 m a u1 u2) q
  have k0 : ∀ t, Steps p.tables e below (s₁.setTop (mkF m 0 #[.val (.ref a), .val (.ref u1), .val (.ref u2)] [])) t → Steps p.tables e below (s₁.setTop (mkF m 0 #[.val (.ref a), .val (.ref u1), .val (.ref u2)] [])) t := fun t q => q
  have hwe : ∀ d ∈ StrChars.Road.wordsEq, d.before a0 Z = true := fun d hd => hw d ((by decide +kernel : ∀ d ∈ StrChars.Road.wordsEq, d ∈ tables_1) d hd)
  have k1_ : ∀ t, Steps p.tables e below (s₁.setTop (mkF m 1 #[.val (.ref a), .val (.ref u1), .val (.ref u2)] [(.ref a)])) t → Steps p.tables e below (s₁.setTop (mkF m 0 #[.val (.ref a), .val (.ref u1), .val (.ref u2)] [])) t := by
    intro t q
    refine k0 _ ?_
    show Steps p.tables e below (s₁.setTop (mkF m 0 #[.val (.ref a), .val (.ref u1), .val (.ref u2)] [])) _
    refine XS.aloadN X0.here hx rfl (hb hby d_prog_70_method_2_0) rfl rfl ?_
    show Steps p.tables e below (s₁.setTop (mkF m 1 #[.val (.ref a), .val (.ref u1), .val (.ref u2)] [(.ref a)])) _
    exact q
  obtain ⟨T2, X2, e2, st2⟩ := getF X0 hx hZ hown (host := "") (Or.inl (hw _ (List.mem_of_getElem? (i := 56) rfl))) Via.refl e0 F1 (g := (mkF m 1 #[.val (.ref a), .val (.ref u1), .val (.ref u2)] [(.ref a)])) rfl rfl (hb hby d_prog_70_method_2_1)
  have k3_ : ∀ t, Steps p.tables e below (T2.setTop (mkF m 4 #[.val (.ref a), .val (.ref u1), .val (.ref u2)] [(.ref s1)])) t → Steps p.tables e below (s₁.setTop (mkF m 0 #[.val (.ref a), .val (.ref u1), .val (.ref u2)] [])) t := fun t q => k1_ t (st2 t q)
  have k4_ : ∀ t, Steps p.tables e below (T2.setTop (mkF m 7 #[.val (.ref a), .val (.ref u1), .val (.ref u2)] [])) t → Steps p.tables e below (s₁.setTop (mkF m 0 #[.val (.ref a), .val (.ref u1), .val (.ref u2)] [])) t := by
    intro t q
    refine k3_ _ ?_
    show Steps p.tables e below (T2.setTop (mkF m 4 #[.val (.ref a), .val (.ref u1), .val (.ref u2)] [(.ref s1)])) _
    refine XS.ifnullNo X2.here hx rfl (hb hby d_prog_70_method_2_4) rfl ?_
    show Steps p.tables e below (T2.setTop (mkF m 7 #[.val (.ref a), .val (.ref u1), .val (.ref u2)] [])) _
    exact q
  have k5_ : ∀ t, Steps p.tables e below (T2.setTop (mkF m 8 #[.val (.ref a), .val (.ref u1), .val (.ref u2)] [(.ref a)])) t → Steps p.tables e below (s₁.setTop (mkF m 0 #[.val (.ref a), .val (.ref u1), .val (.ref u2)] [])) t := by
    intro t q
    refine k4_ _ ?_
    show Steps p.tables e below (T2.setTop (mkF m 7 #[.val (.ref a), .val (.ref u1), .val (.ref u2)] [])) _
    refine XS.aloadN X2.here hx rfl (hb hby d_prog_70_method_2_7) rfl rfl ?_
    show Steps p.tables e below (T2.setTop (mkF m 8 #[.val (.ref a), .val (.ref u1), .val (.ref u2)] [(.ref a)])) _
    exact q
  obtain ⟨T6, X6, e6, st6⟩ := getF X2 hx hZ hown (host := "") (Or.inl (hw _ (List.mem_of_getElem? (i := 56) rfl))) Via.refl e2 F1 (g := (mkF m 8 #[.val (.ref a), .val (.ref u1), .val (.ref u2)] [(.ref a)])) rfl rfl (hb hby d_prog_70_method_2_8)
  have k7_ : ∀ t, Steps p.tables e below (T6.setTop (mkF m 11 #[.val (.ref a), .val (.ref u1), .val (.ref u2)] [(.ref s1)])) t → Steps p.tables e below (s₁.setTop (mkF m 0 #[.val (.ref a), .val (.ref u1), .val (.ref u2)] [])) t := fun t q => k5_ t (st6 t q)
  have k8_ : ∀ t, Steps p.tables e below (T6.setTop (mkF m 12 #[.val (.ref a), .val (.ref u1), .val (.ref u2)] [(.ref u1), (.ref s1)])) t → Steps p.tables e below (s₁.setTop (mkF m 0 #[.val (.ref a), .val (.ref u1), .val (.ref u2)] [])) t := by
    intro t q
    refine k7_ _ ?_
    show Steps p.tables e below (T6.setTop (mkF m 11 #[.val (.ref a), .val (.ref u1), .val (.ref u2)] [(.ref s1)])) _
    refine XS.aloadN X6.here hx rfl (hb hby d_prog_70_method_2_11) rfl rfl ?_
    show Steps p.tables e below (T6.setTop (mkF m 12 #[.val (.ref a), .val (.ref u1), .val (.ref u2)] [(.ref u1), (.ref s1)])) _
    exact q
  obtain ⟨E1_9, C1_9, t1_9, k1_9, V1_9, A1_9⟩ := id S1
  obtain ⟨E2_9, C2_9, t2_9, k2_9, V2_9, A2_9⟩ := id U1
  obtain ⟨cq9, kq9, q9a, q9b, q9c⟩ := isOf hZ e6 E1_9
  obtain ⟨_, _, ⟨T9, L9, kk9, n9⟩, -, X9, ⟨Lc9, hQ9, l9, y9, z9⟩, st9⟩ := X6.virtualBack hx (y := (⟨"java/lang/String", "equals", "(Ljava/lang/Object;)Z"⟩ : MethodName)) (z := (⟨"java/lang/String", "equals", "(Ljava/lang/Object;)Z"⟩ : MethodName)) hown (mvT hZ (hw _ (List.mem_of_getElem? (i := 65) rfl))) (mvT hZ (hw _ (List.mem_of_getElem? (i := 66) rfl))) (notFace_of_selects (args := #[]) (mvT hZ (hw _ (List.mem_of_getElem? (i := 68) rfl)))) (mvT hZ (hw _ (List.mem_of_getElem? (i := 68) rfl))) (mvT hZ (hw _ (List.mem_of_getElem? (i := 67) rfl))) (by decide) (StrChars.Road.eqW (W := 0) hZ hwe (kI := 4) (hw _ (List.mem_of_getElem? (i := 10) rfl)) E1_9 V1_9 C1_9 A1_9 (StrChars.Road.codOf rfl (fun c hc => (own_cs_r _ c hc).2)) (own_bd (own_cs_r _)) (Nat.le_trans (own_cs_l _) (by decide)) E2_9 V2_9 C2_9 A2_9 (StrChars.Road.codOf rfl (fun c hc => (own_cs_r _ c hc).2)) (own_bd (own_cs_r _)) (Nat.le_trans (own_cs_l _) (by decide)) (O2.ext X00.2) hzc (by decide) (by decide)) q9a q9c (g := (mkF m 12 #[.val (.ref a), .val (.ref u1), .val (.ref u2)] [(.ref u1), (.ref s1)])) rfl (by rw [hml]; rfl) (Steps.refl _) (argsL := [(.ref u1)]) (rest := []) (lenOf pd_81715 rfl) rfl (by show 2 * 0 + _ ≤ _; exact Nat.le_of_eq rfl) (hb hby d_prog_70_method_2_12) (fun _ _ => ⟨rfl, e6, (by decide : 0 + 0 ≤ _), (by decide : 0 + 0 ≤ _)⟩)
  dsimp only [Pt.U, Pt.locs, Pt.cells, Pt.slots] at X9 l9 y9 z9 st9 hQ9
  rw [l9, y9, z9] at X9
  obtain ⟨hv9, rfl, hq9⟩ := hQ9
  have N9 := Fr.app N0 (Fr.nil n0)
  rcases hv9 with ⟨rfl, hd9⟩ | ⟨rfl, hd9⟩
  · have k10_ : ∀ t, Steps p.tables e below (T9.setTop (mkF m 15 #[.val (.ref a), .val (.ref u1), .val (.ref u2)] [(.int (1 : Int32))])) t → Steps p.tables e below (s₁.setTop (mkF m 0 #[.val (.ref a), .val (.ref u1), .val (.ref u2)] [])) t := fun t q => k8_ t (st9.trans q)
    have k11_ : ∀ t, Steps p.tables e below (T9.setTop (mkF m 18 #[.val (.ref a), .val (.ref u1), .val (.ref u2)] [])) t → Steps p.tables e below (s₁.setTop (mkF m 0 #[.val (.ref a), .val (.ref u1), .val (.ref u2)] [])) t := by
      intro t q
      refine k10_ _ ?_
      show Steps p.tables e below (T9.setTop (mkF m 15 #[.val (.ref a), .val (.ref u1), .val (.ref u2)] [(.int (1 : Int32))])) _
      refine XS.ifNo X9.here hx rfl (hb hby d_prog_70_method_2_15) rfl ((if0 _ _).trans (feq (by decide)).1) ?_
      show Steps p.tables e below (T9.setTop (mkF m 18 #[.val (.ref a), .val (.ref u1), .val (.ref u2)] [])) _
      exact q
    have k12_ : ∀ t, Steps p.tables e below (T9.setTop (mkF m 19 #[.val (.ref a), .val (.ref u1), .val (.ref u2)] [(.ref a)])) t → Steps p.tables e below (s₁.setTop (mkF m 0 #[.val (.ref a), .val (.ref u1), .val (.ref u2)] [])) t := by
      intro t q
      refine k11_ _ ?_
      show Steps p.tables e below (T9.setTop (mkF m 18 #[.val (.ref a), .val (.ref u1), .val (.ref u2)] [])) _
      refine XS.aloadN X9.here hx rfl (hb hby d_prog_70_method_2_18) rfl rfl ?_
      show Steps p.tables e below (T9.setTop (mkF m 19 #[.val (.ref a), .val (.ref u1), .val (.ref u2)] [(.ref a)])) _
      exact q
    obtain ⟨T13, X13, e13, st13⟩ := getF X9 hx hZ hown (host := "") (Or.inl (hw _ (List.mem_of_getElem? (i := 58) rfl))) Via.refl hq9 F2 (g := (mkF m 19 #[.val (.ref a), .val (.ref u1), .val (.ref u2)] [(.ref a)])) rfl rfl (hb hby d_prog_70_method_2_19)
    have k14_ : ∀ t, Steps p.tables e below (T13.setTop (mkF m 22 #[.val (.ref a), .val (.ref u1), .val (.ref u2)] [(.ref s2)])) t → Steps p.tables e below (s₁.setTop (mkF m 0 #[.val (.ref a), .val (.ref u1), .val (.ref u2)] [])) t := fun t q => k12_ t (st13 t q)
    have k15_ : ∀ t, Steps p.tables e below (T13.setTop (mkF m 25 #[.val (.ref a), .val (.ref u1), .val (.ref u2)] [])) t → Steps p.tables e below (s₁.setTop (mkF m 0 #[.val (.ref a), .val (.ref u1), .val (.ref u2)] [])) t := by
      intro t q
      refine k14_ _ ?_
      show Steps p.tables e below (T13.setTop (mkF m 22 #[.val (.ref a), .val (.ref u1), .val (.ref u2)] [(.ref s2)])) _
      refine XS.ifnullNo X13.here hx rfl (hb hby d_prog_70_method_2_22) rfl ?_
      show Steps p.tables e below (T13.setTop (mkF m 25 #[.val (.ref a), .val (.ref u1), .val (.ref u2)] [])) _
      exact q
    have k16_ : ∀ t, Steps p.tables e below (T13.setTop (mkF m 26 #[.val (.ref a), .val (.ref u1), .val (.ref u2)] [(.ref a)])) t → Steps p.tables e below (s₁.setTop (mkF m 0 #[.val (.ref a), .val (.ref u1), .val (.ref u2)] [])) t := by
      intro t q
      refine k15_ _ ?_
      show Steps p.tables e below (T13.setTop (mkF m 25 #[.val (.ref a), .val (.ref u1), .val (.ref u2)] [])) _
      refine XS.aloadN X13.here hx rfl (hb hby d_prog_70_method_2_25) rfl rfl ?_
      show Steps p.tables e below (T13.setTop (mkF m 26 #[.val (.ref a), .val (.ref u1), .val (.ref u2)] [(.ref a)])) _
      exact q
    obtain ⟨T17, X17, e17, st17⟩ := getF X13 hx hZ hown (host := "") (Or.inl (hw _ (List.mem_of_getElem? (i := 58) rfl))) Via.refl e13 F2 (g := (mkF m 26 #[.val (.ref a), .val (.ref u1), .val (.ref u2)] [(.ref a)])) rfl rfl (hb hby d_prog_70_method_2_26)
    have k18_ : ∀ t, Steps p.tables e below (T17.setTop (mkF m 29 #[.val (.ref a), .val (.ref u1), .val (.ref u2)] [(.ref s2)])) t → Steps p.tables e below (s₁.setTop (mkF m 0 #[.val (.ref a), .val (.ref u1), .val (.ref u2)] [])) t := fun t q => k16_ t (st17 t q)
    have k19_ : ∀ t, Steps p.tables e below (T17.setTop (mkF m 30 #[.val (.ref a), .val (.ref u1), .val (.ref u2)] [(.ref u2), (.ref s2)])) t → Steps p.tables e below (s₁.setTop (mkF m 0 #[.val (.ref a), .val (.ref u1), .val (.ref u2)] [])) t := by
      intro t q
      refine k18_ _ ?_
      show Steps p.tables e below (T17.setTop (mkF m 29 #[.val (.ref a), .val (.ref u1), .val (.ref u2)] [(.ref s2)])) _
      refine XS.aloadN X17.here hx rfl (hb hby d_prog_70_method_2_29) rfl rfl ?_
      show Steps p.tables e below (T17.setTop (mkF m 30 #[.val (.ref a), .val (.ref u1), .val (.ref u2)] [(.ref u2), (.ref s2)])) _
      exact q
    obtain ⟨E1_20, C1_20, t1_20, k1_20, V1_20, A1_20⟩ := id S2
    obtain ⟨E2_20, C2_20, t2_20, k2_20, V2_20, A2_20⟩ := id U2
    obtain ⟨cq20, kq20, q20a, q20b, q20c⟩ := isOf hZ e17 E1_20
    obtain ⟨_, _, ⟨T20, L20, kk20, n20⟩, -, X20, ⟨Lc20, hQ20, l20, y20, z20⟩, st20⟩ := X17.virtualBack hx (y := (⟨"java/lang/String", "equals", "(Ljava/lang/Object;)Z"⟩ : MethodName)) (z := (⟨"java/lang/String", "equals", "(Ljava/lang/Object;)Z"⟩ : MethodName)) hown (mvT hZ (hw _ (List.mem_of_getElem? (i := 65) rfl))) (mvT hZ (hw _ (List.mem_of_getElem? (i := 66) rfl))) (notFace_of_selects (args := #[]) (mvT hZ (hw _ (List.mem_of_getElem? (i := 68) rfl)))) (mvT hZ (hw _ (List.mem_of_getElem? (i := 68) rfl))) (mvT hZ (hw _ (List.mem_of_getElem? (i := 67) rfl))) (by decide) (StrChars.Road.eqW (W := 0) hZ hwe (kI := 4) (hw _ (List.mem_of_getElem? (i := 10) rfl)) E1_20 V1_20 C1_20 A1_20 (StrChars.Road.codOf rfl (fun c hc => (own_cs_r _ c hc).2)) (own_bd (own_cs_r _)) (Nat.le_trans (own_cs_l _) (by decide)) E2_20 V2_20 C2_20 A2_20 (StrChars.Road.codOf rfl (fun c hc => (own_cs_r _ c hc).2)) (own_bd (own_cs_r _)) (Nat.le_trans (own_cs_l _) (by decide)) (O2.ext X00.2) hzc (by decide) (by decide)) q20a q20c (g := (mkF m 30 #[.val (.ref a), .val (.ref u1), .val (.ref u2)] [(.ref u2), (.ref s2)])) rfl (by rw [hml]; rfl) (Steps.refl _) (argsL := [(.ref u2)]) (rest := []) (lenOf pd_81715 rfl) rfl (by show 2 * 0 + _ ≤ _; exact Nat.le_of_eq rfl) (hb hby d_prog_70_method_2_30) (fun _ _ => ⟨rfl, e17, (by decide : 0 + 0 + 0 ≤ _), (by decide : 0 + 0 + 0 ≤ _)⟩)
    dsimp only [Pt.U, Pt.locs, Pt.cells, Pt.slots] at X20 l20 y20 z20 st20 hQ20
    rw [l20, y20, z20] at X20
    obtain ⟨hv20, rfl, hq20⟩ := hQ20
    have N20 := Fr.app N9 (Fr.nil n0)
    rcases hv20 with ⟨rfl, hd20⟩ | ⟨rfl, hd20⟩
    · have k21_ : ∀ t, Steps p.tables e below (T20.setTop (mkF m 33 #[.val (.ref a), .val (.ref u1), .val (.ref u2)] [(.int (1 : Int32))])) t → Steps p.tables e below (s₁.setTop (mkF m 0 #[.val (.ref a), .val (.ref u1), .val (.ref u2)] [])) t := fun t q => k19_ t (st20.trans q)
      have k22_ : ∀ t, Steps p.tables e below (T20.setTop (mkF m 36 #[.val (.ref a), .val (.ref u1), .val (.ref u2)] [])) t → Steps p.tables e below (s₁.setTop (mkF m 0 #[.val (.ref a), .val (.ref u1), .val (.ref u2)] [])) t := by
        intro t q
        refine k21_ _ ?_
        show Steps p.tables e below (T20.setTop (mkF m 33 #[.val (.ref a), .val (.ref u1), .val (.ref u2)] [(.int (1 : Int32))])) _
        refine XS.ifNo X20.here hx rfl (hb hby d_prog_70_method_2_33) rfl ((if0 _ _).trans (feq (by decide)).1) ?_
        show Steps p.tables e below (T20.setTop (mkF m 36 #[.val (.ref a), .val (.ref u1), .val (.ref u2)] [])) _
        exact q
      have k23_ : ∀ t, Steps p.tables e below (T20.setTop (mkF m 41 #[.val (.ref a), .val (.ref u1), .val (.ref u2)] [(.int (1 : Int32))])) t → Steps p.tables e below (s₁.setTop (mkF m 0 #[.val (.ref a), .val (.ref u1), .val (.ref u2)] [])) t := by
        intro t q
        refine k22_ _ ?_
        show Steps p.tables e below (T20.setTop (mkF m 36 #[.val (.ref a), .val (.ref u1), .val (.ref u2)] [])) _
        refine XS.iconst X20.here hx rfl (hb hby d_prog_70_method_2_36) ?_
        show Steps p.tables e below (T20.setTop (mkF m 37 #[.val (.ref a), .val (.ref u1), .val (.ref u2)] [(.int (1 : Int32))])) _
        refine XS.goto X20.here hx rfl (pc0 := 37) (pc' := 41) rfl (hb hby d_prog_70_method_2_37) (by decide) (by decide) ?_
        show Steps p.tables e below (T20.setTop (mkF m 41 #[.val (.ref a), .val (.ref u1), .val (.ref u2)] [(.int (1 : Int32))])) _
        exact q
      obtain ⟨fs, hr, hrun, hended, hW, hsame⟩ := X20.leave (v := some (.int (1 : Int32))) (fun h => by rw [Bd.returns] at h; cases h)
      refine ⟨_, _, pre0 _ (k23_ _ ?_), hrun, hended, _, _, rfl, ?_, ⟨_, rfl⟩, hW, hsame.mono (by decide) (by decide)⟩
      · show Steps p.tables e below (T20.setTop (mkF m 41 #[.val (.ref a), .val (.ref u1), .val (.ref u2)] [(.int (1 : Int32))])) _
        exact retN X20 hx (t := .boolean) Bd.returns (by simp) (hb hby d_prog_70_method_2_41) hr
      · show QT00 Z a u1 u2 s1 s2 x1 y1 x2 y2 zc h0 n0 _ T20.heap _
        rw [hq20]
        exact ⟨(congrArg (fun z => some (Value.int z)) (bi_t ⟨hd9, hd20⟩)).symm, N20, rfl⟩
    · have k24_ : ∀ t, Steps p.tables e below (T20.setTop (mkF m 33 #[.val (.ref a), .val (.ref u1), .val (.ref u2)] [(.int (0 : Int32))])) t → Steps p.tables e below (s₁.setTop (mkF m 0 #[.val (.ref a), .val (.ref u1), .val (.ref u2)] [])) t := fun t q => k19_ t (st20.trans q)
      have k25_ : ∀ t, Steps p.tables e below (T20.setTop (mkF m 40 #[.val (.ref a), .val (.ref u1), .val (.ref u2)] [])) t → Steps p.tables e below (s₁.setTop (mkF m 0 #[.val (.ref a), .val (.ref u1), .val (.ref u2)] [])) t := by
        intro t q
        refine k24_ _ ?_
        show Steps p.tables e below (T20.setTop (mkF m 33 #[.val (.ref a), .val (.ref u1), .val (.ref u2)] [(.int (0 : Int32))])) _
        refine XS.ifYes X20.here hx rfl (pc0 := 33) (pc' := 40) rfl (hb hby d_prog_70_method_2_33) rfl ((if0 _ _).trans (teq rfl).1) (by decide) (by decide) ?_
        show Steps p.tables e below (T20.setTop (mkF m 40 #[.val (.ref a), .val (.ref u1), .val (.ref u2)] [])) _
        exact q
      have k26_ : ∀ t, Steps p.tables e below (T20.setTop (mkF m 41 #[.val (.ref a), .val (.ref u1), .val (.ref u2)] [(.int (0 : Int32))])) t → Steps p.tables e below (s₁.setTop (mkF m 0 #[.val (.ref a), .val (.ref u1), .val (.ref u2)] [])) t := by
        intro t q
        refine k25_ _ ?_
        show Steps p.tables e below (T20.setTop (mkF m 40 #[.val (.ref a), .val (.ref u1), .val (.ref u2)] [])) _
        refine XS.iconst X20.here hx rfl (hb hby d_prog_70_method_2_40) ?_
        show Steps p.tables e below (T20.setTop (mkF m 41 #[.val (.ref a), .val (.ref u1), .val (.ref u2)] [(.int (0 : Int32))])) _
        exact q
      obtain ⟨fs, hr, hrun, hended, hW, hsame⟩ := X20.leave (v := some (.int (0 : Int32))) (fun h => by rw [Bd.returns] at h; cases h)
      refine ⟨_, _, pre0 _ (k26_ _ ?_), hrun, hended, _, _, rfl, ?_, ⟨_, rfl⟩, hW, hsame.mono (by decide) (by decide)⟩
      · show Steps p.tables e below (T20.setTop (mkF m 41 #[.val (.ref a), .val (.ref u1), .val (.ref u2)] [(.int (0 : Int32))])) _
        exact retN X20 hx (t := .boolean) Bd.returns (by simp) (hb hby d_prog_70_method_2_41) hr
      · show QT00 Z a u1 u2 s1 s2 x1 y1 x2 y2 zc h0 n0 _ T20.heap _
        rw [hq20]
        exact ⟨(congrArg (fun z => some (Value.int z)) (bi_f fun z => hd20 z.2)).symm, N20, rfl⟩
  · have k27_ : ∀ t, Steps p.tables e below (T9.setTop (mkF m 15 #[.val (.ref a), .val (.ref u1), .val (.ref u2)] [(.int (0 : Int32))])) t → Steps p.tables e below (s₁.setTop (mkF m 0 #[.val (.ref a), .val (.ref u1), .val (.ref u2)] [])) t := fun t q => k8_ t (st9.trans q)
    have k28_ : ∀ t, Steps p.tables e below (T9.setTop (mkF m 40 #[.val (.ref a), .val (.ref u1), .val (.ref u2)] [])) t → Steps p.tables e below (s₁.setTop (mkF m 0 #[.val (.ref a), .val (.ref u1), .val (.ref u2)] [])) t := by
      intro t q
      refine k27_ _ ?_
      show Steps p.tables e below (T9.setTop (mkF m 15 #[.val (.ref a), .val (.ref u1), .val (.ref u2)] [(.int (0 : Int32))])) _
      refine XS.ifYes X9.here hx rfl (pc0 := 15) (pc' := 40) rfl (hb hby d_prog_70_method_2_15) rfl ((if0 _ _).trans (teq rfl).1) (by decide) (by decide) ?_
      show Steps p.tables e below (T9.setTop (mkF m 40 #[.val (.ref a), .val (.ref u1), .val (.ref u2)] [])) _
      exact q
    have k29_ : ∀ t, Steps p.tables e below (T9.setTop (mkF m 41 #[.val (.ref a), .val (.ref u1), .val (.ref u2)] [(.int (0 : Int32))])) t → Steps p.tables e below (s₁.setTop (mkF m 0 #[.val (.ref a), .val (.ref u1), .val (.ref u2)] [])) t := by
      intro t q
      refine k28_ _ ?_
      show Steps p.tables e below (T9.setTop (mkF m 40 #[.val (.ref a), .val (.ref u1), .val (.ref u2)] [])) _
      refine XS.iconst X9.here hx rfl (hb hby d_prog_70_method_2_40) ?_
      show Steps p.tables e below (T9.setTop (mkF m 41 #[.val (.ref a), .val (.ref u1), .val (.ref u2)] [(.int (0 : Int32))])) _
      exact q
    obtain ⟨fs, hr, hrun, hended, hW, hsame⟩ := X9.leave (v := some (.int (0 : Int32))) (fun h => by rw [Bd.returns] at h; cases h)
    refine ⟨_, _, pre0 _ (k29_ _ ?_), hrun, hended, _, _, rfl, ?_, ⟨_, rfl⟩, hW, hsame.mono (by decide) (by decide)⟩
    · show Steps p.tables e below (T9.setTop (mkF m 41 #[.val (.ref a), .val (.ref u1), .val (.ref u2)] [(.int (0 : Int32))])) _
      exact retN X9 hx (t := .boolean) Bd.returns (by simp) (hb hby d_prog_70_method_2_41) hr
    · show QT00 Z a u1 u2 s1 s2 x1 y1 x2 y2 zc h0 n0 _ T9.heap _
      rw [hq9]
      exact ⟨(congrArg (fun z => some (Value.int z)) (bi_f fun z => hd9 z.1)).symm, N9, rfl⟩
def QT01 (Z : State) (a : Addr) (u1 : Addr) (u2 : Addr) (s1 : Addr) (x1 : Int32) (y1 : Int32) (x2 : Int32) (y2 : Int32) (zc : Int32) (h0 : Heap) (n0 : Nat) (v : Option Value) (h : Heap) (L : List Loc) : Prop := v = some (.int (bi ((own_cs x1 = own_cs y1) ∧ (True)))) ∧ Fr n0 L ∧ h = h0
theorem ef_T01 (m : MethodId) (x0 : Addr) (x1 : Addr) (x2 : Addr) : entryFrame m #[(.ref x0), (.ref x1), (.ref x2)] 3 = mkF m 0 #[.val (.ref x0), .val (.ref x1), .val (.ref x2)] [] := by first | (simp [entryFrame, mkF, argsToLocals, Value.category]; done) | rfl
set_option maxRecDepth 65536 in
set_option maxHeartbeats 40000000 in
theorem rmT01 (l : Launch) (Z : State) (a0 : Array Value) (hw : ∀ d ∈ tables_1, d.before a0 Z = true) (ws : List Jvm.Cond) (a : Addr) (u1 : Addr) (u2 : Addr) (s1 : Addr) (x1 : Int32) (y1 : Int32) (x2 : Int32) (y2 : Int32) (zc : Int32) (h0 : Heap) (n0 : Nat) (Z0 : n0 ≤ h0.size) (F1 : Fld Z h0 a "com/example/triplewright/triplewright/source/XmlParser$ElementName" "namespace" "Ljava/lang/String;" (.ref s1)) (F2 : Fld Z h0 a "com/example/triplewright/triplewright/source/XmlParser$ElementName" "localName" "Ljava/lang/String;" .null) (U1 : own_Str Z h0 u1 (own_cs y1)) (U2 : own_Str Z h0 u2 (own_cs y2)) (S1 : own_Str Z h0 s1 (own_cs x1)) (O2 : Sta Z Z.heap "java/lang/String" "COMPACT_STRINGS" "Z" (.int zc)) (hzc : ¬ zc = (0 : Int32)) (X00 : Old Z n0 h0) :
    MetFree l (⟨"com/example/triplewright/triplewright/source/XmlParser$ElementName", "matches", "(Ljava/lang/String;Ljava/lang/String;)Z"⟩ : MethodName) (head1 (Jvm.Cond.code (⟨"com/example/triplewright/triplewright/source/XmlParser$ElementName", "matches", "(Ljava/lang/String;Ljava/lang/String;)Z"⟩ : MethodName) prog_70_method_2_code 3 (some .boolean) :: ws) ({ frames := 2, cells := 0, slots := 0, locals := 28 } : Room)) (fun a_ U_ => a_ = #[(.ref a), (.ref u1), (.ref u2)] ∧ Z.Warmed39 U_.vm ∧ U_.heap = h0) (fun _ _ _ _ _ => True) (fun _ U_ o_ E_ => ∃ v_ L_, o_ = .returned v_ ∧ QT01 Z a u1 u2 s1 x1 y1 x2 y2 zc h0 n0 v_ E_.heap L_ ∧ FrameEnd U_ o_ E_ L_ ({ frames := 2, cells := 0, slots := 0, locals := 28 } : Room).cells ({ frames := 2, cells := 0, slots := 0, locals := 28 } : Room).slots) := by
  refine MetFree.of_bodySF (plainFor_of_name pn_XmlParser_ElementName) hisR ?_
  intro p e s m args below meth c s₁ Bd hml0 hP hK
  obtain ⟨rfl, hZ, hh⟩ := hP
  have hx := Bd.exec
  have hby := Bd.bytes
  have hml : c.maxLocals = 3 := hml0
  have hown : s.vm.findClass "com/example/triplewright/triplewright/source/XmlParser$ElementName" = some m.cls := findClass_of_methodNamed Bd.named
  have hnm := (name_of_methodNamed Bd.named Bd.method).1
  have X0 : Stand p l e ({ frames := 2, cells := 0, slots := 0, locals := 28 } : Room) s m #[(.ref a), (.ref u1), (.ref u2)] below meth c s₁ [] 0 0 := Stand.of_body Bd
  have e0 : s₁.heap = h0 := by rw [← hh, Bd.state]; rfl
  have N0 := Fr.nil n0
  have Zn := Z0
  have pre0 : ∀ t, Steps p.tables e below (s₁.setTop (mkF m 0 #[.val (.ref a), .val (.ref u1), .val (.ref u2)] [])) t → Steps p.tables e below (s₁.setTop (entryFrame m #[(.ref a), (.ref u1), (.ref u2)] 3)) t := fun t q => castTop (ef_T01 m a u1 u2) q
  have k0 : ∀ t, Steps p.tables e below (s₁.setTop (mkF m 0 #[.val (.ref a), .val (.ref u1), .val (.ref u2)] [])) t → Steps p.tables e below (s₁.setTop (mkF m 0 #[.val (.ref a), .val (.ref u1), .val (.ref u2)] [])) t := fun t q => q
  have hwe : ∀ d ∈ StrChars.Road.wordsEq, d.before a0 Z = true := fun d hd => hw d ((by decide +kernel : ∀ d ∈ StrChars.Road.wordsEq, d ∈ tables_1) d hd)
  have k1_ : ∀ t, Steps p.tables e below (s₁.setTop (mkF m 1 #[.val (.ref a), .val (.ref u1), .val (.ref u2)] [(.ref a)])) t → Steps p.tables e below (s₁.setTop (mkF m 0 #[.val (.ref a), .val (.ref u1), .val (.ref u2)] [])) t := by
    intro t q
    refine k0 _ ?_
    show Steps p.tables e below (s₁.setTop (mkF m 0 #[.val (.ref a), .val (.ref u1), .val (.ref u2)] [])) _
    refine XS.aloadN X0.here hx rfl (hb hby d_prog_70_method_2_0) rfl rfl ?_
    show Steps p.tables e below (s₁.setTop (mkF m 1 #[.val (.ref a), .val (.ref u1), .val (.ref u2)] [(.ref a)])) _
    exact q
  obtain ⟨T2, X2, e2, st2⟩ := getF X0 hx hZ hown (host := "") (Or.inl (hw _ (List.mem_of_getElem? (i := 56) rfl))) Via.refl e0 F1 (g := (mkF m 1 #[.val (.ref a), .val (.ref u1), .val (.ref u2)] [(.ref a)])) rfl rfl (hb hby d_prog_70_method_2_1)
  have k3_ : ∀ t, Steps p.tables e below (T2.setTop (mkF m 4 #[.val (.ref a), .val (.ref u1), .val (.ref u2)] [(.ref s1)])) t → Steps p.tables e below (s₁.setTop (mkF m 0 #[.val (.ref a), .val (.ref u1), .val (.ref u2)] [])) t := fun t q => k1_ t (st2 t q)
  have k4_ : ∀ t, Steps p.tables e below (T2.setTop (mkF m 7 #[.val (.ref a), .val (.ref u1), .val (.ref u2)] [])) t → Steps p.tables e below (s₁.setTop (mkF m 0 #[.val (.ref a), .val (.ref u1), .val (.ref u2)] [])) t := by
    intro t q
    refine k3_ _ ?_
    show Steps p.tables e below (T2.setTop (mkF m 4 #[.val (.ref a), .val (.ref u1), .val (.ref u2)] [(.ref s1)])) _
    refine XS.ifnullNo X2.here hx rfl (hb hby d_prog_70_method_2_4) rfl ?_
    show Steps p.tables e below (T2.setTop (mkF m 7 #[.val (.ref a), .val (.ref u1), .val (.ref u2)] [])) _
    exact q
  have k5_ : ∀ t, Steps p.tables e below (T2.setTop (mkF m 8 #[.val (.ref a), .val (.ref u1), .val (.ref u2)] [(.ref a)])) t → Steps p.tables e below (s₁.setTop (mkF m 0 #[.val (.ref a), .val (.ref u1), .val (.ref u2)] [])) t := by
    intro t q
    refine k4_ _ ?_
    show Steps p.tables e below (T2.setTop (mkF m 7 #[.val (.ref a), .val (.ref u1), .val (.ref u2)] [])) _
    refine XS.aloadN X2.here hx rfl (hb hby d_prog_70_method_2_7) rfl rfl ?_
    show Steps p.tables e below (T2.setTop (mkF m 8 #[.val (.ref a), .val (.ref u1), .val (.ref u2)] [(.ref a)])) _
    exact q
  obtain ⟨T6, X6, e6, st6⟩ := getF X2 hx hZ hown (host := "") (Or.inl (hw _ (List.mem_of_getElem? (i := 56) rfl))) Via.refl e2 F1 (g := (mkF m 8 #[.val (.ref a), .val (.ref u1), .val (.ref u2)] [(.ref a)])) rfl rfl (hb hby d_prog_70_method_2_8)
  have k7_ : ∀ t, Steps p.tables e below (T6.setTop (mkF m 11 #[.val (.ref a), .val (.ref u1), .val (.ref u2)] [(.ref s1)])) t → Steps p.tables e below (s₁.setTop (mkF m 0 #[.val (.ref a), .val (.ref u1), .val (.ref u2)] [])) t := fun t q => k5_ t (st6 t q)
  have k8_ : ∀ t, Steps p.tables e below (T6.setTop (mkF m 12 #[.val (.ref a), .val (.ref u1), .val (.ref u2)] [(.ref u1), (.ref s1)])) t → Steps p.tables e below (s₁.setTop (mkF m 0 #[.val (.ref a), .val (.ref u1), .val (.ref u2)] [])) t := by
    intro t q
    refine k7_ _ ?_
    show Steps p.tables e below (T6.setTop (mkF m 11 #[.val (.ref a), .val (.ref u1), .val (.ref u2)] [(.ref s1)])) _
    refine XS.aloadN X6.here hx rfl (hb hby d_prog_70_method_2_11) rfl rfl ?_
    show Steps p.tables e below (T6.setTop (mkF m 12 #[.val (.ref a), .val (.ref u1), .val (.ref u2)] [(.ref u1), (.ref s1)])) _
    exact q
  obtain ⟨E1_9, C1_9, t1_9, k1_9, V1_9, A1_9⟩ := id S1
  obtain ⟨E2_9, C2_9, t2_9, k2_9, V2_9, A2_9⟩ := id U1
  obtain ⟨cq9, kq9, q9a, q9b, q9c⟩ := isOf hZ e6 E1_9
  obtain ⟨_, _, ⟨T9, L9, kk9, n9⟩, -, X9, ⟨Lc9, hQ9, l9, y9, z9⟩, st9⟩ := X6.virtualBack hx (y := (⟨"java/lang/String", "equals", "(Ljava/lang/Object;)Z"⟩ : MethodName)) (z := (⟨"java/lang/String", "equals", "(Ljava/lang/Object;)Z"⟩ : MethodName)) hown (mvT hZ (hw _ (List.mem_of_getElem? (i := 65) rfl))) (mvT hZ (hw _ (List.mem_of_getElem? (i := 66) rfl))) (notFace_of_selects (args := #[]) (mvT hZ (hw _ (List.mem_of_getElem? (i := 68) rfl)))) (mvT hZ (hw _ (List.mem_of_getElem? (i := 68) rfl))) (mvT hZ (hw _ (List.mem_of_getElem? (i := 67) rfl))) (by decide) (StrChars.Road.eqW (W := 0) hZ hwe (kI := 4) (hw _ (List.mem_of_getElem? (i := 10) rfl)) E1_9 V1_9 C1_9 A1_9 (StrChars.Road.codOf rfl (fun c hc => (own_cs_r _ c hc).2)) (own_bd (own_cs_r _)) (Nat.le_trans (own_cs_l _) (by decide)) E2_9 V2_9 C2_9 A2_9 (StrChars.Road.codOf rfl (fun c hc => (own_cs_r _ c hc).2)) (own_bd (own_cs_r _)) (Nat.le_trans (own_cs_l _) (by decide)) (O2.ext X00.2) hzc (by decide) (by decide)) q9a q9c (g := (mkF m 12 #[.val (.ref a), .val (.ref u1), .val (.ref u2)] [(.ref u1), (.ref s1)])) rfl (by rw [hml]; rfl) (Steps.refl _) (argsL := [(.ref u1)]) (rest := []) (lenOf pd_81715 rfl) rfl (by show 2 * 0 + _ ≤ _; exact Nat.le_of_eq rfl) (hb hby d_prog_70_method_2_12) (fun _ _ => ⟨rfl, e6, (by decide : 0 + 0 ≤ _), (by decide : 0 + 0 ≤ _)⟩)
  dsimp only [Pt.U, Pt.locs, Pt.cells, Pt.slots] at X9 l9 y9 z9 st9 hQ9
  rw [l9, y9, z9] at X9
  obtain ⟨hv9, rfl, hq9⟩ := hQ9
  have N9 := Fr.app N0 (Fr.nil n0)
  rcases hv9 with ⟨rfl, hd9⟩ | ⟨rfl, hd9⟩
  · have k10_ : ∀ t, Steps p.tables e below (T9.setTop (mkF m 15 #[.val (.ref a), .val (.ref u1), .val (.ref u2)] [(.int (1 : Int32))])) t → Steps p.tables e below (s₁.setTop (mkF m 0 #[.val (.ref a), .val (.ref u1), .val (.ref u2)] [])) t := fun t q => k8_ t (st9.trans q)
    have k11_ : ∀ t, Steps p.tables e below (T9.setTop (mkF m 18 #[.val (.ref a), .val (.ref u1), .val (.ref u2)] [])) t → Steps p.tables e below (s₁.setTop (mkF m 0 #[.val (.ref a), .val (.ref u1), .val (.ref u2)] [])) t := by
      intro t q
      refine k10_ _ ?_
      show Steps p.tables e below (T9.setTop (mkF m 15 #[.val (.ref a), .val (.ref u1), .val (.ref u2)] [(.int (1 : Int32))])) _
      refine XS.ifNo X9.here hx rfl (hb hby d_prog_70_method_2_15) rfl ((if0 _ _).trans (feq (by decide)).1) ?_
      show Steps p.tables e below (T9.setTop (mkF m 18 #[.val (.ref a), .val (.ref u1), .val (.ref u2)] [])) _
      exact q
    have k12_ : ∀ t, Steps p.tables e below (T9.setTop (mkF m 19 #[.val (.ref a), .val (.ref u1), .val (.ref u2)] [(.ref a)])) t → Steps p.tables e below (s₁.setTop (mkF m 0 #[.val (.ref a), .val (.ref u1), .val (.ref u2)] [])) t := by
      intro t q
      refine k11_ _ ?_
      show Steps p.tables e below (T9.setTop (mkF m 18 #[.val (.ref a), .val (.ref u1), .val (.ref u2)] [])) _
      refine XS.aloadN X9.here hx rfl (hb hby d_prog_70_method_2_18) rfl rfl ?_
      show Steps p.tables e below (T9.setTop (mkF m 19 #[.val (.ref a), .val (.ref u1), .val (.ref u2)] [(.ref a)])) _
      exact q
    obtain ⟨T13, X13, e13, st13⟩ := getF X9 hx hZ hown (host := "") (Or.inl (hw _ (List.mem_of_getElem? (i := 58) rfl))) Via.refl hq9 F2 (g := (mkF m 19 #[.val (.ref a), .val (.ref u1), .val (.ref u2)] [(.ref a)])) rfl rfl (hb hby d_prog_70_method_2_19)
    have k14_ : ∀ t, Steps p.tables e below (T13.setTop (mkF m 22 #[.val (.ref a), .val (.ref u1), .val (.ref u2)] [.null])) t → Steps p.tables e below (s₁.setTop (mkF m 0 #[.val (.ref a), .val (.ref u1), .val (.ref u2)] [])) t := fun t q => k12_ t (st13 t q)
    have k15_ : ∀ t, Steps p.tables e below (T13.setTop (mkF m 36 #[.val (.ref a), .val (.ref u1), .val (.ref u2)] [])) t → Steps p.tables e below (s₁.setTop (mkF m 0 #[.val (.ref a), .val (.ref u1), .val (.ref u2)] [])) t := by
      intro t q
      refine k14_ _ ?_
      show Steps p.tables e below (T13.setTop (mkF m 22 #[.val (.ref a), .val (.ref u1), .val (.ref u2)] [.null])) _
      refine XS.ifnullYes X13.here hx rfl (pc0 := 22) (pc' := 36) rfl (hb hby d_prog_70_method_2_22) rfl (by decide) (by decide) ?_
      show Steps p.tables e below (T13.setTop (mkF m 36 #[.val (.ref a), .val (.ref u1), .val (.ref u2)] [])) _
      exact q
    have k16_ : ∀ t, Steps p.tables e below (T13.setTop (mkF m 41 #[.val (.ref a), .val (.ref u1), .val (.ref u2)] [(.int (1 : Int32))])) t → Steps p.tables e below (s₁.setTop (mkF m 0 #[.val (.ref a), .val (.ref u1), .val (.ref u2)] [])) t := by
      intro t q
      refine k15_ _ ?_
      show Steps p.tables e below (T13.setTop (mkF m 36 #[.val (.ref a), .val (.ref u1), .val (.ref u2)] [])) _
      refine XS.iconst X13.here hx rfl (hb hby d_prog_70_method_2_36) ?_
      show Steps p.tables e below (T13.setTop (mkF m 37 #[.val (.ref a), .val (.ref u1), .val (.ref u2)] [(.int (1 : Int32))])) _
      refine XS.goto X13.here hx rfl (pc0 := 37) (pc' := 41) rfl (hb hby d_prog_70_method_2_37) (by decide) (by decide) ?_
      show Steps p.tables e below (T13.setTop (mkF m 41 #[.val (.ref a), .val (.ref u1), .val (.ref u2)] [(.int (1 : Int32))])) _
      exact q
    obtain ⟨fs, hr, hrun, hended, hW, hsame⟩ := X13.leave (v := some (.int (1 : Int32))) (fun h => by rw [Bd.returns] at h; cases h)
    refine ⟨_, _, pre0 _ (k16_ _ ?_), hrun, hended, _, _, rfl, ?_, ⟨_, rfl⟩, hW, hsame.mono (by decide) (by decide)⟩
    · show Steps p.tables e below (T13.setTop (mkF m 41 #[.val (.ref a), .val (.ref u1), .val (.ref u2)] [(.int (1 : Int32))])) _
      exact retN X13 hx (t := .boolean) Bd.returns (by simp) (hb hby d_prog_70_method_2_41) hr
    · show QT01 Z a u1 u2 s1 x1 y1 x2 y2 zc h0 n0 _ T13.heap _
      rw [e13]
      exact ⟨(congrArg (fun z => some (Value.int z)) (bi_t ⟨hd9, trivial⟩)).symm, N9, rfl⟩
  · have k17_ : ∀ t, Steps p.tables e below (T9.setTop (mkF m 15 #[.val (.ref a), .val (.ref u1), .val (.ref u2)] [(.int (0 : Int32))])) t → Steps p.tables e below (s₁.setTop (mkF m 0 #[.val (.ref a), .val (.ref u1), .val (.ref u2)] [])) t := fun t q => k8_ t (st9.trans q)
    have k18_ : ∀ t, Steps p.tables e below (T9.setTop (mkF m 40 #[.val (.ref a), .val (.ref u1), .val (.ref u2)] [])) t → Steps p.tables e below (s₁.setTop (mkF m 0 #[.val (.ref a), .val (.ref u1), .val (.ref u2)] [])) t := by
      intro t q
      refine k17_ _ ?_
      show Steps p.tables e below (T9.setTop (mkF m 15 #[.val (.ref a), .val (.ref u1), .val (.ref u2)] [(.int (0 : Int32))])) _
      refine XS.ifYes X9.here hx rfl (pc0 := 15) (pc' := 40) rfl (hb hby d_prog_70_method_2_15) rfl ((if0 _ _).trans (teq rfl).1) (by decide) (by decide) ?_
      show Steps p.tables e below (T9.setTop (mkF m 40 #[.val (.ref a), .val (.ref u1), .val (.ref u2)] [])) _
      exact q
    have k19_ : ∀ t, Steps p.tables e below (T9.setTop (mkF m 41 #[.val (.ref a), .val (.ref u1), .val (.ref u2)] [(.int (0 : Int32))])) t → Steps p.tables e below (s₁.setTop (mkF m 0 #[.val (.ref a), .val (.ref u1), .val (.ref u2)] [])) t := by
      intro t q
      refine k18_ _ ?_
      show Steps p.tables e below (T9.setTop (mkF m 40 #[.val (.ref a), .val (.ref u1), .val (.ref u2)] [])) _
      refine XS.iconst X9.here hx rfl (hb hby d_prog_70_method_2_40) ?_
      show Steps p.tables e below (T9.setTop (mkF m 41 #[.val (.ref a), .val (.ref u1), .val (.ref u2)] [(.int (0 : Int32))])) _
      exact q
    obtain ⟨fs, hr, hrun, hended, hW, hsame⟩ := X9.leave (v := some (.int (0 : Int32))) (fun h => by rw [Bd.returns] at h; cases h)
    refine ⟨_, _, pre0 _ (k19_ _ ?_), hrun, hended, _, _, rfl, ?_, ⟨_, rfl⟩, hW, hsame.mono (by decide) (by decide)⟩
    · show Steps p.tables e below (T9.setTop (mkF m 41 #[.val (.ref a), .val (.ref u1), .val (.ref u2)] [(.int (0 : Int32))])) _
      exact retN X9 hx (t := .boolean) Bd.returns (by simp) (hb hby d_prog_70_method_2_41) hr
    · show QT01 Z a u1 u2 s1 x1 y1 x2 y2 zc h0 n0 _ T9.heap _
      rw [hq9]
      exact ⟨(congrArg (fun z => some (Value.int z)) (bi_f fun z => hd9 z.1)).symm, N9, rfl⟩
def QT10 (Z : State) (a : Addr) (u1 : Addr) (u2 : Addr) (s2 : Addr) (x1 : Int32) (y1 : Int32) (x2 : Int32) (y2 : Int32) (zc : Int32) (h0 : Heap) (n0 : Nat) (v : Option Value) (h : Heap) (L : List Loc) : Prop := v = some (.int (bi ((True) ∧ (own_cs x2 = own_cs y2)))) ∧ Fr n0 L ∧ h = h0
theorem ef_T10 (m : MethodId) (x0 : Addr) (x1 : Addr) (x2 : Addr) : entryFrame m #[(.ref x0), (.ref x1), (.ref x2)] 3 = mkF m 0 #[.val (.ref x0), .val (.ref x1), .val (.ref x2)] [] := by first | (simp [entryFrame, mkF, argsToLocals, Value.category]; done) | rfl
set_option maxRecDepth 65536 in
set_option maxHeartbeats 40000000 in
theorem rmT10 (l : Launch) (Z : State) (a0 : Array Value) (hw : ∀ d ∈ tables_1, d.before a0 Z = true) (ws : List Jvm.Cond) (a : Addr) (u1 : Addr) (u2 : Addr) (s2 : Addr) (x1 : Int32) (y1 : Int32) (x2 : Int32) (y2 : Int32) (zc : Int32) (h0 : Heap) (n0 : Nat) (Z0 : n0 ≤ h0.size) (F1 : Fld Z h0 a "com/example/triplewright/triplewright/source/XmlParser$ElementName" "namespace" "Ljava/lang/String;" .null) (F2 : Fld Z h0 a "com/example/triplewright/triplewright/source/XmlParser$ElementName" "localName" "Ljava/lang/String;" (.ref s2)) (U1 : own_Str Z h0 u1 (own_cs y1)) (U2 : own_Str Z h0 u2 (own_cs y2)) (S2 : own_Str Z h0 s2 (own_cs x2)) (O2 : Sta Z Z.heap "java/lang/String" "COMPACT_STRINGS" "Z" (.int zc)) (hzc : ¬ zc = (0 : Int32)) (X00 : Old Z n0 h0) :
    MetFree l (⟨"com/example/triplewright/triplewright/source/XmlParser$ElementName", "matches", "(Ljava/lang/String;Ljava/lang/String;)Z"⟩ : MethodName) (head1 (Jvm.Cond.code (⟨"com/example/triplewright/triplewright/source/XmlParser$ElementName", "matches", "(Ljava/lang/String;Ljava/lang/String;)Z"⟩ : MethodName) prog_70_method_2_code 3 (some .boolean) :: ws) ({ frames := 2, cells := 0, slots := 0, locals := 28 } : Room)) (fun a_ U_ => a_ = #[(.ref a), (.ref u1), (.ref u2)] ∧ Z.Warmed39 U_.vm ∧ U_.heap = h0) (fun _ _ _ _ _ => True) (fun _ U_ o_ E_ => ∃ v_ L_, o_ = .returned v_ ∧ QT10 Z a u1 u2 s2 x1 y1 x2 y2 zc h0 n0 v_ E_.heap L_ ∧ FrameEnd U_ o_ E_ L_ ({ frames := 2, cells := 0, slots := 0, locals := 28 } : Room).cells ({ frames := 2, cells := 0, slots := 0, locals := 28 } : Room).slots) := by
  refine MetFree.of_bodySF (plainFor_of_name pn_XmlParser_ElementName) hisR ?_
  intro p e s m args below meth c s₁ Bd hml0 hP hK
  obtain ⟨rfl, hZ, hh⟩ := hP
  have hx := Bd.exec
  have hby := Bd.bytes
  have hml : c.maxLocals = 3 := hml0
  have hown : s.vm.findClass "com/example/triplewright/triplewright/source/XmlParser$ElementName" = some m.cls := findClass_of_methodNamed Bd.named
  have hnm := (name_of_methodNamed Bd.named Bd.method).1
  have X0 : Stand p l e ({ frames := 2, cells := 0, slots := 0, locals := 28 } : Room) s m #[(.ref a), (.ref u1), (.ref u2)] below meth c s₁ [] 0 0 := Stand.of_body Bd
  have e0 : s₁.heap = h0 := by rw [← hh, Bd.state]; rfl
  have N0 := Fr.nil n0
  have Zn := Z0
  have pre0 : ∀ t, Steps p.tables e below (s₁.setTop (mkF m 0 #[.val (.ref a), .val (.ref u1), .val (.ref u2)] [])) t → Steps p.tables e below (s₁.setTop (entryFrame m #[(.ref a), (.ref u1), (.ref u2)] 3)) t := fun t q => castTop (ef_T10 m a u1 u2) q
  have k0 : ∀ t, Steps p.tables e below (s₁.setTop (mkF m 0 #[.val (.ref a), .val (.ref u1), .val (.ref u2)] [])) t → Steps p.tables e below (s₁.setTop (mkF m 0 #[.val (.ref a), .val (.ref u1), .val (.ref u2)] [])) t := fun t q => q
  have hwe : ∀ d ∈ StrChars.Road.wordsEq, d.before a0 Z = true := fun d hd => hw d ((by decide +kernel : ∀ d ∈ StrChars.Road.wordsEq, d ∈ tables_1) d hd)
  have k1_ : ∀ t, Steps p.tables e below (s₁.setTop (mkF m 1 #[.val (.ref a), .val (.ref u1), .val (.ref u2)] [(.ref a)])) t → Steps p.tables e below (s₁.setTop (mkF m 0 #[.val (.ref a), .val (.ref u1), .val (.ref u2)] [])) t := by
    intro t q
    refine k0 _ ?_
    show Steps p.tables e below (s₁.setTop (mkF m 0 #[.val (.ref a), .val (.ref u1), .val (.ref u2)] [])) _
    refine XS.aloadN X0.here hx rfl (hb hby d_prog_70_method_2_0) rfl rfl ?_
    show Steps p.tables e below (s₁.setTop (mkF m 1 #[.val (.ref a), .val (.ref u1), .val (.ref u2)] [(.ref a)])) _
    exact q
  obtain ⟨T2, X2, e2, st2⟩ := getF X0 hx hZ hown (host := "") (Or.inl (hw _ (List.mem_of_getElem? (i := 56) rfl))) Via.refl e0 F1 (g := (mkF m 1 #[.val (.ref a), .val (.ref u1), .val (.ref u2)] [(.ref a)])) rfl rfl (hb hby d_prog_70_method_2_1)
  have k3_ : ∀ t, Steps p.tables e below (T2.setTop (mkF m 4 #[.val (.ref a), .val (.ref u1), .val (.ref u2)] [.null])) t → Steps p.tables e below (s₁.setTop (mkF m 0 #[.val (.ref a), .val (.ref u1), .val (.ref u2)] [])) t := fun t q => k1_ t (st2 t q)
  have k4_ : ∀ t, Steps p.tables e below (T2.setTop (mkF m 18 #[.val (.ref a), .val (.ref u1), .val (.ref u2)] [])) t → Steps p.tables e below (s₁.setTop (mkF m 0 #[.val (.ref a), .val (.ref u1), .val (.ref u2)] [])) t := by
    intro t q
    refine k3_ _ ?_
    show Steps p.tables e below (T2.setTop (mkF m 4 #[.val (.ref a), .val (.ref u1), .val (.ref u2)] [.null])) _
    refine XS.ifnullYes X2.here hx rfl (pc0 := 4) (pc' := 18) rfl (hb hby d_prog_70_method_2_4) rfl (by decide) (by decide) ?_
    show Steps p.tables e below (T2.setTop (mkF m 18 #[.val (.ref a), .val (.ref u1), .val (.ref u2)] [])) _
    exact q
  have k5_ : ∀ t, Steps p.tables e below (T2.setTop (mkF m 19 #[.val (.ref a), .val (.ref u1), .val (.ref u2)] [(.ref a)])) t → Steps p.tables e below (s₁.setTop (mkF m 0 #[.val (.ref a), .val (.ref u1), .val (.ref u2)] [])) t := by
    intro t q
    refine k4_ _ ?_
    show Steps p.tables e below (T2.setTop (mkF m 18 #[.val (.ref a), .val (.ref u1), .val (.ref u2)] [])) _
    refine XS.aloadN X2.here hx rfl (hb hby d_prog_70_method_2_18) rfl rfl ?_
    show Steps p.tables e below (T2.setTop (mkF m 19 #[.val (.ref a), .val (.ref u1), .val (.ref u2)] [(.ref a)])) _
    exact q
  obtain ⟨T6, X6, e6, st6⟩ := getF X2 hx hZ hown (host := "") (Or.inl (hw _ (List.mem_of_getElem? (i := 58) rfl))) Via.refl e2 F2 (g := (mkF m 19 #[.val (.ref a), .val (.ref u1), .val (.ref u2)] [(.ref a)])) rfl rfl (hb hby d_prog_70_method_2_19)
  have k7_ : ∀ t, Steps p.tables e below (T6.setTop (mkF m 22 #[.val (.ref a), .val (.ref u1), .val (.ref u2)] [(.ref s2)])) t → Steps p.tables e below (s₁.setTop (mkF m 0 #[.val (.ref a), .val (.ref u1), .val (.ref u2)] [])) t := fun t q => k5_ t (st6 t q)
  have k8_ : ∀ t, Steps p.tables e below (T6.setTop (mkF m 25 #[.val (.ref a), .val (.ref u1), .val (.ref u2)] [])) t → Steps p.tables e below (s₁.setTop (mkF m 0 #[.val (.ref a), .val (.ref u1), .val (.ref u2)] [])) t := by
    intro t q
    refine k7_ _ ?_
    show Steps p.tables e below (T6.setTop (mkF m 22 #[.val (.ref a), .val (.ref u1), .val (.ref u2)] [(.ref s2)])) _
    refine XS.ifnullNo X6.here hx rfl (hb hby d_prog_70_method_2_22) rfl ?_
    show Steps p.tables e below (T6.setTop (mkF m 25 #[.val (.ref a), .val (.ref u1), .val (.ref u2)] [])) _
    exact q
  have k9_ : ∀ t, Steps p.tables e below (T6.setTop (mkF m 26 #[.val (.ref a), .val (.ref u1), .val (.ref u2)] [(.ref a)])) t → Steps p.tables e below (s₁.setTop (mkF m 0 #[.val (.ref a), .val (.ref u1), .val (.ref u2)] [])) t := by
    intro t q
    refine k8_ _ ?_
    show Steps p.tables e below (T6.setTop (mkF m 25 #[.val (.ref a), .val (.ref u1), .val (.ref u2)] [])) _
    refine XS.aloadN X6.here hx rfl (hb hby d_prog_70_method_2_25) rfl rfl ?_
    show Steps p.tables e below (T6.setTop (mkF m 26 #[.val (.ref a), .val (.ref u1), .val (.ref u2)] [(.ref a)])) _
    exact q
  obtain ⟨T10, X10, e10, st10⟩ := getF X6 hx hZ hown (host := "") (Or.inl (hw _ (List.mem_of_getElem? (i := 58) rfl))) Via.refl e6 F2 (g := (mkF m 26 #[.val (.ref a), .val (.ref u1), .val (.ref u2)] [(.ref a)])) rfl rfl (hb hby d_prog_70_method_2_26)
  have k11_ : ∀ t, Steps p.tables e below (T10.setTop (mkF m 29 #[.val (.ref a), .val (.ref u1), .val (.ref u2)] [(.ref s2)])) t → Steps p.tables e below (s₁.setTop (mkF m 0 #[.val (.ref a), .val (.ref u1), .val (.ref u2)] [])) t := fun t q => k9_ t (st10 t q)
  have k12_ : ∀ t, Steps p.tables e below (T10.setTop (mkF m 30 #[.val (.ref a), .val (.ref u1), .val (.ref u2)] [(.ref u2), (.ref s2)])) t → Steps p.tables e below (s₁.setTop (mkF m 0 #[.val (.ref a), .val (.ref u1), .val (.ref u2)] [])) t := by
    intro t q
    refine k11_ _ ?_
    show Steps p.tables e below (T10.setTop (mkF m 29 #[.val (.ref a), .val (.ref u1), .val (.ref u2)] [(.ref s2)])) _
    refine XS.aloadN X10.here hx rfl (hb hby d_prog_70_method_2_29) rfl rfl ?_
    show Steps p.tables e below (T10.setTop (mkF m 30 #[.val (.ref a), .val (.ref u1), .val (.ref u2)] [(.ref u2), (.ref s2)])) _
    exact q
  obtain ⟨E1_13, C1_13, t1_13, k1_13, V1_13, A1_13⟩ := id S2
  obtain ⟨E2_13, C2_13, t2_13, k2_13, V2_13, A2_13⟩ := id U2
  obtain ⟨cq13, kq13, q13a, q13b, q13c⟩ := isOf hZ e10 E1_13
  obtain ⟨_, _, ⟨T13, L13, kk13, n13⟩, -, X13, ⟨Lc13, hQ13, l13, y13, z13⟩, st13⟩ := X10.virtualBack hx (y := (⟨"java/lang/String", "equals", "(Ljava/lang/Object;)Z"⟩ : MethodName)) (z := (⟨"java/lang/String", "equals", "(Ljava/lang/Object;)Z"⟩ : MethodName)) hown (mvT hZ (hw _ (List.mem_of_getElem? (i := 65) rfl))) (mvT hZ (hw _ (List.mem_of_getElem? (i := 66) rfl))) (notFace_of_selects (args := #[]) (mvT hZ (hw _ (List.mem_of_getElem? (i := 68) rfl)))) (mvT hZ (hw _ (List.mem_of_getElem? (i := 68) rfl))) (mvT hZ (hw _ (List.mem_of_getElem? (i := 67) rfl))) (by decide) (StrChars.Road.eqW (W := 0) hZ hwe (kI := 4) (hw _ (List.mem_of_getElem? (i := 10) rfl)) E1_13 V1_13 C1_13 A1_13 (StrChars.Road.codOf rfl (fun c hc => (own_cs_r _ c hc).2)) (own_bd (own_cs_r _)) (Nat.le_trans (own_cs_l _) (by decide)) E2_13 V2_13 C2_13 A2_13 (StrChars.Road.codOf rfl (fun c hc => (own_cs_r _ c hc).2)) (own_bd (own_cs_r _)) (Nat.le_trans (own_cs_l _) (by decide)) (O2.ext X00.2) hzc (by decide) (by decide)) q13a q13c (g := (mkF m 30 #[.val (.ref a), .val (.ref u1), .val (.ref u2)] [(.ref u2), (.ref s2)])) rfl (by rw [hml]; rfl) (Steps.refl _) (argsL := [(.ref u2)]) (rest := []) (lenOf pd_81715 rfl) rfl (by show 2 * 0 + _ ≤ _; exact Nat.le_of_eq rfl) (hb hby d_prog_70_method_2_30) (fun _ _ => ⟨rfl, e10, (by decide : 0 + 0 ≤ _), (by decide : 0 + 0 ≤ _)⟩)
  dsimp only [Pt.U, Pt.locs, Pt.cells, Pt.slots] at X13 l13 y13 z13 st13 hQ13
  rw [l13, y13, z13] at X13
  obtain ⟨hv13, rfl, hq13⟩ := hQ13
  have N13 := Fr.app N0 (Fr.nil n0)
  rcases hv13 with ⟨rfl, hd13⟩ | ⟨rfl, hd13⟩
  · have k14_ : ∀ t, Steps p.tables e below (T13.setTop (mkF m 33 #[.val (.ref a), .val (.ref u1), .val (.ref u2)] [(.int (1 : Int32))])) t → Steps p.tables e below (s₁.setTop (mkF m 0 #[.val (.ref a), .val (.ref u1), .val (.ref u2)] [])) t := fun t q => k12_ t (st13.trans q)
    have k15_ : ∀ t, Steps p.tables e below (T13.setTop (mkF m 36 #[.val (.ref a), .val (.ref u1), .val (.ref u2)] [])) t → Steps p.tables e below (s₁.setTop (mkF m 0 #[.val (.ref a), .val (.ref u1), .val (.ref u2)] [])) t := by
      intro t q
      refine k14_ _ ?_
      show Steps p.tables e below (T13.setTop (mkF m 33 #[.val (.ref a), .val (.ref u1), .val (.ref u2)] [(.int (1 : Int32))])) _
      refine XS.ifNo X13.here hx rfl (hb hby d_prog_70_method_2_33) rfl ((if0 _ _).trans (feq (by decide)).1) ?_
      show Steps p.tables e below (T13.setTop (mkF m 36 #[.val (.ref a), .val (.ref u1), .val (.ref u2)] [])) _
      exact q
    have k16_ : ∀ t, Steps p.tables e below (T13.setTop (mkF m 41 #[.val (.ref a), .val (.ref u1), .val (.ref u2)] [(.int (1 : Int32))])) t → Steps p.tables e below (s₁.setTop (mkF m 0 #[.val (.ref a), .val (.ref u1), .val (.ref u2)] [])) t := by
      intro t q
      refine k15_ _ ?_
      show Steps p.tables e below (T13.setTop (mkF m 36 #[.val (.ref a), .val (.ref u1), .val (.ref u2)] [])) _
      refine XS.iconst X13.here hx rfl (hb hby d_prog_70_method_2_36) ?_
      show Steps p.tables e below (T13.setTop (mkF m 37 #[.val (.ref a), .val (.ref u1), .val (.ref u2)] [(.int (1 : Int32))])) _
      refine XS.goto X13.here hx rfl (pc0 := 37) (pc' := 41) rfl (hb hby d_prog_70_method_2_37) (by decide) (by decide) ?_
      show Steps p.tables e below (T13.setTop (mkF m 41 #[.val (.ref a), .val (.ref u1), .val (.ref u2)] [(.int (1 : Int32))])) _
      exact q
    obtain ⟨fs, hr, hrun, hended, hW, hsame⟩ := X13.leave (v := some (.int (1 : Int32))) (fun h => by rw [Bd.returns] at h; cases h)
    refine ⟨_, _, pre0 _ (k16_ _ ?_), hrun, hended, _, _, rfl, ?_, ⟨_, rfl⟩, hW, hsame.mono (by decide) (by decide)⟩
    · show Steps p.tables e below (T13.setTop (mkF m 41 #[.val (.ref a), .val (.ref u1), .val (.ref u2)] [(.int (1 : Int32))])) _
      exact retN X13 hx (t := .boolean) Bd.returns (by simp) (hb hby d_prog_70_method_2_41) hr
    · show QT10 Z a u1 u2 s2 x1 y1 x2 y2 zc h0 n0 _ T13.heap _
      rw [hq13]
      exact ⟨(congrArg (fun z => some (Value.int z)) (bi_t ⟨trivial, hd13⟩)).symm, N13, rfl⟩
  · have k17_ : ∀ t, Steps p.tables e below (T13.setTop (mkF m 33 #[.val (.ref a), .val (.ref u1), .val (.ref u2)] [(.int (0 : Int32))])) t → Steps p.tables e below (s₁.setTop (mkF m 0 #[.val (.ref a), .val (.ref u1), .val (.ref u2)] [])) t := fun t q => k12_ t (st13.trans q)
    have k18_ : ∀ t, Steps p.tables e below (T13.setTop (mkF m 40 #[.val (.ref a), .val (.ref u1), .val (.ref u2)] [])) t → Steps p.tables e below (s₁.setTop (mkF m 0 #[.val (.ref a), .val (.ref u1), .val (.ref u2)] [])) t := by
      intro t q
      refine k17_ _ ?_
      show Steps p.tables e below (T13.setTop (mkF m 33 #[.val (.ref a), .val (.ref u1), .val (.ref u2)] [(.int (0 : Int32))])) _
      refine XS.ifYes X13.here hx rfl (pc0 := 33) (pc' := 40) rfl (hb hby d_prog_70_method_2_33) rfl ((if0 _ _).trans (teq rfl).1) (by decide) (by decide) ?_
      show Steps p.tables e below (T13.setTop (mkF m 40 #[.val (.ref a), .val (.ref u1), .val (.ref u2)] [])) _
      exact q
    have k19_ : ∀ t, Steps p.tables e below (T13.setTop (mkF m 41 #[.val (.ref a), .val (.ref u1), .val (.ref u2)] [(.int (0 : Int32))])) t → Steps p.tables e below (s₁.setTop (mkF m 0 #[.val (.ref a), .val (.ref u1), .val (.ref u2)] [])) t := by
      intro t q
      refine k18_ _ ?_
      show Steps p.tables e below (T13.setTop (mkF m 40 #[.val (.ref a), .val (.ref u1), .val (.ref u2)] [])) _
      refine XS.iconst X13.here hx rfl (hb hby d_prog_70_method_2_40) ?_
      show Steps p.tables e below (T13.setTop (mkF m 41 #[.val (.ref a), .val (.ref u1), .val (.ref u2)] [(.int (0 : Int32))])) _
      exact q
    obtain ⟨fs, hr, hrun, hended, hW, hsame⟩ := X13.leave (v := some (.int (0 : Int32))) (fun h => by rw [Bd.returns] at h; cases h)
    refine ⟨_, _, pre0 _ (k19_ _ ?_), hrun, hended, _, _, rfl, ?_, ⟨_, rfl⟩, hW, hsame.mono (by decide) (by decide)⟩
    · show Steps p.tables e below (T13.setTop (mkF m 41 #[.val (.ref a), .val (.ref u1), .val (.ref u2)] [(.int (0 : Int32))])) _
      exact retN X13 hx (t := .boolean) Bd.returns (by simp) (hb hby d_prog_70_method_2_41) hr
    · show QT10 Z a u1 u2 s2 x1 y1 x2 y2 zc h0 n0 _ T13.heap _
      rw [hq13]
      exact ⟨(congrArg (fun z => some (Value.int z)) (bi_f fun z => hd13 z.2)).symm, N13, rfl⟩
def QT11 (Z : State) (a : Addr) (u1 : Addr) (u2 : Addr) (x1 : Int32) (y1 : Int32) (x2 : Int32) (y2 : Int32) (zc : Int32) (h0 : Heap) (n0 : Nat) (v : Option Value) (h : Heap) (L : List Loc) : Prop := v = some (.int (bi ((True) ∧ (True)))) ∧ Fr n0 L ∧ h = h0
theorem ef_T11 (m : MethodId) (x0 : Addr) (x1 : Addr) (x2 : Addr) : entryFrame m #[(.ref x0), (.ref x1), (.ref x2)] 3 = mkF m 0 #[.val (.ref x0), .val (.ref x1), .val (.ref x2)] [] := by first | (simp [entryFrame, mkF, argsToLocals, Value.category]; done) | rfl
set_option maxRecDepth 65536 in
set_option maxHeartbeats 40000000 in
theorem rmT11 (l : Launch) (Z : State) (a0 : Array Value) (hw : ∀ d ∈ tables_1, d.before a0 Z = true) (ws : List Jvm.Cond) (a : Addr) (u1 : Addr) (u2 : Addr) (x1 : Int32) (y1 : Int32) (x2 : Int32) (y2 : Int32) (zc : Int32) (h0 : Heap) (n0 : Nat) (Z0 : n0 ≤ h0.size) (F1 : Fld Z h0 a "com/example/triplewright/triplewright/source/XmlParser$ElementName" "namespace" "Ljava/lang/String;" .null) (F2 : Fld Z h0 a "com/example/triplewright/triplewright/source/XmlParser$ElementName" "localName" "Ljava/lang/String;" .null) (U1 : own_Str Z h0 u1 (own_cs y1)) (U2 : own_Str Z h0 u2 (own_cs y2)) (O2 : Sta Z Z.heap "java/lang/String" "COMPACT_STRINGS" "Z" (.int zc)) (hzc : ¬ zc = (0 : Int32)) (X00 : Old Z n0 h0) :
    MetFree l (⟨"com/example/triplewright/triplewright/source/XmlParser$ElementName", "matches", "(Ljava/lang/String;Ljava/lang/String;)Z"⟩ : MethodName) (head1 (Jvm.Cond.code (⟨"com/example/triplewright/triplewright/source/XmlParser$ElementName", "matches", "(Ljava/lang/String;Ljava/lang/String;)Z"⟩ : MethodName) prog_70_method_2_code 3 (some .boolean) :: ws) ({ frames := 2, cells := 0, slots := 0, locals := 28 } : Room)) (fun a_ U_ => a_ = #[(.ref a), (.ref u1), (.ref u2)] ∧ Z.Warmed39 U_.vm ∧ U_.heap = h0) (fun _ _ _ _ _ => True) (fun _ U_ o_ E_ => ∃ v_ L_, o_ = .returned v_ ∧ QT11 Z a u1 u2 x1 y1 x2 y2 zc h0 n0 v_ E_.heap L_ ∧ FrameEnd U_ o_ E_ L_ ({ frames := 2, cells := 0, slots := 0, locals := 28 } : Room).cells ({ frames := 2, cells := 0, slots := 0, locals := 28 } : Room).slots) := by
  refine MetFree.of_bodySF (plainFor_of_name pn_XmlParser_ElementName) hisR ?_
  intro p e s m args below meth c s₁ Bd hml0 hP hK
  obtain ⟨rfl, hZ, hh⟩ := hP
  have hx := Bd.exec
  have hby := Bd.bytes
  have hml : c.maxLocals = 3 := hml0
  have hown : s.vm.findClass "com/example/triplewright/triplewright/source/XmlParser$ElementName" = some m.cls := findClass_of_methodNamed Bd.named
  have hnm := (name_of_methodNamed Bd.named Bd.method).1
  have X0 : Stand p l e ({ frames := 2, cells := 0, slots := 0, locals := 28 } : Room) s m #[(.ref a), (.ref u1), (.ref u2)] below meth c s₁ [] 0 0 := Stand.of_body Bd
  have e0 : s₁.heap = h0 := by rw [← hh, Bd.state]; rfl
  have N0 := Fr.nil n0
  have Zn := Z0
  have pre0 : ∀ t, Steps p.tables e below (s₁.setTop (mkF m 0 #[.val (.ref a), .val (.ref u1), .val (.ref u2)] [])) t → Steps p.tables e below (s₁.setTop (entryFrame m #[(.ref a), (.ref u1), (.ref u2)] 3)) t := fun t q => castTop (ef_T11 m a u1 u2) q
  have k0 : ∀ t, Steps p.tables e below (s₁.setTop (mkF m 0 #[.val (.ref a), .val (.ref u1), .val (.ref u2)] [])) t → Steps p.tables e below (s₁.setTop (mkF m 0 #[.val (.ref a), .val (.ref u1), .val (.ref u2)] [])) t := fun t q => q
  have hwe : ∀ d ∈ StrChars.Road.wordsEq, d.before a0 Z = true := fun d hd => hw d ((by decide +kernel : ∀ d ∈ StrChars.Road.wordsEq, d ∈ tables_1) d hd)
  have k1_ : ∀ t, Steps p.tables e below (s₁.setTop (mkF m 1 #[.val (.ref a), .val (.ref u1), .val (.ref u2)] [(.ref a)])) t → Steps p.tables e below (s₁.setTop (mkF m 0 #[.val (.ref a), .val (.ref u1), .val (.ref u2)] [])) t := by
    intro t q
    refine k0 _ ?_
    show Steps p.tables e below (s₁.setTop (mkF m 0 #[.val (.ref a), .val (.ref u1), .val (.ref u2)] [])) _
    refine XS.aloadN X0.here hx rfl (hb hby d_prog_70_method_2_0) rfl rfl ?_
    show Steps p.tables e below (s₁.setTop (mkF m 1 #[.val (.ref a), .val (.ref u1), .val (.ref u2)] [(.ref a)])) _
    exact q
  obtain ⟨T2, X2, e2, st2⟩ := getF X0 hx hZ hown (host := "") (Or.inl (hw _ (List.mem_of_getElem? (i := 56) rfl))) Via.refl e0 F1 (g := (mkF m 1 #[.val (.ref a), .val (.ref u1), .val (.ref u2)] [(.ref a)])) rfl rfl (hb hby d_prog_70_method_2_1)
  have k3_ : ∀ t, Steps p.tables e below (T2.setTop (mkF m 4 #[.val (.ref a), .val (.ref u1), .val (.ref u2)] [.null])) t → Steps p.tables e below (s₁.setTop (mkF m 0 #[.val (.ref a), .val (.ref u1), .val (.ref u2)] [])) t := fun t q => k1_ t (st2 t q)
  have k4_ : ∀ t, Steps p.tables e below (T2.setTop (mkF m 18 #[.val (.ref a), .val (.ref u1), .val (.ref u2)] [])) t → Steps p.tables e below (s₁.setTop (mkF m 0 #[.val (.ref a), .val (.ref u1), .val (.ref u2)] [])) t := by
    intro t q
    refine k3_ _ ?_
    show Steps p.tables e below (T2.setTop (mkF m 4 #[.val (.ref a), .val (.ref u1), .val (.ref u2)] [.null])) _
    refine XS.ifnullYes X2.here hx rfl (pc0 := 4) (pc' := 18) rfl (hb hby d_prog_70_method_2_4) rfl (by decide) (by decide) ?_
    show Steps p.tables e below (T2.setTop (mkF m 18 #[.val (.ref a), .val (.ref u1), .val (.ref u2)] [])) _
    exact q
  have k5_ : ∀ t, Steps p.tables e below (T2.setTop (mkF m 19 #[.val (.ref a), .val (.ref u1), .val (.ref u2)] [(.ref a)])) t → Steps p.tables e below (s₁.setTop (mkF m 0 #[.val (.ref a), .val (.ref u1), .val (.ref u2)] [])) t := by
    intro t q
    refine k4_ _ ?_
    show Steps p.tables e below (T2.setTop (mkF m 18 #[.val (.ref a), .val (.ref u1), .val (.ref u2)] [])) _
    refine XS.aloadN X2.here hx rfl (hb hby d_prog_70_method_2_18) rfl rfl ?_
    show Steps p.tables e below (T2.setTop (mkF m 19 #[.val (.ref a), .val (.ref u1), .val (.ref u2)] [(.ref a)])) _
    exact q
  obtain ⟨T6, X6, e6, st6⟩ := getF X2 hx hZ hown (host := "") (Or.inl (hw _ (List.mem_of_getElem? (i := 58) rfl))) Via.refl e2 F2 (g := (mkF m 19 #[.val (.ref a), .val (.ref u1), .val (.ref u2)] [(.ref a)])) rfl rfl (hb hby d_prog_70_method_2_19)
  have k7_ : ∀ t, Steps p.tables e below (T6.setTop (mkF m 22 #[.val (.ref a), .val (.ref u1), .val (.ref u2)] [.null])) t → Steps p.tables e below (s₁.setTop (mkF m 0 #[.val (.ref a), .val (.ref u1), .val (.ref u2)] [])) t := fun t q => k5_ t (st6 t q)
  have k8_ : ∀ t, Steps p.tables e below (T6.setTop (mkF m 36 #[.val (.ref a), .val (.ref u1), .val (.ref u2)] [])) t → Steps p.tables e below (s₁.setTop (mkF m 0 #[.val (.ref a), .val (.ref u1), .val (.ref u2)] [])) t := by
    intro t q
    refine k7_ _ ?_
    show Steps p.tables e below (T6.setTop (mkF m 22 #[.val (.ref a), .val (.ref u1), .val (.ref u2)] [.null])) _
    refine XS.ifnullYes X6.here hx rfl (pc0 := 22) (pc' := 36) rfl (hb hby d_prog_70_method_2_22) rfl (by decide) (by decide) ?_
    show Steps p.tables e below (T6.setTop (mkF m 36 #[.val (.ref a), .val (.ref u1), .val (.ref u2)] [])) _
    exact q
  have k9_ : ∀ t, Steps p.tables e below (T6.setTop (mkF m 41 #[.val (.ref a), .val (.ref u1), .val (.ref u2)] [(.int (1 : Int32))])) t → Steps p.tables e below (s₁.setTop (mkF m 0 #[.val (.ref a), .val (.ref u1), .val (.ref u2)] [])) t := by
    intro t q
    refine k8_ _ ?_
    show Steps p.tables e below (T6.setTop (mkF m 36 #[.val (.ref a), .val (.ref u1), .val (.ref u2)] [])) _
    refine XS.iconst X6.here hx rfl (hb hby d_prog_70_method_2_36) ?_
    show Steps p.tables e below (T6.setTop (mkF m 37 #[.val (.ref a), .val (.ref u1), .val (.ref u2)] [(.int (1 : Int32))])) _
    refine XS.goto X6.here hx rfl (pc0 := 37) (pc' := 41) rfl (hb hby d_prog_70_method_2_37) (by decide) (by decide) ?_
    show Steps p.tables e below (T6.setTop (mkF m 41 #[.val (.ref a), .val (.ref u1), .val (.ref u2)] [(.int (1 : Int32))])) _
    exact q
  obtain ⟨fs, hr, hrun, hended, hW, hsame⟩ := X6.leave (v := some (.int (1 : Int32))) (fun h => by rw [Bd.returns] at h; cases h)
  refine ⟨_, _, pre0 _ (k9_ _ ?_), hrun, hended, _, _, rfl, ?_, ⟨_, rfl⟩, hW, hsame.mono (by decide) (by decide)⟩
  · show Steps p.tables e below (T6.setTop (mkF m 41 #[.val (.ref a), .val (.ref u1), .val (.ref u2)] [(.int (1 : Int32))])) _
    exact retN X6 hx (t := .boolean) Bd.returns (by simp) (hb hby d_prog_70_method_2_41) hr
  · show QT11 Z a u1 u2 x1 y1 x2 y2 zc h0 n0 _ T6.heap _
    rw [e6]
    exact ⟨(congrArg (fun z => some (Value.int z)) (bi_t ⟨trivial, trivial⟩)).symm, N0, rfl⟩
theorem own_m3 (x : Int32) : 0 ≤ (x &&& (3 : Int32)).toInt ∧ (x &&& (3 : Int32)).toInt < 4 := by
  have h := c_mask x 3 2 (by decide) (by decide)
  have e : ((2 ^ 2 : Nat) : Int) = 4 := rfl
  rw [e] at h; omega
theorem own_csL (x : Int32) : (own_cs x).length = (x &&& (3 : Int32)).toNatClampNeg := by
  unfold own_cs
  rw [List.length_take]
  rcases own_and3 x with a | a | a | a <;> rw [a] <;> rfl
theorem own_len_ne {x y : Int32} (h : ¬ (x &&& (3 : Int32)) = (y &&& (3 : Int32))) : ¬ own_cs x = own_cs y := fun q => h (by
  have q' := congrArg List.length q
  rw [own_csL, own_csL] at q'
  have h1 := own_m3 x
  have h2 := own_m3 y
  apply Int32.toInt_inj.mp
  simp only [Int32.toNatClampNeg] at q'; omega)
theorem own_lt1 {x : Int32} (h : (x &&& (3 : Int32)) < (1 : Int32)) : (x &&& (3 : Int32)) = 0 := by
  rcases own_and3 x with a | a | a | a
  · exact a
  all_goals rw [a] at h; exact absurd h (by decide)
theorem own_lt2' {x : Int32} (h1 : ¬ (x &&& (3 : Int32)) < (1 : Int32)) (h : (x &&& (3 : Int32)) < (2 : Int32)) : (x &&& (3 : Int32)) = 1 := by
  rcases own_and3 x with a | a | a | a
  · rw [a] at h1; exact absurd (by decide) h1
  · exact a
  all_goals rw [a] at h; exact absurd h (by decide)
theorem own_lt3' {x : Int32} (h2 : ¬ (x &&& (3 : Int32)) < (2 : Int32)) (h : (x &&& (3 : Int32)) < (3 : Int32)) : (x &&& (3 : Int32)) = 2 := by
  rcases own_and3 x with a | a | a | a
  · rw [a] at h2; exact absurd (by decide) h2
  · rw [a] at h2; exact absurd (by decide) h2
  · exact a
  · rw [a] at h; exact absurd h (by decide)
theorem own_ge3 {x : Int32} (h : ¬ (x &&& (3 : Int32)) < (3 : Int32)) : (x &&& (3 : Int32)) = 3 := by
  rcases own_and3 x with a | a | a | a
  · rw [a] at h; exact absurd (by decide) h
  · rw [a] at h; exact absurd (by decide) h
  · rw [a] at h; exact absurd (by decide) h
  · exact a
theorem own_cs_at {x : Int32} {k : Nat} (hk : k < 3) (h : ¬ (x &&& (3 : Int32)).toNatClampNeg ≤ k) : (own_cs x).getD k 0 = [own_ch x 0, own_ch x 1, own_ch x 2].getD k 0 := by
  unfold own_cs
  simp only [List.getD_eq_getElem?_getD, List.getElem?_take_of_lt (Nat.lt_of_not_le h)]
theorem own_nlt {x : Int32} {k : Nat} {kk : Int32} (h : ¬ (x &&& (3 : Int32)) < kk) (hk : kk = Int32.ofNat (k + 1)) (h3 : k < 3) : ¬ (x &&& (3 : Int32)).toNatClampNeg ≤ k := by
  subst hk
  rw [Int32.lt_iff_toInt_lt, own_toInt_ofNat (by omega)] at h
  simp only [Int32.toNatClampNeg]; omega
def QSa (Z : State) (x : Int32) (y : Int32) (h0 : Heap) (n0 : Nat) (v : Option Value) (h : Heap) (L : List Loc) : Prop := v = some (.int (bi (own_cs x = own_cs y))) ∧ Fr n0 L ∧ h = h0
theorem ef_Sa (m : MethodId) (x0 : Int32) (x1 : Int32) : entryFrame m #[(.int x0), (.int x1)] 4 = mkF m 0 #[.val (.int x0), .val (.int x1), .unset, .unset] [] := by first | (simp [entryFrame, mkF, argsToLocals, Value.category]; done) | rfl
theorem d_method_5_0 : decode method_5_code 0 = .ok (.iload_n 0, 1) := by decide +kernel
theorem d_method_5_1 : decode method_5_code 1 = .ok (.invokestatic 7, 3) := by decide +kernel
theorem d_method_5_4 : decode method_5_code 4 = .ok (.istore_n 2, 1) := by decide +kernel
theorem d_method_5_5 : decode method_5_code 5 = .ok (.iload_n 1, 1) := by decide +kernel
theorem d_method_5_6 : decode method_5_code 6 = .ok (.invokestatic 7, 3) := by decide +kernel
theorem d_method_5_9 : decode method_5_code 9 = .ok (.istore_n 3, 1) := by decide +kernel
theorem d_method_5_10 : decode method_5_code 10 = .ok (.iload_n 2, 1) := by decide +kernel
theorem d_method_5_11 : decode method_5_code 11 = .ok (.iload_n 3, 1) := by decide +kernel
theorem d_method_5_12 : decode method_5_code 12 = .ok (.if_icmp .ne 61, 3) := by decide +kernel
theorem d_method_5_15 : decode method_5_code 15 = .ok (.iload_n 2, 1) := by decide +kernel
theorem d_method_5_16 : decode method_5_code 16 = .ok (.iconst 1, 1) := by decide +kernel
theorem own_up_lt {a b k : Int32} (h : a < b) (hk : b < k) : a < k := by rw [Int32.lt_iff_toInt_lt] at *; omega
theorem d_method_5_17 : decode method_5_code 17 = .ok (.if_icmp .lt 16, 3) := by decide +kernel
theorem d_method_5_33 : decode method_5_code 33 = .ok (.iload_n 2, 1) := by decide +kernel
theorem d_method_5_34 : decode method_5_code 34 = .ok (.iconst 2, 1) := by decide +kernel
theorem d_method_5_35 : decode method_5_code 35 = .ok (.if_icmp .lt 16, 3) := by decide +kernel
theorem d_method_5_51 : decode method_5_code 51 = .ok (.iload_n 2, 1) := by decide +kernel
theorem d_method_5_52 : decode method_5_code 52 = .ok (.iconst 3, 1) := by decide +kernel
theorem d_method_5_53 : decode method_5_code 53 = .ok (.if_icmp .lt 16, 3) := by decide +kernel
theorem d_method_5_69 : decode method_5_code 69 = .ok (.iconst 1, 1) := by decide +kernel
theorem d_method_5_70 : decode method_5_code 70 = .ok (.goto 4, 3) := by decide +kernel
theorem d_method_5_74 : decode method_5_code 74 = .ok (.ireturn, 1) := by decide +kernel
theorem d_method_5_20 : decode method_5_code 20 = .ok (.iload_n 0, 1) := by decide +kernel
theorem d_method_5_21 : decode method_5_code 21 = .ok (.iconst 0, 1) := by decide +kernel
theorem d_method_5_22 : decode method_5_code 22 = .ok (.invokestatic 13, 3) := by decide +kernel
theorem d_method_5_25 : decode method_5_code 25 = .ok (.iload_n 1, 1) := by decide +kernel
theorem d_method_5_26 : decode method_5_code 26 = .ok (.iconst 0, 1) := by decide +kernel
theorem d_method_5_27 : decode method_5_code 27 = .ok (.invokestatic 13, 3) := by decide +kernel
theorem d_method_5_30 : decode method_5_code 30 = .ok (.if_icmp .ne 43, 3) := by decide +kernel
theorem d_method_5_38 : decode method_5_code 38 = .ok (.iload_n 0, 1) := by decide +kernel
theorem d_method_5_39 : decode method_5_code 39 = .ok (.iconst 1, 1) := by decide +kernel
theorem d_method_5_40 : decode method_5_code 40 = .ok (.invokestatic 13, 3) := by decide +kernel
theorem d_method_5_43 : decode method_5_code 43 = .ok (.iload_n 1, 1) := by decide +kernel
theorem d_method_5_44 : decode method_5_code 44 = .ok (.iconst 1, 1) := by decide +kernel
theorem d_method_5_45 : decode method_5_code 45 = .ok (.invokestatic 13, 3) := by decide +kernel
theorem d_method_5_48 : decode method_5_code 48 = .ok (.if_icmp .ne 25, 3) := by decide +kernel
theorem d_method_5_56 : decode method_5_code 56 = .ok (.iload_n 0, 1) := by decide +kernel
theorem d_method_5_57 : decode method_5_code 57 = .ok (.iconst 2, 1) := by decide +kernel
theorem d_method_5_58 : decode method_5_code 58 = .ok (.invokestatic 13, 3) := by decide +kernel
theorem d_method_5_61 : decode method_5_code 61 = .ok (.iload_n 1, 1) := by decide +kernel
theorem d_method_5_62 : decode method_5_code 62 = .ok (.iconst 2, 1) := by decide +kernel
theorem d_method_5_63 : decode method_5_code 63 = .ok (.invokestatic 13, 3) := by decide +kernel
theorem d_method_5_66 : decode method_5_code 66 = .ok (.if_icmp .ne 7, 3) := by decide +kernel
theorem d_method_5_73 : decode method_5_code 73 = .ok (.iconst 0, 1) := by decide +kernel
set_option maxRecDepth 65536 in
set_option maxHeartbeats 40000000 in
theorem rmSa (l : Launch) (Z : State) (a0 : Array Value) (hw : ∀ d ∈ tables_1, d.before a0 Z = true) (ws : List Jvm.Cond) (x : Int32) (y : Int32) (h0 : Heap) (n0 : Nat) (Z0 : n0 ≤ h0.size) :
    MetFree l (⟨"com/example/triplewright/triplewright/source/ElementNameMatchesPinLaw", "same", "(II)Z"⟩ : MethodName) (head1 (Jvm.Cond.code (⟨"com/example/triplewright/triplewright/source/ElementNameMatchesPinLaw", "same", "(II)Z"⟩ : MethodName) method_5_code 4 (some .boolean) :: ws) ({ frames := 1, cells := 0, slots := 0, locals := 16 } : Room)) (fun a_ U_ => a_ = #[(.int x), (.int y)] ∧ Z.Warmed39 U_.vm ∧ U_.heap = h0) (fun _ _ _ _ _ => True) (fun _ U_ o_ E_ => ∃ v_ L_, o_ = .returned v_ ∧ QSa Z x y h0 n0 v_ E_.heap L_ ∧ FrameEnd U_ o_ E_ L_ ({ frames := 1, cells := 0, slots := 0, locals := 16 } : Room).cells ({ frames := 1, cells := 0, slots := 0, locals := 16 } : Room).slots) := by
  refine MetFree.of_bodySF (plainFor_of_name pn_ElementNameMatchesPinLaw) hisR ?_
  intro p e s m args below meth c s₁ Bd hml0 hP hK
  obtain ⟨rfl, hZ, hh⟩ := hP
  have hx := Bd.exec
  have hby := Bd.bytes
  have hml : c.maxLocals = 4 := hml0
  have hown : s.vm.findClass "com/example/triplewright/triplewright/source/ElementNameMatchesPinLaw" = some m.cls := findClass_of_methodNamed Bd.named
  have hnm := (name_of_methodNamed Bd.named Bd.method).1
  have X0 : Stand p l e ({ frames := 1, cells := 0, slots := 0, locals := 16 } : Room) s m #[(.int x), (.int y)] below meth c s₁ [] 0 0 := Stand.of_body Bd
  have e0 : s₁.heap = h0 := by rw [← hh, Bd.state]; rfl
  have N0 := Fr.nil n0
  have Zn := Z0
  have pre0 : ∀ t, Steps p.tables e below (s₁.setTop (mkF m 0 #[.val (.int x), .val (.int y), .unset, .unset] [])) t → Steps p.tables e below (s₁.setTop (entryFrame m #[(.int x), (.int y)] 4)) t := fun t q => castTop (ef_Sa m x y) q
  have k0 : ∀ t, Steps p.tables e below (s₁.setTop (mkF m 0 #[.val (.int x), .val (.int y), .unset, .unset] [])) t → Steps p.tables e below (s₁.setTop (mkF m 0 #[.val (.int x), .val (.int y), .unset, .unset] [])) t := fun t q => q
  have k1_ : ∀ t, Steps p.tables e below (s₁.setTop (mkF m 1 #[.val (.int x), .val (.int y), .unset, .unset] [(.int x)])) t → Steps p.tables e below (s₁.setTop (mkF m 0 #[.val (.int x), .val (.int y), .unset, .unset] [])) t := by
    intro t q
    refine k0 _ ?_
    show Steps p.tables e below (s₁.setTop (mkF m 0 #[.val (.int x), .val (.int y), .unset, .unset] [])) _
    refine XS.iloadN X0.here hx rfl (hb hby d_method_5_0) rfl ?_
    show Steps p.tables e below (s₁.setTop (mkF m 1 #[.val (.int x), .val (.int y), .unset, .unset] [(.int x)])) _
    exact q
  obtain ⟨_, _, ⟨T2, L2, kk2, n2⟩, -, X2, ⟨Lc2, hQ2, l2, y2, z2⟩, st2⟩ := Jvm.LawKit.callS X0 hx (y := (⟨"com/example/triplewright/triplewright/source/ElementNameMatchesPinLaw", "len", "(I)I"⟩ : MethodName)) hown (mvT hZ (hw _ (List.mem_of_getElem? (i := 5) rfl))) (mvT hZ (hw _ (List.mem_of_getElem? (i := 6) rfl))) (mvT hZ (hw _ (List.mem_of_getElem? (i := 3) rfl))) (mvT hZ (hw _ (List.mem_of_getElem? (i := 7) rfl))) (by decide) (backOf (W := 0) (rmL l Z a0 hw [] x h0 n0 Zn) hZ (hw _ (List.mem_of_getElem? (i := 7) rfl)) (hw _ (List.mem_of_getElem? (i := 3) rfl)) (by decide) (by decide)) (g := (mkF m 1 #[.val (.int x), .val (.int y), .unset, .unset] [(.int x)])) rfl (by rw [hml]; rfl) (argsL := [(.int x)]) (rest := []) (lenOf pd_27763 rfl) rfl (by show 2 * 0 + _ ≤ _; exact Nat.le_of_eq rfl) (hb hby d_method_5_1) (fun _ _ => ⟨rfl, e0, (by decide : 0 + 0 ≤ _), (by decide : 0 + 0 ≤ _)⟩)
  dsimp only [Pt.U, Pt.locs, Pt.cells, Pt.slots] at X2 l2 y2 z2 st2 hQ2
  rw [l2, y2, z2] at X2
  obtain ⟨rfl, Nq2, hq2⟩ := hQ2
  have N2 := Fr.app N0 Nq2
  have k3_ : ∀ t, Steps p.tables e below (T2.setTop (mkF m 4 #[.val (.int x), .val (.int y), .unset, .unset] [(.int (x &&& (3 : Int32)))])) t → Steps p.tables e below (s₁.setTop (mkF m 0 #[.val (.int x), .val (.int y), .unset, .unset] [])) t := fun t q => k1_ t (st2 t q)
  have k4_ : ∀ t, Steps p.tables e below (T2.setTop (mkF m 6 #[.val (.int x), .val (.int y), .val (.int (x &&& (3 : Int32))), .unset] [(.int y)])) t → Steps p.tables e below (s₁.setTop (mkF m 0 #[.val (.int x), .val (.int y), .unset, .unset] [])) t := by
    intro t q
    refine k3_ _ ?_
    show Steps p.tables e below (T2.setTop (mkF m 4 #[.val (.int x), .val (.int y), .unset, .unset] [(.int (x &&& (3 : Int32)))])) _
    refine XS.istoreN X2.here hx rfl (hb hby d_method_5_4) rfl (l' := #[.val (.int x), .val (.int y), .val (.int (x &&& (3 : Int32))), .unset]) rfl ?_
    show Steps p.tables e below (T2.setTop (mkF m 5 #[.val (.int x), .val (.int y), .val (.int (x &&& (3 : Int32))), .unset] [])) _
    refine XS.iloadN X2.here hx rfl (hb hby d_method_5_5) rfl ?_
    show Steps p.tables e below (T2.setTop (mkF m 6 #[.val (.int x), .val (.int y), .val (.int (x &&& (3 : Int32))), .unset] [(.int y)])) _
    exact q
  obtain ⟨_, _, ⟨T5, L5, kk5, n5⟩, -, X5, ⟨Lc5, hQ5, l5, y5, z5⟩, st5⟩ := Jvm.LawKit.callS X2 hx (y := (⟨"com/example/triplewright/triplewright/source/ElementNameMatchesPinLaw", "len", "(I)I"⟩ : MethodName)) hown (mvT hZ (hw _ (List.mem_of_getElem? (i := 5) rfl))) (mvT hZ (hw _ (List.mem_of_getElem? (i := 6) rfl))) (mvT hZ (hw _ (List.mem_of_getElem? (i := 3) rfl))) (mvT hZ (hw _ (List.mem_of_getElem? (i := 7) rfl))) (by decide) (backOf (W := 0) (rmL l Z a0 hw [] y h0 n0 Zn) hZ (hw _ (List.mem_of_getElem? (i := 7) rfl)) (hw _ (List.mem_of_getElem? (i := 3) rfl)) (by decide) (by decide)) (g := (mkF m 6 #[.val (.int x), .val (.int y), .val (.int (x &&& (3 : Int32))), .unset] [(.int y)])) rfl (by rw [hml]; rfl) (argsL := [(.int y)]) (rest := []) (lenOf pd_27763 rfl) rfl (by show 2 * 0 + _ ≤ _; exact Nat.le_of_eq rfl) (hb hby d_method_5_6) (fun _ _ => ⟨rfl, hq2, (by decide : 0 + 0 + 0 ≤ _), (by decide : 0 + 0 + 0 ≤ _)⟩)
  dsimp only [Pt.U, Pt.locs, Pt.cells, Pt.slots] at X5 l5 y5 z5 st5 hQ5
  rw [l5, y5, z5] at X5
  obtain ⟨rfl, Nq5, hq5⟩ := hQ5
  have N5 := Fr.app N2 Nq5
  have k6_ : ∀ t, Steps p.tables e below (T5.setTop (mkF m 9 #[.val (.int x), .val (.int y), .val (.int (x &&& (3 : Int32))), .unset] [(.int (y &&& (3 : Int32)))])) t → Steps p.tables e below (s₁.setTop (mkF m 0 #[.val (.int x), .val (.int y), .unset, .unset] [])) t := fun t q => k4_ t (st5 t q)
  have k7_ : ∀ t, Steps p.tables e below (T5.setTop (mkF m 12 #[.val (.int x), .val (.int y), .val (.int (x &&& (3 : Int32))), .val (.int (y &&& (3 : Int32)))] [(.int (y &&& (3 : Int32))), (.int (x &&& (3 : Int32)))])) t → Steps p.tables e below (s₁.setTop (mkF m 0 #[.val (.int x), .val (.int y), .unset, .unset] [])) t := by
    intro t q
    refine k6_ _ ?_
    show Steps p.tables e below (T5.setTop (mkF m 9 #[.val (.int x), .val (.int y), .val (.int (x &&& (3 : Int32))), .unset] [(.int (y &&& (3 : Int32)))])) _
    refine XS.istoreN X5.here hx rfl (hb hby d_method_5_9) rfl (l' := #[.val (.int x), .val (.int y), .val (.int (x &&& (3 : Int32))), .val (.int (y &&& (3 : Int32)))]) rfl ?_
    show Steps p.tables e below (T5.setTop (mkF m 10 #[.val (.int x), .val (.int y), .val (.int (x &&& (3 : Int32))), .val (.int (y &&& (3 : Int32)))] [])) _
    refine XS.iloadN X5.here hx rfl (hb hby d_method_5_10) rfl ?_
    show Steps p.tables e below (T5.setTop (mkF m 11 #[.val (.int x), .val (.int y), .val (.int (x &&& (3 : Int32))), .val (.int (y &&& (3 : Int32)))] [(.int (x &&& (3 : Int32)))])) _
    refine XS.iloadN X5.here hx rfl (hb hby d_method_5_11) rfl ?_
    show Steps p.tables e below (T5.setTop (mkF m 12 #[.val (.int x), .val (.int y), .val (.int (x &&& (3 : Int32))), .val (.int (y &&& (3 : Int32)))] [(.int (y &&& (3 : Int32))), (.int (x &&& (3 : Int32)))])) _
    exact q
  by_cases hl : (x &&& (3 : Int32)) = (y &&& (3 : Int32))
  · have k8_ : ∀ t, Steps p.tables e below (T5.setTop (mkF m 15 #[.val (.int x), .val (.int y), .val (.int (x &&& (3 : Int32))), .val (.int (y &&& (3 : Int32)))] [])) t → Steps p.tables e below (s₁.setTop (mkF m 0 #[.val (.int x), .val (.int y), .unset, .unset] [])) t := by
      intro t q
      refine k7_ _ ?_
      show Steps p.tables e below (T5.setTop (mkF m 12 #[.val (.int x), .val (.int y), .val (.int (x &&& (3 : Int32))), .val (.int (y &&& (3 : Int32)))] [(.int (y &&& (3 : Int32))), (.int (x &&& (3 : Int32)))])) _
      refine XS.icmpNo X5.here hx rfl (hb hby d_method_5_12) rfl (teq hl).2 ?_
      show Steps p.tables e below (T5.setTop (mkF m 15 #[.val (.int x), .val (.int y), .val (.int (x &&& (3 : Int32))), .val (.int (y &&& (3 : Int32)))] [])) _
      exact q
    have k9_ : ∀ t, Steps p.tables e below (T5.setTop (mkF m 17 #[.val (.int x), .val (.int y), .val (.int (x &&& (3 : Int32))), .val (.int (y &&& (3 : Int32)))] [(.int (1 : Int32)), (.int (x &&& (3 : Int32)))])) t → Steps p.tables e below (s₁.setTop (mkF m 0 #[.val (.int x), .val (.int y), .unset, .unset] [])) t := by
      intro t q
      refine k8_ _ ?_
      show Steps p.tables e below (T5.setTop (mkF m 15 #[.val (.int x), .val (.int y), .val (.int (x &&& (3 : Int32))), .val (.int (y &&& (3 : Int32)))] [])) _
      refine XS.iloadN X5.here hx rfl (hb hby d_method_5_15) rfl ?_
      show Steps p.tables e below (T5.setTop (mkF m 16 #[.val (.int x), .val (.int y), .val (.int (x &&& (3 : Int32))), .val (.int (y &&& (3 : Int32)))] [(.int (x &&& (3 : Int32)))])) _
      refine XS.iconst X5.here hx rfl (hb hby d_method_5_16) ?_
      show Steps p.tables e below (T5.setTop (mkF m 17 #[.val (.int x), .val (.int y), .val (.int (x &&& (3 : Int32))), .val (.int (y &&& (3 : Int32)))] [(.int (1 : Int32)), (.int (x &&& (3 : Int32)))])) _
      exact q
    by_cases ha0 : (x &&& (3 : Int32)) < (1 : Int32)
    · have k10_ : ∀ t, Steps p.tables e below (T5.setTop (mkF m 33 #[.val (.int x), .val (.int y), .val (.int (x &&& (3 : Int32))), .val (.int (y &&& (3 : Int32)))] [])) t → Steps p.tables e below (s₁.setTop (mkF m 0 #[.val (.int x), .val (.int y), .unset, .unset] [])) t := by
        intro t q
        refine k9_ _ ?_
        show Steps p.tables e below (T5.setTop (mkF m 17 #[.val (.int x), .val (.int y), .val (.int (x &&& (3 : Int32))), .val (.int (y &&& (3 : Int32)))] [(.int (1 : Int32)), (.int (x &&& (3 : Int32)))])) _
        refine XS.icmpYes X5.here hx rfl (pc0 := 17) (pc' := 33) rfl (hb hby d_method_5_17) rfl (tlt ha0).1 (by decide) (by decide) ?_
        show Steps p.tables e below (T5.setTop (mkF m 33 #[.val (.int x), .val (.int y), .val (.int (x &&& (3 : Int32))), .val (.int (y &&& (3 : Int32)))] [])) _
        exact q
      have k11_ : ∀ t, Steps p.tables e below (T5.setTop (mkF m 35 #[.val (.int x), .val (.int y), .val (.int (x &&& (3 : Int32))), .val (.int (y &&& (3 : Int32)))] [(.int (2 : Int32)), (.int (x &&& (3 : Int32)))])) t → Steps p.tables e below (s₁.setTop (mkF m 0 #[.val (.int x), .val (.int y), .unset, .unset] [])) t := by
        intro t q
        refine k10_ _ ?_
        show Steps p.tables e below (T5.setTop (mkF m 33 #[.val (.int x), .val (.int y), .val (.int (x &&& (3 : Int32))), .val (.int (y &&& (3 : Int32)))] [])) _
        refine XS.iloadN X5.here hx rfl (hb hby d_method_5_33) rfl ?_
        show Steps p.tables e below (T5.setTop (mkF m 34 #[.val (.int x), .val (.int y), .val (.int (x &&& (3 : Int32))), .val (.int (y &&& (3 : Int32)))] [(.int (x &&& (3 : Int32)))])) _
        refine XS.iconst X5.here hx rfl (hb hby d_method_5_34) ?_
        show Steps p.tables e below (T5.setTop (mkF m 35 #[.val (.int x), .val (.int y), .val (.int (x &&& (3 : Int32))), .val (.int (y &&& (3 : Int32)))] [(.int (2 : Int32)), (.int (x &&& (3 : Int32)))])) _
        exact q
      have k12_ : ∀ t, Steps p.tables e below (T5.setTop (mkF m 51 #[.val (.int x), .val (.int y), .val (.int (x &&& (3 : Int32))), .val (.int (y &&& (3 : Int32)))] [])) t → Steps p.tables e below (s₁.setTop (mkF m 0 #[.val (.int x), .val (.int y), .unset, .unset] [])) t := by
        intro t q
        refine k11_ _ ?_
        show Steps p.tables e below (T5.setTop (mkF m 35 #[.val (.int x), .val (.int y), .val (.int (x &&& (3 : Int32))), .val (.int (y &&& (3 : Int32)))] [(.int (2 : Int32)), (.int (x &&& (3 : Int32)))])) _
        refine XS.icmpYes X5.here hx rfl (pc0 := 35) (pc' := 51) rfl (hb hby d_method_5_35) rfl (tlt (own_up_lt ha0 (by decide))).1 (by decide) (by decide) ?_
        show Steps p.tables e below (T5.setTop (mkF m 51 #[.val (.int x), .val (.int y), .val (.int (x &&& (3 : Int32))), .val (.int (y &&& (3 : Int32)))] [])) _
        exact q
      have k13_ : ∀ t, Steps p.tables e below (T5.setTop (mkF m 53 #[.val (.int x), .val (.int y), .val (.int (x &&& (3 : Int32))), .val (.int (y &&& (3 : Int32)))] [(.int (3 : Int32)), (.int (x &&& (3 : Int32)))])) t → Steps p.tables e below (s₁.setTop (mkF m 0 #[.val (.int x), .val (.int y), .unset, .unset] [])) t := by
        intro t q
        refine k12_ _ ?_
        show Steps p.tables e below (T5.setTop (mkF m 51 #[.val (.int x), .val (.int y), .val (.int (x &&& (3 : Int32))), .val (.int (y &&& (3 : Int32)))] [])) _
        refine XS.iloadN X5.here hx rfl (hb hby d_method_5_51) rfl ?_
        show Steps p.tables e below (T5.setTop (mkF m 52 #[.val (.int x), .val (.int y), .val (.int (x &&& (3 : Int32))), .val (.int (y &&& (3 : Int32)))] [(.int (x &&& (3 : Int32)))])) _
        refine XS.iconst X5.here hx rfl (hb hby d_method_5_52) ?_
        show Steps p.tables e below (T5.setTop (mkF m 53 #[.val (.int x), .val (.int y), .val (.int (x &&& (3 : Int32))), .val (.int (y &&& (3 : Int32)))] [(.int (3 : Int32)), (.int (x &&& (3 : Int32)))])) _
        exact q
      have k14_ : ∀ t, Steps p.tables e below (T5.setTop (mkF m 69 #[.val (.int x), .val (.int y), .val (.int (x &&& (3 : Int32))), .val (.int (y &&& (3 : Int32)))] [])) t → Steps p.tables e below (s₁.setTop (mkF m 0 #[.val (.int x), .val (.int y), .unset, .unset] [])) t := by
        intro t q
        refine k13_ _ ?_
        show Steps p.tables e below (T5.setTop (mkF m 53 #[.val (.int x), .val (.int y), .val (.int (x &&& (3 : Int32))), .val (.int (y &&& (3 : Int32)))] [(.int (3 : Int32)), (.int (x &&& (3 : Int32)))])) _
        refine XS.icmpYes X5.here hx rfl (pc0 := 53) (pc' := 69) rfl (hb hby d_method_5_53) rfl (tlt (own_up_lt ha0 (by decide))).1 (by decide) (by decide) ?_
        show Steps p.tables e below (T5.setTop (mkF m 69 #[.val (.int x), .val (.int y), .val (.int (x &&& (3 : Int32))), .val (.int (y &&& (3 : Int32)))] [])) _
        exact q
      have k15_ : ∀ t, Steps p.tables e below (T5.setTop (mkF m 74 #[.val (.int x), .val (.int y), .val (.int (x &&& (3 : Int32))), .val (.int (y &&& (3 : Int32)))] [(.int (1 : Int32))])) t → Steps p.tables e below (s₁.setTop (mkF m 0 #[.val (.int x), .val (.int y), .unset, .unset] [])) t := by
        intro t q
        refine k14_ _ ?_
        show Steps p.tables e below (T5.setTop (mkF m 69 #[.val (.int x), .val (.int y), .val (.int (x &&& (3 : Int32))), .val (.int (y &&& (3 : Int32)))] [])) _
        refine XS.iconst X5.here hx rfl (hb hby d_method_5_69) ?_
        show Steps p.tables e below (T5.setTop (mkF m 70 #[.val (.int x), .val (.int y), .val (.int (x &&& (3 : Int32))), .val (.int (y &&& (3 : Int32)))] [(.int (1 : Int32))])) _
        refine XS.goto X5.here hx rfl (pc0 := 70) (pc' := 74) rfl (hb hby d_method_5_70) (by decide) (by decide) ?_
        show Steps p.tables e below (T5.setTop (mkF m 74 #[.val (.int x), .val (.int y), .val (.int (x &&& (3 : Int32))), .val (.int (y &&& (3 : Int32)))] [(.int (1 : Int32))])) _
        exact q
      obtain ⟨fs, hr, hrun, hended, hW, hsame⟩ := X5.leave (v := some (.int (1 : Int32))) (fun h => by rw [Bd.returns] at h; cases h)
      refine ⟨_, _, pre0 _ (k15_ _ ?_), hrun, hended, _, _, rfl, ?_, ⟨_, rfl⟩, hW, hsame.mono (by decide) (by decide)⟩
      · show Steps p.tables e below (T5.setTop (mkF m 74 #[.val (.int x), .val (.int y), .val (.int (x &&& (3 : Int32))), .val (.int (y &&& (3 : Int32)))] [(.int (1 : Int32))])) _
        exact retN X5 hx (t := .boolean) Bd.returns (by simp) (hb hby d_method_5_74) hr
      · show QSa Z x y h0 n0 _ T5.heap _
        rw [hq5]
        exact ⟨(congrArg (fun z => some (Value.int z)) (bi_t (by have hx := own_lt1 ha0; have hy := hl.symm.trans hx; rw [own_cs0 hx, own_cs0 hy]))).symm, N5, rfl⟩
    · have k16_ : ∀ t, Steps p.tables e below (T5.setTop (mkF m 20 #[.val (.int x), .val (.int y), .val (.int (x &&& (3 : Int32))), .val (.int (y &&& (3 : Int32)))] [])) t → Steps p.tables e below (s₁.setTop (mkF m 0 #[.val (.int x), .val (.int y), .unset, .unset] [])) t := by
        intro t q
        refine k9_ _ ?_
        show Steps p.tables e below (T5.setTop (mkF m 17 #[.val (.int x), .val (.int y), .val (.int (x &&& (3 : Int32))), .val (.int (y &&& (3 : Int32)))] [(.int (1 : Int32)), (.int (x &&& (3 : Int32)))])) _
        refine XS.icmpNo X5.here hx rfl (hb hby d_method_5_17) rfl (flt ha0).1 ?_
        show Steps p.tables e below (T5.setTop (mkF m 20 #[.val (.int x), .val (.int y), .val (.int (x &&& (3 : Int32))), .val (.int (y &&& (3 : Int32)))] [])) _
        exact q
      have k17_ : ∀ t, Steps p.tables e below (T5.setTop (mkF m 22 #[.val (.int x), .val (.int y), .val (.int (x &&& (3 : Int32))), .val (.int (y &&& (3 : Int32)))] [(.int (0 : Int32)), (.int x)])) t → Steps p.tables e below (s₁.setTop (mkF m 0 #[.val (.int x), .val (.int y), .unset, .unset] [])) t := by
        intro t q
        refine k16_ _ ?_
        show Steps p.tables e below (T5.setTop (mkF m 20 #[.val (.int x), .val (.int y), .val (.int (x &&& (3 : Int32))), .val (.int (y &&& (3 : Int32)))] [])) _
        refine XS.iloadN X5.here hx rfl (hb hby d_method_5_20) rfl ?_
        show Steps p.tables e below (T5.setTop (mkF m 21 #[.val (.int x), .val (.int y), .val (.int (x &&& (3 : Int32))), .val (.int (y &&& (3 : Int32)))] [(.int x)])) _
        refine XS.iconst X5.here hx rfl (hb hby d_method_5_21) ?_
        show Steps p.tables e below (T5.setTop (mkF m 22 #[.val (.int x), .val (.int y), .val (.int (x &&& (3 : Int32))), .val (.int (y &&& (3 : Int32)))] [(.int (0 : Int32)), (.int x)])) _
        exact q
      obtain ⟨_, _, ⟨T18, L18, kk18, n18⟩, -, X18, ⟨Lc18, hQ18, l18, y18, z18⟩, st18⟩ := Jvm.LawKit.callS X5 hx (y := (⟨"com/example/triplewright/triplewright/source/ElementNameMatchesPinLaw", "ch", "(II)C"⟩ : MethodName)) hown (mvT hZ (hw _ (List.mem_of_getElem? (i := 30) rfl))) (mvT hZ (hw _ (List.mem_of_getElem? (i := 31) rfl))) (mvT hZ (hw _ (List.mem_of_getElem? (i := 3) rfl))) (mvT hZ (hw _ (List.mem_of_getElem? (i := 32) rfl))) (by decide) (backOf (W := 0) (rmK l Z a0 hw [] x (0 : Int32) h0 n0 Zn) hZ (hw _ (List.mem_of_getElem? (i := 32) rfl)) (hw _ (List.mem_of_getElem? (i := 3) rfl)) (by decide) (by decide)) (g := (mkF m 22 #[.val (.int x), .val (.int y), .val (.int (x &&& (3 : Int32))), .val (.int (y &&& (3 : Int32)))] [(.int (0 : Int32)), (.int x)])) rfl (by rw [hml]; rfl) (argsL := [(.int x), (.int (0 : Int32))]) (rest := []) (lenOf pd_90414 rfl) rfl (by show 2 * 0 + _ ≤ _; exact Nat.le_of_eq rfl) (hb hby d_method_5_22) (fun _ _ => ⟨rfl, hq5, (by decide : 0 + 0 + 0 + 0 ≤ _), (by decide : 0 + 0 + 0 + 0 ≤ _)⟩)
      dsimp only [Pt.U, Pt.locs, Pt.cells, Pt.slots] at X18 l18 y18 z18 st18 hQ18
      rw [l18, y18, z18] at X18
      obtain ⟨rfl, Nq18, hq18⟩ := hQ18
      have N18 := Fr.app N5 Nq18
      have k19_ : ∀ t, Steps p.tables e below (T18.setTop (mkF m 25 #[.val (.int x), .val (.int y), .val (.int (x &&& (3 : Int32))), .val (.int (y &&& (3 : Int32)))] [(.int (own_ch x (0 : Int32)))])) t → Steps p.tables e below (s₁.setTop (mkF m 0 #[.val (.int x), .val (.int y), .unset, .unset] [])) t := fun t q => k17_ t (st18 t q)
      have k20_ : ∀ t, Steps p.tables e below (T18.setTop (mkF m 27 #[.val (.int x), .val (.int y), .val (.int (x &&& (3 : Int32))), .val (.int (y &&& (3 : Int32)))] [(.int (0 : Int32)), (.int y), (.int (own_ch x (0 : Int32)))])) t → Steps p.tables e below (s₁.setTop (mkF m 0 #[.val (.int x), .val (.int y), .unset, .unset] [])) t := by
        intro t q
        refine k19_ _ ?_
        show Steps p.tables e below (T18.setTop (mkF m 25 #[.val (.int x), .val (.int y), .val (.int (x &&& (3 : Int32))), .val (.int (y &&& (3 : Int32)))] [(.int (own_ch x (0 : Int32)))])) _
        refine XS.iloadN X18.here hx rfl (hb hby d_method_5_25) rfl ?_
        show Steps p.tables e below (T18.setTop (mkF m 26 #[.val (.int x), .val (.int y), .val (.int (x &&& (3 : Int32))), .val (.int (y &&& (3 : Int32)))] [(.int y), (.int (own_ch x (0 : Int32)))])) _
        refine XS.iconst X18.here hx rfl (hb hby d_method_5_26) ?_
        show Steps p.tables e below (T18.setTop (mkF m 27 #[.val (.int x), .val (.int y), .val (.int (x &&& (3 : Int32))), .val (.int (y &&& (3 : Int32)))] [(.int (0 : Int32)), (.int y), (.int (own_ch x (0 : Int32)))])) _
        exact q
      obtain ⟨_, _, ⟨T21, L21, kk21, n21⟩, -, X21, ⟨Lc21, hQ21, l21, y21, z21⟩, st21⟩ := Jvm.LawKit.callS X18 hx (y := (⟨"com/example/triplewright/triplewright/source/ElementNameMatchesPinLaw", "ch", "(II)C"⟩ : MethodName)) hown (mvT hZ (hw _ (List.mem_of_getElem? (i := 30) rfl))) (mvT hZ (hw _ (List.mem_of_getElem? (i := 31) rfl))) (mvT hZ (hw _ (List.mem_of_getElem? (i := 3) rfl))) (mvT hZ (hw _ (List.mem_of_getElem? (i := 32) rfl))) (by decide) (backOf (W := 1) (rmK l Z a0 hw [] y (0 : Int32) h0 n0 Zn) hZ (hw _ (List.mem_of_getElem? (i := 32) rfl)) (hw _ (List.mem_of_getElem? (i := 3) rfl)) (by decide) (by decide)) (g := (mkF m 27 #[.val (.int x), .val (.int y), .val (.int (x &&& (3 : Int32))), .val (.int (y &&& (3 : Int32)))] [(.int (0 : Int32)), (.int y), (.int (own_ch x (0 : Int32)))])) rfl (by rw [hml]; rfl) (argsL := [(.int y), (.int (0 : Int32))]) (rest := [(.int (own_ch x (0 : Int32)))]) (lenOf pd_90414 rfl) rfl (by show 2 * 0 + _ ≤ _; exact Nat.le_of_eq rfl) (hb hby d_method_5_27) (fun _ _ => ⟨rfl, hq18, (by decide : 0 + 0 + 0 + 0 + 0 ≤ _), (by decide : 0 + 0 + 0 + 0 + 0 ≤ _)⟩)
      dsimp only [Pt.U, Pt.locs, Pt.cells, Pt.slots] at X21 l21 y21 z21 st21 hQ21
      rw [l21, y21, z21] at X21
      obtain ⟨rfl, Nq21, hq21⟩ := hQ21
      have N21 := Fr.app N18 Nq21
      have k22_ : ∀ t, Steps p.tables e below (T21.setTop (mkF m 30 #[.val (.int x), .val (.int y), .val (.int (x &&& (3 : Int32))), .val (.int (y &&& (3 : Int32)))] [(.int (own_ch y (0 : Int32))), (.int (own_ch x (0 : Int32)))])) t → Steps p.tables e below (s₁.setTop (mkF m 0 #[.val (.int x), .val (.int y), .unset, .unset] [])) t := fun t q => k20_ t (st21 t q)
      by_cases hc0_ : (own_ch x (0 : Int32)) = (own_ch y (0 : Int32))
      · have k23_ : ∀ t, Steps p.tables e below (T21.setTop (mkF m 33 #[.val (.int x), .val (.int y), .val (.int (x &&& (3 : Int32))), .val (.int (y &&& (3 : Int32)))] [])) t → Steps p.tables e below (s₁.setTop (mkF m 0 #[.val (.int x), .val (.int y), .unset, .unset] [])) t := by
          intro t q
          refine k22_ _ ?_
          show Steps p.tables e below (T21.setTop (mkF m 30 #[.val (.int x), .val (.int y), .val (.int (x &&& (3 : Int32))), .val (.int (y &&& (3 : Int32)))] [(.int (own_ch y (0 : Int32))), (.int (own_ch x (0 : Int32)))])) _
          refine XS.icmpNo X21.here hx rfl (hb hby d_method_5_30) rfl (teq hc0_).2 ?_
          show Steps p.tables e below (T21.setTop (mkF m 33 #[.val (.int x), .val (.int y), .val (.int (x &&& (3 : Int32))), .val (.int (y &&& (3 : Int32)))] [])) _
          exact q
        have k24_ : ∀ t, Steps p.tables e below (T21.setTop (mkF m 35 #[.val (.int x), .val (.int y), .val (.int (x &&& (3 : Int32))), .val (.int (y &&& (3 : Int32)))] [(.int (2 : Int32)), (.int (x &&& (3 : Int32)))])) t → Steps p.tables e below (s₁.setTop (mkF m 0 #[.val (.int x), .val (.int y), .unset, .unset] [])) t := by
          intro t q
          refine k23_ _ ?_
          show Steps p.tables e below (T21.setTop (mkF m 33 #[.val (.int x), .val (.int y), .val (.int (x &&& (3 : Int32))), .val (.int (y &&& (3 : Int32)))] [])) _
          refine XS.iloadN X21.here hx rfl (hb hby d_method_5_33) rfl ?_
          show Steps p.tables e below (T21.setTop (mkF m 34 #[.val (.int x), .val (.int y), .val (.int (x &&& (3 : Int32))), .val (.int (y &&& (3 : Int32)))] [(.int (x &&& (3 : Int32)))])) _
          refine XS.iconst X21.here hx rfl (hb hby d_method_5_34) ?_
          show Steps p.tables e below (T21.setTop (mkF m 35 #[.val (.int x), .val (.int y), .val (.int (x &&& (3 : Int32))), .val (.int (y &&& (3 : Int32)))] [(.int (2 : Int32)), (.int (x &&& (3 : Int32)))])) _
          exact q
        by_cases ha1 : (x &&& (3 : Int32)) < (2 : Int32)
        · have k25_ : ∀ t, Steps p.tables e below (T21.setTop (mkF m 51 #[.val (.int x), .val (.int y), .val (.int (x &&& (3 : Int32))), .val (.int (y &&& (3 : Int32)))] [])) t → Steps p.tables e below (s₁.setTop (mkF m 0 #[.val (.int x), .val (.int y), .unset, .unset] [])) t := by
            intro t q
            refine k24_ _ ?_
            show Steps p.tables e below (T21.setTop (mkF m 35 #[.val (.int x), .val (.int y), .val (.int (x &&& (3 : Int32))), .val (.int (y &&& (3 : Int32)))] [(.int (2 : Int32)), (.int (x &&& (3 : Int32)))])) _
            refine XS.icmpYes X21.here hx rfl (pc0 := 35) (pc' := 51) rfl (hb hby d_method_5_35) rfl (tlt ha1).1 (by decide) (by decide) ?_
            show Steps p.tables e below (T21.setTop (mkF m 51 #[.val (.int x), .val (.int y), .val (.int (x &&& (3 : Int32))), .val (.int (y &&& (3 : Int32)))] [])) _
            exact q
          have k26_ : ∀ t, Steps p.tables e below (T21.setTop (mkF m 53 #[.val (.int x), .val (.int y), .val (.int (x &&& (3 : Int32))), .val (.int (y &&& (3 : Int32)))] [(.int (3 : Int32)), (.int (x &&& (3 : Int32)))])) t → Steps p.tables e below (s₁.setTop (mkF m 0 #[.val (.int x), .val (.int y), .unset, .unset] [])) t := by
            intro t q
            refine k25_ _ ?_
            show Steps p.tables e below (T21.setTop (mkF m 51 #[.val (.int x), .val (.int y), .val (.int (x &&& (3 : Int32))), .val (.int (y &&& (3 : Int32)))] [])) _
            refine XS.iloadN X21.here hx rfl (hb hby d_method_5_51) rfl ?_
            show Steps p.tables e below (T21.setTop (mkF m 52 #[.val (.int x), .val (.int y), .val (.int (x &&& (3 : Int32))), .val (.int (y &&& (3 : Int32)))] [(.int (x &&& (3 : Int32)))])) _
            refine XS.iconst X21.here hx rfl (hb hby d_method_5_52) ?_
            show Steps p.tables e below (T21.setTop (mkF m 53 #[.val (.int x), .val (.int y), .val (.int (x &&& (3 : Int32))), .val (.int (y &&& (3 : Int32)))] [(.int (3 : Int32)), (.int (x &&& (3 : Int32)))])) _
            exact q
          have k27_ : ∀ t, Steps p.tables e below (T21.setTop (mkF m 69 #[.val (.int x), .val (.int y), .val (.int (x &&& (3 : Int32))), .val (.int (y &&& (3 : Int32)))] [])) t → Steps p.tables e below (s₁.setTop (mkF m 0 #[.val (.int x), .val (.int y), .unset, .unset] [])) t := by
            intro t q
            refine k26_ _ ?_
            show Steps p.tables e below (T21.setTop (mkF m 53 #[.val (.int x), .val (.int y), .val (.int (x &&& (3 : Int32))), .val (.int (y &&& (3 : Int32)))] [(.int (3 : Int32)), (.int (x &&& (3 : Int32)))])) _
            refine XS.icmpYes X21.here hx rfl (pc0 := 53) (pc' := 69) rfl (hb hby d_method_5_53) rfl (tlt (own_up_lt ha1 (by decide))).1 (by decide) (by decide) ?_
            show Steps p.tables e below (T21.setTop (mkF m 69 #[.val (.int x), .val (.int y), .val (.int (x &&& (3 : Int32))), .val (.int (y &&& (3 : Int32)))] [])) _
            exact q
          have k28_ : ∀ t, Steps p.tables e below (T21.setTop (mkF m 74 #[.val (.int x), .val (.int y), .val (.int (x &&& (3 : Int32))), .val (.int (y &&& (3 : Int32)))] [(.int (1 : Int32))])) t → Steps p.tables e below (s₁.setTop (mkF m 0 #[.val (.int x), .val (.int y), .unset, .unset] [])) t := by
            intro t q
            refine k27_ _ ?_
            show Steps p.tables e below (T21.setTop (mkF m 69 #[.val (.int x), .val (.int y), .val (.int (x &&& (3 : Int32))), .val (.int (y &&& (3 : Int32)))] [])) _
            refine XS.iconst X21.here hx rfl (hb hby d_method_5_69) ?_
            show Steps p.tables e below (T21.setTop (mkF m 70 #[.val (.int x), .val (.int y), .val (.int (x &&& (3 : Int32))), .val (.int (y &&& (3 : Int32)))] [(.int (1 : Int32))])) _
            refine XS.goto X21.here hx rfl (pc0 := 70) (pc' := 74) rfl (hb hby d_method_5_70) (by decide) (by decide) ?_
            show Steps p.tables e below (T21.setTop (mkF m 74 #[.val (.int x), .val (.int y), .val (.int (x &&& (3 : Int32))), .val (.int (y &&& (3 : Int32)))] [(.int (1 : Int32))])) _
            exact q
          obtain ⟨fs, hr, hrun, hended, hW, hsame⟩ := X21.leave (v := some (.int (1 : Int32))) (fun h => by rw [Bd.returns] at h; cases h)
          refine ⟨_, _, pre0 _ (k28_ _ ?_), hrun, hended, _, _, rfl, ?_, ⟨_, rfl⟩, hW, hsame.mono (by decide) (by decide)⟩
          · show Steps p.tables e below (T21.setTop (mkF m 74 #[.val (.int x), .val (.int y), .val (.int (x &&& (3 : Int32))), .val (.int (y &&& (3 : Int32)))] [(.int (1 : Int32))])) _
            exact retN X21 hx (t := .boolean) Bd.returns (by simp) (hb hby d_method_5_74) hr
          · show QSa Z x y h0 n0 _ T21.heap _
            rw [hq21]
            exact ⟨(congrArg (fun z => some (Value.int z)) (bi_t (by have hx := own_lt2' ha0 ha1; have hy := hl.symm.trans hx; rw [own_cs1 hx, own_cs1 hy, hc0_]))).symm, N21, rfl⟩
        · have k29_ : ∀ t, Steps p.tables e below (T21.setTop (mkF m 38 #[.val (.int x), .val (.int y), .val (.int (x &&& (3 : Int32))), .val (.int (y &&& (3 : Int32)))] [])) t → Steps p.tables e below (s₁.setTop (mkF m 0 #[.val (.int x), .val (.int y), .unset, .unset] [])) t := by
            intro t q
            refine k24_ _ ?_
            show Steps p.tables e below (T21.setTop (mkF m 35 #[.val (.int x), .val (.int y), .val (.int (x &&& (3 : Int32))), .val (.int (y &&& (3 : Int32)))] [(.int (2 : Int32)), (.int (x &&& (3 : Int32)))])) _
            refine XS.icmpNo X21.here hx rfl (hb hby d_method_5_35) rfl (flt ha1).1 ?_
            show Steps p.tables e below (T21.setTop (mkF m 38 #[.val (.int x), .val (.int y), .val (.int (x &&& (3 : Int32))), .val (.int (y &&& (3 : Int32)))] [])) _
            exact q
          have k30_ : ∀ t, Steps p.tables e below (T21.setTop (mkF m 40 #[.val (.int x), .val (.int y), .val (.int (x &&& (3 : Int32))), .val (.int (y &&& (3 : Int32)))] [(.int (1 : Int32)), (.int x)])) t → Steps p.tables e below (s₁.setTop (mkF m 0 #[.val (.int x), .val (.int y), .unset, .unset] [])) t := by
            intro t q
            refine k29_ _ ?_
            show Steps p.tables e below (T21.setTop (mkF m 38 #[.val (.int x), .val (.int y), .val (.int (x &&& (3 : Int32))), .val (.int (y &&& (3 : Int32)))] [])) _
            refine XS.iloadN X21.here hx rfl (hb hby d_method_5_38) rfl ?_
            show Steps p.tables e below (T21.setTop (mkF m 39 #[.val (.int x), .val (.int y), .val (.int (x &&& (3 : Int32))), .val (.int (y &&& (3 : Int32)))] [(.int x)])) _
            refine XS.iconst X21.here hx rfl (hb hby d_method_5_39) ?_
            show Steps p.tables e below (T21.setTop (mkF m 40 #[.val (.int x), .val (.int y), .val (.int (x &&& (3 : Int32))), .val (.int (y &&& (3 : Int32)))] [(.int (1 : Int32)), (.int x)])) _
            exact q
          obtain ⟨_, _, ⟨T31, L31, kk31, n31⟩, -, X31, ⟨Lc31, hQ31, l31, y31, z31⟩, st31⟩ := Jvm.LawKit.callS X21 hx (y := (⟨"com/example/triplewright/triplewright/source/ElementNameMatchesPinLaw", "ch", "(II)C"⟩ : MethodName)) hown (mvT hZ (hw _ (List.mem_of_getElem? (i := 30) rfl))) (mvT hZ (hw _ (List.mem_of_getElem? (i := 31) rfl))) (mvT hZ (hw _ (List.mem_of_getElem? (i := 3) rfl))) (mvT hZ (hw _ (List.mem_of_getElem? (i := 32) rfl))) (by decide) (backOf (W := 0) (rmK l Z a0 hw [] x (1 : Int32) h0 n0 Zn) hZ (hw _ (List.mem_of_getElem? (i := 32) rfl)) (hw _ (List.mem_of_getElem? (i := 3) rfl)) (by decide) (by decide)) (g := (mkF m 40 #[.val (.int x), .val (.int y), .val (.int (x &&& (3 : Int32))), .val (.int (y &&& (3 : Int32)))] [(.int (1 : Int32)), (.int x)])) rfl (by rw [hml]; rfl) (argsL := [(.int x), (.int (1 : Int32))]) (rest := []) (lenOf pd_90414 rfl) rfl (by show 2 * 0 + _ ≤ _; exact Nat.le_of_eq rfl) (hb hby d_method_5_40) (fun _ _ => ⟨rfl, hq21, (by decide : 0 + 0 + 0 + 0 + 0 + 0 ≤ _), (by decide : 0 + 0 + 0 + 0 + 0 + 0 ≤ _)⟩)
          dsimp only [Pt.U, Pt.locs, Pt.cells, Pt.slots] at X31 l31 y31 z31 st31 hQ31
          rw [l31, y31, z31] at X31
          obtain ⟨rfl, Nq31, hq31⟩ := hQ31
          have N31 := Fr.app N21 Nq31
          have k32_ : ∀ t, Steps p.tables e below (T31.setTop (mkF m 43 #[.val (.int x), .val (.int y), .val (.int (x &&& (3 : Int32))), .val (.int (y &&& (3 : Int32)))] [(.int (own_ch x (1 : Int32)))])) t → Steps p.tables e below (s₁.setTop (mkF m 0 #[.val (.int x), .val (.int y), .unset, .unset] [])) t := fun t q => k30_ t (st31 t q)
          have k33_ : ∀ t, Steps p.tables e below (T31.setTop (mkF m 45 #[.val (.int x), .val (.int y), .val (.int (x &&& (3 : Int32))), .val (.int (y &&& (3 : Int32)))] [(.int (1 : Int32)), (.int y), (.int (own_ch x (1 : Int32)))])) t → Steps p.tables e below (s₁.setTop (mkF m 0 #[.val (.int x), .val (.int y), .unset, .unset] [])) t := by
            intro t q
            refine k32_ _ ?_
            show Steps p.tables e below (T31.setTop (mkF m 43 #[.val (.int x), .val (.int y), .val (.int (x &&& (3 : Int32))), .val (.int (y &&& (3 : Int32)))] [(.int (own_ch x (1 : Int32)))])) _
            refine XS.iloadN X31.here hx rfl (hb hby d_method_5_43) rfl ?_
            show Steps p.tables e below (T31.setTop (mkF m 44 #[.val (.int x), .val (.int y), .val (.int (x &&& (3 : Int32))), .val (.int (y &&& (3 : Int32)))] [(.int y), (.int (own_ch x (1 : Int32)))])) _
            refine XS.iconst X31.here hx rfl (hb hby d_method_5_44) ?_
            show Steps p.tables e below (T31.setTop (mkF m 45 #[.val (.int x), .val (.int y), .val (.int (x &&& (3 : Int32))), .val (.int (y &&& (3 : Int32)))] [(.int (1 : Int32)), (.int y), (.int (own_ch x (1 : Int32)))])) _
            exact q
          obtain ⟨_, _, ⟨T34, L34, kk34, n34⟩, -, X34, ⟨Lc34, hQ34, l34, y34, z34⟩, st34⟩ := Jvm.LawKit.callS X31 hx (y := (⟨"com/example/triplewright/triplewright/source/ElementNameMatchesPinLaw", "ch", "(II)C"⟩ : MethodName)) hown (mvT hZ (hw _ (List.mem_of_getElem? (i := 30) rfl))) (mvT hZ (hw _ (List.mem_of_getElem? (i := 31) rfl))) (mvT hZ (hw _ (List.mem_of_getElem? (i := 3) rfl))) (mvT hZ (hw _ (List.mem_of_getElem? (i := 32) rfl))) (by decide) (backOf (W := 1) (rmK l Z a0 hw [] y (1 : Int32) h0 n0 Zn) hZ (hw _ (List.mem_of_getElem? (i := 32) rfl)) (hw _ (List.mem_of_getElem? (i := 3) rfl)) (by decide) (by decide)) (g := (mkF m 45 #[.val (.int x), .val (.int y), .val (.int (x &&& (3 : Int32))), .val (.int (y &&& (3 : Int32)))] [(.int (1 : Int32)), (.int y), (.int (own_ch x (1 : Int32)))])) rfl (by rw [hml]; rfl) (argsL := [(.int y), (.int (1 : Int32))]) (rest := [(.int (own_ch x (1 : Int32)))]) (lenOf pd_90414 rfl) rfl (by show 2 * 0 + _ ≤ _; exact Nat.le_of_eq rfl) (hb hby d_method_5_45) (fun _ _ => ⟨rfl, hq31, (by decide : 0 + 0 + 0 + 0 + 0 + 0 + 0 ≤ _), (by decide : 0 + 0 + 0 + 0 + 0 + 0 + 0 ≤ _)⟩)
          dsimp only [Pt.U, Pt.locs, Pt.cells, Pt.slots] at X34 l34 y34 z34 st34 hQ34
          rw [l34, y34, z34] at X34
          obtain ⟨rfl, Nq34, hq34⟩ := hQ34
          have N34 := Fr.app N31 Nq34
          have k35_ : ∀ t, Steps p.tables e below (T34.setTop (mkF m 48 #[.val (.int x), .val (.int y), .val (.int (x &&& (3 : Int32))), .val (.int (y &&& (3 : Int32)))] [(.int (own_ch y (1 : Int32))), (.int (own_ch x (1 : Int32)))])) t → Steps p.tables e below (s₁.setTop (mkF m 0 #[.val (.int x), .val (.int y), .unset, .unset] [])) t := fun t q => k33_ t (st34 t q)
          by_cases hc1_ : (own_ch x (1 : Int32)) = (own_ch y (1 : Int32))
          · have k36_ : ∀ t, Steps p.tables e below (T34.setTop (mkF m 51 #[.val (.int x), .val (.int y), .val (.int (x &&& (3 : Int32))), .val (.int (y &&& (3 : Int32)))] [])) t → Steps p.tables e below (s₁.setTop (mkF m 0 #[.val (.int x), .val (.int y), .unset, .unset] [])) t := by
              intro t q
              refine k35_ _ ?_
              show Steps p.tables e below (T34.setTop (mkF m 48 #[.val (.int x), .val (.int y), .val (.int (x &&& (3 : Int32))), .val (.int (y &&& (3 : Int32)))] [(.int (own_ch y (1 : Int32))), (.int (own_ch x (1 : Int32)))])) _
              refine XS.icmpNo X34.here hx rfl (hb hby d_method_5_48) rfl (teq hc1_).2 ?_
              show Steps p.tables e below (T34.setTop (mkF m 51 #[.val (.int x), .val (.int y), .val (.int (x &&& (3 : Int32))), .val (.int (y &&& (3 : Int32)))] [])) _
              exact q
            have k37_ : ∀ t, Steps p.tables e below (T34.setTop (mkF m 53 #[.val (.int x), .val (.int y), .val (.int (x &&& (3 : Int32))), .val (.int (y &&& (3 : Int32)))] [(.int (3 : Int32)), (.int (x &&& (3 : Int32)))])) t → Steps p.tables e below (s₁.setTop (mkF m 0 #[.val (.int x), .val (.int y), .unset, .unset] [])) t := by
              intro t q
              refine k36_ _ ?_
              show Steps p.tables e below (T34.setTop (mkF m 51 #[.val (.int x), .val (.int y), .val (.int (x &&& (3 : Int32))), .val (.int (y &&& (3 : Int32)))] [])) _
              refine XS.iloadN X34.here hx rfl (hb hby d_method_5_51) rfl ?_
              show Steps p.tables e below (T34.setTop (mkF m 52 #[.val (.int x), .val (.int y), .val (.int (x &&& (3 : Int32))), .val (.int (y &&& (3 : Int32)))] [(.int (x &&& (3 : Int32)))])) _
              refine XS.iconst X34.here hx rfl (hb hby d_method_5_52) ?_
              show Steps p.tables e below (T34.setTop (mkF m 53 #[.val (.int x), .val (.int y), .val (.int (x &&& (3 : Int32))), .val (.int (y &&& (3 : Int32)))] [(.int (3 : Int32)), (.int (x &&& (3 : Int32)))])) _
              exact q
            by_cases ha2 : (x &&& (3 : Int32)) < (3 : Int32)
            · have k38_ : ∀ t, Steps p.tables e below (T34.setTop (mkF m 69 #[.val (.int x), .val (.int y), .val (.int (x &&& (3 : Int32))), .val (.int (y &&& (3 : Int32)))] [])) t → Steps p.tables e below (s₁.setTop (mkF m 0 #[.val (.int x), .val (.int y), .unset, .unset] [])) t := by
                intro t q
                refine k37_ _ ?_
                show Steps p.tables e below (T34.setTop (mkF m 53 #[.val (.int x), .val (.int y), .val (.int (x &&& (3 : Int32))), .val (.int (y &&& (3 : Int32)))] [(.int (3 : Int32)), (.int (x &&& (3 : Int32)))])) _
                refine XS.icmpYes X34.here hx rfl (pc0 := 53) (pc' := 69) rfl (hb hby d_method_5_53) rfl (tlt ha2).1 (by decide) (by decide) ?_
                show Steps p.tables e below (T34.setTop (mkF m 69 #[.val (.int x), .val (.int y), .val (.int (x &&& (3 : Int32))), .val (.int (y &&& (3 : Int32)))] [])) _
                exact q
              have k39_ : ∀ t, Steps p.tables e below (T34.setTop (mkF m 74 #[.val (.int x), .val (.int y), .val (.int (x &&& (3 : Int32))), .val (.int (y &&& (3 : Int32)))] [(.int (1 : Int32))])) t → Steps p.tables e below (s₁.setTop (mkF m 0 #[.val (.int x), .val (.int y), .unset, .unset] [])) t := by
                intro t q
                refine k38_ _ ?_
                show Steps p.tables e below (T34.setTop (mkF m 69 #[.val (.int x), .val (.int y), .val (.int (x &&& (3 : Int32))), .val (.int (y &&& (3 : Int32)))] [])) _
                refine XS.iconst X34.here hx rfl (hb hby d_method_5_69) ?_
                show Steps p.tables e below (T34.setTop (mkF m 70 #[.val (.int x), .val (.int y), .val (.int (x &&& (3 : Int32))), .val (.int (y &&& (3 : Int32)))] [(.int (1 : Int32))])) _
                refine XS.goto X34.here hx rfl (pc0 := 70) (pc' := 74) rfl (hb hby d_method_5_70) (by decide) (by decide) ?_
                show Steps p.tables e below (T34.setTop (mkF m 74 #[.val (.int x), .val (.int y), .val (.int (x &&& (3 : Int32))), .val (.int (y &&& (3 : Int32)))] [(.int (1 : Int32))])) _
                exact q
              obtain ⟨fs, hr, hrun, hended, hW, hsame⟩ := X34.leave (v := some (.int (1 : Int32))) (fun h => by rw [Bd.returns] at h; cases h)
              refine ⟨_, _, pre0 _ (k39_ _ ?_), hrun, hended, _, _, rfl, ?_, ⟨_, rfl⟩, hW, hsame.mono (by decide) (by decide)⟩
              · show Steps p.tables e below (T34.setTop (mkF m 74 #[.val (.int x), .val (.int y), .val (.int (x &&& (3 : Int32))), .val (.int (y &&& (3 : Int32)))] [(.int (1 : Int32))])) _
                exact retN X34 hx (t := .boolean) Bd.returns (by simp) (hb hby d_method_5_74) hr
              · show QSa Z x y h0 n0 _ T34.heap _
                rw [hq34]
                exact ⟨(congrArg (fun z => some (Value.int z)) (bi_t (by have hx := own_lt3' ha1 ha2; have hy := hl.symm.trans hx; rw [own_cs2 hx, own_cs2 hy, hc0_, hc1_]))).symm, N34, rfl⟩
            · have k40_ : ∀ t, Steps p.tables e below (T34.setTop (mkF m 56 #[.val (.int x), .val (.int y), .val (.int (x &&& (3 : Int32))), .val (.int (y &&& (3 : Int32)))] [])) t → Steps p.tables e below (s₁.setTop (mkF m 0 #[.val (.int x), .val (.int y), .unset, .unset] [])) t := by
                intro t q
                refine k37_ _ ?_
                show Steps p.tables e below (T34.setTop (mkF m 53 #[.val (.int x), .val (.int y), .val (.int (x &&& (3 : Int32))), .val (.int (y &&& (3 : Int32)))] [(.int (3 : Int32)), (.int (x &&& (3 : Int32)))])) _
                refine XS.icmpNo X34.here hx rfl (hb hby d_method_5_53) rfl (flt ha2).1 ?_
                show Steps p.tables e below (T34.setTop (mkF m 56 #[.val (.int x), .val (.int y), .val (.int (x &&& (3 : Int32))), .val (.int (y &&& (3 : Int32)))] [])) _
                exact q
              have k41_ : ∀ t, Steps p.tables e below (T34.setTop (mkF m 58 #[.val (.int x), .val (.int y), .val (.int (x &&& (3 : Int32))), .val (.int (y &&& (3 : Int32)))] [(.int (2 : Int32)), (.int x)])) t → Steps p.tables e below (s₁.setTop (mkF m 0 #[.val (.int x), .val (.int y), .unset, .unset] [])) t := by
                intro t q
                refine k40_ _ ?_
                show Steps p.tables e below (T34.setTop (mkF m 56 #[.val (.int x), .val (.int y), .val (.int (x &&& (3 : Int32))), .val (.int (y &&& (3 : Int32)))] [])) _
                refine XS.iloadN X34.here hx rfl (hb hby d_method_5_56) rfl ?_
                show Steps p.tables e below (T34.setTop (mkF m 57 #[.val (.int x), .val (.int y), .val (.int (x &&& (3 : Int32))), .val (.int (y &&& (3 : Int32)))] [(.int x)])) _
                refine XS.iconst X34.here hx rfl (hb hby d_method_5_57) ?_
                show Steps p.tables e below (T34.setTop (mkF m 58 #[.val (.int x), .val (.int y), .val (.int (x &&& (3 : Int32))), .val (.int (y &&& (3 : Int32)))] [(.int (2 : Int32)), (.int x)])) _
                exact q
              obtain ⟨_, _, ⟨T42, L42, kk42, n42⟩, -, X42, ⟨Lc42, hQ42, l42, y42, z42⟩, st42⟩ := Jvm.LawKit.callS X34 hx (y := (⟨"com/example/triplewright/triplewright/source/ElementNameMatchesPinLaw", "ch", "(II)C"⟩ : MethodName)) hown (mvT hZ (hw _ (List.mem_of_getElem? (i := 30) rfl))) (mvT hZ (hw _ (List.mem_of_getElem? (i := 31) rfl))) (mvT hZ (hw _ (List.mem_of_getElem? (i := 3) rfl))) (mvT hZ (hw _ (List.mem_of_getElem? (i := 32) rfl))) (by decide) (backOf (W := 0) (rmK l Z a0 hw [] x (2 : Int32) h0 n0 Zn) hZ (hw _ (List.mem_of_getElem? (i := 32) rfl)) (hw _ (List.mem_of_getElem? (i := 3) rfl)) (by decide) (by decide)) (g := (mkF m 58 #[.val (.int x), .val (.int y), .val (.int (x &&& (3 : Int32))), .val (.int (y &&& (3 : Int32)))] [(.int (2 : Int32)), (.int x)])) rfl (by rw [hml]; rfl) (argsL := [(.int x), (.int (2 : Int32))]) (rest := []) (lenOf pd_90414 rfl) rfl (by show 2 * 0 + _ ≤ _; exact Nat.le_of_eq rfl) (hb hby d_method_5_58) (fun _ _ => ⟨rfl, hq34, (by decide : 0 + 0 + 0 + 0 + 0 + 0 + 0 + 0 ≤ _), (by decide : 0 + 0 + 0 + 0 + 0 + 0 + 0 + 0 ≤ _)⟩)
              dsimp only [Pt.U, Pt.locs, Pt.cells, Pt.slots] at X42 l42 y42 z42 st42 hQ42
              rw [l42, y42, z42] at X42
              obtain ⟨rfl, Nq42, hq42⟩ := hQ42
              have N42 := Fr.app N34 Nq42
              have k43_ : ∀ t, Steps p.tables e below (T42.setTop (mkF m 61 #[.val (.int x), .val (.int y), .val (.int (x &&& (3 : Int32))), .val (.int (y &&& (3 : Int32)))] [(.int (own_ch x (2 : Int32)))])) t → Steps p.tables e below (s₁.setTop (mkF m 0 #[.val (.int x), .val (.int y), .unset, .unset] [])) t := fun t q => k41_ t (st42 t q)
              have k44_ : ∀ t, Steps p.tables e below (T42.setTop (mkF m 63 #[.val (.int x), .val (.int y), .val (.int (x &&& (3 : Int32))), .val (.int (y &&& (3 : Int32)))] [(.int (2 : Int32)), (.int y), (.int (own_ch x (2 : Int32)))])) t → Steps p.tables e below (s₁.setTop (mkF m 0 #[.val (.int x), .val (.int y), .unset, .unset] [])) t := by
                intro t q
                refine k43_ _ ?_
                show Steps p.tables e below (T42.setTop (mkF m 61 #[.val (.int x), .val (.int y), .val (.int (x &&& (3 : Int32))), .val (.int (y &&& (3 : Int32)))] [(.int (own_ch x (2 : Int32)))])) _
                refine XS.iloadN X42.here hx rfl (hb hby d_method_5_61) rfl ?_
                show Steps p.tables e below (T42.setTop (mkF m 62 #[.val (.int x), .val (.int y), .val (.int (x &&& (3 : Int32))), .val (.int (y &&& (3 : Int32)))] [(.int y), (.int (own_ch x (2 : Int32)))])) _
                refine XS.iconst X42.here hx rfl (hb hby d_method_5_62) ?_
                show Steps p.tables e below (T42.setTop (mkF m 63 #[.val (.int x), .val (.int y), .val (.int (x &&& (3 : Int32))), .val (.int (y &&& (3 : Int32)))] [(.int (2 : Int32)), (.int y), (.int (own_ch x (2 : Int32)))])) _
                exact q
              obtain ⟨_, _, ⟨T45, L45, kk45, n45⟩, -, X45, ⟨Lc45, hQ45, l45, y45, z45⟩, st45⟩ := Jvm.LawKit.callS X42 hx (y := (⟨"com/example/triplewright/triplewright/source/ElementNameMatchesPinLaw", "ch", "(II)C"⟩ : MethodName)) hown (mvT hZ (hw _ (List.mem_of_getElem? (i := 30) rfl))) (mvT hZ (hw _ (List.mem_of_getElem? (i := 31) rfl))) (mvT hZ (hw _ (List.mem_of_getElem? (i := 3) rfl))) (mvT hZ (hw _ (List.mem_of_getElem? (i := 32) rfl))) (by decide) (backOf (W := 1) (rmK l Z a0 hw [] y (2 : Int32) h0 n0 Zn) hZ (hw _ (List.mem_of_getElem? (i := 32) rfl)) (hw _ (List.mem_of_getElem? (i := 3) rfl)) (by decide) (by decide)) (g := (mkF m 63 #[.val (.int x), .val (.int y), .val (.int (x &&& (3 : Int32))), .val (.int (y &&& (3 : Int32)))] [(.int (2 : Int32)), (.int y), (.int (own_ch x (2 : Int32)))])) rfl (by rw [hml]; rfl) (argsL := [(.int y), (.int (2 : Int32))]) (rest := [(.int (own_ch x (2 : Int32)))]) (lenOf pd_90414 rfl) rfl (by show 2 * 0 + _ ≤ _; exact Nat.le_of_eq rfl) (hb hby d_method_5_63) (fun _ _ => ⟨rfl, hq42, (by decide : 0 + 0 + 0 + 0 + 0 + 0 + 0 + 0 + 0 ≤ _), (by decide : 0 + 0 + 0 + 0 + 0 + 0 + 0 + 0 + 0 ≤ _)⟩)
              dsimp only [Pt.U, Pt.locs, Pt.cells, Pt.slots] at X45 l45 y45 z45 st45 hQ45
              rw [l45, y45, z45] at X45
              obtain ⟨rfl, Nq45, hq45⟩ := hQ45
              have N45 := Fr.app N42 Nq45
              have k46_ : ∀ t, Steps p.tables e below (T45.setTop (mkF m 66 #[.val (.int x), .val (.int y), .val (.int (x &&& (3 : Int32))), .val (.int (y &&& (3 : Int32)))] [(.int (own_ch y (2 : Int32))), (.int (own_ch x (2 : Int32)))])) t → Steps p.tables e below (s₁.setTop (mkF m 0 #[.val (.int x), .val (.int y), .unset, .unset] [])) t := fun t q => k44_ t (st45 t q)
              by_cases hc2_ : (own_ch x (2 : Int32)) = (own_ch y (2 : Int32))
              · have k47_ : ∀ t, Steps p.tables e below (T45.setTop (mkF m 69 #[.val (.int x), .val (.int y), .val (.int (x &&& (3 : Int32))), .val (.int (y &&& (3 : Int32)))] [])) t → Steps p.tables e below (s₁.setTop (mkF m 0 #[.val (.int x), .val (.int y), .unset, .unset] [])) t := by
                  intro t q
                  refine k46_ _ ?_
                  show Steps p.tables e below (T45.setTop (mkF m 66 #[.val (.int x), .val (.int y), .val (.int (x &&& (3 : Int32))), .val (.int (y &&& (3 : Int32)))] [(.int (own_ch y (2 : Int32))), (.int (own_ch x (2 : Int32)))])) _
                  refine XS.icmpNo X45.here hx rfl (hb hby d_method_5_66) rfl (teq hc2_).2 ?_
                  show Steps p.tables e below (T45.setTop (mkF m 69 #[.val (.int x), .val (.int y), .val (.int (x &&& (3 : Int32))), .val (.int (y &&& (3 : Int32)))] [])) _
                  exact q
                have k48_ : ∀ t, Steps p.tables e below (T45.setTop (mkF m 74 #[.val (.int x), .val (.int y), .val (.int (x &&& (3 : Int32))), .val (.int (y &&& (3 : Int32)))] [(.int (1 : Int32))])) t → Steps p.tables e below (s₁.setTop (mkF m 0 #[.val (.int x), .val (.int y), .unset, .unset] [])) t := by
                  intro t q
                  refine k47_ _ ?_
                  show Steps p.tables e below (T45.setTop (mkF m 69 #[.val (.int x), .val (.int y), .val (.int (x &&& (3 : Int32))), .val (.int (y &&& (3 : Int32)))] [])) _
                  refine XS.iconst X45.here hx rfl (hb hby d_method_5_69) ?_
                  show Steps p.tables e below (T45.setTop (mkF m 70 #[.val (.int x), .val (.int y), .val (.int (x &&& (3 : Int32))), .val (.int (y &&& (3 : Int32)))] [(.int (1 : Int32))])) _
                  refine XS.goto X45.here hx rfl (pc0 := 70) (pc' := 74) rfl (hb hby d_method_5_70) (by decide) (by decide) ?_
                  show Steps p.tables e below (T45.setTop (mkF m 74 #[.val (.int x), .val (.int y), .val (.int (x &&& (3 : Int32))), .val (.int (y &&& (3 : Int32)))] [(.int (1 : Int32))])) _
                  exact q
                obtain ⟨fs, hr, hrun, hended, hW, hsame⟩ := X45.leave (v := some (.int (1 : Int32))) (fun h => by rw [Bd.returns] at h; cases h)
                refine ⟨_, _, pre0 _ (k48_ _ ?_), hrun, hended, _, _, rfl, ?_, ⟨_, rfl⟩, hW, hsame.mono (by decide) (by decide)⟩
                · show Steps p.tables e below (T45.setTop (mkF m 74 #[.val (.int x), .val (.int y), .val (.int (x &&& (3 : Int32))), .val (.int (y &&& (3 : Int32)))] [(.int (1 : Int32))])) _
                  exact retN X45 hx (t := .boolean) Bd.returns (by simp) (hb hby d_method_5_74) hr
                · show QSa Z x y h0 n0 _ T45.heap _
                  rw [hq45]
                  exact ⟨(congrArg (fun z => some (Value.int z)) (bi_t (by have hx := own_ge3 ha2; have hy := hl.symm.trans hx; rw [own_cs3 hx, own_cs3 hy, hc0_, hc1_, hc2_]))).symm, N45, rfl⟩
              · have k49_ : ∀ t, Steps p.tables e below (T45.setTop (mkF m 73 #[.val (.int x), .val (.int y), .val (.int (x &&& (3 : Int32))), .val (.int (y &&& (3 : Int32)))] [])) t → Steps p.tables e below (s₁.setTop (mkF m 0 #[.val (.int x), .val (.int y), .unset, .unset] [])) t := by
                  intro t q
                  refine k46_ _ ?_
                  show Steps p.tables e below (T45.setTop (mkF m 66 #[.val (.int x), .val (.int y), .val (.int (x &&& (3 : Int32))), .val (.int (y &&& (3 : Int32)))] [(.int (own_ch y (2 : Int32))), (.int (own_ch x (2 : Int32)))])) _
                  refine XS.icmpYes X45.here hx rfl (pc0 := 66) (pc' := 73) rfl (hb hby d_method_5_66) rfl (feq hc2_).2 (by decide) (by decide) ?_
                  show Steps p.tables e below (T45.setTop (mkF m 73 #[.val (.int x), .val (.int y), .val (.int (x &&& (3 : Int32))), .val (.int (y &&& (3 : Int32)))] [])) _
                  exact q
                have k50_ : ∀ t, Steps p.tables e below (T45.setTop (mkF m 74 #[.val (.int x), .val (.int y), .val (.int (x &&& (3 : Int32))), .val (.int (y &&& (3 : Int32)))] [(.int (0 : Int32))])) t → Steps p.tables e below (s₁.setTop (mkF m 0 #[.val (.int x), .val (.int y), .unset, .unset] [])) t := by
                  intro t q
                  refine k49_ _ ?_
                  show Steps p.tables e below (T45.setTop (mkF m 73 #[.val (.int x), .val (.int y), .val (.int (x &&& (3 : Int32))), .val (.int (y &&& (3 : Int32)))] [])) _
                  refine XS.iconst X45.here hx rfl (hb hby d_method_5_73) ?_
                  show Steps p.tables e below (T45.setTop (mkF m 74 #[.val (.int x), .val (.int y), .val (.int (x &&& (3 : Int32))), .val (.int (y &&& (3 : Int32)))] [(.int (0 : Int32))])) _
                  exact q
                obtain ⟨fs, hr, hrun, hended, hW, hsame⟩ := X45.leave (v := some (.int (0 : Int32))) (fun h => by rw [Bd.returns] at h; cases h)
                refine ⟨_, _, pre0 _ (k50_ _ ?_), hrun, hended, _, _, rfl, ?_, ⟨_, rfl⟩, hW, hsame.mono (by decide) (by decide)⟩
                · show Steps p.tables e below (T45.setTop (mkF m 74 #[.val (.int x), .val (.int y), .val (.int (x &&& (3 : Int32))), .val (.int (y &&& (3 : Int32)))] [(.int (0 : Int32))])) _
                  exact retN X45 hx (t := .boolean) Bd.returns (by simp) (hb hby d_method_5_74) hr
                · show QSa Z x y h0 n0 _ T45.heap _
                  rw [hq45]
                  exact ⟨(congrArg (fun z => some (Value.int z)) (bi_f (fun q => hc2_ (by have q' : (own_cs x).getD 2 0 = (own_cs y).getD 2 0 := congrArg (fun z => z.getD 2 0) q; rw [own_cs_at (x := x) (k := 2) (by decide) (own_nlt (kk := (3 : Int32)) ha2 rfl (by decide)), own_cs_at (x := y) (k := 2) (by decide) (own_nlt (kk := (3 : Int32)) (by rw [← hl]; exact ha2) rfl (by decide))] at q'; exact q')))).symm, N45, rfl⟩
          · have k51_ : ∀ t, Steps p.tables e below (T34.setTop (mkF m 73 #[.val (.int x), .val (.int y), .val (.int (x &&& (3 : Int32))), .val (.int (y &&& (3 : Int32)))] [])) t → Steps p.tables e below (s₁.setTop (mkF m 0 #[.val (.int x), .val (.int y), .unset, .unset] [])) t := by
              intro t q
              refine k35_ _ ?_
              show Steps p.tables e below (T34.setTop (mkF m 48 #[.val (.int x), .val (.int y), .val (.int (x &&& (3 : Int32))), .val (.int (y &&& (3 : Int32)))] [(.int (own_ch y (1 : Int32))), (.int (own_ch x (1 : Int32)))])) _
              refine XS.icmpYes X34.here hx rfl (pc0 := 48) (pc' := 73) rfl (hb hby d_method_5_48) rfl (feq hc1_).2 (by decide) (by decide) ?_
              show Steps p.tables e below (T34.setTop (mkF m 73 #[.val (.int x), .val (.int y), .val (.int (x &&& (3 : Int32))), .val (.int (y &&& (3 : Int32)))] [])) _
              exact q
            have k52_ : ∀ t, Steps p.tables e below (T34.setTop (mkF m 74 #[.val (.int x), .val (.int y), .val (.int (x &&& (3 : Int32))), .val (.int (y &&& (3 : Int32)))] [(.int (0 : Int32))])) t → Steps p.tables e below (s₁.setTop (mkF m 0 #[.val (.int x), .val (.int y), .unset, .unset] [])) t := by
              intro t q
              refine k51_ _ ?_
              show Steps p.tables e below (T34.setTop (mkF m 73 #[.val (.int x), .val (.int y), .val (.int (x &&& (3 : Int32))), .val (.int (y &&& (3 : Int32)))] [])) _
              refine XS.iconst X34.here hx rfl (hb hby d_method_5_73) ?_
              show Steps p.tables e below (T34.setTop (mkF m 74 #[.val (.int x), .val (.int y), .val (.int (x &&& (3 : Int32))), .val (.int (y &&& (3 : Int32)))] [(.int (0 : Int32))])) _
              exact q
            obtain ⟨fs, hr, hrun, hended, hW, hsame⟩ := X34.leave (v := some (.int (0 : Int32))) (fun h => by rw [Bd.returns] at h; cases h)
            refine ⟨_, _, pre0 _ (k52_ _ ?_), hrun, hended, _, _, rfl, ?_, ⟨_, rfl⟩, hW, hsame.mono (by decide) (by decide)⟩
            · show Steps p.tables e below (T34.setTop (mkF m 74 #[.val (.int x), .val (.int y), .val (.int (x &&& (3 : Int32))), .val (.int (y &&& (3 : Int32)))] [(.int (0 : Int32))])) _
              exact retN X34 hx (t := .boolean) Bd.returns (by simp) (hb hby d_method_5_74) hr
            · show QSa Z x y h0 n0 _ T34.heap _
              rw [hq34]
              exact ⟨(congrArg (fun z => some (Value.int z)) (bi_f (fun q => hc1_ (by have q' : (own_cs x).getD 1 0 = (own_cs y).getD 1 0 := congrArg (fun z => z.getD 1 0) q; rw [own_cs_at (x := x) (k := 1) (by decide) (own_nlt (kk := (2 : Int32)) ha1 rfl (by decide)), own_cs_at (x := y) (k := 1) (by decide) (own_nlt (kk := (2 : Int32)) (by rw [← hl]; exact ha1) rfl (by decide))] at q'; exact q')))).symm, N34, rfl⟩
      · have k53_ : ∀ t, Steps p.tables e below (T21.setTop (mkF m 73 #[.val (.int x), .val (.int y), .val (.int (x &&& (3 : Int32))), .val (.int (y &&& (3 : Int32)))] [])) t → Steps p.tables e below (s₁.setTop (mkF m 0 #[.val (.int x), .val (.int y), .unset, .unset] [])) t := by
          intro t q
          refine k22_ _ ?_
          show Steps p.tables e below (T21.setTop (mkF m 30 #[.val (.int x), .val (.int y), .val (.int (x &&& (3 : Int32))), .val (.int (y &&& (3 : Int32)))] [(.int (own_ch y (0 : Int32))), (.int (own_ch x (0 : Int32)))])) _
          refine XS.icmpYes X21.here hx rfl (pc0 := 30) (pc' := 73) rfl (hb hby d_method_5_30) rfl (feq hc0_).2 (by decide) (by decide) ?_
          show Steps p.tables e below (T21.setTop (mkF m 73 #[.val (.int x), .val (.int y), .val (.int (x &&& (3 : Int32))), .val (.int (y &&& (3 : Int32)))] [])) _
          exact q
        have k54_ : ∀ t, Steps p.tables e below (T21.setTop (mkF m 74 #[.val (.int x), .val (.int y), .val (.int (x &&& (3 : Int32))), .val (.int (y &&& (3 : Int32)))] [(.int (0 : Int32))])) t → Steps p.tables e below (s₁.setTop (mkF m 0 #[.val (.int x), .val (.int y), .unset, .unset] [])) t := by
          intro t q
          refine k53_ _ ?_
          show Steps p.tables e below (T21.setTop (mkF m 73 #[.val (.int x), .val (.int y), .val (.int (x &&& (3 : Int32))), .val (.int (y &&& (3 : Int32)))] [])) _
          refine XS.iconst X21.here hx rfl (hb hby d_method_5_73) ?_
          show Steps p.tables e below (T21.setTop (mkF m 74 #[.val (.int x), .val (.int y), .val (.int (x &&& (3 : Int32))), .val (.int (y &&& (3 : Int32)))] [(.int (0 : Int32))])) _
          exact q
        obtain ⟨fs, hr, hrun, hended, hW, hsame⟩ := X21.leave (v := some (.int (0 : Int32))) (fun h => by rw [Bd.returns] at h; cases h)
        refine ⟨_, _, pre0 _ (k54_ _ ?_), hrun, hended, _, _, rfl, ?_, ⟨_, rfl⟩, hW, hsame.mono (by decide) (by decide)⟩
        · show Steps p.tables e below (T21.setTop (mkF m 74 #[.val (.int x), .val (.int y), .val (.int (x &&& (3 : Int32))), .val (.int (y &&& (3 : Int32)))] [(.int (0 : Int32))])) _
          exact retN X21 hx (t := .boolean) Bd.returns (by simp) (hb hby d_method_5_74) hr
        · show QSa Z x y h0 n0 _ T21.heap _
          rw [hq21]
          exact ⟨(congrArg (fun z => some (Value.int z)) (bi_f (fun q => hc0_ (by have q' : (own_cs x).getD 0 0 = (own_cs y).getD 0 0 := congrArg (fun z => z.getD 0 0) q; rw [own_cs_at (x := x) (k := 0) (by decide) (own_nlt (kk := (1 : Int32)) ha0 rfl (by decide)), own_cs_at (x := y) (k := 0) (by decide) (own_nlt (kk := (1 : Int32)) (by rw [← hl]; exact ha0) rfl (by decide))] at q'; exact q')))).symm, N21, rfl⟩
  · have k55_ : ∀ t, Steps p.tables e below (T5.setTop (mkF m 73 #[.val (.int x), .val (.int y), .val (.int (x &&& (3 : Int32))), .val (.int (y &&& (3 : Int32)))] [])) t → Steps p.tables e below (s₁.setTop (mkF m 0 #[.val (.int x), .val (.int y), .unset, .unset] [])) t := by
      intro t q
      refine k7_ _ ?_
      show Steps p.tables e below (T5.setTop (mkF m 12 #[.val (.int x), .val (.int y), .val (.int (x &&& (3 : Int32))), .val (.int (y &&& (3 : Int32)))] [(.int (y &&& (3 : Int32))), (.int (x &&& (3 : Int32)))])) _
      refine XS.icmpYes X5.here hx rfl (pc0 := 12) (pc' := 73) rfl (hb hby d_method_5_12) rfl (feq hl).2 (by decide) (by decide) ?_
      show Steps p.tables e below (T5.setTop (mkF m 73 #[.val (.int x), .val (.int y), .val (.int (x &&& (3 : Int32))), .val (.int (y &&& (3 : Int32)))] [])) _
      exact q
    have k56_ : ∀ t, Steps p.tables e below (T5.setTop (mkF m 74 #[.val (.int x), .val (.int y), .val (.int (x &&& (3 : Int32))), .val (.int (y &&& (3 : Int32)))] [(.int (0 : Int32))])) t → Steps p.tables e below (s₁.setTop (mkF m 0 #[.val (.int x), .val (.int y), .unset, .unset] [])) t := by
      intro t q
      refine k55_ _ ?_
      show Steps p.tables e below (T5.setTop (mkF m 73 #[.val (.int x), .val (.int y), .val (.int (x &&& (3 : Int32))), .val (.int (y &&& (3 : Int32)))] [])) _
      refine XS.iconst X5.here hx rfl (hb hby d_method_5_73) ?_
      show Steps p.tables e below (T5.setTop (mkF m 74 #[.val (.int x), .val (.int y), .val (.int (x &&& (3 : Int32))), .val (.int (y &&& (3 : Int32)))] [(.int (0 : Int32))])) _
      exact q
    obtain ⟨fs, hr, hrun, hended, hW, hsame⟩ := X5.leave (v := some (.int (0 : Int32))) (fun h => by rw [Bd.returns] at h; cases h)
    refine ⟨_, _, pre0 _ (k56_ _ ?_), hrun, hended, _, _, rfl, ?_, ⟨_, rfl⟩, hW, hsame.mono (by decide) (by decide)⟩
    · show Steps p.tables e below (T5.setTop (mkF m 74 #[.val (.int x), .val (.int y), .val (.int (x &&& (3 : Int32))), .val (.int (y &&& (3 : Int32)))] [(.int (0 : Int32))])) _
      exact retN X5 hx (t := .boolean) Bd.returns (by simp) (hb hby d_method_5_74) hr
    · show QSa Z x y h0 n0 _ T5.heap _
      rw [hq5]
      exact ⟨(congrArg (fun z => some (Value.int z)) (bi_f (own_len_ne hl))).symm, N5, rfl⟩
def Q0 (Z : State) (p0 : Int32) (p1 : Int32) (p2 : Int32) (p3 : Int32) (p4 : Int32) (zc : Int32) (h0 : Heap) (n0 : Nat) (v : Option Value) (h : Heap) (L : List Loc) : Prop := True
theorem ef_0 (m : MethodId) (x0 : Int32) (x1 : Int32) (x2 : Int32) (x3 : Int32) (x4 : Int32) : entryFrame m #[(.int x0), (.int x1), (.int x2), (.int x3), (.int x4)] maxLocals = mkF m 0 #[.val (.int x0), .val (.int x1), .val (.int x2), .val (.int x3), .val (.int x4), .unset, .unset, .unset, .unset, .unset, .unset, .unset, .unset, .unset, .unset, .unset, .unset] [] := by first | (simp [entryFrame, mkF, argsToLocals, Value.category, maxLocals]; done) | rfl
theorem own_Str_new {Z : State} {h h' : Heap} {a b : Addr} {cs : List Int32} {a0 : Array Value} {n : Nat} {K : String} (S : own_Str Z h a cs) (KK : Keep h h' [b]) (E : Exa Z h b K) (w : (Cond.instantiable K n).before a0 Z = true) (hC : "java/lang/String" ≠ K) : own_Str Z h' a cs := by
  obtain ⟨h1, h2, tt, kb, h3, h4⟩ := S
  have n1 : a ≠ b := h1.ne E hC
  have n2 : tt ≠ b := Ne.symm (E.neArv h4 w)
  exact ⟨h1.keep KK, h2.keep KK (ninS n1 nin0), tt, kb, h3.keep KK (ninS n1 nin0), h4.keep KK (ninS n2 nin0)⟩
theorem pd_88406 : parseMethodDescriptor "(I)Ljava/lang/String;" = some ⟨[.int], some (.object "java/lang/String")⟩ := by decide +kernel
theorem pd_38756 : parseMethodDescriptor "(Ljava/lang/String;Ljava/lang/String;)V" = some ⟨[(.object "java/lang/String"), (.object "java/lang/String")], none⟩ := by decide +kernel
theorem pd_38760 : parseMethodDescriptor "(Ljava/lang/String;Ljava/lang/String;)Z" = some ⟨[(.object "java/lang/String"), (.object "java/lang/String")], some .boolean⟩ := by decide +kernel
theorem pd_90437 : parseMethodDescriptor "(II)Z" = some ⟨[.int, .int], some .boolean⟩ := by decide +kernel
set_option maxRecDepth 65536 in
set_option maxHeartbeats 40000000 in
theorem rm0 (l : Launch) (Z : State) (a0 : Array Value) (hw : ∀ d ∈ tables_1, d.before a0 Z = true) (ws : List Jvm.Cond) (p0 : Int32) (p1 : Int32) (p2 : Int32) (p3 : Int32) (p4 : Int32) (zc : Int32) (h0 : Heap) (n0 : Nat) (Z0 : n0 ≤ h0.size) (hn0 : n0 = Z.heap.size) (O2 : Sta Z Z.heap "java/lang/String" "COMPACT_STRINGS" "Z" (.int zc)) (hzc : ¬ zc = (0 : Int32)) (wS : ∀ a ∈ Bundle.stringAtoms, a.before a0 Z = true) (hEL : EW Z a0 own_EL) (hCH0 : CHv Z own_EL Z.vm Z.heap) :
    MetFree l x (head1 (Jvm.Cond.code x code maxLocals ret :: ws) room_1) (fun a_ U_ => a_ = #[(.int p0), (.int p1), (.int p2), (.int p3), (.int p4)] ∧ U_ = Z ∧ U_.heap = h0) (fun _ _ _ _ _ => True) (fun _ U_ o_ E_ => ∃ L_, o_ = .returned (some (.int 1)) ∧ Fr n0 L_ ∧ ReturnedEndW U_ o_ E_ L_ room_1.cells room_1.slots) := by
  refine MetFree.of_bodySF (plainFor_of_name pn_ElementNameMatchesPinLaw) hisR ?_
  intro p e s m args below meth c s₁ Bd hml0 hP hK
  obtain ⟨rfl, hU, hh⟩ := hP
  have hZ : Z.Warmed39 s.vm := by rw [hU]; exact State.Warmed39.refl Z
  have hS : s.Since s.vm s.heap.size := (State.WarmedH.refl s).since _
  have hI : IB Z s.vm [] := by rw [hU]; exact IB.start
  have hkeep : ∀ (b : Addr) (cl : Cell), Z.heap[b]? = some cl → s.heap[b]? = some cl := by rw [hU]; exact fun _ _ h => h
  have hx := Bd.exec
  have hby := Bd.bytes
  have hml : c.maxLocals = 17 := hml0
  have hown : s.vm.findClass "com/example/triplewright/triplewright/source/ElementNameMatchesPinLaw" = some m.cls := findClass_of_methodNamed Bd.named
  have hnm := (name_of_methodNamed Bd.named Bd.method).1
  have X0 : Stand p l e room_1 s m #[(.int p0), (.int p1), (.int p2), (.int p3), (.int p4)] below meth c s₁ [] 0 0 := Stand.of_body Bd
  have e0 : s₁.heap = h0 := by rw [← hh, Bd.state]; rfl
  have N0 := Fr.nil n0
  have Zn := Z0
  have pre0 : ∀ t, Steps p.tables e below (s₁.setTop (mkF m 0 #[.val (.int p0), .val (.int p1), .val (.int p2), .val (.int p3), .val (.int p4), .unset, .unset, .unset, .unset, .unset, .unset, .unset, .unset, .unset, .unset, .unset, .unset] [])) t → Steps p.tables e below (s₁.setTop (entryFrame m #[(.int p0), (.int p1), (.int p2), (.int p3), (.int p4)] maxLocals)) t := fun t q => castTop (ef_0 m p0 p1 p2 p3 p4) q
  have k0 : ∀ t, Steps p.tables e below (s₁.setTop (mkF m 0 #[.val (.int p0), .val (.int p1), .val (.int p2), .val (.int p3), .val (.int p4), .unset, .unset, .unset, .unset, .unset, .unset, .unset, .unset, .unset, .unset, .unset, .unset] [])) t → Steps p.tables e below (s₁.setTop (mkF m 0 #[.val (.int p0), .val (.int p1), .val (.int p2), .val (.int p3), .val (.int p4), .unset, .unset, .unset, .unset, .unset, .unset, .unset, .unset, .unset, .unset, .unset, .unset] [])) t := fun t q => q
  have hk : s.heap.size ≤ h0.size := by rw [hh]; exact Nat.le_refl _
  have hCH : CHr Z own_EL s.vm h0 s.vm h0 := CHr.refl (by rw [← hh, hU]; exact hCH0)
  have X0 : Stand p l e room_1 (s.setVm s.vm) m #[(.int p0), (.int p1), (.int p2), (.int p3), (.int p4)] below meth c s₁ [] 0 0 := X0
  replace hZ : Z.Warmed39 (s.setVm s.vm).vm := hZ
  replace hown : (s.setVm s.vm).vm.findClass "com/example/triplewright/triplewright/source/ElementNameMatchesPinLaw" = some m.cls := hown
  have X00 : Old Z n0 h0 := by rw [hn0, ← hh, hU]; exact Old.start Z
  have k1_ : ∀ t, Steps p.tables e below (s₁.setTop (mkF m 4 #[.val (.int p0), .val (.int p1), .val (.int p2), .val (.int p3), .val (.int p4), .unset, .unset, .unset, .unset, .unset, .unset, .unset, .unset, .unset, .unset, .unset, .unset] [(.int (p4 &&& (1 : Int32)))])) t → Steps p.tables e below (s₁.setTop (mkF m 0 #[.val (.int p0), .val (.int p1), .val (.int p2), .val (.int p3), .val (.int p4), .unset, .unset, .unset, .unset, .unset, .unset, .unset, .unset, .unset, .unset, .unset, .unset] [])) t := by
    intro t q
    refine k0 _ ?_
    show Steps p.tables e below (s₁.setTop (mkF m 0 #[.val (.int p0), .val (.int p1), .val (.int p2), .val (.int p3), .val (.int p4), .unset, .unset, .unset, .unset, .unset, .unset, .unset, .unset, .unset, .unset, .unset, .unset] [])) _
    refine XS.iload X0.here hx rfl (hb hby at_0) rfl ?_
    refine XS.iconst X0.here hx rfl (hb hby at_2) ?_
    show Steps p.tables e below (s₁.setTop (mkF m 3 #[.val (.int p0), .val (.int p1), .val (.int p2), .val (.int p3), .val (.int p4), .unset, .unset, .unset, .unset, .unset, .unset, .unset, .unset, .unset, .unset, .unset, .unset] [(.int (1 : Int32)), (.int p4)])) _
    refine XS.iand X0.here hx rfl (hb hby at_3) rfl ?_
    show Steps p.tables e below (s₁.setTop (mkF m 4 #[.val (.int p0), .val (.int p1), .val (.int p2), .val (.int p3), .val (.int p4), .unset, .unset, .unset, .unset, .unset, .unset, .unset, .unset, .unset, .unset, .unset, .unset] [(.int (p4 &&& (1 : Int32)))])) _
    exact q
  have k2_ : ∀ t, Steps p.tables e below (s₁.setTop (mkF m 12 #[.val (.int p0), .val (.int p1), .val (.int p2), .val (.int p3), .val (.int p4), .unset, .unset, .unset, .unset, .unset, .unset, .unset, .unset, .unset, .unset, .unset, .unset] [(.int (own_i ((p4 &&& (1 : Int32)) = (0 : Int32)) p2 p0))])) t → Steps p.tables e below (s₁.setTop (mkF m 0 #[.val (.int p0), .val (.int p1), .val (.int p2), .val (.int p3), .val (.int p4), .unset, .unset, .unset, .unset, .unset, .unset, .unset, .unset, .unset, .unset, .unset, .unset] [])) t := by
    intro t q
    refine k1_ _ ?_
    show Steps p.tables e below (s₁.setTop (mkF m 4 #[.val (.int p0), .val (.int p1), .val (.int p2), .val (.int p3), .val (.int p4), .unset, .unset, .unset, .unset, .unset, .unset, .unset, .unset, .unset, .unset, .unset, .unset] [(.int (p4 &&& (1 : Int32)))])) _
    by_cases hc4 : (p4 &&& (1 : Int32)) = (0 : Int32)
    · refine XS.ifYes X0.here hx rfl (pc0 := 4) (pc' := 11) rfl (hb hby at_4) rfl ((if0 _ _).trans (teq hc4).1) (by decide) (by decide) ?_
      show Steps p.tables e below (s₁.setTop (mkF m 11 #[.val (.int p0), .val (.int p1), .val (.int p2), .val (.int p3), .val (.int p4), .unset, .unset, .unset, .unset, .unset, .unset, .unset, .unset, .unset, .unset, .unset, .unset] [])) _
      refine XS.iloadN X0.here hx rfl (hb hby at_11) rfl ?_
      show Steps p.tables e below (s₁.setTop (mkF m 12 #[.val (.int p0), .val (.int p1), .val (.int p2), .val (.int p3), .val (.int p4), .unset, .unset, .unset, .unset, .unset, .unset, .unset, .unset, .unset, .unset, .unset, .unset] [(.int p2)])) _
      have w0 : (own_i ((p4 &&& (1 : Int32)) = (0 : Int32)) p2 p0) = p2 := by unfold own_i; exact if_pos hc4
      replace q := Eq.mp (congrArg (fun z => Steps p.tables e below (s₁.setTop (mkF m 12 #[.val (.int p0), .val (.int p1), .val (.int p2), .val (.int p3), .val (.int p4), .unset, .unset, .unset, .unset, .unset, .unset, .unset, .unset, .unset, .unset, .unset, .unset] [(.int z)])) t) w0) q
      exact q
    · refine XS.ifNo X0.here hx rfl (hb hby at_4) rfl ((if0 _ _).trans (feq hc4).1) ?_
      show Steps p.tables e below (s₁.setTop (mkF m 7 #[.val (.int p0), .val (.int p1), .val (.int p2), .val (.int p3), .val (.int p4), .unset, .unset, .unset, .unset, .unset, .unset, .unset, .unset, .unset, .unset, .unset, .unset] [])) _
      refine XS.iloadN X0.here hx rfl (hb hby at_7) rfl ?_
      show Steps p.tables e below (s₁.setTop (mkF m 8 #[.val (.int p0), .val (.int p1), .val (.int p2), .val (.int p3), .val (.int p4), .unset, .unset, .unset, .unset, .unset, .unset, .unset, .unset, .unset, .unset, .unset, .unset] [(.int p0)])) _
      refine XS.goto X0.here hx rfl (pc0 := 8) (pc' := 12) rfl (hb hby at_8) (by decide) (by decide) ?_
      show Steps p.tables e below (s₁.setTop (mkF m 12 #[.val (.int p0), .val (.int p1), .val (.int p2), .val (.int p3), .val (.int p4), .unset, .unset, .unset, .unset, .unset, .unset, .unset, .unset, .unset, .unset, .unset, .unset] [(.int p0)])) _
      have w0 : (own_i ((p4 &&& (1 : Int32)) = (0 : Int32)) p2 p0) = p0 := by unfold own_i; exact if_neg hc4
      replace q := Eq.mp (congrArg (fun z => Steps p.tables e below (s₁.setTop (mkF m 12 #[.val (.int p0), .val (.int p1), .val (.int p2), .val (.int p3), .val (.int p4), .unset, .unset, .unset, .unset, .unset, .unset, .unset, .unset, .unset, .unset, .unset, .unset] [(.int z)])) t) w0) q
      exact q
  obtain ⟨eb, e_eb⟩ : ∃ z, z = (own_i ((p4 &&& (1 : Int32)) = (0 : Int32)) p2 p0) := ⟨_, rfl⟩
  have k3_ : ∀ t, Steps p.tables e below (s₁.setTop (mkF m 12 #[.val (.int p0), .val (.int p1), .val (.int p2), .val (.int p3), .val (.int p4), .unset, .unset, .unset, .unset, .unset, .unset, .unset, .unset, .unset, .unset, .unset, .unset] [(.int eb)])) t → Steps p.tables e below (s₁.setTop (mkF m 0 #[.val (.int p0), .val (.int p1), .val (.int p2), .val (.int p3), .val (.int p4), .unset, .unset, .unset, .unset, .unset, .unset, .unset, .unset, .unset, .unset, .unset, .unset] [])) t := by rw [e_eb]; exact k2_
  have k4_ : ∀ t, Steps p.tables e below (s₁.setTop (mkF m 18 #[.val (.int p0), .val (.int p1), .val (.int p2), .val (.int p3), .val (.int p4), .val (.int eb), .unset, .unset, .unset, .unset, .unset, .unset, .unset, .unset, .unset, .unset, .unset] [(.int (p4 &&& (2 : Int32)))])) t → Steps p.tables e below (s₁.setTop (mkF m 0 #[.val (.int p0), .val (.int p1), .val (.int p2), .val (.int p3), .val (.int p4), .unset, .unset, .unset, .unset, .unset, .unset, .unset, .unset, .unset, .unset, .unset, .unset] [])) t := by
    intro t q
    refine k3_ _ ?_
    show Steps p.tables e below (s₁.setTop (mkF m 12 #[.val (.int p0), .val (.int p1), .val (.int p2), .val (.int p3), .val (.int p4), .unset, .unset, .unset, .unset, .unset, .unset, .unset, .unset, .unset, .unset, .unset, .unset] [(.int eb)])) _
    refine XS.istore X0.here hx rfl (hb hby at_12) rfl (l' := #[.val (.int p0), .val (.int p1), .val (.int p2), .val (.int p3), .val (.int p4), .val (.int eb), .unset, .unset, .unset, .unset, .unset, .unset, .unset, .unset, .unset, .unset, .unset]) rfl ?_
    refine XS.iload X0.here hx rfl (hb hby at_14) rfl ?_
    show Steps p.tables e below (s₁.setTop (mkF m 16 #[.val (.int p0), .val (.int p1), .val (.int p2), .val (.int p3), .val (.int p4), .val (.int eb), .unset, .unset, .unset, .unset, .unset, .unset, .unset, .unset, .unset, .unset, .unset] [(.int p4)])) _
    refine XS.iconst X0.here hx rfl (hb hby at_16) ?_
    refine XS.iand X0.here hx rfl (hb hby at_17) rfl ?_
    show Steps p.tables e below (s₁.setTop (mkF m 18 #[.val (.int p0), .val (.int p1), .val (.int p2), .val (.int p3), .val (.int p4), .val (.int eb), .unset, .unset, .unset, .unset, .unset, .unset, .unset, .unset, .unset, .unset, .unset] [(.int (p4 &&& (2 : Int32)))])) _
    exact q
  have k5_ : ∀ t, Steps p.tables e below (s₁.setTop (mkF m 26 #[.val (.int p0), .val (.int p1), .val (.int p2), .val (.int p3), .val (.int p4), .val (.int eb), .unset, .unset, .unset, .unset, .unset, .unset, .unset, .unset, .unset, .unset, .unset] [(.int (own_i ((p4 &&& (2 : Int32)) = (0 : Int32)) p3 p1))])) t → Steps p.tables e below (s₁.setTop (mkF m 0 #[.val (.int p0), .val (.int p1), .val (.int p2), .val (.int p3), .val (.int p4), .unset, .unset, .unset, .unset, .unset, .unset, .unset, .unset, .unset, .unset, .unset, .unset] [])) t := by
    intro t q
    refine k4_ _ ?_
    show Steps p.tables e below (s₁.setTop (mkF m 18 #[.val (.int p0), .val (.int p1), .val (.int p2), .val (.int p3), .val (.int p4), .val (.int eb), .unset, .unset, .unset, .unset, .unset, .unset, .unset, .unset, .unset, .unset, .unset] [(.int (p4 &&& (2 : Int32)))])) _
    by_cases hc18 : (p4 &&& (2 : Int32)) = (0 : Int32)
    · refine XS.ifYes X0.here hx rfl (pc0 := 18) (pc' := 25) rfl (hb hby at_18) rfl ((if0 _ _).trans (teq hc18).1) (by decide) (by decide) ?_
      show Steps p.tables e below (s₁.setTop (mkF m 25 #[.val (.int p0), .val (.int p1), .val (.int p2), .val (.int p3), .val (.int p4), .val (.int eb), .unset, .unset, .unset, .unset, .unset, .unset, .unset, .unset, .unset, .unset, .unset] [])) _
      refine XS.iloadN X0.here hx rfl (hb hby at_25) rfl ?_
      show Steps p.tables e below (s₁.setTop (mkF m 26 #[.val (.int p0), .val (.int p1), .val (.int p2), .val (.int p3), .val (.int p4), .val (.int eb), .unset, .unset, .unset, .unset, .unset, .unset, .unset, .unset, .unset, .unset, .unset] [(.int p3)])) _
      have w0 : (own_i ((p4 &&& (2 : Int32)) = (0 : Int32)) p3 p1) = p3 := by unfold own_i; exact if_pos hc18
      replace q := Eq.mp (congrArg (fun z => Steps p.tables e below (s₁.setTop (mkF m 26 #[.val (.int p0), .val (.int p1), .val (.int p2), .val (.int p3), .val (.int p4), .val (.int eb), .unset, .unset, .unset, .unset, .unset, .unset, .unset, .unset, .unset, .unset, .unset] [(.int z)])) t) w0) q
      exact q
    · refine XS.ifNo X0.here hx rfl (hb hby at_18) rfl ((if0 _ _).trans (feq hc18).1) ?_
      show Steps p.tables e below (s₁.setTop (mkF m 21 #[.val (.int p0), .val (.int p1), .val (.int p2), .val (.int p3), .val (.int p4), .val (.int eb), .unset, .unset, .unset, .unset, .unset, .unset, .unset, .unset, .unset, .unset, .unset] [])) _
      refine XS.iloadN X0.here hx rfl (hb hby at_21) rfl ?_
      show Steps p.tables e below (s₁.setTop (mkF m 22 #[.val (.int p0), .val (.int p1), .val (.int p2), .val (.int p3), .val (.int p4), .val (.int eb), .unset, .unset, .unset, .unset, .unset, .unset, .unset, .unset, .unset, .unset, .unset] [(.int p1)])) _
      refine XS.goto X0.here hx rfl (pc0 := 22) (pc' := 26) rfl (hb hby at_22) (by decide) (by decide) ?_
      show Steps p.tables e below (s₁.setTop (mkF m 26 #[.val (.int p0), .val (.int p1), .val (.int p2), .val (.int p3), .val (.int p4), .val (.int eb), .unset, .unset, .unset, .unset, .unset, .unset, .unset, .unset, .unset, .unset, .unset] [(.int p1)])) _
      have w0 : (own_i ((p4 &&& (2 : Int32)) = (0 : Int32)) p3 p1) = p1 := by unfold own_i; exact if_neg hc18
      replace q := Eq.mp (congrArg (fun z => Steps p.tables e below (s₁.setTop (mkF m 26 #[.val (.int p0), .val (.int p1), .val (.int p2), .val (.int p3), .val (.int p4), .val (.int eb), .unset, .unset, .unset, .unset, .unset, .unset, .unset, .unset, .unset, .unset, .unset] [(.int z)])) t) w0) q
      exact q
  obtain ⟨el, e_el⟩ : ∃ z, z = (own_i ((p4 &&& (2 : Int32)) = (0 : Int32)) p3 p1) := ⟨_, rfl⟩
  have k6_ : ∀ t, Steps p.tables e below (s₁.setTop (mkF m 26 #[.val (.int p0), .val (.int p1), .val (.int p2), .val (.int p3), .val (.int p4), .val (.int eb), .unset, .unset, .unset, .unset, .unset, .unset, .unset, .unset, .unset, .unset, .unset] [(.int el)])) t → Steps p.tables e below (s₁.setTop (mkF m 0 #[.val (.int p0), .val (.int p1), .val (.int p2), .val (.int p3), .val (.int p4), .unset, .unset, .unset, .unset, .unset, .unset, .unset, .unset, .unset, .unset, .unset, .unset] [])) t := by rw [e_el]; exact k5_
  have k7_ : ∀ t, Steps p.tables e below (s₁.setTop (mkF m 32 #[.val (.int p0), .val (.int p1), .val (.int p2), .val (.int p3), .val (.int p4), .val (.int eb), .val (.int el), .unset, .unset, .unset, .unset, .unset, .unset, .unset, .unset, .unset, .unset] [(.int (p0 &&& (67108864 : Int32)))])) t → Steps p.tables e below (s₁.setTop (mkF m 0 #[.val (.int p0), .val (.int p1), .val (.int p2), .val (.int p3), .val (.int p4), .unset, .unset, .unset, .unset, .unset, .unset, .unset, .unset, .unset, .unset, .unset, .unset] [])) t := by
    intro t q
    refine k6_ _ ?_
    show Steps p.tables e below (s₁.setTop (mkF m 26 #[.val (.int p0), .val (.int p1), .val (.int p2), .val (.int p3), .val (.int p4), .val (.int eb), .unset, .unset, .unset, .unset, .unset, .unset, .unset, .unset, .unset, .unset, .unset] [(.int el)])) _
    refine XS.istore X0.here hx rfl (hb hby at_26) rfl (l' := #[.val (.int p0), .val (.int p1), .val (.int p2), .val (.int p3), .val (.int p4), .val (.int eb), .val (.int el), .unset, .unset, .unset, .unset, .unset, .unset, .unset, .unset, .unset, .unset]) rfl ?_
    refine XS.iloadN X0.here hx rfl (hb hby at_28) rfl ?_
    show Steps p.tables e below (s₁.setTop (mkF m 29 #[.val (.int p0), .val (.int p1), .val (.int p2), .val (.int p3), .val (.int p4), .val (.int eb), .val (.int el), .unset, .unset, .unset, .unset, .unset, .unset, .unset, .unset, .unset, .unset] [(.int p0)])) _
    refine X0.ldcInt hx hown (mvT hZ (hw _ (List.mem_of_getElem? (i := 0) rfl))) (g := (mkF m 29 #[.val (.int p0), .val (.int p1), .val (.int p2), .val (.int p3), .val (.int p4), .val (.int eb), .val (.int el), .unset, .unset, .unset, .unset, .unset, .unset, .unset, .unset, .unset, .unset] [(.int p0)])) rfl (hb hby at_29) _ ?_
    refine XS.iand X0.here hx rfl (hb hby at_31) rfl ?_
    show Steps p.tables e below (s₁.setTop (mkF m 32 #[.val (.int p0), .val (.int p1), .val (.int p2), .val (.int p3), .val (.int p4), .val (.int eb), .val (.int el), .unset, .unset, .unset, .unset, .unset, .unset, .unset, .unset, .unset, .unset] [(.int (p0 &&& (67108864 : Int32)))])) _
    exact q
  by_cases hna : (p0 &&& (67108864 : Int32)) = (0 : Int32)
  · have k8_ : ∀ t, Steps p.tables e below (s₁.setTop (mkF m 39 #[.val (.int p0), .val (.int p1), .val (.int p2), .val (.int p3), .val (.int p4), .val (.int eb), .val (.int el), .unset, .unset, .unset, .unset, .unset, .unset, .unset, .unset, .unset, .unset] [])) t → Steps p.tables e below (s₁.setTop (mkF m 0 #[.val (.int p0), .val (.int p1), .val (.int p2), .val (.int p3), .val (.int p4), .unset, .unset, .unset, .unset, .unset, .unset, .unset, .unset, .unset, .unset, .unset, .unset] [])) t := by
      intro t q
      refine k7_ _ ?_
      show Steps p.tables e below (s₁.setTop (mkF m 32 #[.val (.int p0), .val (.int p1), .val (.int p2), .val (.int p3), .val (.int p4), .val (.int eb), .val (.int el), .unset, .unset, .unset, .unset, .unset, .unset, .unset, .unset, .unset, .unset] [(.int (p0 &&& (67108864 : Int32)))])) _
      refine XS.ifYes X0.here hx rfl (pc0 := 32) (pc' := 39) rfl (hb hby at_32) rfl ((if0 _ _).trans (teq hna).1) (by decide) (by decide) ?_
      show Steps p.tables e below (s₁.setTop (mkF m 39 #[.val (.int p0), .val (.int p1), .val (.int p2), .val (.int p3), .val (.int p4), .val (.int eb), .val (.int el), .unset, .unset, .unset, .unset, .unset, .unset, .unset, .unset, .unset, .unset] [])) _
      exact q
    have k9_ : ∀ t, Steps p.tables e below (s₁.setTop (mkF m 46 #[.val (.int p0), .val (.int p1), .val (.int p2), .val (.int p3), .val (.int p4), .val (.int eb), .val (.int el), .val (.int (0 : Int32)), .unset, .unset, .unset, .unset, .unset, .unset, .unset, .unset, .unset] [(.int (p1 &&& (67108864 : Int32)))])) t → Steps p.tables e below (s₁.setTop (mkF m 0 #[.val (.int p0), .val (.int p1), .val (.int p2), .val (.int p3), .val (.int p4), .unset, .unset, .unset, .unset, .unset, .unset, .unset, .unset, .unset, .unset, .unset, .unset] [])) t := by
      intro t q
      refine k8_ _ ?_
      show Steps p.tables e below (s₁.setTop (mkF m 39 #[.val (.int p0), .val (.int p1), .val (.int p2), .val (.int p3), .val (.int p4), .val (.int eb), .val (.int el), .unset, .unset, .unset, .unset, .unset, .unset, .unset, .unset, .unset, .unset] [])) _
      refine XS.iconst X0.here hx rfl (hb hby at_39) ?_
      refine XS.istore X0.here hx rfl (hb hby at_40) rfl (l' := #[.val (.int p0), .val (.int p1), .val (.int p2), .val (.int p3), .val (.int p4), .val (.int eb), .val (.int el), .val (.int (0 : Int32)), .unset, .unset, .unset, .unset, .unset, .unset, .unset, .unset, .unset]) rfl ?_
      show Steps p.tables e below (s₁.setTop (mkF m 42 #[.val (.int p0), .val (.int p1), .val (.int p2), .val (.int p3), .val (.int p4), .val (.int eb), .val (.int el), .val (.int (0 : Int32)), .unset, .unset, .unset, .unset, .unset, .unset, .unset, .unset, .unset] [])) _
      refine XS.iloadN X0.here hx rfl (hb hby at_42) rfl ?_
      refine X0.ldcInt hx hown (mvT hZ (hw _ (List.mem_of_getElem? (i := 0) rfl))) (g := (mkF m 43 #[.val (.int p0), .val (.int p1), .val (.int p2), .val (.int p3), .val (.int p4), .val (.int eb), .val (.int el), .val (.int (0 : Int32)), .unset, .unset, .unset, .unset, .unset, .unset, .unset, .unset, .unset] [(.int p1)])) rfl (hb hby at_43) _ ?_
      show Steps p.tables e below (s₁.setTop (mkF m 45 #[.val (.int p0), .val (.int p1), .val (.int p2), .val (.int p3), .val (.int p4), .val (.int eb), .val (.int el), .val (.int (0 : Int32)), .unset, .unset, .unset, .unset, .unset, .unset, .unset, .unset, .unset] [(.int (67108864 : Int32)), (.int p1)])) _
      refine XS.iand X0.here hx rfl (hb hby at_45) rfl ?_
      show Steps p.tables e below (s₁.setTop (mkF m 46 #[.val (.int p0), .val (.int p1), .val (.int p2), .val (.int p3), .val (.int p4), .val (.int eb), .val (.int el), .val (.int (0 : Int32)), .unset, .unset, .unset, .unset, .unset, .unset, .unset, .unset, .unset] [(.int (p1 &&& (67108864 : Int32)))])) _
      exact q
    by_cases hnb : (p1 &&& (67108864 : Int32)) = (0 : Int32)
    · have k10_ : ∀ t, Steps p.tables e below (s₁.setTop (mkF m 53 #[.val (.int p0), .val (.int p1), .val (.int p2), .val (.int p3), .val (.int p4), .val (.int eb), .val (.int el), .val (.int (0 : Int32)), .unset, .unset, .unset, .unset, .unset, .unset, .unset, .unset, .unset] [])) t → Steps p.tables e below (s₁.setTop (mkF m 0 #[.val (.int p0), .val (.int p1), .val (.int p2), .val (.int p3), .val (.int p4), .unset, .unset, .unset, .unset, .unset, .unset, .unset, .unset, .unset, .unset, .unset, .unset] [])) t := by
        intro t q
        refine k9_ _ ?_
        show Steps p.tables e below (s₁.setTop (mkF m 46 #[.val (.int p0), .val (.int p1), .val (.int p2), .val (.int p3), .val (.int p4), .val (.int eb), .val (.int el), .val (.int (0 : Int32)), .unset, .unset, .unset, .unset, .unset, .unset, .unset, .unset, .unset] [(.int (p1 &&& (67108864 : Int32)))])) _
        refine XS.ifYes X0.here hx rfl (pc0 := 46) (pc' := 53) rfl (hb hby at_46) rfl ((if0 _ _).trans (teq hnb).1) (by decide) (by decide) ?_
        show Steps p.tables e below (s₁.setTop (mkF m 53 #[.val (.int p0), .val (.int p1), .val (.int p2), .val (.int p3), .val (.int p4), .val (.int eb), .val (.int el), .val (.int (0 : Int32)), .unset, .unset, .unset, .unset, .unset, .unset, .unset, .unset, .unset] [])) _
        exact q
      have k11_ : ∀ t, Steps p.tables e below (s₁.setTop (mkF m 58 #[.val (.int p0), .val (.int p1), .val (.int p2), .val (.int p3), .val (.int p4), .val (.int eb), .val (.int el), .val (.int (0 : Int32)), .val (.int (0 : Int32)), .unset, .unset, .unset, .unset, .unset, .unset, .unset, .unset] [(.int (0 : Int32))])) t → Steps p.tables e below (s₁.setTop (mkF m 0 #[.val (.int p0), .val (.int p1), .val (.int p2), .val (.int p3), .val (.int p4), .unset, .unset, .unset, .unset, .unset, .unset, .unset, .unset, .unset, .unset, .unset, .unset] [])) t := by
        intro t q
        refine k10_ _ ?_
        show Steps p.tables e below (s₁.setTop (mkF m 53 #[.val (.int p0), .val (.int p1), .val (.int p2), .val (.int p3), .val (.int p4), .val (.int eb), .val (.int el), .val (.int (0 : Int32)), .unset, .unset, .unset, .unset, .unset, .unset, .unset, .unset, .unset] [])) _
        refine XS.iconst X0.here hx rfl (hb hby at_53) ?_
        refine XS.istore X0.here hx rfl (hb hby at_54) rfl (l' := #[.val (.int p0), .val (.int p1), .val (.int p2), .val (.int p3), .val (.int p4), .val (.int eb), .val (.int el), .val (.int (0 : Int32)), .val (.int (0 : Int32)), .unset, .unset, .unset, .unset, .unset, .unset, .unset, .unset]) rfl ?_
        show Steps p.tables e below (s₁.setTop (mkF m 56 #[.val (.int p0), .val (.int p1), .val (.int p2), .val (.int p3), .val (.int p4), .val (.int eb), .val (.int el), .val (.int (0 : Int32)), .val (.int (0 : Int32)), .unset, .unset, .unset, .unset, .unset, .unset, .unset, .unset] [])) _
        refine XS.iload X0.here hx rfl (hb hby at_56) rfl ?_
        show Steps p.tables e below (s₁.setTop (mkF m 58 #[.val (.int p0), .val (.int p1), .val (.int p2), .val (.int p3), .val (.int p4), .val (.int eb), .val (.int el), .val (.int (0 : Int32)), .val (.int (0 : Int32)), .unset, .unset, .unset, .unset, .unset, .unset, .unset, .unset] [(.int (0 : Int32))])) _
        exact q
      have k12_ : ∀ t, Steps p.tables e below (s₁.setTop (mkF m 65 #[.val (.int p0), .val (.int p1), .val (.int p2), .val (.int p3), .val (.int p4), .val (.int eb), .val (.int el), .val (.int (0 : Int32)), .val (.int (0 : Int32)), .unset, .unset, .unset, .unset, .unset, .unset, .unset, .unset] [])) t → Steps p.tables e below (s₁.setTop (mkF m 0 #[.val (.int p0), .val (.int p1), .val (.int p2), .val (.int p3), .val (.int p4), .unset, .unset, .unset, .unset, .unset, .unset, .unset, .unset, .unset, .unset, .unset, .unset] [])) t := by
        intro t q
        refine k11_ _ ?_
        show Steps p.tables e below (s₁.setTop (mkF m 58 #[.val (.int p0), .val (.int p1), .val (.int p2), .val (.int p3), .val (.int p4), .val (.int eb), .val (.int el), .val (.int (0 : Int32)), .val (.int (0 : Int32)), .unset, .unset, .unset, .unset, .unset, .unset, .unset, .unset] [(.int (0 : Int32))])) _
        refine XS.ifYes X0.here hx rfl (pc0 := 58) (pc' := 65) rfl (hb hby at_58) rfl ((if0 _ _).trans (teq rfl).1) (by decide) (by decide) ?_
        show Steps p.tables e below (s₁.setTop (mkF m 65 #[.val (.int p0), .val (.int p1), .val (.int p2), .val (.int p3), .val (.int p4), .val (.int eb), .val (.int el), .val (.int (0 : Int32)), .val (.int (0 : Int32)), .unset, .unset, .unset, .unset, .unset, .unset, .unset, .unset] [])) _
        exact q
      have k13_ : ∀ t, Steps p.tables e below (s₁.setTop (mkF m 66 #[.val (.int p0), .val (.int p1), .val (.int p2), .val (.int p3), .val (.int p4), .val (.int eb), .val (.int el), .val (.int (0 : Int32)), .val (.int (0 : Int32)), .unset, .unset, .unset, .unset, .unset, .unset, .unset, .unset] [(.int p0)])) t → Steps p.tables e below (s₁.setTop (mkF m 0 #[.val (.int p0), .val (.int p1), .val (.int p2), .val (.int p3), .val (.int p4), .unset, .unset, .unset, .unset, .unset, .unset, .unset, .unset, .unset, .unset, .unset, .unset] [])) t := by
        intro t q
        refine k12_ _ ?_
        show Steps p.tables e below (s₁.setTop (mkF m 65 #[.val (.int p0), .val (.int p1), .val (.int p2), .val (.int p3), .val (.int p4), .val (.int eb), .val (.int el), .val (.int (0 : Int32)), .val (.int (0 : Int32)), .unset, .unset, .unset, .unset, .unset, .unset, .unset, .unset] [])) _
        refine XS.iloadN X0.here hx rfl (hb hby at_65) rfl ?_
        show Steps p.tables e below (s₁.setTop (mkF m 66 #[.val (.int p0), .val (.int p1), .val (.int p2), .val (.int p3), .val (.int p4), .val (.int eb), .val (.int el), .val (.int (0 : Int32)), .val (.int (0 : Int32)), .unset, .unset, .unset, .unset, .unset, .unset, .unset, .unset] [(.int p0)])) _
        exact q
      obtain ⟨_, _, ⟨T14, L14, kk14, n14⟩, -, X14_, hs14, hG14, ⟨Lc14, hQ14, l14, y14, z14, hc14⟩, st14⟩ := callSS X0 hx (y := (⟨"com/example/triplewright/triplewright/source/ElementNameMatchesPinLaw", "mk", "(I)Ljava/lang/String;"⟩ : MethodName)) hown (mvT hZ (hw _ (List.mem_of_getElem? (i := 1) rfl))) (mvT hZ (hw _ (List.mem_of_getElem? (i := 2) rfl))) (mvT hZ (hw _ (List.mem_of_getElem? (i := 3) rfl))) (mvT hZ (hw _ (List.mem_of_getElem? (i := 4) rfl))) (by decide) (backOfSH (s := s) (vm0 := s.vm) (EL := own_EL) (W := 0) (rmM l Z a0 hw [] p0 zc h0 n0 Zn O2 hzc X00 wS hEL) hZ (hw _ (List.mem_of_getElem? (i := 4) rfl)) (hw _ (List.mem_of_getElem? (i := 3) rfl)) (by decide) (by decide) hEL hCH.1) (g := (mkF m 66 #[.val (.int p0), .val (.int p1), .val (.int p2), .val (.int p3), .val (.int p4), .val (.int eb), .val (.int el), .val (.int (0 : Int32)), .val (.int (0 : Int32)), .unset, .unset, .unset, .unset, .unset, .unset, .unset, .unset] [(.int p0)])) rfl (by rw [hml]; rfl) (argsL := [(.int p0)]) (rest := []) (lenOf pd_88406 rfl) rfl (by show 2 * 0 + _ ≤ _; exact Nat.le_of_eq rfl) (hb hby at_66) (fun _ _ => ⟨rfl, e0, (by decide : 0 + 4 ≤ _), (by decide : 0 + 11 ≤ _)⟩)
      dsimp only [Pt.U, Pt.locs, Pt.cells, Pt.slots] at X14_ l14 y14 z14 st14 hQ14 hG14 hs14 hc14
      rw [l14, y14, z14] at X14_
      obtain ⟨X14, hS14, hZ14, hown14⟩ := rebS (s := s) (vm0 := s.vm) hS (by rw [e0]; exact hk) X14_ hs14 hG14 hZ hown
      replace hS := hS14
      replace hZ := hZ14
      replace hown := hown14
      replace hCH := hCH.trans hc14
      replace hk : T14.heap.size ≤ T14.heap.size := Nat.le_refl _
      obtain ⟨t1, rfl, Nq14, K_t1, S_t1⟩ := hQ14
      have N14 := Fr.app N0 Nq14
      have k15_ : ∀ t, Steps p.tables e below (T14.setTop (mkF m 69 #[.val (.int p0), .val (.int p1), .val (.int p2), .val (.int p3), .val (.int p4), .val (.int eb), .val (.int el), .val (.int (0 : Int32)), .val (.int (0 : Int32)), .unset, .unset, .unset, .unset, .unset, .unset, .unset, .unset] [(.ref t1)])) t → Steps p.tables e below (s₁.setTop (mkF m 0 #[.val (.int p0), .val (.int p1), .val (.int p2), .val (.int p3), .val (.int p4), .unset, .unset, .unset, .unset, .unset, .unset, .unset, .unset, .unset, .unset, .unset, .unset] [])) t := fun t q => k13_ t (st14.trans q)
      replace X00 := X00.keep K_t1 all0
      replace Zn := Nat.le_trans Zn K_t1.1
      have k16_ : ∀ t, Steps p.tables e below (T14.setTop (mkF m 73 #[.val (.int p0), .val (.int p1), .val (.int p2), .val (.int p3), .val (.int p4), .val (.int eb), .val (.int el), .val (.int (0 : Int32)), .val (.int (0 : Int32)), .val (.ref t1), .unset, .unset, .unset, .unset, .unset, .unset, .unset] [(.int (0 : Int32))])) t → Steps p.tables e below (s₁.setTop (mkF m 0 #[.val (.int p0), .val (.int p1), .val (.int p2), .val (.int p3), .val (.int p4), .unset, .unset, .unset, .unset, .unset, .unset, .unset, .unset, .unset, .unset, .unset, .unset] [])) t := by
        intro t q
        refine k15_ _ ?_
        show Steps p.tables e below (T14.setTop (mkF m 69 #[.val (.int p0), .val (.int p1), .val (.int p2), .val (.int p3), .val (.int p4), .val (.int eb), .val (.int el), .val (.int (0 : Int32)), .val (.int (0 : Int32)), .unset, .unset, .unset, .unset, .unset, .unset, .unset, .unset] [(.ref t1)])) _
        refine XS.astore X14.here hx rfl (hb hby at_69) rfl rfl (l' := #[.val (.int p0), .val (.int p1), .val (.int p2), .val (.int p3), .val (.int p4), .val (.int eb), .val (.int el), .val (.int (0 : Int32)), .val (.int (0 : Int32)), .val (.ref t1), .unset, .unset, .unset, .unset, .unset, .unset, .unset]) rfl ?_
        refine XS.iload X14.here hx rfl (hb hby at_71) rfl ?_
        show Steps p.tables e below (T14.setTop (mkF m 73 #[.val (.int p0), .val (.int p1), .val (.int p2), .val (.int p3), .val (.int p4), .val (.int eb), .val (.int el), .val (.int (0 : Int32)), .val (.int (0 : Int32)), .val (.ref t1), .unset, .unset, .unset, .unset, .unset, .unset, .unset] [(.int (0 : Int32))])) _
        exact q
      have k17_ : ∀ t, Steps p.tables e below (T14.setTop (mkF m 80 #[.val (.int p0), .val (.int p1), .val (.int p2), .val (.int p3), .val (.int p4), .val (.int eb), .val (.int el), .val (.int (0 : Int32)), .val (.int (0 : Int32)), .val (.ref t1), .unset, .unset, .unset, .unset, .unset, .unset, .unset] [])) t → Steps p.tables e below (s₁.setTop (mkF m 0 #[.val (.int p0), .val (.int p1), .val (.int p2), .val (.int p3), .val (.int p4), .unset, .unset, .unset, .unset, .unset, .unset, .unset, .unset, .unset, .unset, .unset, .unset] [])) t := by
        intro t q
        refine k16_ _ ?_
        show Steps p.tables e below (T14.setTop (mkF m 73 #[.val (.int p0), .val (.int p1), .val (.int p2), .val (.int p3), .val (.int p4), .val (.int eb), .val (.int el), .val (.int (0 : Int32)), .val (.int (0 : Int32)), .val (.ref t1), .unset, .unset, .unset, .unset, .unset, .unset, .unset] [(.int (0 : Int32))])) _
        refine XS.ifYes X14.here hx rfl (pc0 := 73) (pc' := 80) rfl (hb hby at_73) rfl ((if0 _ _).trans (teq rfl).1) (by decide) (by decide) ?_
        show Steps p.tables e below (T14.setTop (mkF m 80 #[.val (.int p0), .val (.int p1), .val (.int p2), .val (.int p3), .val (.int p4), .val (.int eb), .val (.int el), .val (.int (0 : Int32)), .val (.int (0 : Int32)), .val (.ref t1), .unset, .unset, .unset, .unset, .unset, .unset, .unset] [])) _
        exact q
      have k18_ : ∀ t, Steps p.tables e below (T14.setTop (mkF m 81 #[.val (.int p0), .val (.int p1), .val (.int p2), .val (.int p3), .val (.int p4), .val (.int eb), .val (.int el), .val (.int (0 : Int32)), .val (.int (0 : Int32)), .val (.ref t1), .unset, .unset, .unset, .unset, .unset, .unset, .unset] [(.int p1)])) t → Steps p.tables e below (s₁.setTop (mkF m 0 #[.val (.int p0), .val (.int p1), .val (.int p2), .val (.int p3), .val (.int p4), .unset, .unset, .unset, .unset, .unset, .unset, .unset, .unset, .unset, .unset, .unset, .unset] [])) t := by
        intro t q
        refine k17_ _ ?_
        show Steps p.tables e below (T14.setTop (mkF m 80 #[.val (.int p0), .val (.int p1), .val (.int p2), .val (.int p3), .val (.int p4), .val (.int eb), .val (.int el), .val (.int (0 : Int32)), .val (.int (0 : Int32)), .val (.ref t1), .unset, .unset, .unset, .unset, .unset, .unset, .unset] [])) _
        refine XS.iloadN X14.here hx rfl (hb hby at_80) rfl ?_
        show Steps p.tables e below (T14.setTop (mkF m 81 #[.val (.int p0), .val (.int p1), .val (.int p2), .val (.int p3), .val (.int p4), .val (.int eb), .val (.int el), .val (.int (0 : Int32)), .val (.int (0 : Int32)), .val (.ref t1), .unset, .unset, .unset, .unset, .unset, .unset, .unset] [(.int p1)])) _
        exact q
      obtain ⟨_, _, ⟨T19, L19, kk19, n19⟩, -, X19_, hs19, hG19, ⟨Lc19, hQ19, l19, y19, z19, hc19⟩, st19⟩ := callSS X14 hx (y := (⟨"com/example/triplewright/triplewright/source/ElementNameMatchesPinLaw", "mk", "(I)Ljava/lang/String;"⟩ : MethodName)) hown (mvT hZ (hw _ (List.mem_of_getElem? (i := 1) rfl))) (mvT hZ (hw _ (List.mem_of_getElem? (i := 2) rfl))) (mvT hZ (hw _ (List.mem_of_getElem? (i := 3) rfl))) (mvT hZ (hw _ (List.mem_of_getElem? (i := 4) rfl))) (by decide) (backOfSH (s := s) (vm0 := T14.vm) (EL := own_EL) (W := 0) (rmM l Z a0 hw [] p1 zc T14.heap n0 Zn O2 hzc X00 wS hEL) hZ (hw _ (List.mem_of_getElem? (i := 4) rfl)) (hw _ (List.mem_of_getElem? (i := 3) rfl)) (by decide) (by decide) hEL hCH.1) (g := (mkF m 81 #[.val (.int p0), .val (.int p1), .val (.int p2), .val (.int p3), .val (.int p4), .val (.int eb), .val (.int el), .val (.int (0 : Int32)), .val (.int (0 : Int32)), .val (.ref t1), .unset, .unset, .unset, .unset, .unset, .unset, .unset] [(.int p1)])) rfl (by rw [hml]; rfl) (argsL := [(.int p1)]) (rest := []) (lenOf pd_88406 rfl) rfl (by show 2 * 0 + _ ≤ _; exact Nat.le_of_eq rfl) (hb hby at_81) (fun _ _ => ⟨rfl, rfl, (by decide : 0 + 4 + 4 ≤ _), (by decide : 0 + 11 + 11 ≤ _)⟩)
      dsimp only [Pt.U, Pt.locs, Pt.cells, Pt.slots] at X19_ l19 y19 z19 st19 hQ19 hG19 hs19 hc19
      rw [l19, y19, z19] at X19_
      obtain ⟨X19, hS19, hZ19, hown19⟩ := rebS (s := s) (vm0 := T14.vm) hS hk X19_ hs19 hG19 hZ hown
      replace hS := hS19
      replace hZ := hZ19
      replace hown := hown19
      replace hCH := hCH.trans hc19
      replace hk : T19.heap.size ≤ T19.heap.size := Nat.le_refl _
      obtain ⟨t2, rfl, Nq19, K_t2, S_t2⟩ := hQ19
      have N19 := Fr.app N14 Nq19
      have k20_ : ∀ t, Steps p.tables e below (T19.setTop (mkF m 84 #[.val (.int p0), .val (.int p1), .val (.int p2), .val (.int p3), .val (.int p4), .val (.int eb), .val (.int el), .val (.int (0 : Int32)), .val (.int (0 : Int32)), .val (.ref t1), .unset, .unset, .unset, .unset, .unset, .unset, .unset] [(.ref t2)])) t → Steps p.tables e below (s₁.setTop (mkF m 0 #[.val (.int p0), .val (.int p1), .val (.int p2), .val (.int p3), .val (.int p4), .unset, .unset, .unset, .unset, .unset, .unset, .unset, .unset, .unset, .unset, .unset, .unset] [])) t := fun t q => k18_ t (st19.trans q)
      replace X00 := X00.keep K_t2 all0
      replace Zn := Nat.le_trans Zn K_t2.1
      replace S_t1 := own_Str_keep S_t1 K_t2
      have k21_ : ∀ t, Steps p.tables e below (T19.setTop (mkF m 88 #[.val (.int p0), .val (.int p1), .val (.int p2), .val (.int p3), .val (.int p4), .val (.int eb), .val (.int el), .val (.int (0 : Int32)), .val (.int (0 : Int32)), .val (.ref t1), .val (.ref t2), .unset, .unset, .unset, .unset, .unset, .unset] [(.int eb)])) t → Steps p.tables e below (s₁.setTop (mkF m 0 #[.val (.int p0), .val (.int p1), .val (.int p2), .val (.int p3), .val (.int p4), .unset, .unset, .unset, .unset, .unset, .unset, .unset, .unset, .unset, .unset, .unset, .unset] [])) t := by
        intro t q
        refine k20_ _ ?_
        show Steps p.tables e below (T19.setTop (mkF m 84 #[.val (.int p0), .val (.int p1), .val (.int p2), .val (.int p3), .val (.int p4), .val (.int eb), .val (.int el), .val (.int (0 : Int32)), .val (.int (0 : Int32)), .val (.ref t1), .unset, .unset, .unset, .unset, .unset, .unset, .unset] [(.ref t2)])) _
        refine XS.astore X19.here hx rfl (hb hby at_84) rfl rfl (l' := #[.val (.int p0), .val (.int p1), .val (.int p2), .val (.int p3), .val (.int p4), .val (.int eb), .val (.int el), .val (.int (0 : Int32)), .val (.int (0 : Int32)), .val (.ref t1), .val (.ref t2), .unset, .unset, .unset, .unset, .unset, .unset]) rfl ?_
        refine XS.iload X19.here hx rfl (hb hby at_86) rfl ?_
        show Steps p.tables e below (T19.setTop (mkF m 88 #[.val (.int p0), .val (.int p1), .val (.int p2), .val (.int p3), .val (.int p4), .val (.int eb), .val (.int el), .val (.int (0 : Int32)), .val (.int (0 : Int32)), .val (.ref t1), .val (.ref t2), .unset, .unset, .unset, .unset, .unset, .unset] [(.int eb)])) _
        exact q
      obtain ⟨_, _, ⟨T22, L22, kk22, n22⟩, -, X22_, hs22, hG22, ⟨Lc22, hQ22, l22, y22, z22, hc22⟩, st22⟩ := callSS X19 hx (y := (⟨"com/example/triplewright/triplewright/source/ElementNameMatchesPinLaw", "mk", "(I)Ljava/lang/String;"⟩ : MethodName)) hown (mvT hZ (hw _ (List.mem_of_getElem? (i := 1) rfl))) (mvT hZ (hw _ (List.mem_of_getElem? (i := 2) rfl))) (mvT hZ (hw _ (List.mem_of_getElem? (i := 3) rfl))) (mvT hZ (hw _ (List.mem_of_getElem? (i := 4) rfl))) (by decide) (backOfSH (s := s) (vm0 := T19.vm) (EL := own_EL) (W := 0) (rmM l Z a0 hw [] eb zc T19.heap n0 Zn O2 hzc X00 wS hEL) hZ (hw _ (List.mem_of_getElem? (i := 4) rfl)) (hw _ (List.mem_of_getElem? (i := 3) rfl)) (by decide) (by decide) hEL hCH.1) (g := (mkF m 88 #[.val (.int p0), .val (.int p1), .val (.int p2), .val (.int p3), .val (.int p4), .val (.int eb), .val (.int el), .val (.int (0 : Int32)), .val (.int (0 : Int32)), .val (.ref t1), .val (.ref t2), .unset, .unset, .unset, .unset, .unset, .unset] [(.int eb)])) rfl (by rw [hml]; rfl) (argsL := [(.int eb)]) (rest := []) (lenOf pd_88406 rfl) rfl (by show 2 * 0 + _ ≤ _; exact Nat.le_of_eq rfl) (hb hby at_88) (fun _ _ => ⟨rfl, rfl, (by decide : 0 + 4 + 4 + 4 ≤ _), (by decide : 0 + 11 + 11 + 11 ≤ _)⟩)
      dsimp only [Pt.U, Pt.locs, Pt.cells, Pt.slots] at X22_ l22 y22 z22 st22 hQ22 hG22 hs22 hc22
      rw [l22, y22, z22] at X22_
      obtain ⟨X22, hS22, hZ22, hown22⟩ := rebS (s := s) (vm0 := T19.vm) hS hk X22_ hs22 hG22 hZ hown
      replace hS := hS22
      replace hZ := hZ22
      replace hown := hown22
      replace hCH := hCH.trans hc22
      replace hk : T22.heap.size ≤ T22.heap.size := Nat.le_refl _
      obtain ⟨u1, rfl, Nq22, K_u1, S_u1⟩ := hQ22
      have N22 := Fr.app N19 Nq22
      have k23_ : ∀ t, Steps p.tables e below (T22.setTop (mkF m 91 #[.val (.int p0), .val (.int p1), .val (.int p2), .val (.int p3), .val (.int p4), .val (.int eb), .val (.int el), .val (.int (0 : Int32)), .val (.int (0 : Int32)), .val (.ref t1), .val (.ref t2), .unset, .unset, .unset, .unset, .unset, .unset] [(.ref u1)])) t → Steps p.tables e below (s₁.setTop (mkF m 0 #[.val (.int p0), .val (.int p1), .val (.int p2), .val (.int p3), .val (.int p4), .unset, .unset, .unset, .unset, .unset, .unset, .unset, .unset, .unset, .unset, .unset, .unset] [])) t := fun t q => k21_ t (st22.trans q)
      replace X00 := X00.keep K_u1 all0
      replace Zn := Nat.le_trans Zn K_u1.1
      replace S_t1 := own_Str_keep S_t1 K_u1
      replace S_t2 := own_Str_keep S_t2 K_u1
      have k24_ : ∀ t, Steps p.tables e below (T22.setTop (mkF m 95 #[.val (.int p0), .val (.int p1), .val (.int p2), .val (.int p3), .val (.int p4), .val (.int eb), .val (.int el), .val (.int (0 : Int32)), .val (.int (0 : Int32)), .val (.ref t1), .val (.ref t2), .val (.ref u1), .unset, .unset, .unset, .unset, .unset] [(.int el)])) t → Steps p.tables e below (s₁.setTop (mkF m 0 #[.val (.int p0), .val (.int p1), .val (.int p2), .val (.int p3), .val (.int p4), .unset, .unset, .unset, .unset, .unset, .unset, .unset, .unset, .unset, .unset, .unset, .unset] [])) t := by
        intro t q
        refine k23_ _ ?_
        show Steps p.tables e below (T22.setTop (mkF m 91 #[.val (.int p0), .val (.int p1), .val (.int p2), .val (.int p3), .val (.int p4), .val (.int eb), .val (.int el), .val (.int (0 : Int32)), .val (.int (0 : Int32)), .val (.ref t1), .val (.ref t2), .unset, .unset, .unset, .unset, .unset, .unset] [(.ref u1)])) _
        refine XS.astore X22.here hx rfl (hb hby at_91) rfl rfl (l' := #[.val (.int p0), .val (.int p1), .val (.int p2), .val (.int p3), .val (.int p4), .val (.int eb), .val (.int el), .val (.int (0 : Int32)), .val (.int (0 : Int32)), .val (.ref t1), .val (.ref t2), .val (.ref u1), .unset, .unset, .unset, .unset, .unset]) rfl ?_
        refine XS.iload X22.here hx rfl (hb hby at_93) rfl ?_
        show Steps p.tables e below (T22.setTop (mkF m 95 #[.val (.int p0), .val (.int p1), .val (.int p2), .val (.int p3), .val (.int p4), .val (.int eb), .val (.int el), .val (.int (0 : Int32)), .val (.int (0 : Int32)), .val (.ref t1), .val (.ref t2), .val (.ref u1), .unset, .unset, .unset, .unset, .unset] [(.int el)])) _
        exact q
      obtain ⟨_, _, ⟨T25, L25, kk25, n25⟩, -, X25_, hs25, hG25, ⟨Lc25, hQ25, l25, y25, z25, hc25⟩, st25⟩ := callSS X22 hx (y := (⟨"com/example/triplewright/triplewright/source/ElementNameMatchesPinLaw", "mk", "(I)Ljava/lang/String;"⟩ : MethodName)) hown (mvT hZ (hw _ (List.mem_of_getElem? (i := 1) rfl))) (mvT hZ (hw _ (List.mem_of_getElem? (i := 2) rfl))) (mvT hZ (hw _ (List.mem_of_getElem? (i := 3) rfl))) (mvT hZ (hw _ (List.mem_of_getElem? (i := 4) rfl))) (by decide) (backOfSH (s := s) (vm0 := T22.vm) (EL := own_EL) (W := 0) (rmM l Z a0 hw [] el zc T22.heap n0 Zn O2 hzc X00 wS hEL) hZ (hw _ (List.mem_of_getElem? (i := 4) rfl)) (hw _ (List.mem_of_getElem? (i := 3) rfl)) (by decide) (by decide) hEL hCH.1) (g := (mkF m 95 #[.val (.int p0), .val (.int p1), .val (.int p2), .val (.int p3), .val (.int p4), .val (.int eb), .val (.int el), .val (.int (0 : Int32)), .val (.int (0 : Int32)), .val (.ref t1), .val (.ref t2), .val (.ref u1), .unset, .unset, .unset, .unset, .unset] [(.int el)])) rfl (by rw [hml]; rfl) (argsL := [(.int el)]) (rest := []) (lenOf pd_88406 rfl) rfl (by show 2 * 0 + _ ≤ _; exact Nat.le_of_eq rfl) (hb hby at_95) (fun _ _ => ⟨rfl, rfl, (by decide : 0 + 4 + 4 + 4 + 4 ≤ _), (by decide : 0 + 11 + 11 + 11 + 11 ≤ _)⟩)
      dsimp only [Pt.U, Pt.locs, Pt.cells, Pt.slots] at X25_ l25 y25 z25 st25 hQ25 hG25 hs25 hc25
      rw [l25, y25, z25] at X25_
      obtain ⟨X25, hS25, hZ25, hown25⟩ := rebS (s := s) (vm0 := T22.vm) hS hk X25_ hs25 hG25 hZ hown
      replace hS := hS25
      replace hZ := hZ25
      replace hown := hown25
      replace hCH := hCH.trans hc25
      replace hk : T25.heap.size ≤ T25.heap.size := Nat.le_refl _
      obtain ⟨u2, rfl, Nq25, K_u2, S_u2⟩ := hQ25
      have N25 := Fr.app N22 Nq25
      have k26_ : ∀ t, Steps p.tables e below (T25.setTop (mkF m 98 #[.val (.int p0), .val (.int p1), .val (.int p2), .val (.int p3), .val (.int p4), .val (.int eb), .val (.int el), .val (.int (0 : Int32)), .val (.int (0 : Int32)), .val (.ref t1), .val (.ref t2), .val (.ref u1), .unset, .unset, .unset, .unset, .unset] [(.ref u2)])) t → Steps p.tables e below (s₁.setTop (mkF m 0 #[.val (.int p0), .val (.int p1), .val (.int p2), .val (.int p3), .val (.int p4), .unset, .unset, .unset, .unset, .unset, .unset, .unset, .unset, .unset, .unset, .unset, .unset] [])) t := fun t q => k24_ t (st25.trans q)
      replace X00 := X00.keep K_u2 all0
      replace Zn := Nat.le_trans Zn K_u2.1
      replace S_t1 := own_Str_keep S_t1 K_u2
      replace S_t2 := own_Str_keep S_t2 K_u2
      replace S_u1 := own_Str_keep S_u1 K_u2
      have k27_ : ∀ t, Steps p.tables e below (T25.setTop (mkF m 100 #[.val (.int p0), .val (.int p1), .val (.int p2), .val (.int p3), .val (.int p4), .val (.int eb), .val (.int el), .val (.int (0 : Int32)), .val (.int (0 : Int32)), .val (.ref t1), .val (.ref t2), .val (.ref u1), .val (.ref u2), .unset, .unset, .unset, .unset] [])) t → Steps p.tables e below (s₁.setTop (mkF m 0 #[.val (.int p0), .val (.int p1), .val (.int p2), .val (.int p3), .val (.int p4), .unset, .unset, .unset, .unset, .unset, .unset, .unset, .unset, .unset, .unset, .unset, .unset] [])) t := by
        intro t q
        refine k26_ _ ?_
        show Steps p.tables e below (T25.setTop (mkF m 98 #[.val (.int p0), .val (.int p1), .val (.int p2), .val (.int p3), .val (.int p4), .val (.int eb), .val (.int el), .val (.int (0 : Int32)), .val (.int (0 : Int32)), .val (.ref t1), .val (.ref t2), .val (.ref u1), .unset, .unset, .unset, .unset, .unset] [(.ref u2)])) _
        refine XS.astore X25.here hx rfl (hb hby at_98) rfl rfl (l' := #[.val (.int p0), .val (.int p1), .val (.int p2), .val (.int p3), .val (.int p4), .val (.int eb), .val (.int el), .val (.int (0 : Int32)), .val (.int (0 : Int32)), .val (.ref t1), .val (.ref t2), .val (.ref u1), .val (.ref u2), .unset, .unset, .unset, .unset]) rfl ?_
        show Steps p.tables e below (T25.setTop (mkF m 100 #[.val (.int p0), .val (.int p1), .val (.int p2), .val (.int p3), .val (.int p4), .val (.int eb), .val (.int el), .val (.int (0 : Int32)), .val (.int (0 : Int32)), .val (.ref t1), .val (.ref t2), .val (.ref u1), .val (.ref u2), .unset, .unset, .unset, .unset] [])) _
        exact q
      obtain ⟨T28, h28, X28, e28, E28, A28, D28, -, st28⟩ := newO X25 hx hZ hown (hw _ (List.mem_of_getElem? (i := 44) rfl)) (hw _ (List.mem_of_getElem? (i := 45) rfl)) (hw _ (List.mem_of_getElem? (i := 46) rfl)) rfl (g := (mkF m 100 #[.val (.int p0), .val (.int p1), .val (.int p2), .val (.int p3), .val (.int p4), .val (.int eb), .val (.int el), .val (.int (0 : Int32)), .val (.int (0 : Int32)), .val (.ref t1), .val (.ref t2), .val (.ref u1), .val (.ref u2), .unset, .unset, .unset, .unset] [])) rfl (hb hby at_100) (by decide) (by decide)
      obtain ⟨b28, g28⟩ : ∃ z, z = T25.heap.size := ⟨_, rfl⟩
      rw [← g28] at A28 D28 st28
      have k29_ : ∀ t, Steps p.tables e below (T28.setTop (mkF m 103 #[.val (.int p0), .val (.int p1), .val (.int p2), .val (.int p3), .val (.int p4), .val (.int eb), .val (.int el), .val (.int (0 : Int32)), .val (.int (0 : Int32)), .val (.ref t1), .val (.ref t2), .val (.ref u1), .val (.ref u2), .unset, .unset, .unset, .unset] [(.ref b28)])) t → Steps p.tables e below (s₁.setTop (mkF m 0 #[.val (.int p0), .val (.int p1), .val (.int p2), .val (.int p3), .val (.int p4), .unset, .unset, .unset, .unset, .unset, .unset, .unset, .unset, .unset, .unset, .unset, .unset] [])) t := fun t q => k27_ t (st28 t q)
      have gb : n0 ≤ b28 := Nat.le_trans Zn (Nat.le_of_eq g28.symm)
      have KN := (Keep.refl _ []).ext E28
      replace X00 := X00.ext E28
      replace Zn := Nat.le_trans Zn E28.1
      replace hk := Nat.le_trans hk E28.1
      replace hCH := hCH.trans (CHr.ext E28 hCH.1)
      replace S_t1 := own_Str_keep S_t1 KN
      replace S_t2 := own_Str_keep S_t2 KN
      replace S_u1 := own_Str_keep S_u1 KN
      replace S_u2 := own_Str_keep S_u2 KN
      have F_namespace : Fld Z h28 b28 "com/example/triplewright/triplewright/source/XmlParser$ElementName" "namespace" "Ljava/lang/String;" .null := D28 (Or.inr (hw _ (List.mem_of_getElem? (i := 57) rfl))) (ty := (.object "java/lang/String")) (by decide)
      have F_localName : Fld Z h28 b28 "com/example/triplewright/triplewright/source/XmlParser$ElementName" "localName" "Ljava/lang/String;" .null := D28 (Or.inr (hw _ (List.mem_of_getElem? (i := 59) rfl))) (ty := (.object "java/lang/String")) (by decide)
      have SB : Safe Z own_EL T25.vm h28 b28 := Safe.exa hZ.alike A28 (by decide) (by decide)
      have k30_ : ∀ t, Steps p.tables e below (T28.setTop (mkF m 108 #[.val (.int p0), .val (.int p1), .val (.int p2), .val (.int p3), .val (.int p4), .val (.int eb), .val (.int el), .val (.int (0 : Int32)), .val (.int (0 : Int32)), .val (.ref t1), .val (.ref t2), .val (.ref u1), .val (.ref u2), .unset, .unset, .unset, .unset] [(.ref t2), (.ref t1), (.ref b28), (.ref b28)])) t → Steps p.tables e below (s₁.setTop (mkF m 0 #[.val (.int p0), .val (.int p1), .val (.int p2), .val (.int p3), .val (.int p4), .unset, .unset, .unset, .unset, .unset, .unset, .unset, .unset, .unset, .unset, .unset, .unset] [])) t := by
        intro t q
        refine k29_ _ ?_
        show Steps p.tables e below (T28.setTop (mkF m 103 #[.val (.int p0), .val (.int p1), .val (.int p2), .val (.int p3), .val (.int p4), .val (.int eb), .val (.int el), .val (.int (0 : Int32)), .val (.int (0 : Int32)), .val (.ref t1), .val (.ref t2), .val (.ref u1), .val (.ref u2), .unset, .unset, .unset, .unset] [(.ref b28)])) _
        refine XS.dup X28.here hx rfl (hb hby at_103) rfl rfl ?_
        refine XS.aload X28.here hx rfl (hb hby at_104) rfl rfl ?_
        show Steps p.tables e below (T28.setTop (mkF m 106 #[.val (.int p0), .val (.int p1), .val (.int p2), .val (.int p3), .val (.int p4), .val (.int eb), .val (.int el), .val (.int (0 : Int32)), .val (.int (0 : Int32)), .val (.ref t1), .val (.ref t2), .val (.ref u1), .val (.ref u2), .unset, .unset, .unset, .unset] [(.ref t1), (.ref b28), (.ref b28)])) _
        refine XS.aload X28.here hx rfl (hb hby at_106) rfl rfl ?_
        show Steps p.tables e below (T28.setTop (mkF m 108 #[.val (.int p0), .val (.int p1), .val (.int p2), .val (.int p3), .val (.int p4), .val (.int eb), .val (.int el), .val (.int (0 : Int32)), .val (.int (0 : Int32)), .val (.ref t1), .val (.ref t2), .val (.ref u1), .val (.ref u2), .unset, .unset, .unset, .unset] [(.ref t2), (.ref t1), (.ref b28), (.ref b28)])) _
        exact q
      obtain ⟨_, _, ⟨T31, L31, kk31, n31⟩, -, X31, ⟨Lc31, hQ31, l31, y31, z31⟩, st31⟩ := X28.specialBack hx (y := (⟨"com/example/triplewright/triplewright/source/XmlParser$ElementName", "<init>", "(Ljava/lang/String;Ljava/lang/String;)V"⟩ : MethodName)) rfl hown (mvT hZ (hw _ (List.mem_of_getElem? (i := 47) rfl))) (mvT hZ (hw _ (List.mem_of_getElem? (i := 48) rfl))) (mvT hZ (hw _ (List.mem_of_getElem? (i := 49) rfl))) (by decide) (backOf (W := 1) (rmE00 l Z a0 hw [] b28 t1 t2 h28 n0 Zn A28 F_namespace F_localName gb) hZ (hw _ (List.mem_of_getElem? (i := 49) rfl)) (hw _ (List.mem_of_getElem? (i := 46) rfl)) (by decide) (by decide)) (g := (mkF m 108 #[.val (.int p0), .val (.int p1), .val (.int p2), .val (.int p3), .val (.int p4), .val (.int eb), .val (.int el), .val (.int (0 : Int32)), .val (.int (0 : Int32)), .val (.ref t1), .val (.ref t2), .val (.ref u1), .val (.ref u2), .unset, .unset, .unset, .unset] [(.ref t2), (.ref t1), (.ref b28), (.ref b28)])) rfl (by rw [hml]; rfl) (Steps.refl _) (a := b28) (argsL := [(.ref t1), (.ref t2)]) (rest := [(.ref b28)]) (lenOf pd_38756 rfl) rfl (by show 2 * 0 + _ ≤ _; exact Nat.le_of_eq rfl) (hb hby at_108) (fun _ _ => ⟨rfl, e28, (by decide : 0 + 4 + 4 + 4 + 4 + 1 + 0 ≤ _), (by decide : 0 + 11 + 11 + 11 + 11 + 2 + 0 ≤ _)⟩)
      dsimp only [Pt.U, Pt.locs, Pt.cells, Pt.slots] at X31 l31 y31 z31 st31 hQ31
      rw [l31, y31, z31] at X31
      obtain ⟨rfl, Nq31, KI, EI, F1, F2⟩ := hQ31
      have N31 := Fr.app N25 Nq31
      have k32_ : ∀ t, Steps p.tables e below (T31.setTop (mkF m 111 #[.val (.int p0), .val (.int p1), .val (.int p2), .val (.int p3), .val (.int p4), .val (.int eb), .val (.int el), .val (.int (0 : Int32)), .val (.int (0 : Int32)), .val (.ref t1), .val (.ref t2), .val (.ref u1), .val (.ref u2), .unset, .unset, .unset, .unset] [(.ref b28)])) t → Steps p.tables e below (s₁.setTop (mkF m 0 #[.val (.int p0), .val (.int p1), .val (.int p2), .val (.int p3), .val (.int p4), .unset, .unset, .unset, .unset, .unset, .unset, .unset, .unset, .unset, .unset, .unset, .unset] [])) t := fun t q => k30_ t (st31.trans q)
      replace hCH := hCH.trans (CHr.keep KI (sfS SB sf0) hCH.1)
      replace Zn := Nat.le_trans Zn KI.1
      replace hk := Nat.le_trans hk KI.1
      replace X00 := X00.keep KI (allS gb all0)
      replace S_t1 := own_Str_new S_t1 KI A28 (hw _ (List.mem_of_getElem? (i := 45) rfl)) (by decide)
      replace S_t2 := own_Str_new S_t2 KI A28 (hw _ (List.mem_of_getElem? (i := 45) rfl)) (by decide)
      replace S_u1 := own_Str_new S_u1 KI A28 (hw _ (List.mem_of_getElem? (i := 45) rfl)) (by decide)
      replace S_u2 := own_Str_new S_u2 KI A28 (hw _ (List.mem_of_getElem? (i := 45) rfl)) (by decide)
      have k33_ : ∀ t, Steps p.tables e below (T31.setTop (mkF m 119 #[.val (.int p0), .val (.int p1), .val (.int p2), .val (.int p3), .val (.int p4), .val (.int eb), .val (.int el), .val (.int (0 : Int32)), .val (.int (0 : Int32)), .val (.ref t1), .val (.ref t2), .val (.ref u1), .val (.ref u2), .val (.ref b28), .unset, .unset, .unset] [(.ref u2), (.ref u1), (.ref b28)])) t → Steps p.tables e below (s₁.setTop (mkF m 0 #[.val (.int p0), .val (.int p1), .val (.int p2), .val (.int p3), .val (.int p4), .unset, .unset, .unset, .unset, .unset, .unset, .unset, .unset, .unset, .unset, .unset, .unset] [])) t := by
        intro t q
        refine k32_ _ ?_
        show Steps p.tables e below (T31.setTop (mkF m 111 #[.val (.int p0), .val (.int p1), .val (.int p2), .val (.int p3), .val (.int p4), .val (.int eb), .val (.int el), .val (.int (0 : Int32)), .val (.int (0 : Int32)), .val (.ref t1), .val (.ref t2), .val (.ref u1), .val (.ref u2), .unset, .unset, .unset, .unset] [(.ref b28)])) _
        refine XS.astore X31.here hx rfl (hb hby at_111) rfl rfl (l' := #[.val (.int p0), .val (.int p1), .val (.int p2), .val (.int p3), .val (.int p4), .val (.int eb), .val (.int el), .val (.int (0 : Int32)), .val (.int (0 : Int32)), .val (.ref t1), .val (.ref t2), .val (.ref u1), .val (.ref u2), .val (.ref b28), .unset, .unset, .unset]) rfl ?_
        refine XS.aload X31.here hx rfl (hb hby at_113) rfl rfl ?_
        show Steps p.tables e below (T31.setTop (mkF m 115 #[.val (.int p0), .val (.int p1), .val (.int p2), .val (.int p3), .val (.int p4), .val (.int eb), .val (.int el), .val (.int (0 : Int32)), .val (.int (0 : Int32)), .val (.ref t1), .val (.ref t2), .val (.ref u1), .val (.ref u2), .val (.ref b28), .unset, .unset, .unset] [(.ref b28)])) _
        refine XS.aload X31.here hx rfl (hb hby at_115) rfl rfl ?_
        refine XS.aload X31.here hx rfl (hb hby at_117) rfl rfl ?_
        show Steps p.tables e below (T31.setTop (mkF m 119 #[.val (.int p0), .val (.int p1), .val (.int p2), .val (.int p3), .val (.int p4), .val (.int eb), .val (.int el), .val (.int (0 : Int32)), .val (.int (0 : Int32)), .val (.ref t1), .val (.ref t2), .val (.ref u1), .val (.ref u2), .val (.ref b28), .unset, .unset, .unset] [(.ref u2), (.ref u1), (.ref b28)])) _
        exact q
      obtain ⟨cq34, kq34, q34a, q34b, q34c⟩ := isOf hZ rfl EI
      obtain ⟨_, _, ⟨T34, L34, kk34, n34⟩, -, X34, ⟨Lc34, hQ34, l34, y34, z34⟩, st34⟩ := X31.virtualBack hx (y := (⟨"com/example/triplewright/triplewright/source/XmlParser$ElementName", "matches", "(Ljava/lang/String;Ljava/lang/String;)Z"⟩ : MethodName)) (z := (⟨"com/example/triplewright/triplewright/source/XmlParser$ElementName", "matches", "(Ljava/lang/String;Ljava/lang/String;)Z"⟩ : MethodName)) hown (mvT hZ (hw _ (List.mem_of_getElem? (i := 60) rfl))) (mvT hZ (hw _ (List.mem_of_getElem? (i := 61) rfl))) (notFace_of_selects (args := #[]) (mvT hZ (hw _ (List.mem_of_getElem? (i := 63) rfl)))) (mvT hZ (hw _ (List.mem_of_getElem? (i := 63) rfl))) (mvT hZ (hw _ (List.mem_of_getElem? (i := 62) rfl))) (by decide) (backOf (W := 0) (rmT00 l Z a0 hw [] b28 u1 u2 t1 t2 p0 eb p1 el zc T31.heap n0 Zn F1 F2 S_u1 S_u2 S_t1 S_t2 O2 hzc X00) hZ (hw _ (List.mem_of_getElem? (i := 64) rfl)) (hw _ (List.mem_of_getElem? (i := 46) rfl)) (by decide) (by decide)) q34a q34c (g := (mkF m 119 #[.val (.int p0), .val (.int p1), .val (.int p2), .val (.int p3), .val (.int p4), .val (.int eb), .val (.int el), .val (.int (0 : Int32)), .val (.int (0 : Int32)), .val (.ref t1), .val (.ref t2), .val (.ref u1), .val (.ref u2), .val (.ref b28), .unset, .unset, .unset] [(.ref u2), (.ref u1), (.ref b28)])) rfl (by rw [hml]; rfl) (Steps.refl _) (argsL := [(.ref u1), (.ref u2)]) (rest := []) (lenOf pd_38760 rfl) rfl (by show 2 * 0 + _ ≤ _; exact Nat.le_of_eq rfl) (hb hby at_119) (fun _ _ => ⟨rfl, rfl, (by decide : 0 + 4 + 4 + 4 + 4 + 1 + 0 + 0 ≤ _), (by decide : 0 + 11 + 11 + 11 + 11 + 2 + 0 + 0 ≤ _)⟩)
      dsimp only [Pt.U, Pt.locs, Pt.cells, Pt.slots] at X34 l34 y34 z34 st34 hQ34
      rw [l34, y34, z34] at X34
      obtain ⟨rfl, Nq34, hq34⟩ := hQ34
      have N34 := Fr.app N31 Nq34
      have k35_ : ∀ t, Steps p.tables e below (T34.setTop (mkF m 122 #[.val (.int p0), .val (.int p1), .val (.int p2), .val (.int p3), .val (.int p4), .val (.int eb), .val (.int el), .val (.int (0 : Int32)), .val (.int (0 : Int32)), .val (.ref t1), .val (.ref t2), .val (.ref u1), .val (.ref u2), .val (.ref b28), .unset, .unset, .unset] [(.int (bi ((own_cs p0 = own_cs eb) ∧ (own_cs p1 = own_cs el))))])) t → Steps p.tables e below (s₁.setTop (mkF m 0 #[.val (.int p0), .val (.int p1), .val (.int p2), .val (.int p3), .val (.int p4), .unset, .unset, .unset, .unset, .unset, .unset, .unset, .unset, .unset, .unset, .unset, .unset] [])) t := fun t q => k33_ t (st34.trans q)
      by_cases hA : own_cs p0 = own_cs eb
      · by_cases hB : own_cs p1 = own_cs el
        · have k36_ : ∀ t, Steps p.tables e below (T34.setTop (mkF m 122 #[.val (.int p0), .val (.int p1), .val (.int p2), .val (.int p3), .val (.int p4), .val (.int eb), .val (.int el), .val (.int (0 : Int32)), .val (.int (0 : Int32)), .val (.ref t1), .val (.ref t2), .val (.ref u1), .val (.ref u2), .val (.ref b28), .unset, .unset, .unset] [(.int (1 : Int32))])) t → Steps p.tables e below (s₁.setTop (mkF m 0 #[.val (.int p0), .val (.int p1), .val (.int p2), .val (.int p3), .val (.int p4), .unset, .unset, .unset, .unset, .unset, .unset, .unset, .unset, .unset, .unset, .unset, .unset] [])) t := fun t q => k35_ t (Eq.mp (congrArg (fun z => Steps p.tables e below (T34.setTop (mkF m 122 #[.val (.int p0), .val (.int p1), .val (.int p2), .val (.int p3), .val (.int p4), .val (.int eb), .val (.int el), .val (.int (0 : Int32)), .val (.int (0 : Int32)), .val (.ref t1), .val (.ref t2), .val (.ref u1), .val (.ref u2), .val (.ref b28), .unset, .unset, .unset] [(.int z)])) t) (show (1 : Int32) = (bi ((own_cs p0 = own_cs eb) ∧ (own_cs p1 = own_cs el))) from (bi_t ⟨hA, hB⟩).symm)) q)
          have k37_ : ∀ t, Steps p.tables e below (T34.setTop (mkF m 126 #[.val (.int p0), .val (.int p1), .val (.int p2), .val (.int p3), .val (.int p4), .val (.int eb), .val (.int el), .val (.int (0 : Int32)), .val (.int (0 : Int32)), .val (.ref t1), .val (.ref t2), .val (.ref u1), .val (.ref u2), .val (.ref b28), .val (.int (1 : Int32)), .unset, .unset] [(.int (0 : Int32))])) t → Steps p.tables e below (s₁.setTop (mkF m 0 #[.val (.int p0), .val (.int p1), .val (.int p2), .val (.int p3), .val (.int p4), .unset, .unset, .unset, .unset, .unset, .unset, .unset, .unset, .unset, .unset, .unset, .unset] [])) t := by
            intro t q
            refine k36_ _ ?_
            show Steps p.tables e below (T34.setTop (mkF m 122 #[.val (.int p0), .val (.int p1), .val (.int p2), .val (.int p3), .val (.int p4), .val (.int eb), .val (.int el), .val (.int (0 : Int32)), .val (.int (0 : Int32)), .val (.ref t1), .val (.ref t2), .val (.ref u1), .val (.ref u2), .val (.ref b28), .unset, .unset, .unset] [(.int (1 : Int32))])) _
            refine XS.istore X34.here hx rfl (hb hby at_122) rfl (l' := #[.val (.int p0), .val (.int p1), .val (.int p2), .val (.int p3), .val (.int p4), .val (.int eb), .val (.int el), .val (.int (0 : Int32)), .val (.int (0 : Int32)), .val (.ref t1), .val (.ref t2), .val (.ref u1), .val (.ref u2), .val (.ref b28), .val (.int (1 : Int32)), .unset, .unset]) rfl ?_
            refine XS.iload X34.here hx rfl (hb hby at_124) rfl ?_
            show Steps p.tables e below (T34.setTop (mkF m 126 #[.val (.int p0), .val (.int p1), .val (.int p2), .val (.int p3), .val (.int p4), .val (.int eb), .val (.int el), .val (.int (0 : Int32)), .val (.int (0 : Int32)), .val (.ref t1), .val (.ref t2), .val (.ref u1), .val (.ref u2), .val (.ref b28), .val (.int (1 : Int32)), .unset, .unset] [(.int (0 : Int32))])) _
            exact q
          have k38_ : ∀ t, Steps p.tables e below (T34.setTop (mkF m 129 #[.val (.int p0), .val (.int p1), .val (.int p2), .val (.int p3), .val (.int p4), .val (.int eb), .val (.int el), .val (.int (0 : Int32)), .val (.int (0 : Int32)), .val (.ref t1), .val (.ref t2), .val (.ref u1), .val (.ref u2), .val (.ref b28), .val (.int (1 : Int32)), .unset, .unset] [])) t → Steps p.tables e below (s₁.setTop (mkF m 0 #[.val (.int p0), .val (.int p1), .val (.int p2), .val (.int p3), .val (.int p4), .unset, .unset, .unset, .unset, .unset, .unset, .unset, .unset, .unset, .unset, .unset, .unset] [])) t := by
            intro t q
            refine k37_ _ ?_
            show Steps p.tables e below (T34.setTop (mkF m 126 #[.val (.int p0), .val (.int p1), .val (.int p2), .val (.int p3), .val (.int p4), .val (.int eb), .val (.int el), .val (.int (0 : Int32)), .val (.int (0 : Int32)), .val (.ref t1), .val (.ref t2), .val (.ref u1), .val (.ref u2), .val (.ref b28), .val (.int (1 : Int32)), .unset, .unset] [(.int (0 : Int32))])) _
            refine XS.ifNo X34.here hx rfl (hb hby at_126) rfl ((if0 _ _).trans (teq rfl).2) ?_
            show Steps p.tables e below (T34.setTop (mkF m 129 #[.val (.int p0), .val (.int p1), .val (.int p2), .val (.int p3), .val (.int p4), .val (.int eb), .val (.int el), .val (.int (0 : Int32)), .val (.int (0 : Int32)), .val (.ref t1), .val (.ref t2), .val (.ref u1), .val (.ref u2), .val (.ref b28), .val (.int (1 : Int32)), .unset, .unset] [])) _
            exact q
          have k39_ : ∀ t, Steps p.tables e below (T34.setTop (mkF m 132 #[.val (.int p0), .val (.int p1), .val (.int p2), .val (.int p3), .val (.int p4), .val (.int eb), .val (.int el), .val (.int (0 : Int32)), .val (.int (0 : Int32)), .val (.ref t1), .val (.ref t2), .val (.ref u1), .val (.ref u2), .val (.ref b28), .val (.int (1 : Int32)), .unset, .unset] [(.int eb), (.int p0)])) t → Steps p.tables e below (s₁.setTop (mkF m 0 #[.val (.int p0), .val (.int p1), .val (.int p2), .val (.int p3), .val (.int p4), .unset, .unset, .unset, .unset, .unset, .unset, .unset, .unset, .unset, .unset, .unset, .unset] [])) t := by
            intro t q
            refine k38_ _ ?_
            show Steps p.tables e below (T34.setTop (mkF m 129 #[.val (.int p0), .val (.int p1), .val (.int p2), .val (.int p3), .val (.int p4), .val (.int eb), .val (.int el), .val (.int (0 : Int32)), .val (.int (0 : Int32)), .val (.ref t1), .val (.ref t2), .val (.ref u1), .val (.ref u2), .val (.ref b28), .val (.int (1 : Int32)), .unset, .unset] [])) _
            refine XS.iloadN X34.here hx rfl (hb hby at_129) rfl ?_
            refine XS.iload X34.here hx rfl (hb hby at_130) rfl ?_
            show Steps p.tables e below (T34.setTop (mkF m 132 #[.val (.int p0), .val (.int p1), .val (.int p2), .val (.int p3), .val (.int p4), .val (.int eb), .val (.int el), .val (.int (0 : Int32)), .val (.int (0 : Int32)), .val (.ref t1), .val (.ref t2), .val (.ref u1), .val (.ref u2), .val (.ref b28), .val (.int (1 : Int32)), .unset, .unset] [(.int eb), (.int p0)])) _
            exact q
          obtain ⟨_, _, ⟨T40, L40, kk40, n40⟩, -, X40, ⟨Lc40, hQ40, l40, y40, z40⟩, st40⟩ := Jvm.LawKit.callS X34 hx (y := (⟨"com/example/triplewright/triplewright/source/ElementNameMatchesPinLaw", "same", "(II)Z"⟩ : MethodName)) hown (mvT hZ (hw _ (List.mem_of_getElem? (i := 75) rfl))) (mvT hZ (hw _ (List.mem_of_getElem? (i := 76) rfl))) (mvT hZ (hw _ (List.mem_of_getElem? (i := 3) rfl))) (mvT hZ (hw _ (List.mem_of_getElem? (i := 77) rfl))) (by decide) (backOf (W := 0) (rmSa l Z a0 hw [] p0 eb T31.heap n0 Zn) hZ (hw _ (List.mem_of_getElem? (i := 77) rfl)) (hw _ (List.mem_of_getElem? (i := 3) rfl)) (by decide) (by decide)) (g := (mkF m 132 #[.val (.int p0), .val (.int p1), .val (.int p2), .val (.int p3), .val (.int p4), .val (.int eb), .val (.int el), .val (.int (0 : Int32)), .val (.int (0 : Int32)), .val (.ref t1), .val (.ref t2), .val (.ref u1), .val (.ref u2), .val (.ref b28), .val (.int (1 : Int32)), .unset, .unset] [(.int eb), (.int p0)])) rfl (by rw [hml]; rfl) (argsL := [(.int p0), (.int eb)]) (rest := []) (lenOf pd_90437 rfl) rfl (by show 2 * 0 + _ ≤ _; exact Nat.le_of_eq rfl) (hb hby at_132) (fun _ _ => ⟨rfl, hq34, (by decide : 0 + 4 + 4 + 4 + 4 + 1 + 0 + 0 + 0 ≤ _), (by decide : 0 + 11 + 11 + 11 + 11 + 2 + 0 + 0 + 0 ≤ _)⟩)
          dsimp only [Pt.U, Pt.locs, Pt.cells, Pt.slots] at X40 l40 y40 z40 st40 hQ40
          rw [l40, y40, z40] at X40
          obtain ⟨rfl, Nq40, hq40⟩ := hQ40
          have N40 := Fr.app N34 Nq40
          have k41_ : ∀ t, Steps p.tables e below (T40.setTop (mkF m 135 #[.val (.int p0), .val (.int p1), .val (.int p2), .val (.int p3), .val (.int p4), .val (.int eb), .val (.int el), .val (.int (0 : Int32)), .val (.int (0 : Int32)), .val (.ref t1), .val (.ref t2), .val (.ref u1), .val (.ref u2), .val (.ref b28), .val (.int (1 : Int32)), .unset, .unset] [(.int (bi (own_cs p0 = own_cs eb)))])) t → Steps p.tables e below (s₁.setTop (mkF m 0 #[.val (.int p0), .val (.int p1), .val (.int p2), .val (.int p3), .val (.int p4), .unset, .unset, .unset, .unset, .unset, .unset, .unset, .unset, .unset, .unset, .unset, .unset] [])) t := fun t q => k39_ t (st40 t q)
          have k42_ : ∀ t, Steps p.tables e below (T40.setTop (mkF m 135 #[.val (.int p0), .val (.int p1), .val (.int p2), .val (.int p3), .val (.int p4), .val (.int eb), .val (.int el), .val (.int (0 : Int32)), .val (.int (0 : Int32)), .val (.ref t1), .val (.ref t2), .val (.ref u1), .val (.ref u2), .val (.ref b28), .val (.int (1 : Int32)), .unset, .unset] [(.int (1 : Int32))])) t → Steps p.tables e below (s₁.setTop (mkF m 0 #[.val (.int p0), .val (.int p1), .val (.int p2), .val (.int p3), .val (.int p4), .unset, .unset, .unset, .unset, .unset, .unset, .unset, .unset, .unset, .unset, .unset, .unset] [])) t := fun t q => k41_ t (Eq.mp (congrArg (fun z => Steps p.tables e below (T40.setTop (mkF m 135 #[.val (.int p0), .val (.int p1), .val (.int p2), .val (.int p3), .val (.int p4), .val (.int eb), .val (.int el), .val (.int (0 : Int32)), .val (.int (0 : Int32)), .val (.ref t1), .val (.ref t2), .val (.ref u1), .val (.ref u2), .val (.ref b28), .val (.int (1 : Int32)), .unset, .unset] [(.int z)])) t) (show (1 : Int32) = (bi (own_cs p0 = own_cs eb)) from (bi_t hA).symm)) q)
          have k43_ : ∀ t, Steps p.tables e below (T40.setTop (mkF m 138 #[.val (.int p0), .val (.int p1), .val (.int p2), .val (.int p3), .val (.int p4), .val (.int eb), .val (.int el), .val (.int (0 : Int32)), .val (.int (0 : Int32)), .val (.ref t1), .val (.ref t2), .val (.ref u1), .val (.ref u2), .val (.ref b28), .val (.int (1 : Int32)), .unset, .unset] [])) t → Steps p.tables e below (s₁.setTop (mkF m 0 #[.val (.int p0), .val (.int p1), .val (.int p2), .val (.int p3), .val (.int p4), .unset, .unset, .unset, .unset, .unset, .unset, .unset, .unset, .unset, .unset, .unset, .unset] [])) t := by
            intro t q
            refine k42_ _ ?_
            show Steps p.tables e below (T40.setTop (mkF m 135 #[.val (.int p0), .val (.int p1), .val (.int p2), .val (.int p3), .val (.int p4), .val (.int eb), .val (.int el), .val (.int (0 : Int32)), .val (.int (0 : Int32)), .val (.ref t1), .val (.ref t2), .val (.ref u1), .val (.ref u2), .val (.ref b28), .val (.int (1 : Int32)), .unset, .unset] [(.int (1 : Int32))])) _
            refine XS.ifNo X40.here hx rfl (hb hby at_135) rfl ((if0 _ _).trans (feq (by decide)).1) ?_
            show Steps p.tables e below (T40.setTop (mkF m 138 #[.val (.int p0), .val (.int p1), .val (.int p2), .val (.int p3), .val (.int p4), .val (.int eb), .val (.int el), .val (.int (0 : Int32)), .val (.int (0 : Int32)), .val (.ref t1), .val (.ref t2), .val (.ref u1), .val (.ref u2), .val (.ref b28), .val (.int (1 : Int32)), .unset, .unset] [])) _
            exact q
          have k44_ : ∀ t, Steps p.tables e below (T40.setTop (mkF m 147 #[.val (.int p0), .val (.int p1), .val (.int p2), .val (.int p3), .val (.int p4), .val (.int eb), .val (.int el), .val (.int (0 : Int32)), .val (.int (0 : Int32)), .val (.ref t1), .val (.ref t2), .val (.ref u1), .val (.ref u2), .val (.ref b28), .val (.int (1 : Int32)), .val (.int (1 : Int32)), .unset] [(.int (0 : Int32))])) t → Steps p.tables e below (s₁.setTop (mkF m 0 #[.val (.int p0), .val (.int p1), .val (.int p2), .val (.int p3), .val (.int p4), .unset, .unset, .unset, .unset, .unset, .unset, .unset, .unset, .unset, .unset, .unset, .unset] [])) t := by
            intro t q
            refine k43_ _ ?_
            show Steps p.tables e below (T40.setTop (mkF m 138 #[.val (.int p0), .val (.int p1), .val (.int p2), .val (.int p3), .val (.int p4), .val (.int eb), .val (.int el), .val (.int (0 : Int32)), .val (.int (0 : Int32)), .val (.ref t1), .val (.ref t2), .val (.ref u1), .val (.ref u2), .val (.ref b28), .val (.int (1 : Int32)), .unset, .unset] [])) _
            refine XS.iconst X40.here hx rfl (hb hby at_138) ?_
            refine XS.goto X40.here hx rfl (pc0 := 139) (pc' := 143) rfl (hb hby at_139) (by decide) (by decide) ?_
            show Steps p.tables e below (T40.setTop (mkF m 143 #[.val (.int p0), .val (.int p1), .val (.int p2), .val (.int p3), .val (.int p4), .val (.int eb), .val (.int el), .val (.int (0 : Int32)), .val (.int (0 : Int32)), .val (.ref t1), .val (.ref t2), .val (.ref u1), .val (.ref u2), .val (.ref b28), .val (.int (1 : Int32)), .unset, .unset] [(.int (1 : Int32))])) _
            refine XS.istore X40.here hx rfl (hb hby at_143) rfl (l' := #[.val (.int p0), .val (.int p1), .val (.int p2), .val (.int p3), .val (.int p4), .val (.int eb), .val (.int el), .val (.int (0 : Int32)), .val (.int (0 : Int32)), .val (.ref t1), .val (.ref t2), .val (.ref u1), .val (.ref u2), .val (.ref b28), .val (.int (1 : Int32)), .val (.int (1 : Int32)), .unset]) rfl ?_
            refine XS.iload X40.here hx rfl (hb hby at_145) rfl ?_
            show Steps p.tables e below (T40.setTop (mkF m 147 #[.val (.int p0), .val (.int p1), .val (.int p2), .val (.int p3), .val (.int p4), .val (.int eb), .val (.int el), .val (.int (0 : Int32)), .val (.int (0 : Int32)), .val (.ref t1), .val (.ref t2), .val (.ref u1), .val (.ref u2), .val (.ref b28), .val (.int (1 : Int32)), .val (.int (1 : Int32)), .unset] [(.int (0 : Int32))])) _
            exact q
          have k45_ : ∀ t, Steps p.tables e below (T40.setTop (mkF m 150 #[.val (.int p0), .val (.int p1), .val (.int p2), .val (.int p3), .val (.int p4), .val (.int eb), .val (.int el), .val (.int (0 : Int32)), .val (.int (0 : Int32)), .val (.ref t1), .val (.ref t2), .val (.ref u1), .val (.ref u2), .val (.ref b28), .val (.int (1 : Int32)), .val (.int (1 : Int32)), .unset] [])) t → Steps p.tables e below (s₁.setTop (mkF m 0 #[.val (.int p0), .val (.int p1), .val (.int p2), .val (.int p3), .val (.int p4), .unset, .unset, .unset, .unset, .unset, .unset, .unset, .unset, .unset, .unset, .unset, .unset] [])) t := by
            intro t q
            refine k44_ _ ?_
            show Steps p.tables e below (T40.setTop (mkF m 147 #[.val (.int p0), .val (.int p1), .val (.int p2), .val (.int p3), .val (.int p4), .val (.int eb), .val (.int el), .val (.int (0 : Int32)), .val (.int (0 : Int32)), .val (.ref t1), .val (.ref t2), .val (.ref u1), .val (.ref u2), .val (.ref b28), .val (.int (1 : Int32)), .val (.int (1 : Int32)), .unset] [(.int (0 : Int32))])) _
            refine XS.ifNo X40.here hx rfl (hb hby at_147) rfl ((if0 _ _).trans (teq rfl).2) ?_
            show Steps p.tables e below (T40.setTop (mkF m 150 #[.val (.int p0), .val (.int p1), .val (.int p2), .val (.int p3), .val (.int p4), .val (.int eb), .val (.int el), .val (.int (0 : Int32)), .val (.int (0 : Int32)), .val (.ref t1), .val (.ref t2), .val (.ref u1), .val (.ref u2), .val (.ref b28), .val (.int (1 : Int32)), .val (.int (1 : Int32)), .unset] [])) _
            exact q
          have k46_ : ∀ t, Steps p.tables e below (T40.setTop (mkF m 153 #[.val (.int p0), .val (.int p1), .val (.int p2), .val (.int p3), .val (.int p4), .val (.int eb), .val (.int el), .val (.int (0 : Int32)), .val (.int (0 : Int32)), .val (.ref t1), .val (.ref t2), .val (.ref u1), .val (.ref u2), .val (.ref b28), .val (.int (1 : Int32)), .val (.int (1 : Int32)), .unset] [(.int el), (.int p1)])) t → Steps p.tables e below (s₁.setTop (mkF m 0 #[.val (.int p0), .val (.int p1), .val (.int p2), .val (.int p3), .val (.int p4), .unset, .unset, .unset, .unset, .unset, .unset, .unset, .unset, .unset, .unset, .unset, .unset] [])) t := by
            intro t q
            refine k45_ _ ?_
            show Steps p.tables e below (T40.setTop (mkF m 150 #[.val (.int p0), .val (.int p1), .val (.int p2), .val (.int p3), .val (.int p4), .val (.int eb), .val (.int el), .val (.int (0 : Int32)), .val (.int (0 : Int32)), .val (.ref t1), .val (.ref t2), .val (.ref u1), .val (.ref u2), .val (.ref b28), .val (.int (1 : Int32)), .val (.int (1 : Int32)), .unset] [])) _
            refine XS.iloadN X40.here hx rfl (hb hby at_150) rfl ?_
            refine XS.iload X40.here hx rfl (hb hby at_151) rfl ?_
            show Steps p.tables e below (T40.setTop (mkF m 153 #[.val (.int p0), .val (.int p1), .val (.int p2), .val (.int p3), .val (.int p4), .val (.int eb), .val (.int el), .val (.int (0 : Int32)), .val (.int (0 : Int32)), .val (.ref t1), .val (.ref t2), .val (.ref u1), .val (.ref u2), .val (.ref b28), .val (.int (1 : Int32)), .val (.int (1 : Int32)), .unset] [(.int el), (.int p1)])) _
            exact q
          obtain ⟨_, _, ⟨T47, L47, kk47, n47⟩, -, X47, ⟨Lc47, hQ47, l47, y47, z47⟩, st47⟩ := Jvm.LawKit.callS X40 hx (y := (⟨"com/example/triplewright/triplewright/source/ElementNameMatchesPinLaw", "same", "(II)Z"⟩ : MethodName)) hown (mvT hZ (hw _ (List.mem_of_getElem? (i := 75) rfl))) (mvT hZ (hw _ (List.mem_of_getElem? (i := 76) rfl))) (mvT hZ (hw _ (List.mem_of_getElem? (i := 3) rfl))) (mvT hZ (hw _ (List.mem_of_getElem? (i := 77) rfl))) (by decide) (backOf (W := 0) (rmSa l Z a0 hw [] p1 el T31.heap n0 Zn) hZ (hw _ (List.mem_of_getElem? (i := 77) rfl)) (hw _ (List.mem_of_getElem? (i := 3) rfl)) (by decide) (by decide)) (g := (mkF m 153 #[.val (.int p0), .val (.int p1), .val (.int p2), .val (.int p3), .val (.int p4), .val (.int eb), .val (.int el), .val (.int (0 : Int32)), .val (.int (0 : Int32)), .val (.ref t1), .val (.ref t2), .val (.ref u1), .val (.ref u2), .val (.ref b28), .val (.int (1 : Int32)), .val (.int (1 : Int32)), .unset] [(.int el), (.int p1)])) rfl (by rw [hml]; rfl) (argsL := [(.int p1), (.int el)]) (rest := []) (lenOf pd_90437 rfl) rfl (by show 2 * 0 + _ ≤ _; exact Nat.le_of_eq rfl) (hb hby at_153) (fun _ _ => ⟨rfl, hq40, (by decide : 0 + 4 + 4 + 4 + 4 + 1 + 0 + 0 + 0 + 0 ≤ _), (by decide : 0 + 11 + 11 + 11 + 11 + 2 + 0 + 0 + 0 + 0 ≤ _)⟩)
          dsimp only [Pt.U, Pt.locs, Pt.cells, Pt.slots] at X47 l47 y47 z47 st47 hQ47
          rw [l47, y47, z47] at X47
          obtain ⟨rfl, Nq47, hq47⟩ := hQ47
          have N47 := Fr.app N40 Nq47
          have k48_ : ∀ t, Steps p.tables e below (T47.setTop (mkF m 156 #[.val (.int p0), .val (.int p1), .val (.int p2), .val (.int p3), .val (.int p4), .val (.int eb), .val (.int el), .val (.int (0 : Int32)), .val (.int (0 : Int32)), .val (.ref t1), .val (.ref t2), .val (.ref u1), .val (.ref u2), .val (.ref b28), .val (.int (1 : Int32)), .val (.int (1 : Int32)), .unset] [(.int (bi (own_cs p1 = own_cs el)))])) t → Steps p.tables e below (s₁.setTop (mkF m 0 #[.val (.int p0), .val (.int p1), .val (.int p2), .val (.int p3), .val (.int p4), .unset, .unset, .unset, .unset, .unset, .unset, .unset, .unset, .unset, .unset, .unset, .unset] [])) t := fun t q => k46_ t (st47 t q)
          have k49_ : ∀ t, Steps p.tables e below (T47.setTop (mkF m 156 #[.val (.int p0), .val (.int p1), .val (.int p2), .val (.int p3), .val (.int p4), .val (.int eb), .val (.int el), .val (.int (0 : Int32)), .val (.int (0 : Int32)), .val (.ref t1), .val (.ref t2), .val (.ref u1), .val (.ref u2), .val (.ref b28), .val (.int (1 : Int32)), .val (.int (1 : Int32)), .unset] [(.int (1 : Int32))])) t → Steps p.tables e below (s₁.setTop (mkF m 0 #[.val (.int p0), .val (.int p1), .val (.int p2), .val (.int p3), .val (.int p4), .unset, .unset, .unset, .unset, .unset, .unset, .unset, .unset, .unset, .unset, .unset, .unset] [])) t := fun t q => k48_ t (Eq.mp (congrArg (fun z => Steps p.tables e below (T47.setTop (mkF m 156 #[.val (.int p0), .val (.int p1), .val (.int p2), .val (.int p3), .val (.int p4), .val (.int eb), .val (.int el), .val (.int (0 : Int32)), .val (.int (0 : Int32)), .val (.ref t1), .val (.ref t2), .val (.ref u1), .val (.ref u2), .val (.ref b28), .val (.int (1 : Int32)), .val (.int (1 : Int32)), .unset] [(.int z)])) t) (show (1 : Int32) = (bi (own_cs p1 = own_cs el)) from (bi_t hB).symm)) q)
          have k50_ : ∀ t, Steps p.tables e below (T47.setTop (mkF m 159 #[.val (.int p0), .val (.int p1), .val (.int p2), .val (.int p3), .val (.int p4), .val (.int eb), .val (.int el), .val (.int (0 : Int32)), .val (.int (0 : Int32)), .val (.ref t1), .val (.ref t2), .val (.ref u1), .val (.ref u2), .val (.ref b28), .val (.int (1 : Int32)), .val (.int (1 : Int32)), .unset] [])) t → Steps p.tables e below (s₁.setTop (mkF m 0 #[.val (.int p0), .val (.int p1), .val (.int p2), .val (.int p3), .val (.int p4), .unset, .unset, .unset, .unset, .unset, .unset, .unset, .unset, .unset, .unset, .unset, .unset] [])) t := by
            intro t q
            refine k49_ _ ?_
            show Steps p.tables e below (T47.setTop (mkF m 156 #[.val (.int p0), .val (.int p1), .val (.int p2), .val (.int p3), .val (.int p4), .val (.int eb), .val (.int el), .val (.int (0 : Int32)), .val (.int (0 : Int32)), .val (.ref t1), .val (.ref t2), .val (.ref u1), .val (.ref u2), .val (.ref b28), .val (.int (1 : Int32)), .val (.int (1 : Int32)), .unset] [(.int (1 : Int32))])) _
            refine XS.ifNo X47.here hx rfl (hb hby at_156) rfl ((if0 _ _).trans (feq (by decide)).1) ?_
            show Steps p.tables e below (T47.setTop (mkF m 159 #[.val (.int p0), .val (.int p1), .val (.int p2), .val (.int p3), .val (.int p4), .val (.int eb), .val (.int el), .val (.int (0 : Int32)), .val (.int (0 : Int32)), .val (.ref t1), .val (.ref t2), .val (.ref u1), .val (.ref u2), .val (.ref b28), .val (.int (1 : Int32)), .val (.int (1 : Int32)), .unset] [])) _
            exact q
          have k51_ : ∀ t, Steps p.tables e below (T47.setTop (mkF m 170 #[.val (.int p0), .val (.int p1), .val (.int p2), .val (.int p3), .val (.int p4), .val (.int eb), .val (.int el), .val (.int (0 : Int32)), .val (.int (0 : Int32)), .val (.ref t1), .val (.ref t2), .val (.ref u1), .val (.ref u2), .val (.ref b28), .val (.int (1 : Int32)), .val (.int (1 : Int32)), .val (.int (1 : Int32))] [(.int (1 : Int32)), (.int (1 : Int32))])) t → Steps p.tables e below (s₁.setTop (mkF m 0 #[.val (.int p0), .val (.int p1), .val (.int p2), .val (.int p3), .val (.int p4), .unset, .unset, .unset, .unset, .unset, .unset, .unset, .unset, .unset, .unset, .unset, .unset] [])) t := by
            intro t q
            refine k50_ _ ?_
            show Steps p.tables e below (T47.setTop (mkF m 159 #[.val (.int p0), .val (.int p1), .val (.int p2), .val (.int p3), .val (.int p4), .val (.int eb), .val (.int el), .val (.int (0 : Int32)), .val (.int (0 : Int32)), .val (.ref t1), .val (.ref t2), .val (.ref u1), .val (.ref u2), .val (.ref b28), .val (.int (1 : Int32)), .val (.int (1 : Int32)), .unset] [])) _
            refine XS.iconst X47.here hx rfl (hb hby at_159) ?_
            refine XS.goto X47.here hx rfl (pc0 := 160) (pc' := 164) rfl (hb hby at_160) (by decide) (by decide) ?_
            show Steps p.tables e below (T47.setTop (mkF m 164 #[.val (.int p0), .val (.int p1), .val (.int p2), .val (.int p3), .val (.int p4), .val (.int eb), .val (.int el), .val (.int (0 : Int32)), .val (.int (0 : Int32)), .val (.ref t1), .val (.ref t2), .val (.ref u1), .val (.ref u2), .val (.ref b28), .val (.int (1 : Int32)), .val (.int (1 : Int32)), .unset] [(.int (1 : Int32))])) _
            refine XS.istore X47.here hx rfl (hb hby at_164) rfl (l' := #[.val (.int p0), .val (.int p1), .val (.int p2), .val (.int p3), .val (.int p4), .val (.int eb), .val (.int el), .val (.int (0 : Int32)), .val (.int (0 : Int32)), .val (.ref t1), .val (.ref t2), .val (.ref u1), .val (.ref u2), .val (.ref b28), .val (.int (1 : Int32)), .val (.int (1 : Int32)), .val (.int (1 : Int32))]) rfl ?_
            refine XS.iload X47.here hx rfl (hb hby at_166) rfl ?_
            show Steps p.tables e below (T47.setTop (mkF m 168 #[.val (.int p0), .val (.int p1), .val (.int p2), .val (.int p3), .val (.int p4), .val (.int eb), .val (.int el), .val (.int (0 : Int32)), .val (.int (0 : Int32)), .val (.ref t1), .val (.ref t2), .val (.ref u1), .val (.ref u2), .val (.ref b28), .val (.int (1 : Int32)), .val (.int (1 : Int32)), .val (.int (1 : Int32))] [(.int (1 : Int32))])) _
            refine XS.iload X47.here hx rfl (hb hby at_168) rfl ?_
            show Steps p.tables e below (T47.setTop (mkF m 170 #[.val (.int p0), .val (.int p1), .val (.int p2), .val (.int p3), .val (.int p4), .val (.int eb), .val (.int el), .val (.int (0 : Int32)), .val (.int (0 : Int32)), .val (.ref t1), .val (.ref t2), .val (.ref u1), .val (.ref u2), .val (.ref b28), .val (.int (1 : Int32)), .val (.int (1 : Int32)), .val (.int (1 : Int32))] [(.int (1 : Int32)), (.int (1 : Int32))])) _
            exact q
          have k52_ : ∀ t, Steps p.tables e below (T47.setTop (mkF m 173 #[.val (.int p0), .val (.int p1), .val (.int p2), .val (.int p3), .val (.int p4), .val (.int eb), .val (.int el), .val (.int (0 : Int32)), .val (.int (0 : Int32)), .val (.ref t1), .val (.ref t2), .val (.ref u1), .val (.ref u2), .val (.ref b28), .val (.int (1 : Int32)), .val (.int (1 : Int32)), .val (.int (1 : Int32))] [(.int (1 : Int32))])) t → Steps p.tables e below (s₁.setTop (mkF m 0 #[.val (.int p0), .val (.int p1), .val (.int p2), .val (.int p3), .val (.int p4), .unset, .unset, .unset, .unset, .unset, .unset, .unset, .unset, .unset, .unset, .unset, .unset] [])) t := by
            intro t q
            refine k51_ _ ?_
            show Steps p.tables e below (T47.setTop (mkF m 170 #[.val (.int p0), .val (.int p1), .val (.int p2), .val (.int p3), .val (.int p4), .val (.int eb), .val (.int el), .val (.int (0 : Int32)), .val (.int (0 : Int32)), .val (.ref t1), .val (.ref t2), .val (.ref u1), .val (.ref u2), .val (.ref b28), .val (.int (1 : Int32)), .val (.int (1 : Int32)), .val (.int (1 : Int32))] [(.int (1 : Int32)), (.int (1 : Int32))])) _
            refine XS.ifNo X47.here hx rfl (hb hby at_170) rfl ((if0 _ _).trans (feq (by decide)).1) ?_
            show Steps p.tables e below (T47.setTop (mkF m 173 #[.val (.int p0), .val (.int p1), .val (.int p2), .val (.int p3), .val (.int p4), .val (.int eb), .val (.int el), .val (.int (0 : Int32)), .val (.int (0 : Int32)), .val (.ref t1), .val (.ref t2), .val (.ref u1), .val (.ref u2), .val (.ref b28), .val (.int (1 : Int32)), .val (.int (1 : Int32)), .val (.int (1 : Int32))] [(.int (1 : Int32))])) _
            exact q
          have k53_ : ∀ t, Steps p.tables e below (T47.setTop (mkF m 175 #[.val (.int p0), .val (.int p1), .val (.int p2), .val (.int p3), .val (.int p4), .val (.int eb), .val (.int el), .val (.int (0 : Int32)), .val (.int (0 : Int32)), .val (.ref t1), .val (.ref t2), .val (.ref u1), .val (.ref u2), .val (.ref b28), .val (.int (1 : Int32)), .val (.int (1 : Int32)), .val (.int (1 : Int32))] [(.int (1 : Int32)), (.int (1 : Int32))])) t → Steps p.tables e below (s₁.setTop (mkF m 0 #[.val (.int p0), .val (.int p1), .val (.int p2), .val (.int p3), .val (.int p4), .unset, .unset, .unset, .unset, .unset, .unset, .unset, .unset, .unset, .unset, .unset, .unset] [])) t := by
            intro t q
            refine k52_ _ ?_
            show Steps p.tables e below (T47.setTop (mkF m 173 #[.val (.int p0), .val (.int p1), .val (.int p2), .val (.int p3), .val (.int p4), .val (.int eb), .val (.int el), .val (.int (0 : Int32)), .val (.int (0 : Int32)), .val (.ref t1), .val (.ref t2), .val (.ref u1), .val (.ref u2), .val (.ref b28), .val (.int (1 : Int32)), .val (.int (1 : Int32)), .val (.int (1 : Int32))] [(.int (1 : Int32))])) _
            refine XS.iload X47.here hx rfl (hb hby at_173) rfl ?_
            show Steps p.tables e below (T47.setTop (mkF m 175 #[.val (.int p0), .val (.int p1), .val (.int p2), .val (.int p3), .val (.int p4), .val (.int eb), .val (.int el), .val (.int (0 : Int32)), .val (.int (0 : Int32)), .val (.ref t1), .val (.ref t2), .val (.ref u1), .val (.ref u2), .val (.ref b28), .val (.int (1 : Int32)), .val (.int (1 : Int32)), .val (.int (1 : Int32))] [(.int (1 : Int32)), (.int (1 : Int32))])) _
            exact q
          have k54_ : ∀ t, Steps p.tables e below (T47.setTop (mkF m 178 #[.val (.int p0), .val (.int p1), .val (.int p2), .val (.int p3), .val (.int p4), .val (.int eb), .val (.int el), .val (.int (0 : Int32)), .val (.int (0 : Int32)), .val (.ref t1), .val (.ref t2), .val (.ref u1), .val (.ref u2), .val (.ref b28), .val (.int (1 : Int32)), .val (.int (1 : Int32)), .val (.int (1 : Int32))] [(.int (1 : Int32))])) t → Steps p.tables e below (s₁.setTop (mkF m 0 #[.val (.int p0), .val (.int p1), .val (.int p2), .val (.int p3), .val (.int p4), .unset, .unset, .unset, .unset, .unset, .unset, .unset, .unset, .unset, .unset, .unset, .unset] [])) t := by
            intro t q
            refine k53_ _ ?_
            show Steps p.tables e below (T47.setTop (mkF m 175 #[.val (.int p0), .val (.int p1), .val (.int p2), .val (.int p3), .val (.int p4), .val (.int eb), .val (.int el), .val (.int (0 : Int32)), .val (.int (0 : Int32)), .val (.ref t1), .val (.ref t2), .val (.ref u1), .val (.ref u2), .val (.ref b28), .val (.int (1 : Int32)), .val (.int (1 : Int32)), .val (.int (1 : Int32))] [(.int (1 : Int32)), (.int (1 : Int32))])) _
            refine XS.ifNo X47.here hx rfl (hb hby at_175) rfl ((if0 _ _).trans (feq (by decide)).1) ?_
            show Steps p.tables e below (T47.setTop (mkF m 178 #[.val (.int p0), .val (.int p1), .val (.int p2), .val (.int p3), .val (.int p4), .val (.int eb), .val (.int el), .val (.int (0 : Int32)), .val (.int (0 : Int32)), .val (.ref t1), .val (.ref t2), .val (.ref u1), .val (.ref u2), .val (.ref b28), .val (.int (1 : Int32)), .val (.int (1 : Int32)), .val (.int (1 : Int32))] [(.int (1 : Int32))])) _
            exact q
          have k55_ : ∀ t, Steps p.tables e below (T47.setTop (mkF m 183 #[.val (.int p0), .val (.int p1), .val (.int p2), .val (.int p3), .val (.int p4), .val (.int eb), .val (.int el), .val (.int (0 : Int32)), .val (.int (0 : Int32)), .val (.ref t1), .val (.ref t2), .val (.ref u1), .val (.ref u2), .val (.ref b28), .val (.int (1 : Int32)), .val (.int (1 : Int32)), .val (.int (1 : Int32))] [(.int (1 : Int32)), (.int (1 : Int32))])) t → Steps p.tables e below (s₁.setTop (mkF m 0 #[.val (.int p0), .val (.int p1), .val (.int p2), .val (.int p3), .val (.int p4), .unset, .unset, .unset, .unset, .unset, .unset, .unset, .unset, .unset, .unset, .unset, .unset] [])) t := by
            intro t q
            refine k54_ _ ?_
            show Steps p.tables e below (T47.setTop (mkF m 178 #[.val (.int p0), .val (.int p1), .val (.int p2), .val (.int p3), .val (.int p4), .val (.int eb), .val (.int el), .val (.int (0 : Int32)), .val (.int (0 : Int32)), .val (.ref t1), .val (.ref t2), .val (.ref u1), .val (.ref u2), .val (.ref b28), .val (.int (1 : Int32)), .val (.int (1 : Int32)), .val (.int (1 : Int32))] [(.int (1 : Int32))])) _
            refine XS.iconst X47.here hx rfl (hb hby at_178) ?_
            refine XS.goto X47.here hx rfl (pc0 := 179) (pc' := 183) rfl (hb hby at_179) (by decide) (by decide) ?_
            show Steps p.tables e below (T47.setTop (mkF m 183 #[.val (.int p0), .val (.int p1), .val (.int p2), .val (.int p3), .val (.int p4), .val (.int eb), .val (.int el), .val (.int (0 : Int32)), .val (.int (0 : Int32)), .val (.ref t1), .val (.ref t2), .val (.ref u1), .val (.ref u2), .val (.ref b28), .val (.int (1 : Int32)), .val (.int (1 : Int32)), .val (.int (1 : Int32))] [(.int (1 : Int32)), (.int (1 : Int32))])) _
            exact q
          have k56_ : ∀ t, Steps p.tables e below (T47.setTop (mkF m 186 #[.val (.int p0), .val (.int p1), .val (.int p2), .val (.int p3), .val (.int p4), .val (.int eb), .val (.int el), .val (.int (0 : Int32)), .val (.int (0 : Int32)), .val (.ref t1), .val (.ref t2), .val (.ref u1), .val (.ref u2), .val (.ref b28), .val (.int (1 : Int32)), .val (.int (1 : Int32)), .val (.int (1 : Int32))] [])) t → Steps p.tables e below (s₁.setTop (mkF m 0 #[.val (.int p0), .val (.int p1), .val (.int p2), .val (.int p3), .val (.int p4), .unset, .unset, .unset, .unset, .unset, .unset, .unset, .unset, .unset, .unset, .unset, .unset] [])) t := by
            intro t q
            refine k55_ _ ?_
            show Steps p.tables e below (T47.setTop (mkF m 183 #[.val (.int p0), .val (.int p1), .val (.int p2), .val (.int p3), .val (.int p4), .val (.int eb), .val (.int el), .val (.int (0 : Int32)), .val (.int (0 : Int32)), .val (.ref t1), .val (.ref t2), .val (.ref u1), .val (.ref u2), .val (.ref b28), .val (.int (1 : Int32)), .val (.int (1 : Int32)), .val (.int (1 : Int32))] [(.int (1 : Int32)), (.int (1 : Int32))])) _
            refine XS.icmpNo X47.here hx rfl (hb hby at_183) rfl (teq rfl).2 ?_
            show Steps p.tables e below (T47.setTop (mkF m 186 #[.val (.int p0), .val (.int p1), .val (.int p2), .val (.int p3), .val (.int p4), .val (.int eb), .val (.int el), .val (.int (0 : Int32)), .val (.int (0 : Int32)), .val (.ref t1), .val (.ref t2), .val (.ref u1), .val (.ref u2), .val (.ref b28), .val (.int (1 : Int32)), .val (.int (1 : Int32)), .val (.int (1 : Int32))] [])) _
            exact q
          have k57_ : ∀ t, Steps p.tables e below (T47.setTop (mkF m 191 #[.val (.int p0), .val (.int p1), .val (.int p2), .val (.int p3), .val (.int p4), .val (.int eb), .val (.int el), .val (.int (0 : Int32)), .val (.int (0 : Int32)), .val (.ref t1), .val (.ref t2), .val (.ref u1), .val (.ref u2), .val (.ref b28), .val (.int (1 : Int32)), .val (.int (1 : Int32)), .val (.int (1 : Int32))] [(.int (1 : Int32))])) t → Steps p.tables e below (s₁.setTop (mkF m 0 #[.val (.int p0), .val (.int p1), .val (.int p2), .val (.int p3), .val (.int p4), .unset, .unset, .unset, .unset, .unset, .unset, .unset, .unset, .unset, .unset, .unset, .unset] [])) t := by
            intro t q
            refine k56_ _ ?_
            show Steps p.tables e below (T47.setTop (mkF m 186 #[.val (.int p0), .val (.int p1), .val (.int p2), .val (.int p3), .val (.int p4), .val (.int eb), .val (.int el), .val (.int (0 : Int32)), .val (.int (0 : Int32)), .val (.ref t1), .val (.ref t2), .val (.ref u1), .val (.ref u2), .val (.ref b28), .val (.int (1 : Int32)), .val (.int (1 : Int32)), .val (.int (1 : Int32))] [])) _
            refine XS.iconst X47.here hx rfl (hb hby at_186) ?_
            refine XS.goto X47.here hx rfl (pc0 := 187) (pc' := 191) rfl (hb hby at_187) (by decide) (by decide) ?_
            show Steps p.tables e below (T47.setTop (mkF m 191 #[.val (.int p0), .val (.int p1), .val (.int p2), .val (.int p3), .val (.int p4), .val (.int eb), .val (.int el), .val (.int (0 : Int32)), .val (.int (0 : Int32)), .val (.ref t1), .val (.ref t2), .val (.ref u1), .val (.ref u2), .val (.ref b28), .val (.int (1 : Int32)), .val (.int (1 : Int32)), .val (.int (1 : Int32))] [(.int (1 : Int32))])) _
            exact q
          obtain ⟨fs, hr, hrun, hended, r1, r2, r3, r4⟩ := Stand.leaveW (s := s) (vm₁ := T25.vm) X47 hS (by rw [hq47]; exact hk) (v := some (.int (1 : Int32))) (fun h => by rw [Bd.returns] at h; cases h)
          refine ⟨_, _, pre0 _ (k57_ _ ?_), hrun, hended, _, rfl, N47, r1, r2, r3, r4.mono (by decide) (by decide)⟩
          · show Steps p.tables e below (T47.setTop (mkF m 191 #[.val (.int p0), .val (.int p1), .val (.int p2), .val (.int p3), .val (.int p4), .val (.int eb), .val (.int el), .val (.int (0 : Int32)), .val (.int (0 : Int32)), .val (.ref t1), .val (.ref t2), .val (.ref u1), .val (.ref u2), .val (.ref b28), .val (.int (1 : Int32)), .val (.int (1 : Int32)), .val (.int (1 : Int32))] [(.int (1 : Int32))])) _
            exact retN X47 hx (t := .boolean) Bd.returns (by simp) (hb hby at_191) hr
        · have k58_ : ∀ t, Steps p.tables e below (T34.setTop (mkF m 122 #[.val (.int p0), .val (.int p1), .val (.int p2), .val (.int p3), .val (.int p4), .val (.int eb), .val (.int el), .val (.int (0 : Int32)), .val (.int (0 : Int32)), .val (.ref t1), .val (.ref t2), .val (.ref u1), .val (.ref u2), .val (.ref b28), .unset, .unset, .unset] [(.int (0 : Int32))])) t → Steps p.tables e below (s₁.setTop (mkF m 0 #[.val (.int p0), .val (.int p1), .val (.int p2), .val (.int p3), .val (.int p4), .unset, .unset, .unset, .unset, .unset, .unset, .unset, .unset, .unset, .unset, .unset, .unset] [])) t := fun t q => k35_ t (Eq.mp (congrArg (fun z => Steps p.tables e below (T34.setTop (mkF m 122 #[.val (.int p0), .val (.int p1), .val (.int p2), .val (.int p3), .val (.int p4), .val (.int eb), .val (.int el), .val (.int (0 : Int32)), .val (.int (0 : Int32)), .val (.ref t1), .val (.ref t2), .val (.ref u1), .val (.ref u2), .val (.ref b28), .unset, .unset, .unset] [(.int z)])) t) (show (0 : Int32) = (bi ((own_cs p0 = own_cs eb) ∧ (own_cs p1 = own_cs el))) from (bi_f fun z => hB z.2).symm)) q)
          have k59_ : ∀ t, Steps p.tables e below (T34.setTop (mkF m 126 #[.val (.int p0), .val (.int p1), .val (.int p2), .val (.int p3), .val (.int p4), .val (.int eb), .val (.int el), .val (.int (0 : Int32)), .val (.int (0 : Int32)), .val (.ref t1), .val (.ref t2), .val (.ref u1), .val (.ref u2), .val (.ref b28), .val (.int (0 : Int32)), .unset, .unset] [(.int (0 : Int32))])) t → Steps p.tables e below (s₁.setTop (mkF m 0 #[.val (.int p0), .val (.int p1), .val (.int p2), .val (.int p3), .val (.int p4), .unset, .unset, .unset, .unset, .unset, .unset, .unset, .unset, .unset, .unset, .unset, .unset] [])) t := by
            intro t q
            refine k58_ _ ?_
            show Steps p.tables e below (T34.setTop (mkF m 122 #[.val (.int p0), .val (.int p1), .val (.int p2), .val (.int p3), .val (.int p4), .val (.int eb), .val (.int el), .val (.int (0 : Int32)), .val (.int (0 : Int32)), .val (.ref t1), .val (.ref t2), .val (.ref u1), .val (.ref u2), .val (.ref b28), .unset, .unset, .unset] [(.int (0 : Int32))])) _
            refine XS.istore X34.here hx rfl (hb hby at_122) rfl (l' := #[.val (.int p0), .val (.int p1), .val (.int p2), .val (.int p3), .val (.int p4), .val (.int eb), .val (.int el), .val (.int (0 : Int32)), .val (.int (0 : Int32)), .val (.ref t1), .val (.ref t2), .val (.ref u1), .val (.ref u2), .val (.ref b28), .val (.int (0 : Int32)), .unset, .unset]) rfl ?_
            refine XS.iload X34.here hx rfl (hb hby at_124) rfl ?_
            show Steps p.tables e below (T34.setTop (mkF m 126 #[.val (.int p0), .val (.int p1), .val (.int p2), .val (.int p3), .val (.int p4), .val (.int eb), .val (.int el), .val (.int (0 : Int32)), .val (.int (0 : Int32)), .val (.ref t1), .val (.ref t2), .val (.ref u1), .val (.ref u2), .val (.ref b28), .val (.int (0 : Int32)), .unset, .unset] [(.int (0 : Int32))])) _
            exact q
          have k60_ : ∀ t, Steps p.tables e below (T34.setTop (mkF m 129 #[.val (.int p0), .val (.int p1), .val (.int p2), .val (.int p3), .val (.int p4), .val (.int eb), .val (.int el), .val (.int (0 : Int32)), .val (.int (0 : Int32)), .val (.ref t1), .val (.ref t2), .val (.ref u1), .val (.ref u2), .val (.ref b28), .val (.int (0 : Int32)), .unset, .unset] [])) t → Steps p.tables e below (s₁.setTop (mkF m 0 #[.val (.int p0), .val (.int p1), .val (.int p2), .val (.int p3), .val (.int p4), .unset, .unset, .unset, .unset, .unset, .unset, .unset, .unset, .unset, .unset, .unset, .unset] [])) t := by
            intro t q
            refine k59_ _ ?_
            show Steps p.tables e below (T34.setTop (mkF m 126 #[.val (.int p0), .val (.int p1), .val (.int p2), .val (.int p3), .val (.int p4), .val (.int eb), .val (.int el), .val (.int (0 : Int32)), .val (.int (0 : Int32)), .val (.ref t1), .val (.ref t2), .val (.ref u1), .val (.ref u2), .val (.ref b28), .val (.int (0 : Int32)), .unset, .unset] [(.int (0 : Int32))])) _
            refine XS.ifNo X34.here hx rfl (hb hby at_126) rfl ((if0 _ _).trans (teq rfl).2) ?_
            show Steps p.tables e below (T34.setTop (mkF m 129 #[.val (.int p0), .val (.int p1), .val (.int p2), .val (.int p3), .val (.int p4), .val (.int eb), .val (.int el), .val (.int (0 : Int32)), .val (.int (0 : Int32)), .val (.ref t1), .val (.ref t2), .val (.ref u1), .val (.ref u2), .val (.ref b28), .val (.int (0 : Int32)), .unset, .unset] [])) _
            exact q
          have k61_ : ∀ t, Steps p.tables e below (T34.setTop (mkF m 132 #[.val (.int p0), .val (.int p1), .val (.int p2), .val (.int p3), .val (.int p4), .val (.int eb), .val (.int el), .val (.int (0 : Int32)), .val (.int (0 : Int32)), .val (.ref t1), .val (.ref t2), .val (.ref u1), .val (.ref u2), .val (.ref b28), .val (.int (0 : Int32)), .unset, .unset] [(.int eb), (.int p0)])) t → Steps p.tables e below (s₁.setTop (mkF m 0 #[.val (.int p0), .val (.int p1), .val (.int p2), .val (.int p3), .val (.int p4), .unset, .unset, .unset, .unset, .unset, .unset, .unset, .unset, .unset, .unset, .unset, .unset] [])) t := by
            intro t q
            refine k60_ _ ?_
            show Steps p.tables e below (T34.setTop (mkF m 129 #[.val (.int p0), .val (.int p1), .val (.int p2), .val (.int p3), .val (.int p4), .val (.int eb), .val (.int el), .val (.int (0 : Int32)), .val (.int (0 : Int32)), .val (.ref t1), .val (.ref t2), .val (.ref u1), .val (.ref u2), .val (.ref b28), .val (.int (0 : Int32)), .unset, .unset] [])) _
            refine XS.iloadN X34.here hx rfl (hb hby at_129) rfl ?_
            refine XS.iload X34.here hx rfl (hb hby at_130) rfl ?_
            show Steps p.tables e below (T34.setTop (mkF m 132 #[.val (.int p0), .val (.int p1), .val (.int p2), .val (.int p3), .val (.int p4), .val (.int eb), .val (.int el), .val (.int (0 : Int32)), .val (.int (0 : Int32)), .val (.ref t1), .val (.ref t2), .val (.ref u1), .val (.ref u2), .val (.ref b28), .val (.int (0 : Int32)), .unset, .unset] [(.int eb), (.int p0)])) _
            exact q
          obtain ⟨_, _, ⟨T62, L62, kk62, n62⟩, -, X62, ⟨Lc62, hQ62, l62, y62, z62⟩, st62⟩ := Jvm.LawKit.callS X34 hx (y := (⟨"com/example/triplewright/triplewright/source/ElementNameMatchesPinLaw", "same", "(II)Z"⟩ : MethodName)) hown (mvT hZ (hw _ (List.mem_of_getElem? (i := 75) rfl))) (mvT hZ (hw _ (List.mem_of_getElem? (i := 76) rfl))) (mvT hZ (hw _ (List.mem_of_getElem? (i := 3) rfl))) (mvT hZ (hw _ (List.mem_of_getElem? (i := 77) rfl))) (by decide) (backOf (W := 0) (rmSa l Z a0 hw [] p0 eb T31.heap n0 Zn) hZ (hw _ (List.mem_of_getElem? (i := 77) rfl)) (hw _ (List.mem_of_getElem? (i := 3) rfl)) (by decide) (by decide)) (g := (mkF m 132 #[.val (.int p0), .val (.int p1), .val (.int p2), .val (.int p3), .val (.int p4), .val (.int eb), .val (.int el), .val (.int (0 : Int32)), .val (.int (0 : Int32)), .val (.ref t1), .val (.ref t2), .val (.ref u1), .val (.ref u2), .val (.ref b28), .val (.int (0 : Int32)), .unset, .unset] [(.int eb), (.int p0)])) rfl (by rw [hml]; rfl) (argsL := [(.int p0), (.int eb)]) (rest := []) (lenOf pd_90437 rfl) rfl (by show 2 * 0 + _ ≤ _; exact Nat.le_of_eq rfl) (hb hby at_132) (fun _ _ => ⟨rfl, hq34, (by decide : 0 + 4 + 4 + 4 + 4 + 1 + 0 + 0 + 0 ≤ _), (by decide : 0 + 11 + 11 + 11 + 11 + 2 + 0 + 0 + 0 ≤ _)⟩)
          dsimp only [Pt.U, Pt.locs, Pt.cells, Pt.slots] at X62 l62 y62 z62 st62 hQ62
          rw [l62, y62, z62] at X62
          obtain ⟨rfl, Nq62, hq62⟩ := hQ62
          have N62 := Fr.app N34 Nq62
          have k63_ : ∀ t, Steps p.tables e below (T62.setTop (mkF m 135 #[.val (.int p0), .val (.int p1), .val (.int p2), .val (.int p3), .val (.int p4), .val (.int eb), .val (.int el), .val (.int (0 : Int32)), .val (.int (0 : Int32)), .val (.ref t1), .val (.ref t2), .val (.ref u1), .val (.ref u2), .val (.ref b28), .val (.int (0 : Int32)), .unset, .unset] [(.int (bi (own_cs p0 = own_cs eb)))])) t → Steps p.tables e below (s₁.setTop (mkF m 0 #[.val (.int p0), .val (.int p1), .val (.int p2), .val (.int p3), .val (.int p4), .unset, .unset, .unset, .unset, .unset, .unset, .unset, .unset, .unset, .unset, .unset, .unset] [])) t := fun t q => k61_ t (st62 t q)
          have k64_ : ∀ t, Steps p.tables e below (T62.setTop (mkF m 135 #[.val (.int p0), .val (.int p1), .val (.int p2), .val (.int p3), .val (.int p4), .val (.int eb), .val (.int el), .val (.int (0 : Int32)), .val (.int (0 : Int32)), .val (.ref t1), .val (.ref t2), .val (.ref u1), .val (.ref u2), .val (.ref b28), .val (.int (0 : Int32)), .unset, .unset] [(.int (1 : Int32))])) t → Steps p.tables e below (s₁.setTop (mkF m 0 #[.val (.int p0), .val (.int p1), .val (.int p2), .val (.int p3), .val (.int p4), .unset, .unset, .unset, .unset, .unset, .unset, .unset, .unset, .unset, .unset, .unset, .unset] [])) t := fun t q => k63_ t (Eq.mp (congrArg (fun z => Steps p.tables e below (T62.setTop (mkF m 135 #[.val (.int p0), .val (.int p1), .val (.int p2), .val (.int p3), .val (.int p4), .val (.int eb), .val (.int el), .val (.int (0 : Int32)), .val (.int (0 : Int32)), .val (.ref t1), .val (.ref t2), .val (.ref u1), .val (.ref u2), .val (.ref b28), .val (.int (0 : Int32)), .unset, .unset] [(.int z)])) t) (show (1 : Int32) = (bi (own_cs p0 = own_cs eb)) from (bi_t hA).symm)) q)
          have k65_ : ∀ t, Steps p.tables e below (T62.setTop (mkF m 138 #[.val (.int p0), .val (.int p1), .val (.int p2), .val (.int p3), .val (.int p4), .val (.int eb), .val (.int el), .val (.int (0 : Int32)), .val (.int (0 : Int32)), .val (.ref t1), .val (.ref t2), .val (.ref u1), .val (.ref u2), .val (.ref b28), .val (.int (0 : Int32)), .unset, .unset] [])) t → Steps p.tables e below (s₁.setTop (mkF m 0 #[.val (.int p0), .val (.int p1), .val (.int p2), .val (.int p3), .val (.int p4), .unset, .unset, .unset, .unset, .unset, .unset, .unset, .unset, .unset, .unset, .unset, .unset] [])) t := by
            intro t q
            refine k64_ _ ?_
            show Steps p.tables e below (T62.setTop (mkF m 135 #[.val (.int p0), .val (.int p1), .val (.int p2), .val (.int p3), .val (.int p4), .val (.int eb), .val (.int el), .val (.int (0 : Int32)), .val (.int (0 : Int32)), .val (.ref t1), .val (.ref t2), .val (.ref u1), .val (.ref u2), .val (.ref b28), .val (.int (0 : Int32)), .unset, .unset] [(.int (1 : Int32))])) _
            refine XS.ifNo X62.here hx rfl (hb hby at_135) rfl ((if0 _ _).trans (feq (by decide)).1) ?_
            show Steps p.tables e below (T62.setTop (mkF m 138 #[.val (.int p0), .val (.int p1), .val (.int p2), .val (.int p3), .val (.int p4), .val (.int eb), .val (.int el), .val (.int (0 : Int32)), .val (.int (0 : Int32)), .val (.ref t1), .val (.ref t2), .val (.ref u1), .val (.ref u2), .val (.ref b28), .val (.int (0 : Int32)), .unset, .unset] [])) _
            exact q
          have k66_ : ∀ t, Steps p.tables e below (T62.setTop (mkF m 147 #[.val (.int p0), .val (.int p1), .val (.int p2), .val (.int p3), .val (.int p4), .val (.int eb), .val (.int el), .val (.int (0 : Int32)), .val (.int (0 : Int32)), .val (.ref t1), .val (.ref t2), .val (.ref u1), .val (.ref u2), .val (.ref b28), .val (.int (0 : Int32)), .val (.int (1 : Int32)), .unset] [(.int (0 : Int32))])) t → Steps p.tables e below (s₁.setTop (mkF m 0 #[.val (.int p0), .val (.int p1), .val (.int p2), .val (.int p3), .val (.int p4), .unset, .unset, .unset, .unset, .unset, .unset, .unset, .unset, .unset, .unset, .unset, .unset] [])) t := by
            intro t q
            refine k65_ _ ?_
            show Steps p.tables e below (T62.setTop (mkF m 138 #[.val (.int p0), .val (.int p1), .val (.int p2), .val (.int p3), .val (.int p4), .val (.int eb), .val (.int el), .val (.int (0 : Int32)), .val (.int (0 : Int32)), .val (.ref t1), .val (.ref t2), .val (.ref u1), .val (.ref u2), .val (.ref b28), .val (.int (0 : Int32)), .unset, .unset] [])) _
            refine XS.iconst X62.here hx rfl (hb hby at_138) ?_
            refine XS.goto X62.here hx rfl (pc0 := 139) (pc' := 143) rfl (hb hby at_139) (by decide) (by decide) ?_
            show Steps p.tables e below (T62.setTop (mkF m 143 #[.val (.int p0), .val (.int p1), .val (.int p2), .val (.int p3), .val (.int p4), .val (.int eb), .val (.int el), .val (.int (0 : Int32)), .val (.int (0 : Int32)), .val (.ref t1), .val (.ref t2), .val (.ref u1), .val (.ref u2), .val (.ref b28), .val (.int (0 : Int32)), .unset, .unset] [(.int (1 : Int32))])) _
            refine XS.istore X62.here hx rfl (hb hby at_143) rfl (l' := #[.val (.int p0), .val (.int p1), .val (.int p2), .val (.int p3), .val (.int p4), .val (.int eb), .val (.int el), .val (.int (0 : Int32)), .val (.int (0 : Int32)), .val (.ref t1), .val (.ref t2), .val (.ref u1), .val (.ref u2), .val (.ref b28), .val (.int (0 : Int32)), .val (.int (1 : Int32)), .unset]) rfl ?_
            refine XS.iload X62.here hx rfl (hb hby at_145) rfl ?_
            show Steps p.tables e below (T62.setTop (mkF m 147 #[.val (.int p0), .val (.int p1), .val (.int p2), .val (.int p3), .val (.int p4), .val (.int eb), .val (.int el), .val (.int (0 : Int32)), .val (.int (0 : Int32)), .val (.ref t1), .val (.ref t2), .val (.ref u1), .val (.ref u2), .val (.ref b28), .val (.int (0 : Int32)), .val (.int (1 : Int32)), .unset] [(.int (0 : Int32))])) _
            exact q
          have k67_ : ∀ t, Steps p.tables e below (T62.setTop (mkF m 150 #[.val (.int p0), .val (.int p1), .val (.int p2), .val (.int p3), .val (.int p4), .val (.int eb), .val (.int el), .val (.int (0 : Int32)), .val (.int (0 : Int32)), .val (.ref t1), .val (.ref t2), .val (.ref u1), .val (.ref u2), .val (.ref b28), .val (.int (0 : Int32)), .val (.int (1 : Int32)), .unset] [])) t → Steps p.tables e below (s₁.setTop (mkF m 0 #[.val (.int p0), .val (.int p1), .val (.int p2), .val (.int p3), .val (.int p4), .unset, .unset, .unset, .unset, .unset, .unset, .unset, .unset, .unset, .unset, .unset, .unset] [])) t := by
            intro t q
            refine k66_ _ ?_
            show Steps p.tables e below (T62.setTop (mkF m 147 #[.val (.int p0), .val (.int p1), .val (.int p2), .val (.int p3), .val (.int p4), .val (.int eb), .val (.int el), .val (.int (0 : Int32)), .val (.int (0 : Int32)), .val (.ref t1), .val (.ref t2), .val (.ref u1), .val (.ref u2), .val (.ref b28), .val (.int (0 : Int32)), .val (.int (1 : Int32)), .unset] [(.int (0 : Int32))])) _
            refine XS.ifNo X62.here hx rfl (hb hby at_147) rfl ((if0 _ _).trans (teq rfl).2) ?_
            show Steps p.tables e below (T62.setTop (mkF m 150 #[.val (.int p0), .val (.int p1), .val (.int p2), .val (.int p3), .val (.int p4), .val (.int eb), .val (.int el), .val (.int (0 : Int32)), .val (.int (0 : Int32)), .val (.ref t1), .val (.ref t2), .val (.ref u1), .val (.ref u2), .val (.ref b28), .val (.int (0 : Int32)), .val (.int (1 : Int32)), .unset] [])) _
            exact q
          have k68_ : ∀ t, Steps p.tables e below (T62.setTop (mkF m 153 #[.val (.int p0), .val (.int p1), .val (.int p2), .val (.int p3), .val (.int p4), .val (.int eb), .val (.int el), .val (.int (0 : Int32)), .val (.int (0 : Int32)), .val (.ref t1), .val (.ref t2), .val (.ref u1), .val (.ref u2), .val (.ref b28), .val (.int (0 : Int32)), .val (.int (1 : Int32)), .unset] [(.int el), (.int p1)])) t → Steps p.tables e below (s₁.setTop (mkF m 0 #[.val (.int p0), .val (.int p1), .val (.int p2), .val (.int p3), .val (.int p4), .unset, .unset, .unset, .unset, .unset, .unset, .unset, .unset, .unset, .unset, .unset, .unset] [])) t := by
            intro t q
            refine k67_ _ ?_
            show Steps p.tables e below (T62.setTop (mkF m 150 #[.val (.int p0), .val (.int p1), .val (.int p2), .val (.int p3), .val (.int p4), .val (.int eb), .val (.int el), .val (.int (0 : Int32)), .val (.int (0 : Int32)), .val (.ref t1), .val (.ref t2), .val (.ref u1), .val (.ref u2), .val (.ref b28), .val (.int (0 : Int32)), .val (.int (1 : Int32)), .unset] [])) _
            refine XS.iloadN X62.here hx rfl (hb hby at_150) rfl ?_
            refine XS.iload X62.here hx rfl (hb hby at_151) rfl ?_
            show Steps p.tables e below (T62.setTop (mkF m 153 #[.val (.int p0), .val (.int p1), .val (.int p2), .val (.int p3), .val (.int p4), .val (.int eb), .val (.int el), .val (.int (0 : Int32)), .val (.int (0 : Int32)), .val (.ref t1), .val (.ref t2), .val (.ref u1), .val (.ref u2), .val (.ref b28), .val (.int (0 : Int32)), .val (.int (1 : Int32)), .unset] [(.int el), (.int p1)])) _
            exact q
          obtain ⟨_, _, ⟨T69, L69, kk69, n69⟩, -, X69, ⟨Lc69, hQ69, l69, y69, z69⟩, st69⟩ := Jvm.LawKit.callS X62 hx (y := (⟨"com/example/triplewright/triplewright/source/ElementNameMatchesPinLaw", "same", "(II)Z"⟩ : MethodName)) hown (mvT hZ (hw _ (List.mem_of_getElem? (i := 75) rfl))) (mvT hZ (hw _ (List.mem_of_getElem? (i := 76) rfl))) (mvT hZ (hw _ (List.mem_of_getElem? (i := 3) rfl))) (mvT hZ (hw _ (List.mem_of_getElem? (i := 77) rfl))) (by decide) (backOf (W := 0) (rmSa l Z a0 hw [] p1 el T31.heap n0 Zn) hZ (hw _ (List.mem_of_getElem? (i := 77) rfl)) (hw _ (List.mem_of_getElem? (i := 3) rfl)) (by decide) (by decide)) (g := (mkF m 153 #[.val (.int p0), .val (.int p1), .val (.int p2), .val (.int p3), .val (.int p4), .val (.int eb), .val (.int el), .val (.int (0 : Int32)), .val (.int (0 : Int32)), .val (.ref t1), .val (.ref t2), .val (.ref u1), .val (.ref u2), .val (.ref b28), .val (.int (0 : Int32)), .val (.int (1 : Int32)), .unset] [(.int el), (.int p1)])) rfl (by rw [hml]; rfl) (argsL := [(.int p1), (.int el)]) (rest := []) (lenOf pd_90437 rfl) rfl (by show 2 * 0 + _ ≤ _; exact Nat.le_of_eq rfl) (hb hby at_153) (fun _ _ => ⟨rfl, hq62, (by decide : 0 + 4 + 4 + 4 + 4 + 1 + 0 + 0 + 0 + 0 ≤ _), (by decide : 0 + 11 + 11 + 11 + 11 + 2 + 0 + 0 + 0 + 0 ≤ _)⟩)
          dsimp only [Pt.U, Pt.locs, Pt.cells, Pt.slots] at X69 l69 y69 z69 st69 hQ69
          rw [l69, y69, z69] at X69
          obtain ⟨rfl, Nq69, hq69⟩ := hQ69
          have N69 := Fr.app N62 Nq69
          have k70_ : ∀ t, Steps p.tables e below (T69.setTop (mkF m 156 #[.val (.int p0), .val (.int p1), .val (.int p2), .val (.int p3), .val (.int p4), .val (.int eb), .val (.int el), .val (.int (0 : Int32)), .val (.int (0 : Int32)), .val (.ref t1), .val (.ref t2), .val (.ref u1), .val (.ref u2), .val (.ref b28), .val (.int (0 : Int32)), .val (.int (1 : Int32)), .unset] [(.int (bi (own_cs p1 = own_cs el)))])) t → Steps p.tables e below (s₁.setTop (mkF m 0 #[.val (.int p0), .val (.int p1), .val (.int p2), .val (.int p3), .val (.int p4), .unset, .unset, .unset, .unset, .unset, .unset, .unset, .unset, .unset, .unset, .unset, .unset] [])) t := fun t q => k68_ t (st69 t q)
          have k71_ : ∀ t, Steps p.tables e below (T69.setTop (mkF m 156 #[.val (.int p0), .val (.int p1), .val (.int p2), .val (.int p3), .val (.int p4), .val (.int eb), .val (.int el), .val (.int (0 : Int32)), .val (.int (0 : Int32)), .val (.ref t1), .val (.ref t2), .val (.ref u1), .val (.ref u2), .val (.ref b28), .val (.int (0 : Int32)), .val (.int (1 : Int32)), .unset] [(.int (0 : Int32))])) t → Steps p.tables e below (s₁.setTop (mkF m 0 #[.val (.int p0), .val (.int p1), .val (.int p2), .val (.int p3), .val (.int p4), .unset, .unset, .unset, .unset, .unset, .unset, .unset, .unset, .unset, .unset, .unset, .unset] [])) t := fun t q => k70_ t (Eq.mp (congrArg (fun z => Steps p.tables e below (T69.setTop (mkF m 156 #[.val (.int p0), .val (.int p1), .val (.int p2), .val (.int p3), .val (.int p4), .val (.int eb), .val (.int el), .val (.int (0 : Int32)), .val (.int (0 : Int32)), .val (.ref t1), .val (.ref t2), .val (.ref u1), .val (.ref u2), .val (.ref b28), .val (.int (0 : Int32)), .val (.int (1 : Int32)), .unset] [(.int z)])) t) (show (0 : Int32) = (bi (own_cs p1 = own_cs el)) from (bi_f hB).symm)) q)
          have k72_ : ∀ t, Steps p.tables e below (T69.setTop (mkF m 163 #[.val (.int p0), .val (.int p1), .val (.int p2), .val (.int p3), .val (.int p4), .val (.int eb), .val (.int el), .val (.int (0 : Int32)), .val (.int (0 : Int32)), .val (.ref t1), .val (.ref t2), .val (.ref u1), .val (.ref u2), .val (.ref b28), .val (.int (0 : Int32)), .val (.int (1 : Int32)), .unset] [])) t → Steps p.tables e below (s₁.setTop (mkF m 0 #[.val (.int p0), .val (.int p1), .val (.int p2), .val (.int p3), .val (.int p4), .unset, .unset, .unset, .unset, .unset, .unset, .unset, .unset, .unset, .unset, .unset, .unset] [])) t := by
            intro t q
            refine k71_ _ ?_
            show Steps p.tables e below (T69.setTop (mkF m 156 #[.val (.int p0), .val (.int p1), .val (.int p2), .val (.int p3), .val (.int p4), .val (.int eb), .val (.int el), .val (.int (0 : Int32)), .val (.int (0 : Int32)), .val (.ref t1), .val (.ref t2), .val (.ref u1), .val (.ref u2), .val (.ref b28), .val (.int (0 : Int32)), .val (.int (1 : Int32)), .unset] [(.int (0 : Int32))])) _
            refine XS.ifYes X69.here hx rfl (pc0 := 156) (pc' := 163) rfl (hb hby at_156) rfl ((if0 _ _).trans (teq (by decide)).1) (by decide) (by decide) ?_
            show Steps p.tables e below (T69.setTop (mkF m 163 #[.val (.int p0), .val (.int p1), .val (.int p2), .val (.int p3), .val (.int p4), .val (.int eb), .val (.int el), .val (.int (0 : Int32)), .val (.int (0 : Int32)), .val (.ref t1), .val (.ref t2), .val (.ref u1), .val (.ref u2), .val (.ref b28), .val (.int (0 : Int32)), .val (.int (1 : Int32)), .unset] [])) _
            exact q
          have k73_ : ∀ t, Steps p.tables e below (T69.setTop (mkF m 170 #[.val (.int p0), .val (.int p1), .val (.int p2), .val (.int p3), .val (.int p4), .val (.int eb), .val (.int el), .val (.int (0 : Int32)), .val (.int (0 : Int32)), .val (.ref t1), .val (.ref t2), .val (.ref u1), .val (.ref u2), .val (.ref b28), .val (.int (0 : Int32)), .val (.int (1 : Int32)), .val (.int (0 : Int32))] [(.int (1 : Int32)), (.int (0 : Int32))])) t → Steps p.tables e below (s₁.setTop (mkF m 0 #[.val (.int p0), .val (.int p1), .val (.int p2), .val (.int p3), .val (.int p4), .unset, .unset, .unset, .unset, .unset, .unset, .unset, .unset, .unset, .unset, .unset, .unset] [])) t := by
            intro t q
            refine k72_ _ ?_
            show Steps p.tables e below (T69.setTop (mkF m 163 #[.val (.int p0), .val (.int p1), .val (.int p2), .val (.int p3), .val (.int p4), .val (.int eb), .val (.int el), .val (.int (0 : Int32)), .val (.int (0 : Int32)), .val (.ref t1), .val (.ref t2), .val (.ref u1), .val (.ref u2), .val (.ref b28), .val (.int (0 : Int32)), .val (.int (1 : Int32)), .unset] [])) _
            refine XS.iconst X69.here hx rfl (hb hby at_163) ?_
            refine XS.istore X69.here hx rfl (hb hby at_164) rfl (l' := #[.val (.int p0), .val (.int p1), .val (.int p2), .val (.int p3), .val (.int p4), .val (.int eb), .val (.int el), .val (.int (0 : Int32)), .val (.int (0 : Int32)), .val (.ref t1), .val (.ref t2), .val (.ref u1), .val (.ref u2), .val (.ref b28), .val (.int (0 : Int32)), .val (.int (1 : Int32)), .val (.int (0 : Int32))]) rfl ?_
            show Steps p.tables e below (T69.setTop (mkF m 166 #[.val (.int p0), .val (.int p1), .val (.int p2), .val (.int p3), .val (.int p4), .val (.int eb), .val (.int el), .val (.int (0 : Int32)), .val (.int (0 : Int32)), .val (.ref t1), .val (.ref t2), .val (.ref u1), .val (.ref u2), .val (.ref b28), .val (.int (0 : Int32)), .val (.int (1 : Int32)), .val (.int (0 : Int32))] [])) _
            refine XS.iload X69.here hx rfl (hb hby at_166) rfl ?_
            refine XS.iload X69.here hx rfl (hb hby at_168) rfl ?_
            show Steps p.tables e below (T69.setTop (mkF m 170 #[.val (.int p0), .val (.int p1), .val (.int p2), .val (.int p3), .val (.int p4), .val (.int eb), .val (.int el), .val (.int (0 : Int32)), .val (.int (0 : Int32)), .val (.ref t1), .val (.ref t2), .val (.ref u1), .val (.ref u2), .val (.ref b28), .val (.int (0 : Int32)), .val (.int (1 : Int32)), .val (.int (0 : Int32))] [(.int (1 : Int32)), (.int (0 : Int32))])) _
            exact q
          have k74_ : ∀ t, Steps p.tables e below (T69.setTop (mkF m 173 #[.val (.int p0), .val (.int p1), .val (.int p2), .val (.int p3), .val (.int p4), .val (.int eb), .val (.int el), .val (.int (0 : Int32)), .val (.int (0 : Int32)), .val (.ref t1), .val (.ref t2), .val (.ref u1), .val (.ref u2), .val (.ref b28), .val (.int (0 : Int32)), .val (.int (1 : Int32)), .val (.int (0 : Int32))] [(.int (0 : Int32))])) t → Steps p.tables e below (s₁.setTop (mkF m 0 #[.val (.int p0), .val (.int p1), .val (.int p2), .val (.int p3), .val (.int p4), .unset, .unset, .unset, .unset, .unset, .unset, .unset, .unset, .unset, .unset, .unset, .unset] [])) t := by
            intro t q
            refine k73_ _ ?_
            show Steps p.tables e below (T69.setTop (mkF m 170 #[.val (.int p0), .val (.int p1), .val (.int p2), .val (.int p3), .val (.int p4), .val (.int eb), .val (.int el), .val (.int (0 : Int32)), .val (.int (0 : Int32)), .val (.ref t1), .val (.ref t2), .val (.ref u1), .val (.ref u2), .val (.ref b28), .val (.int (0 : Int32)), .val (.int (1 : Int32)), .val (.int (0 : Int32))] [(.int (1 : Int32)), (.int (0 : Int32))])) _
            refine XS.ifNo X69.here hx rfl (hb hby at_170) rfl ((if0 _ _).trans (feq (by decide)).1) ?_
            show Steps p.tables e below (T69.setTop (mkF m 173 #[.val (.int p0), .val (.int p1), .val (.int p2), .val (.int p3), .val (.int p4), .val (.int eb), .val (.int el), .val (.int (0 : Int32)), .val (.int (0 : Int32)), .val (.ref t1), .val (.ref t2), .val (.ref u1), .val (.ref u2), .val (.ref b28), .val (.int (0 : Int32)), .val (.int (1 : Int32)), .val (.int (0 : Int32))] [(.int (0 : Int32))])) _
            exact q
          have k75_ : ∀ t, Steps p.tables e below (T69.setTop (mkF m 175 #[.val (.int p0), .val (.int p1), .val (.int p2), .val (.int p3), .val (.int p4), .val (.int eb), .val (.int el), .val (.int (0 : Int32)), .val (.int (0 : Int32)), .val (.ref t1), .val (.ref t2), .val (.ref u1), .val (.ref u2), .val (.ref b28), .val (.int (0 : Int32)), .val (.int (1 : Int32)), .val (.int (0 : Int32))] [(.int (0 : Int32)), (.int (0 : Int32))])) t → Steps p.tables e below (s₁.setTop (mkF m 0 #[.val (.int p0), .val (.int p1), .val (.int p2), .val (.int p3), .val (.int p4), .unset, .unset, .unset, .unset, .unset, .unset, .unset, .unset, .unset, .unset, .unset, .unset] [])) t := by
            intro t q
            refine k74_ _ ?_
            show Steps p.tables e below (T69.setTop (mkF m 173 #[.val (.int p0), .val (.int p1), .val (.int p2), .val (.int p3), .val (.int p4), .val (.int eb), .val (.int el), .val (.int (0 : Int32)), .val (.int (0 : Int32)), .val (.ref t1), .val (.ref t2), .val (.ref u1), .val (.ref u2), .val (.ref b28), .val (.int (0 : Int32)), .val (.int (1 : Int32)), .val (.int (0 : Int32))] [(.int (0 : Int32))])) _
            refine XS.iload X69.here hx rfl (hb hby at_173) rfl ?_
            show Steps p.tables e below (T69.setTop (mkF m 175 #[.val (.int p0), .val (.int p1), .val (.int p2), .val (.int p3), .val (.int p4), .val (.int eb), .val (.int el), .val (.int (0 : Int32)), .val (.int (0 : Int32)), .val (.ref t1), .val (.ref t2), .val (.ref u1), .val (.ref u2), .val (.ref b28), .val (.int (0 : Int32)), .val (.int (1 : Int32)), .val (.int (0 : Int32))] [(.int (0 : Int32)), (.int (0 : Int32))])) _
            exact q
          have k76_ : ∀ t, Steps p.tables e below (T69.setTop (mkF m 182 #[.val (.int p0), .val (.int p1), .val (.int p2), .val (.int p3), .val (.int p4), .val (.int eb), .val (.int el), .val (.int (0 : Int32)), .val (.int (0 : Int32)), .val (.ref t1), .val (.ref t2), .val (.ref u1), .val (.ref u2), .val (.ref b28), .val (.int (0 : Int32)), .val (.int (1 : Int32)), .val (.int (0 : Int32))] [(.int (0 : Int32))])) t → Steps p.tables e below (s₁.setTop (mkF m 0 #[.val (.int p0), .val (.int p1), .val (.int p2), .val (.int p3), .val (.int p4), .unset, .unset, .unset, .unset, .unset, .unset, .unset, .unset, .unset, .unset, .unset, .unset] [])) t := by
            intro t q
            refine k75_ _ ?_
            show Steps p.tables e below (T69.setTop (mkF m 175 #[.val (.int p0), .val (.int p1), .val (.int p2), .val (.int p3), .val (.int p4), .val (.int eb), .val (.int el), .val (.int (0 : Int32)), .val (.int (0 : Int32)), .val (.ref t1), .val (.ref t2), .val (.ref u1), .val (.ref u2), .val (.ref b28), .val (.int (0 : Int32)), .val (.int (1 : Int32)), .val (.int (0 : Int32))] [(.int (0 : Int32)), (.int (0 : Int32))])) _
            refine XS.ifYes X69.here hx rfl (pc0 := 175) (pc' := 182) rfl (hb hby at_175) rfl ((if0 _ _).trans (teq (by decide)).1) (by decide) (by decide) ?_
            show Steps p.tables e below (T69.setTop (mkF m 182 #[.val (.int p0), .val (.int p1), .val (.int p2), .val (.int p3), .val (.int p4), .val (.int eb), .val (.int el), .val (.int (0 : Int32)), .val (.int (0 : Int32)), .val (.ref t1), .val (.ref t2), .val (.ref u1), .val (.ref u2), .val (.ref b28), .val (.int (0 : Int32)), .val (.int (1 : Int32)), .val (.int (0 : Int32))] [(.int (0 : Int32))])) _
            exact q
          have k77_ : ∀ t, Steps p.tables e below (T69.setTop (mkF m 183 #[.val (.int p0), .val (.int p1), .val (.int p2), .val (.int p3), .val (.int p4), .val (.int eb), .val (.int el), .val (.int (0 : Int32)), .val (.int (0 : Int32)), .val (.ref t1), .val (.ref t2), .val (.ref u1), .val (.ref u2), .val (.ref b28), .val (.int (0 : Int32)), .val (.int (1 : Int32)), .val (.int (0 : Int32))] [(.int (0 : Int32)), (.int (0 : Int32))])) t → Steps p.tables e below (s₁.setTop (mkF m 0 #[.val (.int p0), .val (.int p1), .val (.int p2), .val (.int p3), .val (.int p4), .unset, .unset, .unset, .unset, .unset, .unset, .unset, .unset, .unset, .unset, .unset, .unset] [])) t := by
            intro t q
            refine k76_ _ ?_
            show Steps p.tables e below (T69.setTop (mkF m 182 #[.val (.int p0), .val (.int p1), .val (.int p2), .val (.int p3), .val (.int p4), .val (.int eb), .val (.int el), .val (.int (0 : Int32)), .val (.int (0 : Int32)), .val (.ref t1), .val (.ref t2), .val (.ref u1), .val (.ref u2), .val (.ref b28), .val (.int (0 : Int32)), .val (.int (1 : Int32)), .val (.int (0 : Int32))] [(.int (0 : Int32))])) _
            refine XS.iconst X69.here hx rfl (hb hby at_182) ?_
            show Steps p.tables e below (T69.setTop (mkF m 183 #[.val (.int p0), .val (.int p1), .val (.int p2), .val (.int p3), .val (.int p4), .val (.int eb), .val (.int el), .val (.int (0 : Int32)), .val (.int (0 : Int32)), .val (.ref t1), .val (.ref t2), .val (.ref u1), .val (.ref u2), .val (.ref b28), .val (.int (0 : Int32)), .val (.int (1 : Int32)), .val (.int (0 : Int32))] [(.int (0 : Int32)), (.int (0 : Int32))])) _
            exact q
          have k78_ : ∀ t, Steps p.tables e below (T69.setTop (mkF m 186 #[.val (.int p0), .val (.int p1), .val (.int p2), .val (.int p3), .val (.int p4), .val (.int eb), .val (.int el), .val (.int (0 : Int32)), .val (.int (0 : Int32)), .val (.ref t1), .val (.ref t2), .val (.ref u1), .val (.ref u2), .val (.ref b28), .val (.int (0 : Int32)), .val (.int (1 : Int32)), .val (.int (0 : Int32))] [])) t → Steps p.tables e below (s₁.setTop (mkF m 0 #[.val (.int p0), .val (.int p1), .val (.int p2), .val (.int p3), .val (.int p4), .unset, .unset, .unset, .unset, .unset, .unset, .unset, .unset, .unset, .unset, .unset, .unset] [])) t := by
            intro t q
            refine k77_ _ ?_
            show Steps p.tables e below (T69.setTop (mkF m 183 #[.val (.int p0), .val (.int p1), .val (.int p2), .val (.int p3), .val (.int p4), .val (.int eb), .val (.int el), .val (.int (0 : Int32)), .val (.int (0 : Int32)), .val (.ref t1), .val (.ref t2), .val (.ref u1), .val (.ref u2), .val (.ref b28), .val (.int (0 : Int32)), .val (.int (1 : Int32)), .val (.int (0 : Int32))] [(.int (0 : Int32)), (.int (0 : Int32))])) _
            refine XS.icmpNo X69.here hx rfl (hb hby at_183) rfl (teq rfl).2 ?_
            show Steps p.tables e below (T69.setTop (mkF m 186 #[.val (.int p0), .val (.int p1), .val (.int p2), .val (.int p3), .val (.int p4), .val (.int eb), .val (.int el), .val (.int (0 : Int32)), .val (.int (0 : Int32)), .val (.ref t1), .val (.ref t2), .val (.ref u1), .val (.ref u2), .val (.ref b28), .val (.int (0 : Int32)), .val (.int (1 : Int32)), .val (.int (0 : Int32))] [])) _
            exact q
          have k79_ : ∀ t, Steps p.tables e below (T69.setTop (mkF m 191 #[.val (.int p0), .val (.int p1), .val (.int p2), .val (.int p3), .val (.int p4), .val (.int eb), .val (.int el), .val (.int (0 : Int32)), .val (.int (0 : Int32)), .val (.ref t1), .val (.ref t2), .val (.ref u1), .val (.ref u2), .val (.ref b28), .val (.int (0 : Int32)), .val (.int (1 : Int32)), .val (.int (0 : Int32))] [(.int (1 : Int32))])) t → Steps p.tables e below (s₁.setTop (mkF m 0 #[.val (.int p0), .val (.int p1), .val (.int p2), .val (.int p3), .val (.int p4), .unset, .unset, .unset, .unset, .unset, .unset, .unset, .unset, .unset, .unset, .unset, .unset] [])) t := by
            intro t q
            refine k78_ _ ?_
            show Steps p.tables e below (T69.setTop (mkF m 186 #[.val (.int p0), .val (.int p1), .val (.int p2), .val (.int p3), .val (.int p4), .val (.int eb), .val (.int el), .val (.int (0 : Int32)), .val (.int (0 : Int32)), .val (.ref t1), .val (.ref t2), .val (.ref u1), .val (.ref u2), .val (.ref b28), .val (.int (0 : Int32)), .val (.int (1 : Int32)), .val (.int (0 : Int32))] [])) _
            refine XS.iconst X69.here hx rfl (hb hby at_186) ?_
            refine XS.goto X69.here hx rfl (pc0 := 187) (pc' := 191) rfl (hb hby at_187) (by decide) (by decide) ?_
            show Steps p.tables e below (T69.setTop (mkF m 191 #[.val (.int p0), .val (.int p1), .val (.int p2), .val (.int p3), .val (.int p4), .val (.int eb), .val (.int el), .val (.int (0 : Int32)), .val (.int (0 : Int32)), .val (.ref t1), .val (.ref t2), .val (.ref u1), .val (.ref u2), .val (.ref b28), .val (.int (0 : Int32)), .val (.int (1 : Int32)), .val (.int (0 : Int32))] [(.int (1 : Int32))])) _
            exact q
          obtain ⟨fs, hr, hrun, hended, r1, r2, r3, r4⟩ := Stand.leaveW (s := s) (vm₁ := T25.vm) X69 hS (by rw [hq69]; exact hk) (v := some (.int (1 : Int32))) (fun h => by rw [Bd.returns] at h; cases h)
          refine ⟨_, _, pre0 _ (k79_ _ ?_), hrun, hended, _, rfl, N69, r1, r2, r3, r4.mono (by decide) (by decide)⟩
          · show Steps p.tables e below (T69.setTop (mkF m 191 #[.val (.int p0), .val (.int p1), .val (.int p2), .val (.int p3), .val (.int p4), .val (.int eb), .val (.int el), .val (.int (0 : Int32)), .val (.int (0 : Int32)), .val (.ref t1), .val (.ref t2), .val (.ref u1), .val (.ref u2), .val (.ref b28), .val (.int (0 : Int32)), .val (.int (1 : Int32)), .val (.int (0 : Int32))] [(.int (1 : Int32))])) _
            exact retN X69 hx (t := .boolean) Bd.returns (by simp) (hb hby at_191) hr
      · by_cases hB : own_cs p1 = own_cs el
        · have k80_ : ∀ t, Steps p.tables e below (T34.setTop (mkF m 122 #[.val (.int p0), .val (.int p1), .val (.int p2), .val (.int p3), .val (.int p4), .val (.int eb), .val (.int el), .val (.int (0 : Int32)), .val (.int (0 : Int32)), .val (.ref t1), .val (.ref t2), .val (.ref u1), .val (.ref u2), .val (.ref b28), .unset, .unset, .unset] [(.int (0 : Int32))])) t → Steps p.tables e below (s₁.setTop (mkF m 0 #[.val (.int p0), .val (.int p1), .val (.int p2), .val (.int p3), .val (.int p4), .unset, .unset, .unset, .unset, .unset, .unset, .unset, .unset, .unset, .unset, .unset, .unset] [])) t := fun t q => k35_ t (Eq.mp (congrArg (fun z => Steps p.tables e below (T34.setTop (mkF m 122 #[.val (.int p0), .val (.int p1), .val (.int p2), .val (.int p3), .val (.int p4), .val (.int eb), .val (.int el), .val (.int (0 : Int32)), .val (.int (0 : Int32)), .val (.ref t1), .val (.ref t2), .val (.ref u1), .val (.ref u2), .val (.ref b28), .unset, .unset, .unset] [(.int z)])) t) (show (0 : Int32) = (bi ((own_cs p0 = own_cs eb) ∧ (own_cs p1 = own_cs el))) from (bi_f fun z => hA z.1).symm)) q)
          have k81_ : ∀ t, Steps p.tables e below (T34.setTop (mkF m 126 #[.val (.int p0), .val (.int p1), .val (.int p2), .val (.int p3), .val (.int p4), .val (.int eb), .val (.int el), .val (.int (0 : Int32)), .val (.int (0 : Int32)), .val (.ref t1), .val (.ref t2), .val (.ref u1), .val (.ref u2), .val (.ref b28), .val (.int (0 : Int32)), .unset, .unset] [(.int (0 : Int32))])) t → Steps p.tables e below (s₁.setTop (mkF m 0 #[.val (.int p0), .val (.int p1), .val (.int p2), .val (.int p3), .val (.int p4), .unset, .unset, .unset, .unset, .unset, .unset, .unset, .unset, .unset, .unset, .unset, .unset] [])) t := by
            intro t q
            refine k80_ _ ?_
            show Steps p.tables e below (T34.setTop (mkF m 122 #[.val (.int p0), .val (.int p1), .val (.int p2), .val (.int p3), .val (.int p4), .val (.int eb), .val (.int el), .val (.int (0 : Int32)), .val (.int (0 : Int32)), .val (.ref t1), .val (.ref t2), .val (.ref u1), .val (.ref u2), .val (.ref b28), .unset, .unset, .unset] [(.int (0 : Int32))])) _
            refine XS.istore X34.here hx rfl (hb hby at_122) rfl (l' := #[.val (.int p0), .val (.int p1), .val (.int p2), .val (.int p3), .val (.int p4), .val (.int eb), .val (.int el), .val (.int (0 : Int32)), .val (.int (0 : Int32)), .val (.ref t1), .val (.ref t2), .val (.ref u1), .val (.ref u2), .val (.ref b28), .val (.int (0 : Int32)), .unset, .unset]) rfl ?_
            refine XS.iload X34.here hx rfl (hb hby at_124) rfl ?_
            show Steps p.tables e below (T34.setTop (mkF m 126 #[.val (.int p0), .val (.int p1), .val (.int p2), .val (.int p3), .val (.int p4), .val (.int eb), .val (.int el), .val (.int (0 : Int32)), .val (.int (0 : Int32)), .val (.ref t1), .val (.ref t2), .val (.ref u1), .val (.ref u2), .val (.ref b28), .val (.int (0 : Int32)), .unset, .unset] [(.int (0 : Int32))])) _
            exact q
          have k82_ : ∀ t, Steps p.tables e below (T34.setTop (mkF m 129 #[.val (.int p0), .val (.int p1), .val (.int p2), .val (.int p3), .val (.int p4), .val (.int eb), .val (.int el), .val (.int (0 : Int32)), .val (.int (0 : Int32)), .val (.ref t1), .val (.ref t2), .val (.ref u1), .val (.ref u2), .val (.ref b28), .val (.int (0 : Int32)), .unset, .unset] [])) t → Steps p.tables e below (s₁.setTop (mkF m 0 #[.val (.int p0), .val (.int p1), .val (.int p2), .val (.int p3), .val (.int p4), .unset, .unset, .unset, .unset, .unset, .unset, .unset, .unset, .unset, .unset, .unset, .unset] [])) t := by
            intro t q
            refine k81_ _ ?_
            show Steps p.tables e below (T34.setTop (mkF m 126 #[.val (.int p0), .val (.int p1), .val (.int p2), .val (.int p3), .val (.int p4), .val (.int eb), .val (.int el), .val (.int (0 : Int32)), .val (.int (0 : Int32)), .val (.ref t1), .val (.ref t2), .val (.ref u1), .val (.ref u2), .val (.ref b28), .val (.int (0 : Int32)), .unset, .unset] [(.int (0 : Int32))])) _
            refine XS.ifNo X34.here hx rfl (hb hby at_126) rfl ((if0 _ _).trans (teq rfl).2) ?_
            show Steps p.tables e below (T34.setTop (mkF m 129 #[.val (.int p0), .val (.int p1), .val (.int p2), .val (.int p3), .val (.int p4), .val (.int eb), .val (.int el), .val (.int (0 : Int32)), .val (.int (0 : Int32)), .val (.ref t1), .val (.ref t2), .val (.ref u1), .val (.ref u2), .val (.ref b28), .val (.int (0 : Int32)), .unset, .unset] [])) _
            exact q
          have k83_ : ∀ t, Steps p.tables e below (T34.setTop (mkF m 132 #[.val (.int p0), .val (.int p1), .val (.int p2), .val (.int p3), .val (.int p4), .val (.int eb), .val (.int el), .val (.int (0 : Int32)), .val (.int (0 : Int32)), .val (.ref t1), .val (.ref t2), .val (.ref u1), .val (.ref u2), .val (.ref b28), .val (.int (0 : Int32)), .unset, .unset] [(.int eb), (.int p0)])) t → Steps p.tables e below (s₁.setTop (mkF m 0 #[.val (.int p0), .val (.int p1), .val (.int p2), .val (.int p3), .val (.int p4), .unset, .unset, .unset, .unset, .unset, .unset, .unset, .unset, .unset, .unset, .unset, .unset] [])) t := by
            intro t q
            refine k82_ _ ?_
            show Steps p.tables e below (T34.setTop (mkF m 129 #[.val (.int p0), .val (.int p1), .val (.int p2), .val (.int p3), .val (.int p4), .val (.int eb), .val (.int el), .val (.int (0 : Int32)), .val (.int (0 : Int32)), .val (.ref t1), .val (.ref t2), .val (.ref u1), .val (.ref u2), .val (.ref b28), .val (.int (0 : Int32)), .unset, .unset] [])) _
            refine XS.iloadN X34.here hx rfl (hb hby at_129) rfl ?_
            refine XS.iload X34.here hx rfl (hb hby at_130) rfl ?_
            show Steps p.tables e below (T34.setTop (mkF m 132 #[.val (.int p0), .val (.int p1), .val (.int p2), .val (.int p3), .val (.int p4), .val (.int eb), .val (.int el), .val (.int (0 : Int32)), .val (.int (0 : Int32)), .val (.ref t1), .val (.ref t2), .val (.ref u1), .val (.ref u2), .val (.ref b28), .val (.int (0 : Int32)), .unset, .unset] [(.int eb), (.int p0)])) _
            exact q
          obtain ⟨_, _, ⟨T84, L84, kk84, n84⟩, -, X84, ⟨Lc84, hQ84, l84, y84, z84⟩, st84⟩ := Jvm.LawKit.callS X34 hx (y := (⟨"com/example/triplewright/triplewright/source/ElementNameMatchesPinLaw", "same", "(II)Z"⟩ : MethodName)) hown (mvT hZ (hw _ (List.mem_of_getElem? (i := 75) rfl))) (mvT hZ (hw _ (List.mem_of_getElem? (i := 76) rfl))) (mvT hZ (hw _ (List.mem_of_getElem? (i := 3) rfl))) (mvT hZ (hw _ (List.mem_of_getElem? (i := 77) rfl))) (by decide) (backOf (W := 0) (rmSa l Z a0 hw [] p0 eb T31.heap n0 Zn) hZ (hw _ (List.mem_of_getElem? (i := 77) rfl)) (hw _ (List.mem_of_getElem? (i := 3) rfl)) (by decide) (by decide)) (g := (mkF m 132 #[.val (.int p0), .val (.int p1), .val (.int p2), .val (.int p3), .val (.int p4), .val (.int eb), .val (.int el), .val (.int (0 : Int32)), .val (.int (0 : Int32)), .val (.ref t1), .val (.ref t2), .val (.ref u1), .val (.ref u2), .val (.ref b28), .val (.int (0 : Int32)), .unset, .unset] [(.int eb), (.int p0)])) rfl (by rw [hml]; rfl) (argsL := [(.int p0), (.int eb)]) (rest := []) (lenOf pd_90437 rfl) rfl (by show 2 * 0 + _ ≤ _; exact Nat.le_of_eq rfl) (hb hby at_132) (fun _ _ => ⟨rfl, hq34, (by decide : 0 + 4 + 4 + 4 + 4 + 1 + 0 + 0 + 0 ≤ _), (by decide : 0 + 11 + 11 + 11 + 11 + 2 + 0 + 0 + 0 ≤ _)⟩)
          dsimp only [Pt.U, Pt.locs, Pt.cells, Pt.slots] at X84 l84 y84 z84 st84 hQ84
          rw [l84, y84, z84] at X84
          obtain ⟨rfl, Nq84, hq84⟩ := hQ84
          have N84 := Fr.app N34 Nq84
          have k85_ : ∀ t, Steps p.tables e below (T84.setTop (mkF m 135 #[.val (.int p0), .val (.int p1), .val (.int p2), .val (.int p3), .val (.int p4), .val (.int eb), .val (.int el), .val (.int (0 : Int32)), .val (.int (0 : Int32)), .val (.ref t1), .val (.ref t2), .val (.ref u1), .val (.ref u2), .val (.ref b28), .val (.int (0 : Int32)), .unset, .unset] [(.int (bi (own_cs p0 = own_cs eb)))])) t → Steps p.tables e below (s₁.setTop (mkF m 0 #[.val (.int p0), .val (.int p1), .val (.int p2), .val (.int p3), .val (.int p4), .unset, .unset, .unset, .unset, .unset, .unset, .unset, .unset, .unset, .unset, .unset, .unset] [])) t := fun t q => k83_ t (st84 t q)
          have k86_ : ∀ t, Steps p.tables e below (T84.setTop (mkF m 135 #[.val (.int p0), .val (.int p1), .val (.int p2), .val (.int p3), .val (.int p4), .val (.int eb), .val (.int el), .val (.int (0 : Int32)), .val (.int (0 : Int32)), .val (.ref t1), .val (.ref t2), .val (.ref u1), .val (.ref u2), .val (.ref b28), .val (.int (0 : Int32)), .unset, .unset] [(.int (0 : Int32))])) t → Steps p.tables e below (s₁.setTop (mkF m 0 #[.val (.int p0), .val (.int p1), .val (.int p2), .val (.int p3), .val (.int p4), .unset, .unset, .unset, .unset, .unset, .unset, .unset, .unset, .unset, .unset, .unset, .unset] [])) t := fun t q => k85_ t (Eq.mp (congrArg (fun z => Steps p.tables e below (T84.setTop (mkF m 135 #[.val (.int p0), .val (.int p1), .val (.int p2), .val (.int p3), .val (.int p4), .val (.int eb), .val (.int el), .val (.int (0 : Int32)), .val (.int (0 : Int32)), .val (.ref t1), .val (.ref t2), .val (.ref u1), .val (.ref u2), .val (.ref b28), .val (.int (0 : Int32)), .unset, .unset] [(.int z)])) t) (show (0 : Int32) = (bi (own_cs p0 = own_cs eb)) from (bi_f hA).symm)) q)
          have k87_ : ∀ t, Steps p.tables e below (T84.setTop (mkF m 142 #[.val (.int p0), .val (.int p1), .val (.int p2), .val (.int p3), .val (.int p4), .val (.int eb), .val (.int el), .val (.int (0 : Int32)), .val (.int (0 : Int32)), .val (.ref t1), .val (.ref t2), .val (.ref u1), .val (.ref u2), .val (.ref b28), .val (.int (0 : Int32)), .unset, .unset] [])) t → Steps p.tables e below (s₁.setTop (mkF m 0 #[.val (.int p0), .val (.int p1), .val (.int p2), .val (.int p3), .val (.int p4), .unset, .unset, .unset, .unset, .unset, .unset, .unset, .unset, .unset, .unset, .unset, .unset] [])) t := by
            intro t q
            refine k86_ _ ?_
            show Steps p.tables e below (T84.setTop (mkF m 135 #[.val (.int p0), .val (.int p1), .val (.int p2), .val (.int p3), .val (.int p4), .val (.int eb), .val (.int el), .val (.int (0 : Int32)), .val (.int (0 : Int32)), .val (.ref t1), .val (.ref t2), .val (.ref u1), .val (.ref u2), .val (.ref b28), .val (.int (0 : Int32)), .unset, .unset] [(.int (0 : Int32))])) _
            refine XS.ifYes X84.here hx rfl (pc0 := 135) (pc' := 142) rfl (hb hby at_135) rfl ((if0 _ _).trans (teq (by decide)).1) (by decide) (by decide) ?_
            show Steps p.tables e below (T84.setTop (mkF m 142 #[.val (.int p0), .val (.int p1), .val (.int p2), .val (.int p3), .val (.int p4), .val (.int eb), .val (.int el), .val (.int (0 : Int32)), .val (.int (0 : Int32)), .val (.ref t1), .val (.ref t2), .val (.ref u1), .val (.ref u2), .val (.ref b28), .val (.int (0 : Int32)), .unset, .unset] [])) _
            exact q
          have k88_ : ∀ t, Steps p.tables e below (T84.setTop (mkF m 147 #[.val (.int p0), .val (.int p1), .val (.int p2), .val (.int p3), .val (.int p4), .val (.int eb), .val (.int el), .val (.int (0 : Int32)), .val (.int (0 : Int32)), .val (.ref t1), .val (.ref t2), .val (.ref u1), .val (.ref u2), .val (.ref b28), .val (.int (0 : Int32)), .val (.int (0 : Int32)), .unset] [(.int (0 : Int32))])) t → Steps p.tables e below (s₁.setTop (mkF m 0 #[.val (.int p0), .val (.int p1), .val (.int p2), .val (.int p3), .val (.int p4), .unset, .unset, .unset, .unset, .unset, .unset, .unset, .unset, .unset, .unset, .unset, .unset] [])) t := by
            intro t q
            refine k87_ _ ?_
            show Steps p.tables e below (T84.setTop (mkF m 142 #[.val (.int p0), .val (.int p1), .val (.int p2), .val (.int p3), .val (.int p4), .val (.int eb), .val (.int el), .val (.int (0 : Int32)), .val (.int (0 : Int32)), .val (.ref t1), .val (.ref t2), .val (.ref u1), .val (.ref u2), .val (.ref b28), .val (.int (0 : Int32)), .unset, .unset] [])) _
            refine XS.iconst X84.here hx rfl (hb hby at_142) ?_
            refine XS.istore X84.here hx rfl (hb hby at_143) rfl (l' := #[.val (.int p0), .val (.int p1), .val (.int p2), .val (.int p3), .val (.int p4), .val (.int eb), .val (.int el), .val (.int (0 : Int32)), .val (.int (0 : Int32)), .val (.ref t1), .val (.ref t2), .val (.ref u1), .val (.ref u2), .val (.ref b28), .val (.int (0 : Int32)), .val (.int (0 : Int32)), .unset]) rfl ?_
            show Steps p.tables e below (T84.setTop (mkF m 145 #[.val (.int p0), .val (.int p1), .val (.int p2), .val (.int p3), .val (.int p4), .val (.int eb), .val (.int el), .val (.int (0 : Int32)), .val (.int (0 : Int32)), .val (.ref t1), .val (.ref t2), .val (.ref u1), .val (.ref u2), .val (.ref b28), .val (.int (0 : Int32)), .val (.int (0 : Int32)), .unset] [])) _
            refine XS.iload X84.here hx rfl (hb hby at_145) rfl ?_
            show Steps p.tables e below (T84.setTop (mkF m 147 #[.val (.int p0), .val (.int p1), .val (.int p2), .val (.int p3), .val (.int p4), .val (.int eb), .val (.int el), .val (.int (0 : Int32)), .val (.int (0 : Int32)), .val (.ref t1), .val (.ref t2), .val (.ref u1), .val (.ref u2), .val (.ref b28), .val (.int (0 : Int32)), .val (.int (0 : Int32)), .unset] [(.int (0 : Int32))])) _
            exact q
          have k89_ : ∀ t, Steps p.tables e below (T84.setTop (mkF m 150 #[.val (.int p0), .val (.int p1), .val (.int p2), .val (.int p3), .val (.int p4), .val (.int eb), .val (.int el), .val (.int (0 : Int32)), .val (.int (0 : Int32)), .val (.ref t1), .val (.ref t2), .val (.ref u1), .val (.ref u2), .val (.ref b28), .val (.int (0 : Int32)), .val (.int (0 : Int32)), .unset] [])) t → Steps p.tables e below (s₁.setTop (mkF m 0 #[.val (.int p0), .val (.int p1), .val (.int p2), .val (.int p3), .val (.int p4), .unset, .unset, .unset, .unset, .unset, .unset, .unset, .unset, .unset, .unset, .unset, .unset] [])) t := by
            intro t q
            refine k88_ _ ?_
            show Steps p.tables e below (T84.setTop (mkF m 147 #[.val (.int p0), .val (.int p1), .val (.int p2), .val (.int p3), .val (.int p4), .val (.int eb), .val (.int el), .val (.int (0 : Int32)), .val (.int (0 : Int32)), .val (.ref t1), .val (.ref t2), .val (.ref u1), .val (.ref u2), .val (.ref b28), .val (.int (0 : Int32)), .val (.int (0 : Int32)), .unset] [(.int (0 : Int32))])) _
            refine XS.ifNo X84.here hx rfl (hb hby at_147) rfl ((if0 _ _).trans (teq rfl).2) ?_
            show Steps p.tables e below (T84.setTop (mkF m 150 #[.val (.int p0), .val (.int p1), .val (.int p2), .val (.int p3), .val (.int p4), .val (.int eb), .val (.int el), .val (.int (0 : Int32)), .val (.int (0 : Int32)), .val (.ref t1), .val (.ref t2), .val (.ref u1), .val (.ref u2), .val (.ref b28), .val (.int (0 : Int32)), .val (.int (0 : Int32)), .unset] [])) _
            exact q
          have k90_ : ∀ t, Steps p.tables e below (T84.setTop (mkF m 153 #[.val (.int p0), .val (.int p1), .val (.int p2), .val (.int p3), .val (.int p4), .val (.int eb), .val (.int el), .val (.int (0 : Int32)), .val (.int (0 : Int32)), .val (.ref t1), .val (.ref t2), .val (.ref u1), .val (.ref u2), .val (.ref b28), .val (.int (0 : Int32)), .val (.int (0 : Int32)), .unset] [(.int el), (.int p1)])) t → Steps p.tables e below (s₁.setTop (mkF m 0 #[.val (.int p0), .val (.int p1), .val (.int p2), .val (.int p3), .val (.int p4), .unset, .unset, .unset, .unset, .unset, .unset, .unset, .unset, .unset, .unset, .unset, .unset] [])) t := by
            intro t q
            refine k89_ _ ?_
            show Steps p.tables e below (T84.setTop (mkF m 150 #[.val (.int p0), .val (.int p1), .val (.int p2), .val (.int p3), .val (.int p4), .val (.int eb), .val (.int el), .val (.int (0 : Int32)), .val (.int (0 : Int32)), .val (.ref t1), .val (.ref t2), .val (.ref u1), .val (.ref u2), .val (.ref b28), .val (.int (0 : Int32)), .val (.int (0 : Int32)), .unset] [])) _
            refine XS.iloadN X84.here hx rfl (hb hby at_150) rfl ?_
            refine XS.iload X84.here hx rfl (hb hby at_151) rfl ?_
            show Steps p.tables e below (T84.setTop (mkF m 153 #[.val (.int p0), .val (.int p1), .val (.int p2), .val (.int p3), .val (.int p4), .val (.int eb), .val (.int el), .val (.int (0 : Int32)), .val (.int (0 : Int32)), .val (.ref t1), .val (.ref t2), .val (.ref u1), .val (.ref u2), .val (.ref b28), .val (.int (0 : Int32)), .val (.int (0 : Int32)), .unset] [(.int el), (.int p1)])) _
            exact q
          obtain ⟨_, _, ⟨T91, L91, kk91, n91⟩, -, X91, ⟨Lc91, hQ91, l91, y91, z91⟩, st91⟩ := Jvm.LawKit.callS X84 hx (y := (⟨"com/example/triplewright/triplewright/source/ElementNameMatchesPinLaw", "same", "(II)Z"⟩ : MethodName)) hown (mvT hZ (hw _ (List.mem_of_getElem? (i := 75) rfl))) (mvT hZ (hw _ (List.mem_of_getElem? (i := 76) rfl))) (mvT hZ (hw _ (List.mem_of_getElem? (i := 3) rfl))) (mvT hZ (hw _ (List.mem_of_getElem? (i := 77) rfl))) (by decide) (backOf (W := 0) (rmSa l Z a0 hw [] p1 el T31.heap n0 Zn) hZ (hw _ (List.mem_of_getElem? (i := 77) rfl)) (hw _ (List.mem_of_getElem? (i := 3) rfl)) (by decide) (by decide)) (g := (mkF m 153 #[.val (.int p0), .val (.int p1), .val (.int p2), .val (.int p3), .val (.int p4), .val (.int eb), .val (.int el), .val (.int (0 : Int32)), .val (.int (0 : Int32)), .val (.ref t1), .val (.ref t2), .val (.ref u1), .val (.ref u2), .val (.ref b28), .val (.int (0 : Int32)), .val (.int (0 : Int32)), .unset] [(.int el), (.int p1)])) rfl (by rw [hml]; rfl) (argsL := [(.int p1), (.int el)]) (rest := []) (lenOf pd_90437 rfl) rfl (by show 2 * 0 + _ ≤ _; exact Nat.le_of_eq rfl) (hb hby at_153) (fun _ _ => ⟨rfl, hq84, (by decide : 0 + 4 + 4 + 4 + 4 + 1 + 0 + 0 + 0 + 0 ≤ _), (by decide : 0 + 11 + 11 + 11 + 11 + 2 + 0 + 0 + 0 + 0 ≤ _)⟩)
          dsimp only [Pt.U, Pt.locs, Pt.cells, Pt.slots] at X91 l91 y91 z91 st91 hQ91
          rw [l91, y91, z91] at X91
          obtain ⟨rfl, Nq91, hq91⟩ := hQ91
          have N91 := Fr.app N84 Nq91
          have k92_ : ∀ t, Steps p.tables e below (T91.setTop (mkF m 156 #[.val (.int p0), .val (.int p1), .val (.int p2), .val (.int p3), .val (.int p4), .val (.int eb), .val (.int el), .val (.int (0 : Int32)), .val (.int (0 : Int32)), .val (.ref t1), .val (.ref t2), .val (.ref u1), .val (.ref u2), .val (.ref b28), .val (.int (0 : Int32)), .val (.int (0 : Int32)), .unset] [(.int (bi (own_cs p1 = own_cs el)))])) t → Steps p.tables e below (s₁.setTop (mkF m 0 #[.val (.int p0), .val (.int p1), .val (.int p2), .val (.int p3), .val (.int p4), .unset, .unset, .unset, .unset, .unset, .unset, .unset, .unset, .unset, .unset, .unset, .unset] [])) t := fun t q => k90_ t (st91 t q)
          have k93_ : ∀ t, Steps p.tables e below (T91.setTop (mkF m 156 #[.val (.int p0), .val (.int p1), .val (.int p2), .val (.int p3), .val (.int p4), .val (.int eb), .val (.int el), .val (.int (0 : Int32)), .val (.int (0 : Int32)), .val (.ref t1), .val (.ref t2), .val (.ref u1), .val (.ref u2), .val (.ref b28), .val (.int (0 : Int32)), .val (.int (0 : Int32)), .unset] [(.int (1 : Int32))])) t → Steps p.tables e below (s₁.setTop (mkF m 0 #[.val (.int p0), .val (.int p1), .val (.int p2), .val (.int p3), .val (.int p4), .unset, .unset, .unset, .unset, .unset, .unset, .unset, .unset, .unset, .unset, .unset, .unset] [])) t := fun t q => k92_ t (Eq.mp (congrArg (fun z => Steps p.tables e below (T91.setTop (mkF m 156 #[.val (.int p0), .val (.int p1), .val (.int p2), .val (.int p3), .val (.int p4), .val (.int eb), .val (.int el), .val (.int (0 : Int32)), .val (.int (0 : Int32)), .val (.ref t1), .val (.ref t2), .val (.ref u1), .val (.ref u2), .val (.ref b28), .val (.int (0 : Int32)), .val (.int (0 : Int32)), .unset] [(.int z)])) t) (show (1 : Int32) = (bi (own_cs p1 = own_cs el)) from (bi_t hB).symm)) q)
          have k94_ : ∀ t, Steps p.tables e below (T91.setTop (mkF m 159 #[.val (.int p0), .val (.int p1), .val (.int p2), .val (.int p3), .val (.int p4), .val (.int eb), .val (.int el), .val (.int (0 : Int32)), .val (.int (0 : Int32)), .val (.ref t1), .val (.ref t2), .val (.ref u1), .val (.ref u2), .val (.ref b28), .val (.int (0 : Int32)), .val (.int (0 : Int32)), .unset] [])) t → Steps p.tables e below (s₁.setTop (mkF m 0 #[.val (.int p0), .val (.int p1), .val (.int p2), .val (.int p3), .val (.int p4), .unset, .unset, .unset, .unset, .unset, .unset, .unset, .unset, .unset, .unset, .unset, .unset] [])) t := by
            intro t q
            refine k93_ _ ?_
            show Steps p.tables e below (T91.setTop (mkF m 156 #[.val (.int p0), .val (.int p1), .val (.int p2), .val (.int p3), .val (.int p4), .val (.int eb), .val (.int el), .val (.int (0 : Int32)), .val (.int (0 : Int32)), .val (.ref t1), .val (.ref t2), .val (.ref u1), .val (.ref u2), .val (.ref b28), .val (.int (0 : Int32)), .val (.int (0 : Int32)), .unset] [(.int (1 : Int32))])) _
            refine XS.ifNo X91.here hx rfl (hb hby at_156) rfl ((if0 _ _).trans (feq (by decide)).1) ?_
            show Steps p.tables e below (T91.setTop (mkF m 159 #[.val (.int p0), .val (.int p1), .val (.int p2), .val (.int p3), .val (.int p4), .val (.int eb), .val (.int el), .val (.int (0 : Int32)), .val (.int (0 : Int32)), .val (.ref t1), .val (.ref t2), .val (.ref u1), .val (.ref u2), .val (.ref b28), .val (.int (0 : Int32)), .val (.int (0 : Int32)), .unset] [])) _
            exact q
          have k95_ : ∀ t, Steps p.tables e below (T91.setTop (mkF m 170 #[.val (.int p0), .val (.int p1), .val (.int p2), .val (.int p3), .val (.int p4), .val (.int eb), .val (.int el), .val (.int (0 : Int32)), .val (.int (0 : Int32)), .val (.ref t1), .val (.ref t2), .val (.ref u1), .val (.ref u2), .val (.ref b28), .val (.int (0 : Int32)), .val (.int (0 : Int32)), .val (.int (1 : Int32))] [(.int (0 : Int32)), (.int (0 : Int32))])) t → Steps p.tables e below (s₁.setTop (mkF m 0 #[.val (.int p0), .val (.int p1), .val (.int p2), .val (.int p3), .val (.int p4), .unset, .unset, .unset, .unset, .unset, .unset, .unset, .unset, .unset, .unset, .unset, .unset] [])) t := by
            intro t q
            refine k94_ _ ?_
            show Steps p.tables e below (T91.setTop (mkF m 159 #[.val (.int p0), .val (.int p1), .val (.int p2), .val (.int p3), .val (.int p4), .val (.int eb), .val (.int el), .val (.int (0 : Int32)), .val (.int (0 : Int32)), .val (.ref t1), .val (.ref t2), .val (.ref u1), .val (.ref u2), .val (.ref b28), .val (.int (0 : Int32)), .val (.int (0 : Int32)), .unset] [])) _
            refine XS.iconst X91.here hx rfl (hb hby at_159) ?_
            refine XS.goto X91.here hx rfl (pc0 := 160) (pc' := 164) rfl (hb hby at_160) (by decide) (by decide) ?_
            show Steps p.tables e below (T91.setTop (mkF m 164 #[.val (.int p0), .val (.int p1), .val (.int p2), .val (.int p3), .val (.int p4), .val (.int eb), .val (.int el), .val (.int (0 : Int32)), .val (.int (0 : Int32)), .val (.ref t1), .val (.ref t2), .val (.ref u1), .val (.ref u2), .val (.ref b28), .val (.int (0 : Int32)), .val (.int (0 : Int32)), .unset] [(.int (1 : Int32))])) _
            refine XS.istore X91.here hx rfl (hb hby at_164) rfl (l' := #[.val (.int p0), .val (.int p1), .val (.int p2), .val (.int p3), .val (.int p4), .val (.int eb), .val (.int el), .val (.int (0 : Int32)), .val (.int (0 : Int32)), .val (.ref t1), .val (.ref t2), .val (.ref u1), .val (.ref u2), .val (.ref b28), .val (.int (0 : Int32)), .val (.int (0 : Int32)), .val (.int (1 : Int32))]) rfl ?_
            refine XS.iload X91.here hx rfl (hb hby at_166) rfl ?_
            show Steps p.tables e below (T91.setTop (mkF m 168 #[.val (.int p0), .val (.int p1), .val (.int p2), .val (.int p3), .val (.int p4), .val (.int eb), .val (.int el), .val (.int (0 : Int32)), .val (.int (0 : Int32)), .val (.ref t1), .val (.ref t2), .val (.ref u1), .val (.ref u2), .val (.ref b28), .val (.int (0 : Int32)), .val (.int (0 : Int32)), .val (.int (1 : Int32))] [(.int (0 : Int32))])) _
            refine XS.iload X91.here hx rfl (hb hby at_168) rfl ?_
            show Steps p.tables e below (T91.setTop (mkF m 170 #[.val (.int p0), .val (.int p1), .val (.int p2), .val (.int p3), .val (.int p4), .val (.int eb), .val (.int el), .val (.int (0 : Int32)), .val (.int (0 : Int32)), .val (.ref t1), .val (.ref t2), .val (.ref u1), .val (.ref u2), .val (.ref b28), .val (.int (0 : Int32)), .val (.int (0 : Int32)), .val (.int (1 : Int32))] [(.int (0 : Int32)), (.int (0 : Int32))])) _
            exact q
          have k96_ : ∀ t, Steps p.tables e below (T91.setTop (mkF m 182 #[.val (.int p0), .val (.int p1), .val (.int p2), .val (.int p3), .val (.int p4), .val (.int eb), .val (.int el), .val (.int (0 : Int32)), .val (.int (0 : Int32)), .val (.ref t1), .val (.ref t2), .val (.ref u1), .val (.ref u2), .val (.ref b28), .val (.int (0 : Int32)), .val (.int (0 : Int32)), .val (.int (1 : Int32))] [(.int (0 : Int32))])) t → Steps p.tables e below (s₁.setTop (mkF m 0 #[.val (.int p0), .val (.int p1), .val (.int p2), .val (.int p3), .val (.int p4), .unset, .unset, .unset, .unset, .unset, .unset, .unset, .unset, .unset, .unset, .unset, .unset] [])) t := by
            intro t q
            refine k95_ _ ?_
            show Steps p.tables e below (T91.setTop (mkF m 170 #[.val (.int p0), .val (.int p1), .val (.int p2), .val (.int p3), .val (.int p4), .val (.int eb), .val (.int el), .val (.int (0 : Int32)), .val (.int (0 : Int32)), .val (.ref t1), .val (.ref t2), .val (.ref u1), .val (.ref u2), .val (.ref b28), .val (.int (0 : Int32)), .val (.int (0 : Int32)), .val (.int (1 : Int32))] [(.int (0 : Int32)), (.int (0 : Int32))])) _
            refine XS.ifYes X91.here hx rfl (pc0 := 170) (pc' := 182) rfl (hb hby at_170) rfl ((if0 _ _).trans (teq (by decide)).1) (by decide) (by decide) ?_
            show Steps p.tables e below (T91.setTop (mkF m 182 #[.val (.int p0), .val (.int p1), .val (.int p2), .val (.int p3), .val (.int p4), .val (.int eb), .val (.int el), .val (.int (0 : Int32)), .val (.int (0 : Int32)), .val (.ref t1), .val (.ref t2), .val (.ref u1), .val (.ref u2), .val (.ref b28), .val (.int (0 : Int32)), .val (.int (0 : Int32)), .val (.int (1 : Int32))] [(.int (0 : Int32))])) _
            exact q
          have k97_ : ∀ t, Steps p.tables e below (T91.setTop (mkF m 183 #[.val (.int p0), .val (.int p1), .val (.int p2), .val (.int p3), .val (.int p4), .val (.int eb), .val (.int el), .val (.int (0 : Int32)), .val (.int (0 : Int32)), .val (.ref t1), .val (.ref t2), .val (.ref u1), .val (.ref u2), .val (.ref b28), .val (.int (0 : Int32)), .val (.int (0 : Int32)), .val (.int (1 : Int32))] [(.int (0 : Int32)), (.int (0 : Int32))])) t → Steps p.tables e below (s₁.setTop (mkF m 0 #[.val (.int p0), .val (.int p1), .val (.int p2), .val (.int p3), .val (.int p4), .unset, .unset, .unset, .unset, .unset, .unset, .unset, .unset, .unset, .unset, .unset, .unset] [])) t := by
            intro t q
            refine k96_ _ ?_
            show Steps p.tables e below (T91.setTop (mkF m 182 #[.val (.int p0), .val (.int p1), .val (.int p2), .val (.int p3), .val (.int p4), .val (.int eb), .val (.int el), .val (.int (0 : Int32)), .val (.int (0 : Int32)), .val (.ref t1), .val (.ref t2), .val (.ref u1), .val (.ref u2), .val (.ref b28), .val (.int (0 : Int32)), .val (.int (0 : Int32)), .val (.int (1 : Int32))] [(.int (0 : Int32))])) _
            refine XS.iconst X91.here hx rfl (hb hby at_182) ?_
            show Steps p.tables e below (T91.setTop (mkF m 183 #[.val (.int p0), .val (.int p1), .val (.int p2), .val (.int p3), .val (.int p4), .val (.int eb), .val (.int el), .val (.int (0 : Int32)), .val (.int (0 : Int32)), .val (.ref t1), .val (.ref t2), .val (.ref u1), .val (.ref u2), .val (.ref b28), .val (.int (0 : Int32)), .val (.int (0 : Int32)), .val (.int (1 : Int32))] [(.int (0 : Int32)), (.int (0 : Int32))])) _
            exact q
          have k98_ : ∀ t, Steps p.tables e below (T91.setTop (mkF m 186 #[.val (.int p0), .val (.int p1), .val (.int p2), .val (.int p3), .val (.int p4), .val (.int eb), .val (.int el), .val (.int (0 : Int32)), .val (.int (0 : Int32)), .val (.ref t1), .val (.ref t2), .val (.ref u1), .val (.ref u2), .val (.ref b28), .val (.int (0 : Int32)), .val (.int (0 : Int32)), .val (.int (1 : Int32))] [])) t → Steps p.tables e below (s₁.setTop (mkF m 0 #[.val (.int p0), .val (.int p1), .val (.int p2), .val (.int p3), .val (.int p4), .unset, .unset, .unset, .unset, .unset, .unset, .unset, .unset, .unset, .unset, .unset, .unset] [])) t := by
            intro t q
            refine k97_ _ ?_
            show Steps p.tables e below (T91.setTop (mkF m 183 #[.val (.int p0), .val (.int p1), .val (.int p2), .val (.int p3), .val (.int p4), .val (.int eb), .val (.int el), .val (.int (0 : Int32)), .val (.int (0 : Int32)), .val (.ref t1), .val (.ref t2), .val (.ref u1), .val (.ref u2), .val (.ref b28), .val (.int (0 : Int32)), .val (.int (0 : Int32)), .val (.int (1 : Int32))] [(.int (0 : Int32)), (.int (0 : Int32))])) _
            refine XS.icmpNo X91.here hx rfl (hb hby at_183) rfl (teq rfl).2 ?_
            show Steps p.tables e below (T91.setTop (mkF m 186 #[.val (.int p0), .val (.int p1), .val (.int p2), .val (.int p3), .val (.int p4), .val (.int eb), .val (.int el), .val (.int (0 : Int32)), .val (.int (0 : Int32)), .val (.ref t1), .val (.ref t2), .val (.ref u1), .val (.ref u2), .val (.ref b28), .val (.int (0 : Int32)), .val (.int (0 : Int32)), .val (.int (1 : Int32))] [])) _
            exact q
          have k99_ : ∀ t, Steps p.tables e below (T91.setTop (mkF m 191 #[.val (.int p0), .val (.int p1), .val (.int p2), .val (.int p3), .val (.int p4), .val (.int eb), .val (.int el), .val (.int (0 : Int32)), .val (.int (0 : Int32)), .val (.ref t1), .val (.ref t2), .val (.ref u1), .val (.ref u2), .val (.ref b28), .val (.int (0 : Int32)), .val (.int (0 : Int32)), .val (.int (1 : Int32))] [(.int (1 : Int32))])) t → Steps p.tables e below (s₁.setTop (mkF m 0 #[.val (.int p0), .val (.int p1), .val (.int p2), .val (.int p3), .val (.int p4), .unset, .unset, .unset, .unset, .unset, .unset, .unset, .unset, .unset, .unset, .unset, .unset] [])) t := by
            intro t q
            refine k98_ _ ?_
            show Steps p.tables e below (T91.setTop (mkF m 186 #[.val (.int p0), .val (.int p1), .val (.int p2), .val (.int p3), .val (.int p4), .val (.int eb), .val (.int el), .val (.int (0 : Int32)), .val (.int (0 : Int32)), .val (.ref t1), .val (.ref t2), .val (.ref u1), .val (.ref u2), .val (.ref b28), .val (.int (0 : Int32)), .val (.int (0 : Int32)), .val (.int (1 : Int32))] [])) _
            refine XS.iconst X91.here hx rfl (hb hby at_186) ?_
            refine XS.goto X91.here hx rfl (pc0 := 187) (pc' := 191) rfl (hb hby at_187) (by decide) (by decide) ?_
            show Steps p.tables e below (T91.setTop (mkF m 191 #[.val (.int p0), .val (.int p1), .val (.int p2), .val (.int p3), .val (.int p4), .val (.int eb), .val (.int el), .val (.int (0 : Int32)), .val (.int (0 : Int32)), .val (.ref t1), .val (.ref t2), .val (.ref u1), .val (.ref u2), .val (.ref b28), .val (.int (0 : Int32)), .val (.int (0 : Int32)), .val (.int (1 : Int32))] [(.int (1 : Int32))])) _
            exact q
          obtain ⟨fs, hr, hrun, hended, r1, r2, r3, r4⟩ := Stand.leaveW (s := s) (vm₁ := T25.vm) X91 hS (by rw [hq91]; exact hk) (v := some (.int (1 : Int32))) (fun h => by rw [Bd.returns] at h; cases h)
          refine ⟨_, _, pre0 _ (k99_ _ ?_), hrun, hended, _, rfl, N91, r1, r2, r3, r4.mono (by decide) (by decide)⟩
          · show Steps p.tables e below (T91.setTop (mkF m 191 #[.val (.int p0), .val (.int p1), .val (.int p2), .val (.int p3), .val (.int p4), .val (.int eb), .val (.int el), .val (.int (0 : Int32)), .val (.int (0 : Int32)), .val (.ref t1), .val (.ref t2), .val (.ref u1), .val (.ref u2), .val (.ref b28), .val (.int (0 : Int32)), .val (.int (0 : Int32)), .val (.int (1 : Int32))] [(.int (1 : Int32))])) _
            exact retN X91 hx (t := .boolean) Bd.returns (by simp) (hb hby at_191) hr
        · have k100_ : ∀ t, Steps p.tables e below (T34.setTop (mkF m 122 #[.val (.int p0), .val (.int p1), .val (.int p2), .val (.int p3), .val (.int p4), .val (.int eb), .val (.int el), .val (.int (0 : Int32)), .val (.int (0 : Int32)), .val (.ref t1), .val (.ref t2), .val (.ref u1), .val (.ref u2), .val (.ref b28), .unset, .unset, .unset] [(.int (0 : Int32))])) t → Steps p.tables e below (s₁.setTop (mkF m 0 #[.val (.int p0), .val (.int p1), .val (.int p2), .val (.int p3), .val (.int p4), .unset, .unset, .unset, .unset, .unset, .unset, .unset, .unset, .unset, .unset, .unset, .unset] [])) t := fun t q => k35_ t (Eq.mp (congrArg (fun z => Steps p.tables e below (T34.setTop (mkF m 122 #[.val (.int p0), .val (.int p1), .val (.int p2), .val (.int p3), .val (.int p4), .val (.int eb), .val (.int el), .val (.int (0 : Int32)), .val (.int (0 : Int32)), .val (.ref t1), .val (.ref t2), .val (.ref u1), .val (.ref u2), .val (.ref b28), .unset, .unset, .unset] [(.int z)])) t) (show (0 : Int32) = (bi ((own_cs p0 = own_cs eb) ∧ (own_cs p1 = own_cs el))) from (bi_f fun z => hA z.1).symm)) q)
          have k101_ : ∀ t, Steps p.tables e below (T34.setTop (mkF m 126 #[.val (.int p0), .val (.int p1), .val (.int p2), .val (.int p3), .val (.int p4), .val (.int eb), .val (.int el), .val (.int (0 : Int32)), .val (.int (0 : Int32)), .val (.ref t1), .val (.ref t2), .val (.ref u1), .val (.ref u2), .val (.ref b28), .val (.int (0 : Int32)), .unset, .unset] [(.int (0 : Int32))])) t → Steps p.tables e below (s₁.setTop (mkF m 0 #[.val (.int p0), .val (.int p1), .val (.int p2), .val (.int p3), .val (.int p4), .unset, .unset, .unset, .unset, .unset, .unset, .unset, .unset, .unset, .unset, .unset, .unset] [])) t := by
            intro t q
            refine k100_ _ ?_
            show Steps p.tables e below (T34.setTop (mkF m 122 #[.val (.int p0), .val (.int p1), .val (.int p2), .val (.int p3), .val (.int p4), .val (.int eb), .val (.int el), .val (.int (0 : Int32)), .val (.int (0 : Int32)), .val (.ref t1), .val (.ref t2), .val (.ref u1), .val (.ref u2), .val (.ref b28), .unset, .unset, .unset] [(.int (0 : Int32))])) _
            refine XS.istore X34.here hx rfl (hb hby at_122) rfl (l' := #[.val (.int p0), .val (.int p1), .val (.int p2), .val (.int p3), .val (.int p4), .val (.int eb), .val (.int el), .val (.int (0 : Int32)), .val (.int (0 : Int32)), .val (.ref t1), .val (.ref t2), .val (.ref u1), .val (.ref u2), .val (.ref b28), .val (.int (0 : Int32)), .unset, .unset]) rfl ?_
            refine XS.iload X34.here hx rfl (hb hby at_124) rfl ?_
            show Steps p.tables e below (T34.setTop (mkF m 126 #[.val (.int p0), .val (.int p1), .val (.int p2), .val (.int p3), .val (.int p4), .val (.int eb), .val (.int el), .val (.int (0 : Int32)), .val (.int (0 : Int32)), .val (.ref t1), .val (.ref t2), .val (.ref u1), .val (.ref u2), .val (.ref b28), .val (.int (0 : Int32)), .unset, .unset] [(.int (0 : Int32))])) _
            exact q
          have k102_ : ∀ t, Steps p.tables e below (T34.setTop (mkF m 129 #[.val (.int p0), .val (.int p1), .val (.int p2), .val (.int p3), .val (.int p4), .val (.int eb), .val (.int el), .val (.int (0 : Int32)), .val (.int (0 : Int32)), .val (.ref t1), .val (.ref t2), .val (.ref u1), .val (.ref u2), .val (.ref b28), .val (.int (0 : Int32)), .unset, .unset] [])) t → Steps p.tables e below (s₁.setTop (mkF m 0 #[.val (.int p0), .val (.int p1), .val (.int p2), .val (.int p3), .val (.int p4), .unset, .unset, .unset, .unset, .unset, .unset, .unset, .unset, .unset, .unset, .unset, .unset] [])) t := by
            intro t q
            refine k101_ _ ?_
            show Steps p.tables e below (T34.setTop (mkF m 126 #[.val (.int p0), .val (.int p1), .val (.int p2), .val (.int p3), .val (.int p4), .val (.int eb), .val (.int el), .val (.int (0 : Int32)), .val (.int (0 : Int32)), .val (.ref t1), .val (.ref t2), .val (.ref u1), .val (.ref u2), .val (.ref b28), .val (.int (0 : Int32)), .unset, .unset] [(.int (0 : Int32))])) _
            refine XS.ifNo X34.here hx rfl (hb hby at_126) rfl ((if0 _ _).trans (teq rfl).2) ?_
            show Steps p.tables e below (T34.setTop (mkF m 129 #[.val (.int p0), .val (.int p1), .val (.int p2), .val (.int p3), .val (.int p4), .val (.int eb), .val (.int el), .val (.int (0 : Int32)), .val (.int (0 : Int32)), .val (.ref t1), .val (.ref t2), .val (.ref u1), .val (.ref u2), .val (.ref b28), .val (.int (0 : Int32)), .unset, .unset] [])) _
            exact q
          have k103_ : ∀ t, Steps p.tables e below (T34.setTop (mkF m 132 #[.val (.int p0), .val (.int p1), .val (.int p2), .val (.int p3), .val (.int p4), .val (.int eb), .val (.int el), .val (.int (0 : Int32)), .val (.int (0 : Int32)), .val (.ref t1), .val (.ref t2), .val (.ref u1), .val (.ref u2), .val (.ref b28), .val (.int (0 : Int32)), .unset, .unset] [(.int eb), (.int p0)])) t → Steps p.tables e below (s₁.setTop (mkF m 0 #[.val (.int p0), .val (.int p1), .val (.int p2), .val (.int p3), .val (.int p4), .unset, .unset, .unset, .unset, .unset, .unset, .unset, .unset, .unset, .unset, .unset, .unset] [])) t := by
            intro t q
            refine k102_ _ ?_
            show Steps p.tables e below (T34.setTop (mkF m 129 #[.val (.int p0), .val (.int p1), .val (.int p2), .val (.int p3), .val (.int p4), .val (.int eb), .val (.int el), .val (.int (0 : Int32)), .val (.int (0 : Int32)), .val (.ref t1), .val (.ref t2), .val (.ref u1), .val (.ref u2), .val (.ref b28), .val (.int (0 : Int32)), .unset, .unset] [])) _
            refine XS.iloadN X34.here hx rfl (hb hby at_129) rfl ?_
            refine XS.iload X34.here hx rfl (hb hby at_130) rfl ?_
            show Steps p.tables e below (T34.setTop (mkF m 132 #[.val (.int p0), .val (.int p1), .val (.int p2), .val (.int p3), .val (.int p4), .val (.int eb), .val (.int el), .val (.int (0 : Int32)), .val (.int (0 : Int32)), .val (.ref t1), .val (.ref t2), .val (.ref u1), .val (.ref u2), .val (.ref b28), .val (.int (0 : Int32)), .unset, .unset] [(.int eb), (.int p0)])) _
            exact q
          obtain ⟨_, _, ⟨T104, L104, kk104, n104⟩, -, X104, ⟨Lc104, hQ104, l104, y104, z104⟩, st104⟩ := Jvm.LawKit.callS X34 hx (y := (⟨"com/example/triplewright/triplewright/source/ElementNameMatchesPinLaw", "same", "(II)Z"⟩ : MethodName)) hown (mvT hZ (hw _ (List.mem_of_getElem? (i := 75) rfl))) (mvT hZ (hw _ (List.mem_of_getElem? (i := 76) rfl))) (mvT hZ (hw _ (List.mem_of_getElem? (i := 3) rfl))) (mvT hZ (hw _ (List.mem_of_getElem? (i := 77) rfl))) (by decide) (backOf (W := 0) (rmSa l Z a0 hw [] p0 eb T31.heap n0 Zn) hZ (hw _ (List.mem_of_getElem? (i := 77) rfl)) (hw _ (List.mem_of_getElem? (i := 3) rfl)) (by decide) (by decide)) (g := (mkF m 132 #[.val (.int p0), .val (.int p1), .val (.int p2), .val (.int p3), .val (.int p4), .val (.int eb), .val (.int el), .val (.int (0 : Int32)), .val (.int (0 : Int32)), .val (.ref t1), .val (.ref t2), .val (.ref u1), .val (.ref u2), .val (.ref b28), .val (.int (0 : Int32)), .unset, .unset] [(.int eb), (.int p0)])) rfl (by rw [hml]; rfl) (argsL := [(.int p0), (.int eb)]) (rest := []) (lenOf pd_90437 rfl) rfl (by show 2 * 0 + _ ≤ _; exact Nat.le_of_eq rfl) (hb hby at_132) (fun _ _ => ⟨rfl, hq34, (by decide : 0 + 4 + 4 + 4 + 4 + 1 + 0 + 0 + 0 ≤ _), (by decide : 0 + 11 + 11 + 11 + 11 + 2 + 0 + 0 + 0 ≤ _)⟩)
          dsimp only [Pt.U, Pt.locs, Pt.cells, Pt.slots] at X104 l104 y104 z104 st104 hQ104
          rw [l104, y104, z104] at X104
          obtain ⟨rfl, Nq104, hq104⟩ := hQ104
          have N104 := Fr.app N34 Nq104
          have k105_ : ∀ t, Steps p.tables e below (T104.setTop (mkF m 135 #[.val (.int p0), .val (.int p1), .val (.int p2), .val (.int p3), .val (.int p4), .val (.int eb), .val (.int el), .val (.int (0 : Int32)), .val (.int (0 : Int32)), .val (.ref t1), .val (.ref t2), .val (.ref u1), .val (.ref u2), .val (.ref b28), .val (.int (0 : Int32)), .unset, .unset] [(.int (bi (own_cs p0 = own_cs eb)))])) t → Steps p.tables e below (s₁.setTop (mkF m 0 #[.val (.int p0), .val (.int p1), .val (.int p2), .val (.int p3), .val (.int p4), .unset, .unset, .unset, .unset, .unset, .unset, .unset, .unset, .unset, .unset, .unset, .unset] [])) t := fun t q => k103_ t (st104 t q)
          have k106_ : ∀ t, Steps p.tables e below (T104.setTop (mkF m 135 #[.val (.int p0), .val (.int p1), .val (.int p2), .val (.int p3), .val (.int p4), .val (.int eb), .val (.int el), .val (.int (0 : Int32)), .val (.int (0 : Int32)), .val (.ref t1), .val (.ref t2), .val (.ref u1), .val (.ref u2), .val (.ref b28), .val (.int (0 : Int32)), .unset, .unset] [(.int (0 : Int32))])) t → Steps p.tables e below (s₁.setTop (mkF m 0 #[.val (.int p0), .val (.int p1), .val (.int p2), .val (.int p3), .val (.int p4), .unset, .unset, .unset, .unset, .unset, .unset, .unset, .unset, .unset, .unset, .unset, .unset] [])) t := fun t q => k105_ t (Eq.mp (congrArg (fun z => Steps p.tables e below (T104.setTop (mkF m 135 #[.val (.int p0), .val (.int p1), .val (.int p2), .val (.int p3), .val (.int p4), .val (.int eb), .val (.int el), .val (.int (0 : Int32)), .val (.int (0 : Int32)), .val (.ref t1), .val (.ref t2), .val (.ref u1), .val (.ref u2), .val (.ref b28), .val (.int (0 : Int32)), .unset, .unset] [(.int z)])) t) (show (0 : Int32) = (bi (own_cs p0 = own_cs eb)) from (bi_f hA).symm)) q)
          have k107_ : ∀ t, Steps p.tables e below (T104.setTop (mkF m 142 #[.val (.int p0), .val (.int p1), .val (.int p2), .val (.int p3), .val (.int p4), .val (.int eb), .val (.int el), .val (.int (0 : Int32)), .val (.int (0 : Int32)), .val (.ref t1), .val (.ref t2), .val (.ref u1), .val (.ref u2), .val (.ref b28), .val (.int (0 : Int32)), .unset, .unset] [])) t → Steps p.tables e below (s₁.setTop (mkF m 0 #[.val (.int p0), .val (.int p1), .val (.int p2), .val (.int p3), .val (.int p4), .unset, .unset, .unset, .unset, .unset, .unset, .unset, .unset, .unset, .unset, .unset, .unset] [])) t := by
            intro t q
            refine k106_ _ ?_
            show Steps p.tables e below (T104.setTop (mkF m 135 #[.val (.int p0), .val (.int p1), .val (.int p2), .val (.int p3), .val (.int p4), .val (.int eb), .val (.int el), .val (.int (0 : Int32)), .val (.int (0 : Int32)), .val (.ref t1), .val (.ref t2), .val (.ref u1), .val (.ref u2), .val (.ref b28), .val (.int (0 : Int32)), .unset, .unset] [(.int (0 : Int32))])) _
            refine XS.ifYes X104.here hx rfl (pc0 := 135) (pc' := 142) rfl (hb hby at_135) rfl ((if0 _ _).trans (teq (by decide)).1) (by decide) (by decide) ?_
            show Steps p.tables e below (T104.setTop (mkF m 142 #[.val (.int p0), .val (.int p1), .val (.int p2), .val (.int p3), .val (.int p4), .val (.int eb), .val (.int el), .val (.int (0 : Int32)), .val (.int (0 : Int32)), .val (.ref t1), .val (.ref t2), .val (.ref u1), .val (.ref u2), .val (.ref b28), .val (.int (0 : Int32)), .unset, .unset] [])) _
            exact q
          have k108_ : ∀ t, Steps p.tables e below (T104.setTop (mkF m 147 #[.val (.int p0), .val (.int p1), .val (.int p2), .val (.int p3), .val (.int p4), .val (.int eb), .val (.int el), .val (.int (0 : Int32)), .val (.int (0 : Int32)), .val (.ref t1), .val (.ref t2), .val (.ref u1), .val (.ref u2), .val (.ref b28), .val (.int (0 : Int32)), .val (.int (0 : Int32)), .unset] [(.int (0 : Int32))])) t → Steps p.tables e below (s₁.setTop (mkF m 0 #[.val (.int p0), .val (.int p1), .val (.int p2), .val (.int p3), .val (.int p4), .unset, .unset, .unset, .unset, .unset, .unset, .unset, .unset, .unset, .unset, .unset, .unset] [])) t := by
            intro t q
            refine k107_ _ ?_
            show Steps p.tables e below (T104.setTop (mkF m 142 #[.val (.int p0), .val (.int p1), .val (.int p2), .val (.int p3), .val (.int p4), .val (.int eb), .val (.int el), .val (.int (0 : Int32)), .val (.int (0 : Int32)), .val (.ref t1), .val (.ref t2), .val (.ref u1), .val (.ref u2), .val (.ref b28), .val (.int (0 : Int32)), .unset, .unset] [])) _
            refine XS.iconst X104.here hx rfl (hb hby at_142) ?_
            refine XS.istore X104.here hx rfl (hb hby at_143) rfl (l' := #[.val (.int p0), .val (.int p1), .val (.int p2), .val (.int p3), .val (.int p4), .val (.int eb), .val (.int el), .val (.int (0 : Int32)), .val (.int (0 : Int32)), .val (.ref t1), .val (.ref t2), .val (.ref u1), .val (.ref u2), .val (.ref b28), .val (.int (0 : Int32)), .val (.int (0 : Int32)), .unset]) rfl ?_
            show Steps p.tables e below (T104.setTop (mkF m 145 #[.val (.int p0), .val (.int p1), .val (.int p2), .val (.int p3), .val (.int p4), .val (.int eb), .val (.int el), .val (.int (0 : Int32)), .val (.int (0 : Int32)), .val (.ref t1), .val (.ref t2), .val (.ref u1), .val (.ref u2), .val (.ref b28), .val (.int (0 : Int32)), .val (.int (0 : Int32)), .unset] [])) _
            refine XS.iload X104.here hx rfl (hb hby at_145) rfl ?_
            show Steps p.tables e below (T104.setTop (mkF m 147 #[.val (.int p0), .val (.int p1), .val (.int p2), .val (.int p3), .val (.int p4), .val (.int eb), .val (.int el), .val (.int (0 : Int32)), .val (.int (0 : Int32)), .val (.ref t1), .val (.ref t2), .val (.ref u1), .val (.ref u2), .val (.ref b28), .val (.int (0 : Int32)), .val (.int (0 : Int32)), .unset] [(.int (0 : Int32))])) _
            exact q
          have k109_ : ∀ t, Steps p.tables e below (T104.setTop (mkF m 150 #[.val (.int p0), .val (.int p1), .val (.int p2), .val (.int p3), .val (.int p4), .val (.int eb), .val (.int el), .val (.int (0 : Int32)), .val (.int (0 : Int32)), .val (.ref t1), .val (.ref t2), .val (.ref u1), .val (.ref u2), .val (.ref b28), .val (.int (0 : Int32)), .val (.int (0 : Int32)), .unset] [])) t → Steps p.tables e below (s₁.setTop (mkF m 0 #[.val (.int p0), .val (.int p1), .val (.int p2), .val (.int p3), .val (.int p4), .unset, .unset, .unset, .unset, .unset, .unset, .unset, .unset, .unset, .unset, .unset, .unset] [])) t := by
            intro t q
            refine k108_ _ ?_
            show Steps p.tables e below (T104.setTop (mkF m 147 #[.val (.int p0), .val (.int p1), .val (.int p2), .val (.int p3), .val (.int p4), .val (.int eb), .val (.int el), .val (.int (0 : Int32)), .val (.int (0 : Int32)), .val (.ref t1), .val (.ref t2), .val (.ref u1), .val (.ref u2), .val (.ref b28), .val (.int (0 : Int32)), .val (.int (0 : Int32)), .unset] [(.int (0 : Int32))])) _
            refine XS.ifNo X104.here hx rfl (hb hby at_147) rfl ((if0 _ _).trans (teq rfl).2) ?_
            show Steps p.tables e below (T104.setTop (mkF m 150 #[.val (.int p0), .val (.int p1), .val (.int p2), .val (.int p3), .val (.int p4), .val (.int eb), .val (.int el), .val (.int (0 : Int32)), .val (.int (0 : Int32)), .val (.ref t1), .val (.ref t2), .val (.ref u1), .val (.ref u2), .val (.ref b28), .val (.int (0 : Int32)), .val (.int (0 : Int32)), .unset] [])) _
            exact q
          have k110_ : ∀ t, Steps p.tables e below (T104.setTop (mkF m 153 #[.val (.int p0), .val (.int p1), .val (.int p2), .val (.int p3), .val (.int p4), .val (.int eb), .val (.int el), .val (.int (0 : Int32)), .val (.int (0 : Int32)), .val (.ref t1), .val (.ref t2), .val (.ref u1), .val (.ref u2), .val (.ref b28), .val (.int (0 : Int32)), .val (.int (0 : Int32)), .unset] [(.int el), (.int p1)])) t → Steps p.tables e below (s₁.setTop (mkF m 0 #[.val (.int p0), .val (.int p1), .val (.int p2), .val (.int p3), .val (.int p4), .unset, .unset, .unset, .unset, .unset, .unset, .unset, .unset, .unset, .unset, .unset, .unset] [])) t := by
            intro t q
            refine k109_ _ ?_
            show Steps p.tables e below (T104.setTop (mkF m 150 #[.val (.int p0), .val (.int p1), .val (.int p2), .val (.int p3), .val (.int p4), .val (.int eb), .val (.int el), .val (.int (0 : Int32)), .val (.int (0 : Int32)), .val (.ref t1), .val (.ref t2), .val (.ref u1), .val (.ref u2), .val (.ref b28), .val (.int (0 : Int32)), .val (.int (0 : Int32)), .unset] [])) _
            refine XS.iloadN X104.here hx rfl (hb hby at_150) rfl ?_
            refine XS.iload X104.here hx rfl (hb hby at_151) rfl ?_
            show Steps p.tables e below (T104.setTop (mkF m 153 #[.val (.int p0), .val (.int p1), .val (.int p2), .val (.int p3), .val (.int p4), .val (.int eb), .val (.int el), .val (.int (0 : Int32)), .val (.int (0 : Int32)), .val (.ref t1), .val (.ref t2), .val (.ref u1), .val (.ref u2), .val (.ref b28), .val (.int (0 : Int32)), .val (.int (0 : Int32)), .unset] [(.int el), (.int p1)])) _
            exact q
          obtain ⟨_, _, ⟨T111, L111, kk111, n111⟩, -, X111, ⟨Lc111, hQ111, l111, y111, z111⟩, st111⟩ := Jvm.LawKit.callS X104 hx (y := (⟨"com/example/triplewright/triplewright/source/ElementNameMatchesPinLaw", "same", "(II)Z"⟩ : MethodName)) hown (mvT hZ (hw _ (List.mem_of_getElem? (i := 75) rfl))) (mvT hZ (hw _ (List.mem_of_getElem? (i := 76) rfl))) (mvT hZ (hw _ (List.mem_of_getElem? (i := 3) rfl))) (mvT hZ (hw _ (List.mem_of_getElem? (i := 77) rfl))) (by decide) (backOf (W := 0) (rmSa l Z a0 hw [] p1 el T31.heap n0 Zn) hZ (hw _ (List.mem_of_getElem? (i := 77) rfl)) (hw _ (List.mem_of_getElem? (i := 3) rfl)) (by decide) (by decide)) (g := (mkF m 153 #[.val (.int p0), .val (.int p1), .val (.int p2), .val (.int p3), .val (.int p4), .val (.int eb), .val (.int el), .val (.int (0 : Int32)), .val (.int (0 : Int32)), .val (.ref t1), .val (.ref t2), .val (.ref u1), .val (.ref u2), .val (.ref b28), .val (.int (0 : Int32)), .val (.int (0 : Int32)), .unset] [(.int el), (.int p1)])) rfl (by rw [hml]; rfl) (argsL := [(.int p1), (.int el)]) (rest := []) (lenOf pd_90437 rfl) rfl (by show 2 * 0 + _ ≤ _; exact Nat.le_of_eq rfl) (hb hby at_153) (fun _ _ => ⟨rfl, hq104, (by decide : 0 + 4 + 4 + 4 + 4 + 1 + 0 + 0 + 0 + 0 ≤ _), (by decide : 0 + 11 + 11 + 11 + 11 + 2 + 0 + 0 + 0 + 0 ≤ _)⟩)
          dsimp only [Pt.U, Pt.locs, Pt.cells, Pt.slots] at X111 l111 y111 z111 st111 hQ111
          rw [l111, y111, z111] at X111
          obtain ⟨rfl, Nq111, hq111⟩ := hQ111
          have N111 := Fr.app N104 Nq111
          have k112_ : ∀ t, Steps p.tables e below (T111.setTop (mkF m 156 #[.val (.int p0), .val (.int p1), .val (.int p2), .val (.int p3), .val (.int p4), .val (.int eb), .val (.int el), .val (.int (0 : Int32)), .val (.int (0 : Int32)), .val (.ref t1), .val (.ref t2), .val (.ref u1), .val (.ref u2), .val (.ref b28), .val (.int (0 : Int32)), .val (.int (0 : Int32)), .unset] [(.int (bi (own_cs p1 = own_cs el)))])) t → Steps p.tables e below (s₁.setTop (mkF m 0 #[.val (.int p0), .val (.int p1), .val (.int p2), .val (.int p3), .val (.int p4), .unset, .unset, .unset, .unset, .unset, .unset, .unset, .unset, .unset, .unset, .unset, .unset] [])) t := fun t q => k110_ t (st111 t q)
          have k113_ : ∀ t, Steps p.tables e below (T111.setTop (mkF m 156 #[.val (.int p0), .val (.int p1), .val (.int p2), .val (.int p3), .val (.int p4), .val (.int eb), .val (.int el), .val (.int (0 : Int32)), .val (.int (0 : Int32)), .val (.ref t1), .val (.ref t2), .val (.ref u1), .val (.ref u2), .val (.ref b28), .val (.int (0 : Int32)), .val (.int (0 : Int32)), .unset] [(.int (0 : Int32))])) t → Steps p.tables e below (s₁.setTop (mkF m 0 #[.val (.int p0), .val (.int p1), .val (.int p2), .val (.int p3), .val (.int p4), .unset, .unset, .unset, .unset, .unset, .unset, .unset, .unset, .unset, .unset, .unset, .unset] [])) t := fun t q => k112_ t (Eq.mp (congrArg (fun z => Steps p.tables e below (T111.setTop (mkF m 156 #[.val (.int p0), .val (.int p1), .val (.int p2), .val (.int p3), .val (.int p4), .val (.int eb), .val (.int el), .val (.int (0 : Int32)), .val (.int (0 : Int32)), .val (.ref t1), .val (.ref t2), .val (.ref u1), .val (.ref u2), .val (.ref b28), .val (.int (0 : Int32)), .val (.int (0 : Int32)), .unset] [(.int z)])) t) (show (0 : Int32) = (bi (own_cs p1 = own_cs el)) from (bi_f hB).symm)) q)
          have k114_ : ∀ t, Steps p.tables e below (T111.setTop (mkF m 163 #[.val (.int p0), .val (.int p1), .val (.int p2), .val (.int p3), .val (.int p4), .val (.int eb), .val (.int el), .val (.int (0 : Int32)), .val (.int (0 : Int32)), .val (.ref t1), .val (.ref t2), .val (.ref u1), .val (.ref u2), .val (.ref b28), .val (.int (0 : Int32)), .val (.int (0 : Int32)), .unset] [])) t → Steps p.tables e below (s₁.setTop (mkF m 0 #[.val (.int p0), .val (.int p1), .val (.int p2), .val (.int p3), .val (.int p4), .unset, .unset, .unset, .unset, .unset, .unset, .unset, .unset, .unset, .unset, .unset, .unset] [])) t := by
            intro t q
            refine k113_ _ ?_
            show Steps p.tables e below (T111.setTop (mkF m 156 #[.val (.int p0), .val (.int p1), .val (.int p2), .val (.int p3), .val (.int p4), .val (.int eb), .val (.int el), .val (.int (0 : Int32)), .val (.int (0 : Int32)), .val (.ref t1), .val (.ref t2), .val (.ref u1), .val (.ref u2), .val (.ref b28), .val (.int (0 : Int32)), .val (.int (0 : Int32)), .unset] [(.int (0 : Int32))])) _
            refine XS.ifYes X111.here hx rfl (pc0 := 156) (pc' := 163) rfl (hb hby at_156) rfl ((if0 _ _).trans (teq (by decide)).1) (by decide) (by decide) ?_
            show Steps p.tables e below (T111.setTop (mkF m 163 #[.val (.int p0), .val (.int p1), .val (.int p2), .val (.int p3), .val (.int p4), .val (.int eb), .val (.int el), .val (.int (0 : Int32)), .val (.int (0 : Int32)), .val (.ref t1), .val (.ref t2), .val (.ref u1), .val (.ref u2), .val (.ref b28), .val (.int (0 : Int32)), .val (.int (0 : Int32)), .unset] [])) _
            exact q
          have k115_ : ∀ t, Steps p.tables e below (T111.setTop (mkF m 170 #[.val (.int p0), .val (.int p1), .val (.int p2), .val (.int p3), .val (.int p4), .val (.int eb), .val (.int el), .val (.int (0 : Int32)), .val (.int (0 : Int32)), .val (.ref t1), .val (.ref t2), .val (.ref u1), .val (.ref u2), .val (.ref b28), .val (.int (0 : Int32)), .val (.int (0 : Int32)), .val (.int (0 : Int32))] [(.int (0 : Int32)), (.int (0 : Int32))])) t → Steps p.tables e below (s₁.setTop (mkF m 0 #[.val (.int p0), .val (.int p1), .val (.int p2), .val (.int p3), .val (.int p4), .unset, .unset, .unset, .unset, .unset, .unset, .unset, .unset, .unset, .unset, .unset, .unset] [])) t := by
            intro t q
            refine k114_ _ ?_
            show Steps p.tables e below (T111.setTop (mkF m 163 #[.val (.int p0), .val (.int p1), .val (.int p2), .val (.int p3), .val (.int p4), .val (.int eb), .val (.int el), .val (.int (0 : Int32)), .val (.int (0 : Int32)), .val (.ref t1), .val (.ref t2), .val (.ref u1), .val (.ref u2), .val (.ref b28), .val (.int (0 : Int32)), .val (.int (0 : Int32)), .unset] [])) _
            refine XS.iconst X111.here hx rfl (hb hby at_163) ?_
            refine XS.istore X111.here hx rfl (hb hby at_164) rfl (l' := #[.val (.int p0), .val (.int p1), .val (.int p2), .val (.int p3), .val (.int p4), .val (.int eb), .val (.int el), .val (.int (0 : Int32)), .val (.int (0 : Int32)), .val (.ref t1), .val (.ref t2), .val (.ref u1), .val (.ref u2), .val (.ref b28), .val (.int (0 : Int32)), .val (.int (0 : Int32)), .val (.int (0 : Int32))]) rfl ?_
            show Steps p.tables e below (T111.setTop (mkF m 166 #[.val (.int p0), .val (.int p1), .val (.int p2), .val (.int p3), .val (.int p4), .val (.int eb), .val (.int el), .val (.int (0 : Int32)), .val (.int (0 : Int32)), .val (.ref t1), .val (.ref t2), .val (.ref u1), .val (.ref u2), .val (.ref b28), .val (.int (0 : Int32)), .val (.int (0 : Int32)), .val (.int (0 : Int32))] [])) _
            refine XS.iload X111.here hx rfl (hb hby at_166) rfl ?_
            refine XS.iload X111.here hx rfl (hb hby at_168) rfl ?_
            show Steps p.tables e below (T111.setTop (mkF m 170 #[.val (.int p0), .val (.int p1), .val (.int p2), .val (.int p3), .val (.int p4), .val (.int eb), .val (.int el), .val (.int (0 : Int32)), .val (.int (0 : Int32)), .val (.ref t1), .val (.ref t2), .val (.ref u1), .val (.ref u2), .val (.ref b28), .val (.int (0 : Int32)), .val (.int (0 : Int32)), .val (.int (0 : Int32))] [(.int (0 : Int32)), (.int (0 : Int32))])) _
            exact q
          have k116_ : ∀ t, Steps p.tables e below (T111.setTop (mkF m 182 #[.val (.int p0), .val (.int p1), .val (.int p2), .val (.int p3), .val (.int p4), .val (.int eb), .val (.int el), .val (.int (0 : Int32)), .val (.int (0 : Int32)), .val (.ref t1), .val (.ref t2), .val (.ref u1), .val (.ref u2), .val (.ref b28), .val (.int (0 : Int32)), .val (.int (0 : Int32)), .val (.int (0 : Int32))] [(.int (0 : Int32))])) t → Steps p.tables e below (s₁.setTop (mkF m 0 #[.val (.int p0), .val (.int p1), .val (.int p2), .val (.int p3), .val (.int p4), .unset, .unset, .unset, .unset, .unset, .unset, .unset, .unset, .unset, .unset, .unset, .unset] [])) t := by
            intro t q
            refine k115_ _ ?_
            show Steps p.tables e below (T111.setTop (mkF m 170 #[.val (.int p0), .val (.int p1), .val (.int p2), .val (.int p3), .val (.int p4), .val (.int eb), .val (.int el), .val (.int (0 : Int32)), .val (.int (0 : Int32)), .val (.ref t1), .val (.ref t2), .val (.ref u1), .val (.ref u2), .val (.ref b28), .val (.int (0 : Int32)), .val (.int (0 : Int32)), .val (.int (0 : Int32))] [(.int (0 : Int32)), (.int (0 : Int32))])) _
            refine XS.ifYes X111.here hx rfl (pc0 := 170) (pc' := 182) rfl (hb hby at_170) rfl ((if0 _ _).trans (teq (by decide)).1) (by decide) (by decide) ?_
            show Steps p.tables e below (T111.setTop (mkF m 182 #[.val (.int p0), .val (.int p1), .val (.int p2), .val (.int p3), .val (.int p4), .val (.int eb), .val (.int el), .val (.int (0 : Int32)), .val (.int (0 : Int32)), .val (.ref t1), .val (.ref t2), .val (.ref u1), .val (.ref u2), .val (.ref b28), .val (.int (0 : Int32)), .val (.int (0 : Int32)), .val (.int (0 : Int32))] [(.int (0 : Int32))])) _
            exact q
          have k117_ : ∀ t, Steps p.tables e below (T111.setTop (mkF m 183 #[.val (.int p0), .val (.int p1), .val (.int p2), .val (.int p3), .val (.int p4), .val (.int eb), .val (.int el), .val (.int (0 : Int32)), .val (.int (0 : Int32)), .val (.ref t1), .val (.ref t2), .val (.ref u1), .val (.ref u2), .val (.ref b28), .val (.int (0 : Int32)), .val (.int (0 : Int32)), .val (.int (0 : Int32))] [(.int (0 : Int32)), (.int (0 : Int32))])) t → Steps p.tables e below (s₁.setTop (mkF m 0 #[.val (.int p0), .val (.int p1), .val (.int p2), .val (.int p3), .val (.int p4), .unset, .unset, .unset, .unset, .unset, .unset, .unset, .unset, .unset, .unset, .unset, .unset] [])) t := by
            intro t q
            refine k116_ _ ?_
            show Steps p.tables e below (T111.setTop (mkF m 182 #[.val (.int p0), .val (.int p1), .val (.int p2), .val (.int p3), .val (.int p4), .val (.int eb), .val (.int el), .val (.int (0 : Int32)), .val (.int (0 : Int32)), .val (.ref t1), .val (.ref t2), .val (.ref u1), .val (.ref u2), .val (.ref b28), .val (.int (0 : Int32)), .val (.int (0 : Int32)), .val (.int (0 : Int32))] [(.int (0 : Int32))])) _
            refine XS.iconst X111.here hx rfl (hb hby at_182) ?_
            show Steps p.tables e below (T111.setTop (mkF m 183 #[.val (.int p0), .val (.int p1), .val (.int p2), .val (.int p3), .val (.int p4), .val (.int eb), .val (.int el), .val (.int (0 : Int32)), .val (.int (0 : Int32)), .val (.ref t1), .val (.ref t2), .val (.ref u1), .val (.ref u2), .val (.ref b28), .val (.int (0 : Int32)), .val (.int (0 : Int32)), .val (.int (0 : Int32))] [(.int (0 : Int32)), (.int (0 : Int32))])) _
            exact q
          have k118_ : ∀ t, Steps p.tables e below (T111.setTop (mkF m 186 #[.val (.int p0), .val (.int p1), .val (.int p2), .val (.int p3), .val (.int p4), .val (.int eb), .val (.int el), .val (.int (0 : Int32)), .val (.int (0 : Int32)), .val (.ref t1), .val (.ref t2), .val (.ref u1), .val (.ref u2), .val (.ref b28), .val (.int (0 : Int32)), .val (.int (0 : Int32)), .val (.int (0 : Int32))] [])) t → Steps p.tables e below (s₁.setTop (mkF m 0 #[.val (.int p0), .val (.int p1), .val (.int p2), .val (.int p3), .val (.int p4), .unset, .unset, .unset, .unset, .unset, .unset, .unset, .unset, .unset, .unset, .unset, .unset] [])) t := by
            intro t q
            refine k117_ _ ?_
            show Steps p.tables e below (T111.setTop (mkF m 183 #[.val (.int p0), .val (.int p1), .val (.int p2), .val (.int p3), .val (.int p4), .val (.int eb), .val (.int el), .val (.int (0 : Int32)), .val (.int (0 : Int32)), .val (.ref t1), .val (.ref t2), .val (.ref u1), .val (.ref u2), .val (.ref b28), .val (.int (0 : Int32)), .val (.int (0 : Int32)), .val (.int (0 : Int32))] [(.int (0 : Int32)), (.int (0 : Int32))])) _
            refine XS.icmpNo X111.here hx rfl (hb hby at_183) rfl (teq rfl).2 ?_
            show Steps p.tables e below (T111.setTop (mkF m 186 #[.val (.int p0), .val (.int p1), .val (.int p2), .val (.int p3), .val (.int p4), .val (.int eb), .val (.int el), .val (.int (0 : Int32)), .val (.int (0 : Int32)), .val (.ref t1), .val (.ref t2), .val (.ref u1), .val (.ref u2), .val (.ref b28), .val (.int (0 : Int32)), .val (.int (0 : Int32)), .val (.int (0 : Int32))] [])) _
            exact q
          have k119_ : ∀ t, Steps p.tables e below (T111.setTop (mkF m 191 #[.val (.int p0), .val (.int p1), .val (.int p2), .val (.int p3), .val (.int p4), .val (.int eb), .val (.int el), .val (.int (0 : Int32)), .val (.int (0 : Int32)), .val (.ref t1), .val (.ref t2), .val (.ref u1), .val (.ref u2), .val (.ref b28), .val (.int (0 : Int32)), .val (.int (0 : Int32)), .val (.int (0 : Int32))] [(.int (1 : Int32))])) t → Steps p.tables e below (s₁.setTop (mkF m 0 #[.val (.int p0), .val (.int p1), .val (.int p2), .val (.int p3), .val (.int p4), .unset, .unset, .unset, .unset, .unset, .unset, .unset, .unset, .unset, .unset, .unset, .unset] [])) t := by
            intro t q
            refine k118_ _ ?_
            show Steps p.tables e below (T111.setTop (mkF m 186 #[.val (.int p0), .val (.int p1), .val (.int p2), .val (.int p3), .val (.int p4), .val (.int eb), .val (.int el), .val (.int (0 : Int32)), .val (.int (0 : Int32)), .val (.ref t1), .val (.ref t2), .val (.ref u1), .val (.ref u2), .val (.ref b28), .val (.int (0 : Int32)), .val (.int (0 : Int32)), .val (.int (0 : Int32))] [])) _
            refine XS.iconst X111.here hx rfl (hb hby at_186) ?_
            refine XS.goto X111.here hx rfl (pc0 := 187) (pc' := 191) rfl (hb hby at_187) (by decide) (by decide) ?_
            show Steps p.tables e below (T111.setTop (mkF m 191 #[.val (.int p0), .val (.int p1), .val (.int p2), .val (.int p3), .val (.int p4), .val (.int eb), .val (.int el), .val (.int (0 : Int32)), .val (.int (0 : Int32)), .val (.ref t1), .val (.ref t2), .val (.ref u1), .val (.ref u2), .val (.ref b28), .val (.int (0 : Int32)), .val (.int (0 : Int32)), .val (.int (0 : Int32))] [(.int (1 : Int32))])) _
            exact q
          obtain ⟨fs, hr, hrun, hended, r1, r2, r3, r4⟩ := Stand.leaveW (s := s) (vm₁ := T25.vm) X111 hS (by rw [hq111]; exact hk) (v := some (.int (1 : Int32))) (fun h => by rw [Bd.returns] at h; cases h)
          refine ⟨_, _, pre0 _ (k119_ _ ?_), hrun, hended, _, rfl, N111, r1, r2, r3, r4.mono (by decide) (by decide)⟩
          · show Steps p.tables e below (T111.setTop (mkF m 191 #[.val (.int p0), .val (.int p1), .val (.int p2), .val (.int p3), .val (.int p4), .val (.int eb), .val (.int el), .val (.int (0 : Int32)), .val (.int (0 : Int32)), .val (.ref t1), .val (.ref t2), .val (.ref u1), .val (.ref u2), .val (.ref b28), .val (.int (0 : Int32)), .val (.int (0 : Int32)), .val (.int (0 : Int32))] [(.int (1 : Int32))])) _
            exact retN X111 hx (t := .boolean) Bd.returns (by simp) (hb hby at_191) hr
    · have k120_ : ∀ t, Steps p.tables e below (s₁.setTop (mkF m 49 #[.val (.int p0), .val (.int p1), .val (.int p2), .val (.int p3), .val (.int p4), .val (.int eb), .val (.int el), .val (.int (0 : Int32)), .unset, .unset, .unset, .unset, .unset, .unset, .unset, .unset, .unset] [])) t → Steps p.tables e below (s₁.setTop (mkF m 0 #[.val (.int p0), .val (.int p1), .val (.int p2), .val (.int p3), .val (.int p4), .unset, .unset, .unset, .unset, .unset, .unset, .unset, .unset, .unset, .unset, .unset, .unset] [])) t := by
        intro t q
        refine k9_ _ ?_
        show Steps p.tables e below (s₁.setTop (mkF m 46 #[.val (.int p0), .val (.int p1), .val (.int p2), .val (.int p3), .val (.int p4), .val (.int eb), .val (.int el), .val (.int (0 : Int32)), .unset, .unset, .unset, .unset, .unset, .unset, .unset, .unset, .unset] [(.int (p1 &&& (67108864 : Int32)))])) _
        refine XS.ifNo X0.here hx rfl (hb hby at_46) rfl ((if0 _ _).trans (feq hnb).1) ?_
        show Steps p.tables e below (s₁.setTop (mkF m 49 #[.val (.int p0), .val (.int p1), .val (.int p2), .val (.int p3), .val (.int p4), .val (.int eb), .val (.int el), .val (.int (0 : Int32)), .unset, .unset, .unset, .unset, .unset, .unset, .unset, .unset, .unset] [])) _
        exact q
      have k121_ : ∀ t, Steps p.tables e below (s₁.setTop (mkF m 58 #[.val (.int p0), .val (.int p1), .val (.int p2), .val (.int p3), .val (.int p4), .val (.int eb), .val (.int el), .val (.int (0 : Int32)), .val (.int (1 : Int32)), .unset, .unset, .unset, .unset, .unset, .unset, .unset, .unset] [(.int (0 : Int32))])) t → Steps p.tables e below (s₁.setTop (mkF m 0 #[.val (.int p0), .val (.int p1), .val (.int p2), .val (.int p3), .val (.int p4), .unset, .unset, .unset, .unset, .unset, .unset, .unset, .unset, .unset, .unset, .unset, .unset] [])) t := by
        intro t q
        refine k120_ _ ?_
        show Steps p.tables e below (s₁.setTop (mkF m 49 #[.val (.int p0), .val (.int p1), .val (.int p2), .val (.int p3), .val (.int p4), .val (.int eb), .val (.int el), .val (.int (0 : Int32)), .unset, .unset, .unset, .unset, .unset, .unset, .unset, .unset, .unset] [])) _
        refine XS.iconst X0.here hx rfl (hb hby at_49) ?_
        refine XS.goto X0.here hx rfl (pc0 := 50) (pc' := 54) rfl (hb hby at_50) (by decide) (by decide) ?_
        show Steps p.tables e below (s₁.setTop (mkF m 54 #[.val (.int p0), .val (.int p1), .val (.int p2), .val (.int p3), .val (.int p4), .val (.int eb), .val (.int el), .val (.int (0 : Int32)), .unset, .unset, .unset, .unset, .unset, .unset, .unset, .unset, .unset] [(.int (1 : Int32))])) _
        refine XS.istore X0.here hx rfl (hb hby at_54) rfl (l' := #[.val (.int p0), .val (.int p1), .val (.int p2), .val (.int p3), .val (.int p4), .val (.int eb), .val (.int el), .val (.int (0 : Int32)), .val (.int (1 : Int32)), .unset, .unset, .unset, .unset, .unset, .unset, .unset, .unset]) rfl ?_
        refine XS.iload X0.here hx rfl (hb hby at_56) rfl ?_
        show Steps p.tables e below (s₁.setTop (mkF m 58 #[.val (.int p0), .val (.int p1), .val (.int p2), .val (.int p3), .val (.int p4), .val (.int eb), .val (.int el), .val (.int (0 : Int32)), .val (.int (1 : Int32)), .unset, .unset, .unset, .unset, .unset, .unset, .unset, .unset] [(.int (0 : Int32))])) _
        exact q
      have k122_ : ∀ t, Steps p.tables e below (s₁.setTop (mkF m 65 #[.val (.int p0), .val (.int p1), .val (.int p2), .val (.int p3), .val (.int p4), .val (.int eb), .val (.int el), .val (.int (0 : Int32)), .val (.int (1 : Int32)), .unset, .unset, .unset, .unset, .unset, .unset, .unset, .unset] [])) t → Steps p.tables e below (s₁.setTop (mkF m 0 #[.val (.int p0), .val (.int p1), .val (.int p2), .val (.int p3), .val (.int p4), .unset, .unset, .unset, .unset, .unset, .unset, .unset, .unset, .unset, .unset, .unset, .unset] [])) t := by
        intro t q
        refine k121_ _ ?_
        show Steps p.tables e below (s₁.setTop (mkF m 58 #[.val (.int p0), .val (.int p1), .val (.int p2), .val (.int p3), .val (.int p4), .val (.int eb), .val (.int el), .val (.int (0 : Int32)), .val (.int (1 : Int32)), .unset, .unset, .unset, .unset, .unset, .unset, .unset, .unset] [(.int (0 : Int32))])) _
        refine XS.ifYes X0.here hx rfl (pc0 := 58) (pc' := 65) rfl (hb hby at_58) rfl ((if0 _ _).trans (teq rfl).1) (by decide) (by decide) ?_
        show Steps p.tables e below (s₁.setTop (mkF m 65 #[.val (.int p0), .val (.int p1), .val (.int p2), .val (.int p3), .val (.int p4), .val (.int eb), .val (.int el), .val (.int (0 : Int32)), .val (.int (1 : Int32)), .unset, .unset, .unset, .unset, .unset, .unset, .unset, .unset] [])) _
        exact q
      have k123_ : ∀ t, Steps p.tables e below (s₁.setTop (mkF m 66 #[.val (.int p0), .val (.int p1), .val (.int p2), .val (.int p3), .val (.int p4), .val (.int eb), .val (.int el), .val (.int (0 : Int32)), .val (.int (1 : Int32)), .unset, .unset, .unset, .unset, .unset, .unset, .unset, .unset] [(.int p0)])) t → Steps p.tables e below (s₁.setTop (mkF m 0 #[.val (.int p0), .val (.int p1), .val (.int p2), .val (.int p3), .val (.int p4), .unset, .unset, .unset, .unset, .unset, .unset, .unset, .unset, .unset, .unset, .unset, .unset] [])) t := by
        intro t q
        refine k122_ _ ?_
        show Steps p.tables e below (s₁.setTop (mkF m 65 #[.val (.int p0), .val (.int p1), .val (.int p2), .val (.int p3), .val (.int p4), .val (.int eb), .val (.int el), .val (.int (0 : Int32)), .val (.int (1 : Int32)), .unset, .unset, .unset, .unset, .unset, .unset, .unset, .unset] [])) _
        refine XS.iloadN X0.here hx rfl (hb hby at_65) rfl ?_
        show Steps p.tables e below (s₁.setTop (mkF m 66 #[.val (.int p0), .val (.int p1), .val (.int p2), .val (.int p3), .val (.int p4), .val (.int eb), .val (.int el), .val (.int (0 : Int32)), .val (.int (1 : Int32)), .unset, .unset, .unset, .unset, .unset, .unset, .unset, .unset] [(.int p0)])) _
        exact q
      obtain ⟨_, _, ⟨T124, L124, kk124, n124⟩, -, X124_, hs124, hG124, ⟨Lc124, hQ124, l124, y124, z124, hc124⟩, st124⟩ := callSS X0 hx (y := (⟨"com/example/triplewright/triplewright/source/ElementNameMatchesPinLaw", "mk", "(I)Ljava/lang/String;"⟩ : MethodName)) hown (mvT hZ (hw _ (List.mem_of_getElem? (i := 1) rfl))) (mvT hZ (hw _ (List.mem_of_getElem? (i := 2) rfl))) (mvT hZ (hw _ (List.mem_of_getElem? (i := 3) rfl))) (mvT hZ (hw _ (List.mem_of_getElem? (i := 4) rfl))) (by decide) (backOfSH (s := s) (vm0 := s.vm) (EL := own_EL) (W := 0) (rmM l Z a0 hw [] p0 zc h0 n0 Zn O2 hzc X00 wS hEL) hZ (hw _ (List.mem_of_getElem? (i := 4) rfl)) (hw _ (List.mem_of_getElem? (i := 3) rfl)) (by decide) (by decide) hEL hCH.1) (g := (mkF m 66 #[.val (.int p0), .val (.int p1), .val (.int p2), .val (.int p3), .val (.int p4), .val (.int eb), .val (.int el), .val (.int (0 : Int32)), .val (.int (1 : Int32)), .unset, .unset, .unset, .unset, .unset, .unset, .unset, .unset] [(.int p0)])) rfl (by rw [hml]; rfl) (argsL := [(.int p0)]) (rest := []) (lenOf pd_88406 rfl) rfl (by show 2 * 0 + _ ≤ _; exact Nat.le_of_eq rfl) (hb hby at_66) (fun _ _ => ⟨rfl, e0, (by decide : 0 + 4 ≤ _), (by decide : 0 + 11 ≤ _)⟩)
      dsimp only [Pt.U, Pt.locs, Pt.cells, Pt.slots] at X124_ l124 y124 z124 st124 hQ124 hG124 hs124 hc124
      rw [l124, y124, z124] at X124_
      obtain ⟨X124, hS124, hZ124, hown124⟩ := rebS (s := s) (vm0 := s.vm) hS (by rw [e0]; exact hk) X124_ hs124 hG124 hZ hown
      replace hS := hS124
      replace hZ := hZ124
      replace hown := hown124
      replace hCH := hCH.trans hc124
      replace hk : T124.heap.size ≤ T124.heap.size := Nat.le_refl _
      obtain ⟨t1, rfl, Nq124, K_t1, S_t1⟩ := hQ124
      have N124 := Fr.app N0 Nq124
      have k125_ : ∀ t, Steps p.tables e below (T124.setTop (mkF m 69 #[.val (.int p0), .val (.int p1), .val (.int p2), .val (.int p3), .val (.int p4), .val (.int eb), .val (.int el), .val (.int (0 : Int32)), .val (.int (1 : Int32)), .unset, .unset, .unset, .unset, .unset, .unset, .unset, .unset] [(.ref t1)])) t → Steps p.tables e below (s₁.setTop (mkF m 0 #[.val (.int p0), .val (.int p1), .val (.int p2), .val (.int p3), .val (.int p4), .unset, .unset, .unset, .unset, .unset, .unset, .unset, .unset, .unset, .unset, .unset, .unset] [])) t := fun t q => k123_ t (st124.trans q)
      replace X00 := X00.keep K_t1 all0
      replace Zn := Nat.le_trans Zn K_t1.1
      have k126_ : ∀ t, Steps p.tables e below (T124.setTop (mkF m 73 #[.val (.int p0), .val (.int p1), .val (.int p2), .val (.int p3), .val (.int p4), .val (.int eb), .val (.int el), .val (.int (0 : Int32)), .val (.int (1 : Int32)), .val (.ref t1), .unset, .unset, .unset, .unset, .unset, .unset, .unset] [(.int (1 : Int32))])) t → Steps p.tables e below (s₁.setTop (mkF m 0 #[.val (.int p0), .val (.int p1), .val (.int p2), .val (.int p3), .val (.int p4), .unset, .unset, .unset, .unset, .unset, .unset, .unset, .unset, .unset, .unset, .unset, .unset] [])) t := by
        intro t q
        refine k125_ _ ?_
        show Steps p.tables e below (T124.setTop (mkF m 69 #[.val (.int p0), .val (.int p1), .val (.int p2), .val (.int p3), .val (.int p4), .val (.int eb), .val (.int el), .val (.int (0 : Int32)), .val (.int (1 : Int32)), .unset, .unset, .unset, .unset, .unset, .unset, .unset, .unset] [(.ref t1)])) _
        refine XS.astore X124.here hx rfl (hb hby at_69) rfl rfl (l' := #[.val (.int p0), .val (.int p1), .val (.int p2), .val (.int p3), .val (.int p4), .val (.int eb), .val (.int el), .val (.int (0 : Int32)), .val (.int (1 : Int32)), .val (.ref t1), .unset, .unset, .unset, .unset, .unset, .unset, .unset]) rfl ?_
        refine XS.iload X124.here hx rfl (hb hby at_71) rfl ?_
        show Steps p.tables e below (T124.setTop (mkF m 73 #[.val (.int p0), .val (.int p1), .val (.int p2), .val (.int p3), .val (.int p4), .val (.int eb), .val (.int el), .val (.int (0 : Int32)), .val (.int (1 : Int32)), .val (.ref t1), .unset, .unset, .unset, .unset, .unset, .unset, .unset] [(.int (1 : Int32))])) _
        exact q
      have k127_ : ∀ t, Steps p.tables e below (T124.setTop (mkF m 76 #[.val (.int p0), .val (.int p1), .val (.int p2), .val (.int p3), .val (.int p4), .val (.int eb), .val (.int el), .val (.int (0 : Int32)), .val (.int (1 : Int32)), .val (.ref t1), .unset, .unset, .unset, .unset, .unset, .unset, .unset] [])) t → Steps p.tables e below (s₁.setTop (mkF m 0 #[.val (.int p0), .val (.int p1), .val (.int p2), .val (.int p3), .val (.int p4), .unset, .unset, .unset, .unset, .unset, .unset, .unset, .unset, .unset, .unset, .unset, .unset] [])) t := by
        intro t q
        refine k126_ _ ?_
        show Steps p.tables e below (T124.setTop (mkF m 73 #[.val (.int p0), .val (.int p1), .val (.int p2), .val (.int p3), .val (.int p4), .val (.int eb), .val (.int el), .val (.int (0 : Int32)), .val (.int (1 : Int32)), .val (.ref t1), .unset, .unset, .unset, .unset, .unset, .unset, .unset] [(.int (1 : Int32))])) _
        refine XS.ifNo X124.here hx rfl (hb hby at_73) rfl ((if0 _ _).trans (feq (by decide)).1) ?_
        show Steps p.tables e below (T124.setTop (mkF m 76 #[.val (.int p0), .val (.int p1), .val (.int p2), .val (.int p3), .val (.int p4), .val (.int eb), .val (.int el), .val (.int (0 : Int32)), .val (.int (1 : Int32)), .val (.ref t1), .unset, .unset, .unset, .unset, .unset, .unset, .unset] [])) _
        exact q
      have k128_ : ∀ t, Steps p.tables e below (T124.setTop (mkF m 88 #[.val (.int p0), .val (.int p1), .val (.int p2), .val (.int p3), .val (.int p4), .val (.int eb), .val (.int el), .val (.int (0 : Int32)), .val (.int (1 : Int32)), .val (.ref t1), .val .null, .unset, .unset, .unset, .unset, .unset, .unset] [(.int eb)])) t → Steps p.tables e below (s₁.setTop (mkF m 0 #[.val (.int p0), .val (.int p1), .val (.int p2), .val (.int p3), .val (.int p4), .unset, .unset, .unset, .unset, .unset, .unset, .unset, .unset, .unset, .unset, .unset, .unset] [])) t := by
        intro t q
        refine k127_ _ ?_
        show Steps p.tables e below (T124.setTop (mkF m 76 #[.val (.int p0), .val (.int p1), .val (.int p2), .val (.int p3), .val (.int p4), .val (.int eb), .val (.int el), .val (.int (0 : Int32)), .val (.int (1 : Int32)), .val (.ref t1), .unset, .unset, .unset, .unset, .unset, .unset, .unset] [])) _
        refine XS.aconstNull X124.here hx rfl (hb hby at_76) ?_
        refine XS.goto X124.here hx rfl (pc0 := 77) (pc' := 84) rfl (hb hby at_77) (by decide) (by decide) ?_
        show Steps p.tables e below (T124.setTop (mkF m 84 #[.val (.int p0), .val (.int p1), .val (.int p2), .val (.int p3), .val (.int p4), .val (.int eb), .val (.int el), .val (.int (0 : Int32)), .val (.int (1 : Int32)), .val (.ref t1), .unset, .unset, .unset, .unset, .unset, .unset, .unset] [.null])) _
        refine XS.astore X124.here hx rfl (hb hby at_84) rfl rfl (l' := #[.val (.int p0), .val (.int p1), .val (.int p2), .val (.int p3), .val (.int p4), .val (.int eb), .val (.int el), .val (.int (0 : Int32)), .val (.int (1 : Int32)), .val (.ref t1), .val .null, .unset, .unset, .unset, .unset, .unset, .unset]) rfl ?_
        refine XS.iload X124.here hx rfl (hb hby at_86) rfl ?_
        show Steps p.tables e below (T124.setTop (mkF m 88 #[.val (.int p0), .val (.int p1), .val (.int p2), .val (.int p3), .val (.int p4), .val (.int eb), .val (.int el), .val (.int (0 : Int32)), .val (.int (1 : Int32)), .val (.ref t1), .val .null, .unset, .unset, .unset, .unset, .unset, .unset] [(.int eb)])) _
        exact q
      obtain ⟨_, _, ⟨T129, L129, kk129, n129⟩, -, X129_, hs129, hG129, ⟨Lc129, hQ129, l129, y129, z129, hc129⟩, st129⟩ := callSS X124 hx (y := (⟨"com/example/triplewright/triplewright/source/ElementNameMatchesPinLaw", "mk", "(I)Ljava/lang/String;"⟩ : MethodName)) hown (mvT hZ (hw _ (List.mem_of_getElem? (i := 1) rfl))) (mvT hZ (hw _ (List.mem_of_getElem? (i := 2) rfl))) (mvT hZ (hw _ (List.mem_of_getElem? (i := 3) rfl))) (mvT hZ (hw _ (List.mem_of_getElem? (i := 4) rfl))) (by decide) (backOfSH (s := s) (vm0 := T124.vm) (EL := own_EL) (W := 0) (rmM l Z a0 hw [] eb zc T124.heap n0 Zn O2 hzc X00 wS hEL) hZ (hw _ (List.mem_of_getElem? (i := 4) rfl)) (hw _ (List.mem_of_getElem? (i := 3) rfl)) (by decide) (by decide) hEL hCH.1) (g := (mkF m 88 #[.val (.int p0), .val (.int p1), .val (.int p2), .val (.int p3), .val (.int p4), .val (.int eb), .val (.int el), .val (.int (0 : Int32)), .val (.int (1 : Int32)), .val (.ref t1), .val .null, .unset, .unset, .unset, .unset, .unset, .unset] [(.int eb)])) rfl (by rw [hml]; rfl) (argsL := [(.int eb)]) (rest := []) (lenOf pd_88406 rfl) rfl (by show 2 * 0 + _ ≤ _; exact Nat.le_of_eq rfl) (hb hby at_88) (fun _ _ => ⟨rfl, rfl, (by decide : 0 + 4 + 4 ≤ _), (by decide : 0 + 11 + 11 ≤ _)⟩)
      dsimp only [Pt.U, Pt.locs, Pt.cells, Pt.slots] at X129_ l129 y129 z129 st129 hQ129 hG129 hs129 hc129
      rw [l129, y129, z129] at X129_
      obtain ⟨X129, hS129, hZ129, hown129⟩ := rebS (s := s) (vm0 := T124.vm) hS hk X129_ hs129 hG129 hZ hown
      replace hS := hS129
      replace hZ := hZ129
      replace hown := hown129
      replace hCH := hCH.trans hc129
      replace hk : T129.heap.size ≤ T129.heap.size := Nat.le_refl _
      obtain ⟨u1, rfl, Nq129, K_u1, S_u1⟩ := hQ129
      have N129 := Fr.app N124 Nq129
      have k130_ : ∀ t, Steps p.tables e below (T129.setTop (mkF m 91 #[.val (.int p0), .val (.int p1), .val (.int p2), .val (.int p3), .val (.int p4), .val (.int eb), .val (.int el), .val (.int (0 : Int32)), .val (.int (1 : Int32)), .val (.ref t1), .val .null, .unset, .unset, .unset, .unset, .unset, .unset] [(.ref u1)])) t → Steps p.tables e below (s₁.setTop (mkF m 0 #[.val (.int p0), .val (.int p1), .val (.int p2), .val (.int p3), .val (.int p4), .unset, .unset, .unset, .unset, .unset, .unset, .unset, .unset, .unset, .unset, .unset, .unset] [])) t := fun t q => k128_ t (st129.trans q)
      replace X00 := X00.keep K_u1 all0
      replace Zn := Nat.le_trans Zn K_u1.1
      replace S_t1 := own_Str_keep S_t1 K_u1
      have k131_ : ∀ t, Steps p.tables e below (T129.setTop (mkF m 95 #[.val (.int p0), .val (.int p1), .val (.int p2), .val (.int p3), .val (.int p4), .val (.int eb), .val (.int el), .val (.int (0 : Int32)), .val (.int (1 : Int32)), .val (.ref t1), .val .null, .val (.ref u1), .unset, .unset, .unset, .unset, .unset] [(.int el)])) t → Steps p.tables e below (s₁.setTop (mkF m 0 #[.val (.int p0), .val (.int p1), .val (.int p2), .val (.int p3), .val (.int p4), .unset, .unset, .unset, .unset, .unset, .unset, .unset, .unset, .unset, .unset, .unset, .unset] [])) t := by
        intro t q
        refine k130_ _ ?_
        show Steps p.tables e below (T129.setTop (mkF m 91 #[.val (.int p0), .val (.int p1), .val (.int p2), .val (.int p3), .val (.int p4), .val (.int eb), .val (.int el), .val (.int (0 : Int32)), .val (.int (1 : Int32)), .val (.ref t1), .val .null, .unset, .unset, .unset, .unset, .unset, .unset] [(.ref u1)])) _
        refine XS.astore X129.here hx rfl (hb hby at_91) rfl rfl (l' := #[.val (.int p0), .val (.int p1), .val (.int p2), .val (.int p3), .val (.int p4), .val (.int eb), .val (.int el), .val (.int (0 : Int32)), .val (.int (1 : Int32)), .val (.ref t1), .val .null, .val (.ref u1), .unset, .unset, .unset, .unset, .unset]) rfl ?_
        refine XS.iload X129.here hx rfl (hb hby at_93) rfl ?_
        show Steps p.tables e below (T129.setTop (mkF m 95 #[.val (.int p0), .val (.int p1), .val (.int p2), .val (.int p3), .val (.int p4), .val (.int eb), .val (.int el), .val (.int (0 : Int32)), .val (.int (1 : Int32)), .val (.ref t1), .val .null, .val (.ref u1), .unset, .unset, .unset, .unset, .unset] [(.int el)])) _
        exact q
      obtain ⟨_, _, ⟨T132, L132, kk132, n132⟩, -, X132_, hs132, hG132, ⟨Lc132, hQ132, l132, y132, z132, hc132⟩, st132⟩ := callSS X129 hx (y := (⟨"com/example/triplewright/triplewright/source/ElementNameMatchesPinLaw", "mk", "(I)Ljava/lang/String;"⟩ : MethodName)) hown (mvT hZ (hw _ (List.mem_of_getElem? (i := 1) rfl))) (mvT hZ (hw _ (List.mem_of_getElem? (i := 2) rfl))) (mvT hZ (hw _ (List.mem_of_getElem? (i := 3) rfl))) (mvT hZ (hw _ (List.mem_of_getElem? (i := 4) rfl))) (by decide) (backOfSH (s := s) (vm0 := T129.vm) (EL := own_EL) (W := 0) (rmM l Z a0 hw [] el zc T129.heap n0 Zn O2 hzc X00 wS hEL) hZ (hw _ (List.mem_of_getElem? (i := 4) rfl)) (hw _ (List.mem_of_getElem? (i := 3) rfl)) (by decide) (by decide) hEL hCH.1) (g := (mkF m 95 #[.val (.int p0), .val (.int p1), .val (.int p2), .val (.int p3), .val (.int p4), .val (.int eb), .val (.int el), .val (.int (0 : Int32)), .val (.int (1 : Int32)), .val (.ref t1), .val .null, .val (.ref u1), .unset, .unset, .unset, .unset, .unset] [(.int el)])) rfl (by rw [hml]; rfl) (argsL := [(.int el)]) (rest := []) (lenOf pd_88406 rfl) rfl (by show 2 * 0 + _ ≤ _; exact Nat.le_of_eq rfl) (hb hby at_95) (fun _ _ => ⟨rfl, rfl, (by decide : 0 + 4 + 4 + 4 ≤ _), (by decide : 0 + 11 + 11 + 11 ≤ _)⟩)
      dsimp only [Pt.U, Pt.locs, Pt.cells, Pt.slots] at X132_ l132 y132 z132 st132 hQ132 hG132 hs132 hc132
      rw [l132, y132, z132] at X132_
      obtain ⟨X132, hS132, hZ132, hown132⟩ := rebS (s := s) (vm0 := T129.vm) hS hk X132_ hs132 hG132 hZ hown
      replace hS := hS132
      replace hZ := hZ132
      replace hown := hown132
      replace hCH := hCH.trans hc132
      replace hk : T132.heap.size ≤ T132.heap.size := Nat.le_refl _
      obtain ⟨u2, rfl, Nq132, K_u2, S_u2⟩ := hQ132
      have N132 := Fr.app N129 Nq132
      have k133_ : ∀ t, Steps p.tables e below (T132.setTop (mkF m 98 #[.val (.int p0), .val (.int p1), .val (.int p2), .val (.int p3), .val (.int p4), .val (.int eb), .val (.int el), .val (.int (0 : Int32)), .val (.int (1 : Int32)), .val (.ref t1), .val .null, .val (.ref u1), .unset, .unset, .unset, .unset, .unset] [(.ref u2)])) t → Steps p.tables e below (s₁.setTop (mkF m 0 #[.val (.int p0), .val (.int p1), .val (.int p2), .val (.int p3), .val (.int p4), .unset, .unset, .unset, .unset, .unset, .unset, .unset, .unset, .unset, .unset, .unset, .unset] [])) t := fun t q => k131_ t (st132.trans q)
      replace X00 := X00.keep K_u2 all0
      replace Zn := Nat.le_trans Zn K_u2.1
      replace S_t1 := own_Str_keep S_t1 K_u2
      replace S_u1 := own_Str_keep S_u1 K_u2
      have k134_ : ∀ t, Steps p.tables e below (T132.setTop (mkF m 100 #[.val (.int p0), .val (.int p1), .val (.int p2), .val (.int p3), .val (.int p4), .val (.int eb), .val (.int el), .val (.int (0 : Int32)), .val (.int (1 : Int32)), .val (.ref t1), .val .null, .val (.ref u1), .val (.ref u2), .unset, .unset, .unset, .unset] [])) t → Steps p.tables e below (s₁.setTop (mkF m 0 #[.val (.int p0), .val (.int p1), .val (.int p2), .val (.int p3), .val (.int p4), .unset, .unset, .unset, .unset, .unset, .unset, .unset, .unset, .unset, .unset, .unset, .unset] [])) t := by
        intro t q
        refine k133_ _ ?_
        show Steps p.tables e below (T132.setTop (mkF m 98 #[.val (.int p0), .val (.int p1), .val (.int p2), .val (.int p3), .val (.int p4), .val (.int eb), .val (.int el), .val (.int (0 : Int32)), .val (.int (1 : Int32)), .val (.ref t1), .val .null, .val (.ref u1), .unset, .unset, .unset, .unset, .unset] [(.ref u2)])) _
        refine XS.astore X132.here hx rfl (hb hby at_98) rfl rfl (l' := #[.val (.int p0), .val (.int p1), .val (.int p2), .val (.int p3), .val (.int p4), .val (.int eb), .val (.int el), .val (.int (0 : Int32)), .val (.int (1 : Int32)), .val (.ref t1), .val .null, .val (.ref u1), .val (.ref u2), .unset, .unset, .unset, .unset]) rfl ?_
        show Steps p.tables e below (T132.setTop (mkF m 100 #[.val (.int p0), .val (.int p1), .val (.int p2), .val (.int p3), .val (.int p4), .val (.int eb), .val (.int el), .val (.int (0 : Int32)), .val (.int (1 : Int32)), .val (.ref t1), .val .null, .val (.ref u1), .val (.ref u2), .unset, .unset, .unset, .unset] [])) _
        exact q
      obtain ⟨T135, h135, X135, e135, E135, A135, D135, -, st135⟩ := newO X132 hx hZ hown (hw _ (List.mem_of_getElem? (i := 44) rfl)) (hw _ (List.mem_of_getElem? (i := 45) rfl)) (hw _ (List.mem_of_getElem? (i := 46) rfl)) rfl (g := (mkF m 100 #[.val (.int p0), .val (.int p1), .val (.int p2), .val (.int p3), .val (.int p4), .val (.int eb), .val (.int el), .val (.int (0 : Int32)), .val (.int (1 : Int32)), .val (.ref t1), .val .null, .val (.ref u1), .val (.ref u2), .unset, .unset, .unset, .unset] [])) rfl (hb hby at_100) (by decide) (by decide)
      obtain ⟨b135, g135⟩ : ∃ z, z = T132.heap.size := ⟨_, rfl⟩
      rw [← g135] at A135 D135 st135
      have k136_ : ∀ t, Steps p.tables e below (T135.setTop (mkF m 103 #[.val (.int p0), .val (.int p1), .val (.int p2), .val (.int p3), .val (.int p4), .val (.int eb), .val (.int el), .val (.int (0 : Int32)), .val (.int (1 : Int32)), .val (.ref t1), .val .null, .val (.ref u1), .val (.ref u2), .unset, .unset, .unset, .unset] [(.ref b135)])) t → Steps p.tables e below (s₁.setTop (mkF m 0 #[.val (.int p0), .val (.int p1), .val (.int p2), .val (.int p3), .val (.int p4), .unset, .unset, .unset, .unset, .unset, .unset, .unset, .unset, .unset, .unset, .unset, .unset] [])) t := fun t q => k134_ t (st135 t q)
      have gb : n0 ≤ b135 := Nat.le_trans Zn (Nat.le_of_eq g135.symm)
      have KN := (Keep.refl _ []).ext E135
      replace X00 := X00.ext E135
      replace Zn := Nat.le_trans Zn E135.1
      replace hk := Nat.le_trans hk E135.1
      replace hCH := hCH.trans (CHr.ext E135 hCH.1)
      replace S_t1 := own_Str_keep S_t1 KN
      replace S_u1 := own_Str_keep S_u1 KN
      replace S_u2 := own_Str_keep S_u2 KN
      have F_namespace : Fld Z h135 b135 "com/example/triplewright/triplewright/source/XmlParser$ElementName" "namespace" "Ljava/lang/String;" .null := D135 (Or.inr (hw _ (List.mem_of_getElem? (i := 57) rfl))) (ty := (.object "java/lang/String")) (by decide)
      have F_localName : Fld Z h135 b135 "com/example/triplewright/triplewright/source/XmlParser$ElementName" "localName" "Ljava/lang/String;" .null := D135 (Or.inr (hw _ (List.mem_of_getElem? (i := 59) rfl))) (ty := (.object "java/lang/String")) (by decide)
      have SB : Safe Z own_EL T132.vm h135 b135 := Safe.exa hZ.alike A135 (by decide) (by decide)
      have k137_ : ∀ t, Steps p.tables e below (T135.setTop (mkF m 108 #[.val (.int p0), .val (.int p1), .val (.int p2), .val (.int p3), .val (.int p4), .val (.int eb), .val (.int el), .val (.int (0 : Int32)), .val (.int (1 : Int32)), .val (.ref t1), .val .null, .val (.ref u1), .val (.ref u2), .unset, .unset, .unset, .unset] [.null, (.ref t1), (.ref b135), (.ref b135)])) t → Steps p.tables e below (s₁.setTop (mkF m 0 #[.val (.int p0), .val (.int p1), .val (.int p2), .val (.int p3), .val (.int p4), .unset, .unset, .unset, .unset, .unset, .unset, .unset, .unset, .unset, .unset, .unset, .unset] [])) t := by
        intro t q
        refine k136_ _ ?_
        show Steps p.tables e below (T135.setTop (mkF m 103 #[.val (.int p0), .val (.int p1), .val (.int p2), .val (.int p3), .val (.int p4), .val (.int eb), .val (.int el), .val (.int (0 : Int32)), .val (.int (1 : Int32)), .val (.ref t1), .val .null, .val (.ref u1), .val (.ref u2), .unset, .unset, .unset, .unset] [(.ref b135)])) _
        refine XS.dup X135.here hx rfl (hb hby at_103) rfl rfl ?_
        refine XS.aload X135.here hx rfl (hb hby at_104) rfl rfl ?_
        show Steps p.tables e below (T135.setTop (mkF m 106 #[.val (.int p0), .val (.int p1), .val (.int p2), .val (.int p3), .val (.int p4), .val (.int eb), .val (.int el), .val (.int (0 : Int32)), .val (.int (1 : Int32)), .val (.ref t1), .val .null, .val (.ref u1), .val (.ref u2), .unset, .unset, .unset, .unset] [(.ref t1), (.ref b135), (.ref b135)])) _
        refine XS.aload X135.here hx rfl (hb hby at_106) rfl rfl ?_
        show Steps p.tables e below (T135.setTop (mkF m 108 #[.val (.int p0), .val (.int p1), .val (.int p2), .val (.int p3), .val (.int p4), .val (.int eb), .val (.int el), .val (.int (0 : Int32)), .val (.int (1 : Int32)), .val (.ref t1), .val .null, .val (.ref u1), .val (.ref u2), .unset, .unset, .unset, .unset] [.null, (.ref t1), (.ref b135), (.ref b135)])) _
        exact q
      obtain ⟨_, _, ⟨T138, L138, kk138, n138⟩, -, X138, ⟨Lc138, hQ138, l138, y138, z138⟩, st138⟩ := X135.specialBack hx (y := (⟨"com/example/triplewright/triplewright/source/XmlParser$ElementName", "<init>", "(Ljava/lang/String;Ljava/lang/String;)V"⟩ : MethodName)) rfl hown (mvT hZ (hw _ (List.mem_of_getElem? (i := 47) rfl))) (mvT hZ (hw _ (List.mem_of_getElem? (i := 48) rfl))) (mvT hZ (hw _ (List.mem_of_getElem? (i := 49) rfl))) (by decide) (backOf (W := 1) (rmE01 l Z a0 hw [] b135 t1 h135 n0 Zn A135 F_namespace F_localName gb) hZ (hw _ (List.mem_of_getElem? (i := 49) rfl)) (hw _ (List.mem_of_getElem? (i := 46) rfl)) (by decide) (by decide)) (g := (mkF m 108 #[.val (.int p0), .val (.int p1), .val (.int p2), .val (.int p3), .val (.int p4), .val (.int eb), .val (.int el), .val (.int (0 : Int32)), .val (.int (1 : Int32)), .val (.ref t1), .val .null, .val (.ref u1), .val (.ref u2), .unset, .unset, .unset, .unset] [.null, (.ref t1), (.ref b135), (.ref b135)])) rfl (by rw [hml]; rfl) (Steps.refl _) (a := b135) (argsL := [(.ref t1), .null]) (rest := [(.ref b135)]) (lenOf pd_38756 rfl) rfl (by show 2 * 0 + _ ≤ _; exact Nat.le_of_eq rfl) (hb hby at_108) (fun _ _ => ⟨rfl, e135, (by decide : 0 + 4 + 4 + 4 + 1 + 0 ≤ _), (by decide : 0 + 11 + 11 + 11 + 2 + 0 ≤ _)⟩)
      dsimp only [Pt.U, Pt.locs, Pt.cells, Pt.slots] at X138 l138 y138 z138 st138 hQ138
      rw [l138, y138, z138] at X138
      obtain ⟨rfl, Nq138, KI, EI, F1, F2⟩ := hQ138
      have N138 := Fr.app N132 Nq138
      have k139_ : ∀ t, Steps p.tables e below (T138.setTop (mkF m 111 #[.val (.int p0), .val (.int p1), .val (.int p2), .val (.int p3), .val (.int p4), .val (.int eb), .val (.int el), .val (.int (0 : Int32)), .val (.int (1 : Int32)), .val (.ref t1), .val .null, .val (.ref u1), .val (.ref u2), .unset, .unset, .unset, .unset] [(.ref b135)])) t → Steps p.tables e below (s₁.setTop (mkF m 0 #[.val (.int p0), .val (.int p1), .val (.int p2), .val (.int p3), .val (.int p4), .unset, .unset, .unset, .unset, .unset, .unset, .unset, .unset, .unset, .unset, .unset, .unset] [])) t := fun t q => k137_ t (st138.trans q)
      replace hCH := hCH.trans (CHr.keep KI (sfS SB sf0) hCH.1)
      replace Zn := Nat.le_trans Zn KI.1
      replace hk := Nat.le_trans hk KI.1
      replace X00 := X00.keep KI (allS gb all0)
      replace S_t1 := own_Str_new S_t1 KI A135 (hw _ (List.mem_of_getElem? (i := 45) rfl)) (by decide)
      replace S_u1 := own_Str_new S_u1 KI A135 (hw _ (List.mem_of_getElem? (i := 45) rfl)) (by decide)
      replace S_u2 := own_Str_new S_u2 KI A135 (hw _ (List.mem_of_getElem? (i := 45) rfl)) (by decide)
      have k140_ : ∀ t, Steps p.tables e below (T138.setTop (mkF m 119 #[.val (.int p0), .val (.int p1), .val (.int p2), .val (.int p3), .val (.int p4), .val (.int eb), .val (.int el), .val (.int (0 : Int32)), .val (.int (1 : Int32)), .val (.ref t1), .val .null, .val (.ref u1), .val (.ref u2), .val (.ref b135), .unset, .unset, .unset] [(.ref u2), (.ref u1), (.ref b135)])) t → Steps p.tables e below (s₁.setTop (mkF m 0 #[.val (.int p0), .val (.int p1), .val (.int p2), .val (.int p3), .val (.int p4), .unset, .unset, .unset, .unset, .unset, .unset, .unset, .unset, .unset, .unset, .unset, .unset] [])) t := by
        intro t q
        refine k139_ _ ?_
        show Steps p.tables e below (T138.setTop (mkF m 111 #[.val (.int p0), .val (.int p1), .val (.int p2), .val (.int p3), .val (.int p4), .val (.int eb), .val (.int el), .val (.int (0 : Int32)), .val (.int (1 : Int32)), .val (.ref t1), .val .null, .val (.ref u1), .val (.ref u2), .unset, .unset, .unset, .unset] [(.ref b135)])) _
        refine XS.astore X138.here hx rfl (hb hby at_111) rfl rfl (l' := #[.val (.int p0), .val (.int p1), .val (.int p2), .val (.int p3), .val (.int p4), .val (.int eb), .val (.int el), .val (.int (0 : Int32)), .val (.int (1 : Int32)), .val (.ref t1), .val .null, .val (.ref u1), .val (.ref u2), .val (.ref b135), .unset, .unset, .unset]) rfl ?_
        refine XS.aload X138.here hx rfl (hb hby at_113) rfl rfl ?_
        show Steps p.tables e below (T138.setTop (mkF m 115 #[.val (.int p0), .val (.int p1), .val (.int p2), .val (.int p3), .val (.int p4), .val (.int eb), .val (.int el), .val (.int (0 : Int32)), .val (.int (1 : Int32)), .val (.ref t1), .val .null, .val (.ref u1), .val (.ref u2), .val (.ref b135), .unset, .unset, .unset] [(.ref b135)])) _
        refine XS.aload X138.here hx rfl (hb hby at_115) rfl rfl ?_
        refine XS.aload X138.here hx rfl (hb hby at_117) rfl rfl ?_
        show Steps p.tables e below (T138.setTop (mkF m 119 #[.val (.int p0), .val (.int p1), .val (.int p2), .val (.int p3), .val (.int p4), .val (.int eb), .val (.int el), .val (.int (0 : Int32)), .val (.int (1 : Int32)), .val (.ref t1), .val .null, .val (.ref u1), .val (.ref u2), .val (.ref b135), .unset, .unset, .unset] [(.ref u2), (.ref u1), (.ref b135)])) _
        exact q
      obtain ⟨cq141, kq141, q141a, q141b, q141c⟩ := isOf hZ rfl EI
      obtain ⟨_, _, ⟨T141, L141, kk141, n141⟩, -, X141, ⟨Lc141, hQ141, l141, y141, z141⟩, st141⟩ := X138.virtualBack hx (y := (⟨"com/example/triplewright/triplewright/source/XmlParser$ElementName", "matches", "(Ljava/lang/String;Ljava/lang/String;)Z"⟩ : MethodName)) (z := (⟨"com/example/triplewright/triplewright/source/XmlParser$ElementName", "matches", "(Ljava/lang/String;Ljava/lang/String;)Z"⟩ : MethodName)) hown (mvT hZ (hw _ (List.mem_of_getElem? (i := 60) rfl))) (mvT hZ (hw _ (List.mem_of_getElem? (i := 61) rfl))) (notFace_of_selects (args := #[]) (mvT hZ (hw _ (List.mem_of_getElem? (i := 63) rfl)))) (mvT hZ (hw _ (List.mem_of_getElem? (i := 63) rfl))) (mvT hZ (hw _ (List.mem_of_getElem? (i := 62) rfl))) (by decide) (backOf (W := 0) (rmT01 l Z a0 hw [] b135 u1 u2 t1 p0 eb p1 el zc T138.heap n0 Zn F1 F2 S_u1 S_u2 S_t1 O2 hzc X00) hZ (hw _ (List.mem_of_getElem? (i := 64) rfl)) (hw _ (List.mem_of_getElem? (i := 46) rfl)) (by decide) (by decide)) q141a q141c (g := (mkF m 119 #[.val (.int p0), .val (.int p1), .val (.int p2), .val (.int p3), .val (.int p4), .val (.int eb), .val (.int el), .val (.int (0 : Int32)), .val (.int (1 : Int32)), .val (.ref t1), .val .null, .val (.ref u1), .val (.ref u2), .val (.ref b135), .unset, .unset, .unset] [(.ref u2), (.ref u1), (.ref b135)])) rfl (by rw [hml]; rfl) (Steps.refl _) (argsL := [(.ref u1), (.ref u2)]) (rest := []) (lenOf pd_38760 rfl) rfl (by show 2 * 0 + _ ≤ _; exact Nat.le_of_eq rfl) (hb hby at_119) (fun _ _ => ⟨rfl, rfl, (by decide : 0 + 4 + 4 + 4 + 1 + 0 + 0 ≤ _), (by decide : 0 + 11 + 11 + 11 + 2 + 0 + 0 ≤ _)⟩)
      dsimp only [Pt.U, Pt.locs, Pt.cells, Pt.slots] at X141 l141 y141 z141 st141 hQ141
      rw [l141, y141, z141] at X141
      obtain ⟨rfl, Nq141, hq141⟩ := hQ141
      have N141 := Fr.app N138 Nq141
      have k142_ : ∀ t, Steps p.tables e below (T141.setTop (mkF m 122 #[.val (.int p0), .val (.int p1), .val (.int p2), .val (.int p3), .val (.int p4), .val (.int eb), .val (.int el), .val (.int (0 : Int32)), .val (.int (1 : Int32)), .val (.ref t1), .val .null, .val (.ref u1), .val (.ref u2), .val (.ref b135), .unset, .unset, .unset] [(.int (bi ((own_cs p0 = own_cs eb) ∧ (True))))])) t → Steps p.tables e below (s₁.setTop (mkF m 0 #[.val (.int p0), .val (.int p1), .val (.int p2), .val (.int p3), .val (.int p4), .unset, .unset, .unset, .unset, .unset, .unset, .unset, .unset, .unset, .unset, .unset, .unset] [])) t := fun t q => k140_ t (st141.trans q)
      by_cases hA : own_cs p0 = own_cs eb
      · have k143_ : ∀ t, Steps p.tables e below (T141.setTop (mkF m 122 #[.val (.int p0), .val (.int p1), .val (.int p2), .val (.int p3), .val (.int p4), .val (.int eb), .val (.int el), .val (.int (0 : Int32)), .val (.int (1 : Int32)), .val (.ref t1), .val .null, .val (.ref u1), .val (.ref u2), .val (.ref b135), .unset, .unset, .unset] [(.int (1 : Int32))])) t → Steps p.tables e below (s₁.setTop (mkF m 0 #[.val (.int p0), .val (.int p1), .val (.int p2), .val (.int p3), .val (.int p4), .unset, .unset, .unset, .unset, .unset, .unset, .unset, .unset, .unset, .unset, .unset, .unset] [])) t := fun t q => k142_ t (Eq.mp (congrArg (fun z => Steps p.tables e below (T141.setTop (mkF m 122 #[.val (.int p0), .val (.int p1), .val (.int p2), .val (.int p3), .val (.int p4), .val (.int eb), .val (.int el), .val (.int (0 : Int32)), .val (.int (1 : Int32)), .val (.ref t1), .val .null, .val (.ref u1), .val (.ref u2), .val (.ref b135), .unset, .unset, .unset] [(.int z)])) t) (show (1 : Int32) = (bi ((own_cs p0 = own_cs eb) ∧ (True))) from (bi_t ⟨hA, trivial⟩).symm)) q)
        have k144_ : ∀ t, Steps p.tables e below (T141.setTop (mkF m 126 #[.val (.int p0), .val (.int p1), .val (.int p2), .val (.int p3), .val (.int p4), .val (.int eb), .val (.int el), .val (.int (0 : Int32)), .val (.int (1 : Int32)), .val (.ref t1), .val .null, .val (.ref u1), .val (.ref u2), .val (.ref b135), .val (.int (1 : Int32)), .unset, .unset] [(.int (0 : Int32))])) t → Steps p.tables e below (s₁.setTop (mkF m 0 #[.val (.int p0), .val (.int p1), .val (.int p2), .val (.int p3), .val (.int p4), .unset, .unset, .unset, .unset, .unset, .unset, .unset, .unset, .unset, .unset, .unset, .unset] [])) t := by
          intro t q
          refine k143_ _ ?_
          show Steps p.tables e below (T141.setTop (mkF m 122 #[.val (.int p0), .val (.int p1), .val (.int p2), .val (.int p3), .val (.int p4), .val (.int eb), .val (.int el), .val (.int (0 : Int32)), .val (.int (1 : Int32)), .val (.ref t1), .val .null, .val (.ref u1), .val (.ref u2), .val (.ref b135), .unset, .unset, .unset] [(.int (1 : Int32))])) _
          refine XS.istore X141.here hx rfl (hb hby at_122) rfl (l' := #[.val (.int p0), .val (.int p1), .val (.int p2), .val (.int p3), .val (.int p4), .val (.int eb), .val (.int el), .val (.int (0 : Int32)), .val (.int (1 : Int32)), .val (.ref t1), .val .null, .val (.ref u1), .val (.ref u2), .val (.ref b135), .val (.int (1 : Int32)), .unset, .unset]) rfl ?_
          refine XS.iload X141.here hx rfl (hb hby at_124) rfl ?_
          show Steps p.tables e below (T141.setTop (mkF m 126 #[.val (.int p0), .val (.int p1), .val (.int p2), .val (.int p3), .val (.int p4), .val (.int eb), .val (.int el), .val (.int (0 : Int32)), .val (.int (1 : Int32)), .val (.ref t1), .val .null, .val (.ref u1), .val (.ref u2), .val (.ref b135), .val (.int (1 : Int32)), .unset, .unset] [(.int (0 : Int32))])) _
          exact q
        have k145_ : ∀ t, Steps p.tables e below (T141.setTop (mkF m 129 #[.val (.int p0), .val (.int p1), .val (.int p2), .val (.int p3), .val (.int p4), .val (.int eb), .val (.int el), .val (.int (0 : Int32)), .val (.int (1 : Int32)), .val (.ref t1), .val .null, .val (.ref u1), .val (.ref u2), .val (.ref b135), .val (.int (1 : Int32)), .unset, .unset] [])) t → Steps p.tables e below (s₁.setTop (mkF m 0 #[.val (.int p0), .val (.int p1), .val (.int p2), .val (.int p3), .val (.int p4), .unset, .unset, .unset, .unset, .unset, .unset, .unset, .unset, .unset, .unset, .unset, .unset] [])) t := by
          intro t q
          refine k144_ _ ?_
          show Steps p.tables e below (T141.setTop (mkF m 126 #[.val (.int p0), .val (.int p1), .val (.int p2), .val (.int p3), .val (.int p4), .val (.int eb), .val (.int el), .val (.int (0 : Int32)), .val (.int (1 : Int32)), .val (.ref t1), .val .null, .val (.ref u1), .val (.ref u2), .val (.ref b135), .val (.int (1 : Int32)), .unset, .unset] [(.int (0 : Int32))])) _
          refine XS.ifNo X141.here hx rfl (hb hby at_126) rfl ((if0 _ _).trans (teq rfl).2) ?_
          show Steps p.tables e below (T141.setTop (mkF m 129 #[.val (.int p0), .val (.int p1), .val (.int p2), .val (.int p3), .val (.int p4), .val (.int eb), .val (.int el), .val (.int (0 : Int32)), .val (.int (1 : Int32)), .val (.ref t1), .val .null, .val (.ref u1), .val (.ref u2), .val (.ref b135), .val (.int (1 : Int32)), .unset, .unset] [])) _
          exact q
        have k146_ : ∀ t, Steps p.tables e below (T141.setTop (mkF m 132 #[.val (.int p0), .val (.int p1), .val (.int p2), .val (.int p3), .val (.int p4), .val (.int eb), .val (.int el), .val (.int (0 : Int32)), .val (.int (1 : Int32)), .val (.ref t1), .val .null, .val (.ref u1), .val (.ref u2), .val (.ref b135), .val (.int (1 : Int32)), .unset, .unset] [(.int eb), (.int p0)])) t → Steps p.tables e below (s₁.setTop (mkF m 0 #[.val (.int p0), .val (.int p1), .val (.int p2), .val (.int p3), .val (.int p4), .unset, .unset, .unset, .unset, .unset, .unset, .unset, .unset, .unset, .unset, .unset, .unset] [])) t := by
          intro t q
          refine k145_ _ ?_
          show Steps p.tables e below (T141.setTop (mkF m 129 #[.val (.int p0), .val (.int p1), .val (.int p2), .val (.int p3), .val (.int p4), .val (.int eb), .val (.int el), .val (.int (0 : Int32)), .val (.int (1 : Int32)), .val (.ref t1), .val .null, .val (.ref u1), .val (.ref u2), .val (.ref b135), .val (.int (1 : Int32)), .unset, .unset] [])) _
          refine XS.iloadN X141.here hx rfl (hb hby at_129) rfl ?_
          refine XS.iload X141.here hx rfl (hb hby at_130) rfl ?_
          show Steps p.tables e below (T141.setTop (mkF m 132 #[.val (.int p0), .val (.int p1), .val (.int p2), .val (.int p3), .val (.int p4), .val (.int eb), .val (.int el), .val (.int (0 : Int32)), .val (.int (1 : Int32)), .val (.ref t1), .val .null, .val (.ref u1), .val (.ref u2), .val (.ref b135), .val (.int (1 : Int32)), .unset, .unset] [(.int eb), (.int p0)])) _
          exact q
        obtain ⟨_, _, ⟨T147, L147, kk147, n147⟩, -, X147, ⟨Lc147, hQ147, l147, y147, z147⟩, st147⟩ := Jvm.LawKit.callS X141 hx (y := (⟨"com/example/triplewright/triplewright/source/ElementNameMatchesPinLaw", "same", "(II)Z"⟩ : MethodName)) hown (mvT hZ (hw _ (List.mem_of_getElem? (i := 75) rfl))) (mvT hZ (hw _ (List.mem_of_getElem? (i := 76) rfl))) (mvT hZ (hw _ (List.mem_of_getElem? (i := 3) rfl))) (mvT hZ (hw _ (List.mem_of_getElem? (i := 77) rfl))) (by decide) (backOf (W := 0) (rmSa l Z a0 hw [] p0 eb T138.heap n0 Zn) hZ (hw _ (List.mem_of_getElem? (i := 77) rfl)) (hw _ (List.mem_of_getElem? (i := 3) rfl)) (by decide) (by decide)) (g := (mkF m 132 #[.val (.int p0), .val (.int p1), .val (.int p2), .val (.int p3), .val (.int p4), .val (.int eb), .val (.int el), .val (.int (0 : Int32)), .val (.int (1 : Int32)), .val (.ref t1), .val .null, .val (.ref u1), .val (.ref u2), .val (.ref b135), .val (.int (1 : Int32)), .unset, .unset] [(.int eb), (.int p0)])) rfl (by rw [hml]; rfl) (argsL := [(.int p0), (.int eb)]) (rest := []) (lenOf pd_90437 rfl) rfl (by show 2 * 0 + _ ≤ _; exact Nat.le_of_eq rfl) (hb hby at_132) (fun _ _ => ⟨rfl, hq141, (by decide : 0 + 4 + 4 + 4 + 1 + 0 + 0 + 0 ≤ _), (by decide : 0 + 11 + 11 + 11 + 2 + 0 + 0 + 0 ≤ _)⟩)
        dsimp only [Pt.U, Pt.locs, Pt.cells, Pt.slots] at X147 l147 y147 z147 st147 hQ147
        rw [l147, y147, z147] at X147
        obtain ⟨rfl, Nq147, hq147⟩ := hQ147
        have N147 := Fr.app N141 Nq147
        have k148_ : ∀ t, Steps p.tables e below (T147.setTop (mkF m 135 #[.val (.int p0), .val (.int p1), .val (.int p2), .val (.int p3), .val (.int p4), .val (.int eb), .val (.int el), .val (.int (0 : Int32)), .val (.int (1 : Int32)), .val (.ref t1), .val .null, .val (.ref u1), .val (.ref u2), .val (.ref b135), .val (.int (1 : Int32)), .unset, .unset] [(.int (bi (own_cs p0 = own_cs eb)))])) t → Steps p.tables e below (s₁.setTop (mkF m 0 #[.val (.int p0), .val (.int p1), .val (.int p2), .val (.int p3), .val (.int p4), .unset, .unset, .unset, .unset, .unset, .unset, .unset, .unset, .unset, .unset, .unset, .unset] [])) t := fun t q => k146_ t (st147 t q)
        have k149_ : ∀ t, Steps p.tables e below (T147.setTop (mkF m 135 #[.val (.int p0), .val (.int p1), .val (.int p2), .val (.int p3), .val (.int p4), .val (.int eb), .val (.int el), .val (.int (0 : Int32)), .val (.int (1 : Int32)), .val (.ref t1), .val .null, .val (.ref u1), .val (.ref u2), .val (.ref b135), .val (.int (1 : Int32)), .unset, .unset] [(.int (1 : Int32))])) t → Steps p.tables e below (s₁.setTop (mkF m 0 #[.val (.int p0), .val (.int p1), .val (.int p2), .val (.int p3), .val (.int p4), .unset, .unset, .unset, .unset, .unset, .unset, .unset, .unset, .unset, .unset, .unset, .unset] [])) t := fun t q => k148_ t (Eq.mp (congrArg (fun z => Steps p.tables e below (T147.setTop (mkF m 135 #[.val (.int p0), .val (.int p1), .val (.int p2), .val (.int p3), .val (.int p4), .val (.int eb), .val (.int el), .val (.int (0 : Int32)), .val (.int (1 : Int32)), .val (.ref t1), .val .null, .val (.ref u1), .val (.ref u2), .val (.ref b135), .val (.int (1 : Int32)), .unset, .unset] [(.int z)])) t) (show (1 : Int32) = (bi (own_cs p0 = own_cs eb)) from (bi_t hA).symm)) q)
        have k150_ : ∀ t, Steps p.tables e below (T147.setTop (mkF m 138 #[.val (.int p0), .val (.int p1), .val (.int p2), .val (.int p3), .val (.int p4), .val (.int eb), .val (.int el), .val (.int (0 : Int32)), .val (.int (1 : Int32)), .val (.ref t1), .val .null, .val (.ref u1), .val (.ref u2), .val (.ref b135), .val (.int (1 : Int32)), .unset, .unset] [])) t → Steps p.tables e below (s₁.setTop (mkF m 0 #[.val (.int p0), .val (.int p1), .val (.int p2), .val (.int p3), .val (.int p4), .unset, .unset, .unset, .unset, .unset, .unset, .unset, .unset, .unset, .unset, .unset, .unset] [])) t := by
          intro t q
          refine k149_ _ ?_
          show Steps p.tables e below (T147.setTop (mkF m 135 #[.val (.int p0), .val (.int p1), .val (.int p2), .val (.int p3), .val (.int p4), .val (.int eb), .val (.int el), .val (.int (0 : Int32)), .val (.int (1 : Int32)), .val (.ref t1), .val .null, .val (.ref u1), .val (.ref u2), .val (.ref b135), .val (.int (1 : Int32)), .unset, .unset] [(.int (1 : Int32))])) _
          refine XS.ifNo X147.here hx rfl (hb hby at_135) rfl ((if0 _ _).trans (feq (by decide)).1) ?_
          show Steps p.tables e below (T147.setTop (mkF m 138 #[.val (.int p0), .val (.int p1), .val (.int p2), .val (.int p3), .val (.int p4), .val (.int eb), .val (.int el), .val (.int (0 : Int32)), .val (.int (1 : Int32)), .val (.ref t1), .val .null, .val (.ref u1), .val (.ref u2), .val (.ref b135), .val (.int (1 : Int32)), .unset, .unset] [])) _
          exact q
        have k151_ : ∀ t, Steps p.tables e below (T147.setTop (mkF m 147 #[.val (.int p0), .val (.int p1), .val (.int p2), .val (.int p3), .val (.int p4), .val (.int eb), .val (.int el), .val (.int (0 : Int32)), .val (.int (1 : Int32)), .val (.ref t1), .val .null, .val (.ref u1), .val (.ref u2), .val (.ref b135), .val (.int (1 : Int32)), .val (.int (1 : Int32)), .unset] [(.int (1 : Int32))])) t → Steps p.tables e below (s₁.setTop (mkF m 0 #[.val (.int p0), .val (.int p1), .val (.int p2), .val (.int p3), .val (.int p4), .unset, .unset, .unset, .unset, .unset, .unset, .unset, .unset, .unset, .unset, .unset, .unset] [])) t := by
          intro t q
          refine k150_ _ ?_
          show Steps p.tables e below (T147.setTop (mkF m 138 #[.val (.int p0), .val (.int p1), .val (.int p2), .val (.int p3), .val (.int p4), .val (.int eb), .val (.int el), .val (.int (0 : Int32)), .val (.int (1 : Int32)), .val (.ref t1), .val .null, .val (.ref u1), .val (.ref u2), .val (.ref b135), .val (.int (1 : Int32)), .unset, .unset] [])) _
          refine XS.iconst X147.here hx rfl (hb hby at_138) ?_
          refine XS.goto X147.here hx rfl (pc0 := 139) (pc' := 143) rfl (hb hby at_139) (by decide) (by decide) ?_
          show Steps p.tables e below (T147.setTop (mkF m 143 #[.val (.int p0), .val (.int p1), .val (.int p2), .val (.int p3), .val (.int p4), .val (.int eb), .val (.int el), .val (.int (0 : Int32)), .val (.int (1 : Int32)), .val (.ref t1), .val .null, .val (.ref u1), .val (.ref u2), .val (.ref b135), .val (.int (1 : Int32)), .unset, .unset] [(.int (1 : Int32))])) _
          refine XS.istore X147.here hx rfl (hb hby at_143) rfl (l' := #[.val (.int p0), .val (.int p1), .val (.int p2), .val (.int p3), .val (.int p4), .val (.int eb), .val (.int el), .val (.int (0 : Int32)), .val (.int (1 : Int32)), .val (.ref t1), .val .null, .val (.ref u1), .val (.ref u2), .val (.ref b135), .val (.int (1 : Int32)), .val (.int (1 : Int32)), .unset]) rfl ?_
          refine XS.iload X147.here hx rfl (hb hby at_145) rfl ?_
          show Steps p.tables e below (T147.setTop (mkF m 147 #[.val (.int p0), .val (.int p1), .val (.int p2), .val (.int p3), .val (.int p4), .val (.int eb), .val (.int el), .val (.int (0 : Int32)), .val (.int (1 : Int32)), .val (.ref t1), .val .null, .val (.ref u1), .val (.ref u2), .val (.ref b135), .val (.int (1 : Int32)), .val (.int (1 : Int32)), .unset] [(.int (1 : Int32))])) _
          exact q
        have k152_ : ∀ t, Steps p.tables e below (T147.setTop (mkF m 159 #[.val (.int p0), .val (.int p1), .val (.int p2), .val (.int p3), .val (.int p4), .val (.int eb), .val (.int el), .val (.int (0 : Int32)), .val (.int (1 : Int32)), .val (.ref t1), .val .null, .val (.ref u1), .val (.ref u2), .val (.ref b135), .val (.int (1 : Int32)), .val (.int (1 : Int32)), .unset] [])) t → Steps p.tables e below (s₁.setTop (mkF m 0 #[.val (.int p0), .val (.int p1), .val (.int p2), .val (.int p3), .val (.int p4), .unset, .unset, .unset, .unset, .unset, .unset, .unset, .unset, .unset, .unset, .unset, .unset] [])) t := by
          intro t q
          refine k151_ _ ?_
          show Steps p.tables e below (T147.setTop (mkF m 147 #[.val (.int p0), .val (.int p1), .val (.int p2), .val (.int p3), .val (.int p4), .val (.int eb), .val (.int el), .val (.int (0 : Int32)), .val (.int (1 : Int32)), .val (.ref t1), .val .null, .val (.ref u1), .val (.ref u2), .val (.ref b135), .val (.int (1 : Int32)), .val (.int (1 : Int32)), .unset] [(.int (1 : Int32))])) _
          refine XS.ifYes X147.here hx rfl (pc0 := 147) (pc' := 159) rfl (hb hby at_147) rfl ((if0 _ _).trans (feq (by decide)).2) (by decide) (by decide) ?_
          show Steps p.tables e below (T147.setTop (mkF m 159 #[.val (.int p0), .val (.int p1), .val (.int p2), .val (.int p3), .val (.int p4), .val (.int eb), .val (.int el), .val (.int (0 : Int32)), .val (.int (1 : Int32)), .val (.ref t1), .val .null, .val (.ref u1), .val (.ref u2), .val (.ref b135), .val (.int (1 : Int32)), .val (.int (1 : Int32)), .unset] [])) _
          exact q
        have k153_ : ∀ t, Steps p.tables e below (T147.setTop (mkF m 170 #[.val (.int p0), .val (.int p1), .val (.int p2), .val (.int p3), .val (.int p4), .val (.int eb), .val (.int el), .val (.int (0 : Int32)), .val (.int (1 : Int32)), .val (.ref t1), .val .null, .val (.ref u1), .val (.ref u2), .val (.ref b135), .val (.int (1 : Int32)), .val (.int (1 : Int32)), .val (.int (1 : Int32))] [(.int (1 : Int32)), (.int (1 : Int32))])) t → Steps p.tables e below (s₁.setTop (mkF m 0 #[.val (.int p0), .val (.int p1), .val (.int p2), .val (.int p3), .val (.int p4), .unset, .unset, .unset, .unset, .unset, .unset, .unset, .unset, .unset, .unset, .unset, .unset] [])) t := by
          intro t q
          refine k152_ _ ?_
          show Steps p.tables e below (T147.setTop (mkF m 159 #[.val (.int p0), .val (.int p1), .val (.int p2), .val (.int p3), .val (.int p4), .val (.int eb), .val (.int el), .val (.int (0 : Int32)), .val (.int (1 : Int32)), .val (.ref t1), .val .null, .val (.ref u1), .val (.ref u2), .val (.ref b135), .val (.int (1 : Int32)), .val (.int (1 : Int32)), .unset] [])) _
          refine XS.iconst X147.here hx rfl (hb hby at_159) ?_
          refine XS.goto X147.here hx rfl (pc0 := 160) (pc' := 164) rfl (hb hby at_160) (by decide) (by decide) ?_
          show Steps p.tables e below (T147.setTop (mkF m 164 #[.val (.int p0), .val (.int p1), .val (.int p2), .val (.int p3), .val (.int p4), .val (.int eb), .val (.int el), .val (.int (0 : Int32)), .val (.int (1 : Int32)), .val (.ref t1), .val .null, .val (.ref u1), .val (.ref u2), .val (.ref b135), .val (.int (1 : Int32)), .val (.int (1 : Int32)), .unset] [(.int (1 : Int32))])) _
          refine XS.istore X147.here hx rfl (hb hby at_164) rfl (l' := #[.val (.int p0), .val (.int p1), .val (.int p2), .val (.int p3), .val (.int p4), .val (.int eb), .val (.int el), .val (.int (0 : Int32)), .val (.int (1 : Int32)), .val (.ref t1), .val .null, .val (.ref u1), .val (.ref u2), .val (.ref b135), .val (.int (1 : Int32)), .val (.int (1 : Int32)), .val (.int (1 : Int32))]) rfl ?_
          refine XS.iload X147.here hx rfl (hb hby at_166) rfl ?_
          show Steps p.tables e below (T147.setTop (mkF m 168 #[.val (.int p0), .val (.int p1), .val (.int p2), .val (.int p3), .val (.int p4), .val (.int eb), .val (.int el), .val (.int (0 : Int32)), .val (.int (1 : Int32)), .val (.ref t1), .val .null, .val (.ref u1), .val (.ref u2), .val (.ref b135), .val (.int (1 : Int32)), .val (.int (1 : Int32)), .val (.int (1 : Int32))] [(.int (1 : Int32))])) _
          refine XS.iload X147.here hx rfl (hb hby at_168) rfl ?_
          show Steps p.tables e below (T147.setTop (mkF m 170 #[.val (.int p0), .val (.int p1), .val (.int p2), .val (.int p3), .val (.int p4), .val (.int eb), .val (.int el), .val (.int (0 : Int32)), .val (.int (1 : Int32)), .val (.ref t1), .val .null, .val (.ref u1), .val (.ref u2), .val (.ref b135), .val (.int (1 : Int32)), .val (.int (1 : Int32)), .val (.int (1 : Int32))] [(.int (1 : Int32)), (.int (1 : Int32))])) _
          exact q
        have k154_ : ∀ t, Steps p.tables e below (T147.setTop (mkF m 173 #[.val (.int p0), .val (.int p1), .val (.int p2), .val (.int p3), .val (.int p4), .val (.int eb), .val (.int el), .val (.int (0 : Int32)), .val (.int (1 : Int32)), .val (.ref t1), .val .null, .val (.ref u1), .val (.ref u2), .val (.ref b135), .val (.int (1 : Int32)), .val (.int (1 : Int32)), .val (.int (1 : Int32))] [(.int (1 : Int32))])) t → Steps p.tables e below (s₁.setTop (mkF m 0 #[.val (.int p0), .val (.int p1), .val (.int p2), .val (.int p3), .val (.int p4), .unset, .unset, .unset, .unset, .unset, .unset, .unset, .unset, .unset, .unset, .unset, .unset] [])) t := by
          intro t q
          refine k153_ _ ?_
          show Steps p.tables e below (T147.setTop (mkF m 170 #[.val (.int p0), .val (.int p1), .val (.int p2), .val (.int p3), .val (.int p4), .val (.int eb), .val (.int el), .val (.int (0 : Int32)), .val (.int (1 : Int32)), .val (.ref t1), .val .null, .val (.ref u1), .val (.ref u2), .val (.ref b135), .val (.int (1 : Int32)), .val (.int (1 : Int32)), .val (.int (1 : Int32))] [(.int (1 : Int32)), (.int (1 : Int32))])) _
          refine XS.ifNo X147.here hx rfl (hb hby at_170) rfl ((if0 _ _).trans (feq (by decide)).1) ?_
          show Steps p.tables e below (T147.setTop (mkF m 173 #[.val (.int p0), .val (.int p1), .val (.int p2), .val (.int p3), .val (.int p4), .val (.int eb), .val (.int el), .val (.int (0 : Int32)), .val (.int (1 : Int32)), .val (.ref t1), .val .null, .val (.ref u1), .val (.ref u2), .val (.ref b135), .val (.int (1 : Int32)), .val (.int (1 : Int32)), .val (.int (1 : Int32))] [(.int (1 : Int32))])) _
          exact q
        have k155_ : ∀ t, Steps p.tables e below (T147.setTop (mkF m 175 #[.val (.int p0), .val (.int p1), .val (.int p2), .val (.int p3), .val (.int p4), .val (.int eb), .val (.int el), .val (.int (0 : Int32)), .val (.int (1 : Int32)), .val (.ref t1), .val .null, .val (.ref u1), .val (.ref u2), .val (.ref b135), .val (.int (1 : Int32)), .val (.int (1 : Int32)), .val (.int (1 : Int32))] [(.int (1 : Int32)), (.int (1 : Int32))])) t → Steps p.tables e below (s₁.setTop (mkF m 0 #[.val (.int p0), .val (.int p1), .val (.int p2), .val (.int p3), .val (.int p4), .unset, .unset, .unset, .unset, .unset, .unset, .unset, .unset, .unset, .unset, .unset, .unset] [])) t := by
          intro t q
          refine k154_ _ ?_
          show Steps p.tables e below (T147.setTop (mkF m 173 #[.val (.int p0), .val (.int p1), .val (.int p2), .val (.int p3), .val (.int p4), .val (.int eb), .val (.int el), .val (.int (0 : Int32)), .val (.int (1 : Int32)), .val (.ref t1), .val .null, .val (.ref u1), .val (.ref u2), .val (.ref b135), .val (.int (1 : Int32)), .val (.int (1 : Int32)), .val (.int (1 : Int32))] [(.int (1 : Int32))])) _
          refine XS.iload X147.here hx rfl (hb hby at_173) rfl ?_
          show Steps p.tables e below (T147.setTop (mkF m 175 #[.val (.int p0), .val (.int p1), .val (.int p2), .val (.int p3), .val (.int p4), .val (.int eb), .val (.int el), .val (.int (0 : Int32)), .val (.int (1 : Int32)), .val (.ref t1), .val .null, .val (.ref u1), .val (.ref u2), .val (.ref b135), .val (.int (1 : Int32)), .val (.int (1 : Int32)), .val (.int (1 : Int32))] [(.int (1 : Int32)), (.int (1 : Int32))])) _
          exact q
        have k156_ : ∀ t, Steps p.tables e below (T147.setTop (mkF m 178 #[.val (.int p0), .val (.int p1), .val (.int p2), .val (.int p3), .val (.int p4), .val (.int eb), .val (.int el), .val (.int (0 : Int32)), .val (.int (1 : Int32)), .val (.ref t1), .val .null, .val (.ref u1), .val (.ref u2), .val (.ref b135), .val (.int (1 : Int32)), .val (.int (1 : Int32)), .val (.int (1 : Int32))] [(.int (1 : Int32))])) t → Steps p.tables e below (s₁.setTop (mkF m 0 #[.val (.int p0), .val (.int p1), .val (.int p2), .val (.int p3), .val (.int p4), .unset, .unset, .unset, .unset, .unset, .unset, .unset, .unset, .unset, .unset, .unset, .unset] [])) t := by
          intro t q
          refine k155_ _ ?_
          show Steps p.tables e below (T147.setTop (mkF m 175 #[.val (.int p0), .val (.int p1), .val (.int p2), .val (.int p3), .val (.int p4), .val (.int eb), .val (.int el), .val (.int (0 : Int32)), .val (.int (1 : Int32)), .val (.ref t1), .val .null, .val (.ref u1), .val (.ref u2), .val (.ref b135), .val (.int (1 : Int32)), .val (.int (1 : Int32)), .val (.int (1 : Int32))] [(.int (1 : Int32)), (.int (1 : Int32))])) _
          refine XS.ifNo X147.here hx rfl (hb hby at_175) rfl ((if0 _ _).trans (feq (by decide)).1) ?_
          show Steps p.tables e below (T147.setTop (mkF m 178 #[.val (.int p0), .val (.int p1), .val (.int p2), .val (.int p3), .val (.int p4), .val (.int eb), .val (.int el), .val (.int (0 : Int32)), .val (.int (1 : Int32)), .val (.ref t1), .val .null, .val (.ref u1), .val (.ref u2), .val (.ref b135), .val (.int (1 : Int32)), .val (.int (1 : Int32)), .val (.int (1 : Int32))] [(.int (1 : Int32))])) _
          exact q
        have k157_ : ∀ t, Steps p.tables e below (T147.setTop (mkF m 183 #[.val (.int p0), .val (.int p1), .val (.int p2), .val (.int p3), .val (.int p4), .val (.int eb), .val (.int el), .val (.int (0 : Int32)), .val (.int (1 : Int32)), .val (.ref t1), .val .null, .val (.ref u1), .val (.ref u2), .val (.ref b135), .val (.int (1 : Int32)), .val (.int (1 : Int32)), .val (.int (1 : Int32))] [(.int (1 : Int32)), (.int (1 : Int32))])) t → Steps p.tables e below (s₁.setTop (mkF m 0 #[.val (.int p0), .val (.int p1), .val (.int p2), .val (.int p3), .val (.int p4), .unset, .unset, .unset, .unset, .unset, .unset, .unset, .unset, .unset, .unset, .unset, .unset] [])) t := by
          intro t q
          refine k156_ _ ?_
          show Steps p.tables e below (T147.setTop (mkF m 178 #[.val (.int p0), .val (.int p1), .val (.int p2), .val (.int p3), .val (.int p4), .val (.int eb), .val (.int el), .val (.int (0 : Int32)), .val (.int (1 : Int32)), .val (.ref t1), .val .null, .val (.ref u1), .val (.ref u2), .val (.ref b135), .val (.int (1 : Int32)), .val (.int (1 : Int32)), .val (.int (1 : Int32))] [(.int (1 : Int32))])) _
          refine XS.iconst X147.here hx rfl (hb hby at_178) ?_
          refine XS.goto X147.here hx rfl (pc0 := 179) (pc' := 183) rfl (hb hby at_179) (by decide) (by decide) ?_
          show Steps p.tables e below (T147.setTop (mkF m 183 #[.val (.int p0), .val (.int p1), .val (.int p2), .val (.int p3), .val (.int p4), .val (.int eb), .val (.int el), .val (.int (0 : Int32)), .val (.int (1 : Int32)), .val (.ref t1), .val .null, .val (.ref u1), .val (.ref u2), .val (.ref b135), .val (.int (1 : Int32)), .val (.int (1 : Int32)), .val (.int (1 : Int32))] [(.int (1 : Int32)), (.int (1 : Int32))])) _
          exact q
        have k158_ : ∀ t, Steps p.tables e below (T147.setTop (mkF m 186 #[.val (.int p0), .val (.int p1), .val (.int p2), .val (.int p3), .val (.int p4), .val (.int eb), .val (.int el), .val (.int (0 : Int32)), .val (.int (1 : Int32)), .val (.ref t1), .val .null, .val (.ref u1), .val (.ref u2), .val (.ref b135), .val (.int (1 : Int32)), .val (.int (1 : Int32)), .val (.int (1 : Int32))] [])) t → Steps p.tables e below (s₁.setTop (mkF m 0 #[.val (.int p0), .val (.int p1), .val (.int p2), .val (.int p3), .val (.int p4), .unset, .unset, .unset, .unset, .unset, .unset, .unset, .unset, .unset, .unset, .unset, .unset] [])) t := by
          intro t q
          refine k157_ _ ?_
          show Steps p.tables e below (T147.setTop (mkF m 183 #[.val (.int p0), .val (.int p1), .val (.int p2), .val (.int p3), .val (.int p4), .val (.int eb), .val (.int el), .val (.int (0 : Int32)), .val (.int (1 : Int32)), .val (.ref t1), .val .null, .val (.ref u1), .val (.ref u2), .val (.ref b135), .val (.int (1 : Int32)), .val (.int (1 : Int32)), .val (.int (1 : Int32))] [(.int (1 : Int32)), (.int (1 : Int32))])) _
          refine XS.icmpNo X147.here hx rfl (hb hby at_183) rfl (teq rfl).2 ?_
          show Steps p.tables e below (T147.setTop (mkF m 186 #[.val (.int p0), .val (.int p1), .val (.int p2), .val (.int p3), .val (.int p4), .val (.int eb), .val (.int el), .val (.int (0 : Int32)), .val (.int (1 : Int32)), .val (.ref t1), .val .null, .val (.ref u1), .val (.ref u2), .val (.ref b135), .val (.int (1 : Int32)), .val (.int (1 : Int32)), .val (.int (1 : Int32))] [])) _
          exact q
        have k159_ : ∀ t, Steps p.tables e below (T147.setTop (mkF m 191 #[.val (.int p0), .val (.int p1), .val (.int p2), .val (.int p3), .val (.int p4), .val (.int eb), .val (.int el), .val (.int (0 : Int32)), .val (.int (1 : Int32)), .val (.ref t1), .val .null, .val (.ref u1), .val (.ref u2), .val (.ref b135), .val (.int (1 : Int32)), .val (.int (1 : Int32)), .val (.int (1 : Int32))] [(.int (1 : Int32))])) t → Steps p.tables e below (s₁.setTop (mkF m 0 #[.val (.int p0), .val (.int p1), .val (.int p2), .val (.int p3), .val (.int p4), .unset, .unset, .unset, .unset, .unset, .unset, .unset, .unset, .unset, .unset, .unset, .unset] [])) t := by
          intro t q
          refine k158_ _ ?_
          show Steps p.tables e below (T147.setTop (mkF m 186 #[.val (.int p0), .val (.int p1), .val (.int p2), .val (.int p3), .val (.int p4), .val (.int eb), .val (.int el), .val (.int (0 : Int32)), .val (.int (1 : Int32)), .val (.ref t1), .val .null, .val (.ref u1), .val (.ref u2), .val (.ref b135), .val (.int (1 : Int32)), .val (.int (1 : Int32)), .val (.int (1 : Int32))] [])) _
          refine XS.iconst X147.here hx rfl (hb hby at_186) ?_
          refine XS.goto X147.here hx rfl (pc0 := 187) (pc' := 191) rfl (hb hby at_187) (by decide) (by decide) ?_
          show Steps p.tables e below (T147.setTop (mkF m 191 #[.val (.int p0), .val (.int p1), .val (.int p2), .val (.int p3), .val (.int p4), .val (.int eb), .val (.int el), .val (.int (0 : Int32)), .val (.int (1 : Int32)), .val (.ref t1), .val .null, .val (.ref u1), .val (.ref u2), .val (.ref b135), .val (.int (1 : Int32)), .val (.int (1 : Int32)), .val (.int (1 : Int32))] [(.int (1 : Int32))])) _
          exact q
        obtain ⟨fs, hr, hrun, hended, r1, r2, r3, r4⟩ := Stand.leaveW (s := s) (vm₁ := T132.vm) X147 hS (by rw [hq147]; exact hk) (v := some (.int (1 : Int32))) (fun h => by rw [Bd.returns] at h; cases h)
        refine ⟨_, _, pre0 _ (k159_ _ ?_), hrun, hended, _, rfl, N147, r1, r2, r3, r4.mono (by decide) (by decide)⟩
        · show Steps p.tables e below (T147.setTop (mkF m 191 #[.val (.int p0), .val (.int p1), .val (.int p2), .val (.int p3), .val (.int p4), .val (.int eb), .val (.int el), .val (.int (0 : Int32)), .val (.int (1 : Int32)), .val (.ref t1), .val .null, .val (.ref u1), .val (.ref u2), .val (.ref b135), .val (.int (1 : Int32)), .val (.int (1 : Int32)), .val (.int (1 : Int32))] [(.int (1 : Int32))])) _
          exact retN X147 hx (t := .boolean) Bd.returns (by simp) (hb hby at_191) hr
      · have k160_ : ∀ t, Steps p.tables e below (T141.setTop (mkF m 122 #[.val (.int p0), .val (.int p1), .val (.int p2), .val (.int p3), .val (.int p4), .val (.int eb), .val (.int el), .val (.int (0 : Int32)), .val (.int (1 : Int32)), .val (.ref t1), .val .null, .val (.ref u1), .val (.ref u2), .val (.ref b135), .unset, .unset, .unset] [(.int (0 : Int32))])) t → Steps p.tables e below (s₁.setTop (mkF m 0 #[.val (.int p0), .val (.int p1), .val (.int p2), .val (.int p3), .val (.int p4), .unset, .unset, .unset, .unset, .unset, .unset, .unset, .unset, .unset, .unset, .unset, .unset] [])) t := fun t q => k142_ t (Eq.mp (congrArg (fun z => Steps p.tables e below (T141.setTop (mkF m 122 #[.val (.int p0), .val (.int p1), .val (.int p2), .val (.int p3), .val (.int p4), .val (.int eb), .val (.int el), .val (.int (0 : Int32)), .val (.int (1 : Int32)), .val (.ref t1), .val .null, .val (.ref u1), .val (.ref u2), .val (.ref b135), .unset, .unset, .unset] [(.int z)])) t) (show (0 : Int32) = (bi ((own_cs p0 = own_cs eb) ∧ (True))) from (bi_f fun z => hA z.1).symm)) q)
        have k161_ : ∀ t, Steps p.tables e below (T141.setTop (mkF m 126 #[.val (.int p0), .val (.int p1), .val (.int p2), .val (.int p3), .val (.int p4), .val (.int eb), .val (.int el), .val (.int (0 : Int32)), .val (.int (1 : Int32)), .val (.ref t1), .val .null, .val (.ref u1), .val (.ref u2), .val (.ref b135), .val (.int (0 : Int32)), .unset, .unset] [(.int (0 : Int32))])) t → Steps p.tables e below (s₁.setTop (mkF m 0 #[.val (.int p0), .val (.int p1), .val (.int p2), .val (.int p3), .val (.int p4), .unset, .unset, .unset, .unset, .unset, .unset, .unset, .unset, .unset, .unset, .unset, .unset] [])) t := by
          intro t q
          refine k160_ _ ?_
          show Steps p.tables e below (T141.setTop (mkF m 122 #[.val (.int p0), .val (.int p1), .val (.int p2), .val (.int p3), .val (.int p4), .val (.int eb), .val (.int el), .val (.int (0 : Int32)), .val (.int (1 : Int32)), .val (.ref t1), .val .null, .val (.ref u1), .val (.ref u2), .val (.ref b135), .unset, .unset, .unset] [(.int (0 : Int32))])) _
          refine XS.istore X141.here hx rfl (hb hby at_122) rfl (l' := #[.val (.int p0), .val (.int p1), .val (.int p2), .val (.int p3), .val (.int p4), .val (.int eb), .val (.int el), .val (.int (0 : Int32)), .val (.int (1 : Int32)), .val (.ref t1), .val .null, .val (.ref u1), .val (.ref u2), .val (.ref b135), .val (.int (0 : Int32)), .unset, .unset]) rfl ?_
          refine XS.iload X141.here hx rfl (hb hby at_124) rfl ?_
          show Steps p.tables e below (T141.setTop (mkF m 126 #[.val (.int p0), .val (.int p1), .val (.int p2), .val (.int p3), .val (.int p4), .val (.int eb), .val (.int el), .val (.int (0 : Int32)), .val (.int (1 : Int32)), .val (.ref t1), .val .null, .val (.ref u1), .val (.ref u2), .val (.ref b135), .val (.int (0 : Int32)), .unset, .unset] [(.int (0 : Int32))])) _
          exact q
        have k162_ : ∀ t, Steps p.tables e below (T141.setTop (mkF m 129 #[.val (.int p0), .val (.int p1), .val (.int p2), .val (.int p3), .val (.int p4), .val (.int eb), .val (.int el), .val (.int (0 : Int32)), .val (.int (1 : Int32)), .val (.ref t1), .val .null, .val (.ref u1), .val (.ref u2), .val (.ref b135), .val (.int (0 : Int32)), .unset, .unset] [])) t → Steps p.tables e below (s₁.setTop (mkF m 0 #[.val (.int p0), .val (.int p1), .val (.int p2), .val (.int p3), .val (.int p4), .unset, .unset, .unset, .unset, .unset, .unset, .unset, .unset, .unset, .unset, .unset, .unset] [])) t := by
          intro t q
          refine k161_ _ ?_
          show Steps p.tables e below (T141.setTop (mkF m 126 #[.val (.int p0), .val (.int p1), .val (.int p2), .val (.int p3), .val (.int p4), .val (.int eb), .val (.int el), .val (.int (0 : Int32)), .val (.int (1 : Int32)), .val (.ref t1), .val .null, .val (.ref u1), .val (.ref u2), .val (.ref b135), .val (.int (0 : Int32)), .unset, .unset] [(.int (0 : Int32))])) _
          refine XS.ifNo X141.here hx rfl (hb hby at_126) rfl ((if0 _ _).trans (teq rfl).2) ?_
          show Steps p.tables e below (T141.setTop (mkF m 129 #[.val (.int p0), .val (.int p1), .val (.int p2), .val (.int p3), .val (.int p4), .val (.int eb), .val (.int el), .val (.int (0 : Int32)), .val (.int (1 : Int32)), .val (.ref t1), .val .null, .val (.ref u1), .val (.ref u2), .val (.ref b135), .val (.int (0 : Int32)), .unset, .unset] [])) _
          exact q
        have k163_ : ∀ t, Steps p.tables e below (T141.setTop (mkF m 132 #[.val (.int p0), .val (.int p1), .val (.int p2), .val (.int p3), .val (.int p4), .val (.int eb), .val (.int el), .val (.int (0 : Int32)), .val (.int (1 : Int32)), .val (.ref t1), .val .null, .val (.ref u1), .val (.ref u2), .val (.ref b135), .val (.int (0 : Int32)), .unset, .unset] [(.int eb), (.int p0)])) t → Steps p.tables e below (s₁.setTop (mkF m 0 #[.val (.int p0), .val (.int p1), .val (.int p2), .val (.int p3), .val (.int p4), .unset, .unset, .unset, .unset, .unset, .unset, .unset, .unset, .unset, .unset, .unset, .unset] [])) t := by
          intro t q
          refine k162_ _ ?_
          show Steps p.tables e below (T141.setTop (mkF m 129 #[.val (.int p0), .val (.int p1), .val (.int p2), .val (.int p3), .val (.int p4), .val (.int eb), .val (.int el), .val (.int (0 : Int32)), .val (.int (1 : Int32)), .val (.ref t1), .val .null, .val (.ref u1), .val (.ref u2), .val (.ref b135), .val (.int (0 : Int32)), .unset, .unset] [])) _
          refine XS.iloadN X141.here hx rfl (hb hby at_129) rfl ?_
          refine XS.iload X141.here hx rfl (hb hby at_130) rfl ?_
          show Steps p.tables e below (T141.setTop (mkF m 132 #[.val (.int p0), .val (.int p1), .val (.int p2), .val (.int p3), .val (.int p4), .val (.int eb), .val (.int el), .val (.int (0 : Int32)), .val (.int (1 : Int32)), .val (.ref t1), .val .null, .val (.ref u1), .val (.ref u2), .val (.ref b135), .val (.int (0 : Int32)), .unset, .unset] [(.int eb), (.int p0)])) _
          exact q
        obtain ⟨_, _, ⟨T164, L164, kk164, n164⟩, -, X164, ⟨Lc164, hQ164, l164, y164, z164⟩, st164⟩ := Jvm.LawKit.callS X141 hx (y := (⟨"com/example/triplewright/triplewright/source/ElementNameMatchesPinLaw", "same", "(II)Z"⟩ : MethodName)) hown (mvT hZ (hw _ (List.mem_of_getElem? (i := 75) rfl))) (mvT hZ (hw _ (List.mem_of_getElem? (i := 76) rfl))) (mvT hZ (hw _ (List.mem_of_getElem? (i := 3) rfl))) (mvT hZ (hw _ (List.mem_of_getElem? (i := 77) rfl))) (by decide) (backOf (W := 0) (rmSa l Z a0 hw [] p0 eb T138.heap n0 Zn) hZ (hw _ (List.mem_of_getElem? (i := 77) rfl)) (hw _ (List.mem_of_getElem? (i := 3) rfl)) (by decide) (by decide)) (g := (mkF m 132 #[.val (.int p0), .val (.int p1), .val (.int p2), .val (.int p3), .val (.int p4), .val (.int eb), .val (.int el), .val (.int (0 : Int32)), .val (.int (1 : Int32)), .val (.ref t1), .val .null, .val (.ref u1), .val (.ref u2), .val (.ref b135), .val (.int (0 : Int32)), .unset, .unset] [(.int eb), (.int p0)])) rfl (by rw [hml]; rfl) (argsL := [(.int p0), (.int eb)]) (rest := []) (lenOf pd_90437 rfl) rfl (by show 2 * 0 + _ ≤ _; exact Nat.le_of_eq rfl) (hb hby at_132) (fun _ _ => ⟨rfl, hq141, (by decide : 0 + 4 + 4 + 4 + 1 + 0 + 0 + 0 ≤ _), (by decide : 0 + 11 + 11 + 11 + 2 + 0 + 0 + 0 ≤ _)⟩)
        dsimp only [Pt.U, Pt.locs, Pt.cells, Pt.slots] at X164 l164 y164 z164 st164 hQ164
        rw [l164, y164, z164] at X164
        obtain ⟨rfl, Nq164, hq164⟩ := hQ164
        have N164 := Fr.app N141 Nq164
        have k165_ : ∀ t, Steps p.tables e below (T164.setTop (mkF m 135 #[.val (.int p0), .val (.int p1), .val (.int p2), .val (.int p3), .val (.int p4), .val (.int eb), .val (.int el), .val (.int (0 : Int32)), .val (.int (1 : Int32)), .val (.ref t1), .val .null, .val (.ref u1), .val (.ref u2), .val (.ref b135), .val (.int (0 : Int32)), .unset, .unset] [(.int (bi (own_cs p0 = own_cs eb)))])) t → Steps p.tables e below (s₁.setTop (mkF m 0 #[.val (.int p0), .val (.int p1), .val (.int p2), .val (.int p3), .val (.int p4), .unset, .unset, .unset, .unset, .unset, .unset, .unset, .unset, .unset, .unset, .unset, .unset] [])) t := fun t q => k163_ t (st164 t q)
        have k166_ : ∀ t, Steps p.tables e below (T164.setTop (mkF m 135 #[.val (.int p0), .val (.int p1), .val (.int p2), .val (.int p3), .val (.int p4), .val (.int eb), .val (.int el), .val (.int (0 : Int32)), .val (.int (1 : Int32)), .val (.ref t1), .val .null, .val (.ref u1), .val (.ref u2), .val (.ref b135), .val (.int (0 : Int32)), .unset, .unset] [(.int (0 : Int32))])) t → Steps p.tables e below (s₁.setTop (mkF m 0 #[.val (.int p0), .val (.int p1), .val (.int p2), .val (.int p3), .val (.int p4), .unset, .unset, .unset, .unset, .unset, .unset, .unset, .unset, .unset, .unset, .unset, .unset] [])) t := fun t q => k165_ t (Eq.mp (congrArg (fun z => Steps p.tables e below (T164.setTop (mkF m 135 #[.val (.int p0), .val (.int p1), .val (.int p2), .val (.int p3), .val (.int p4), .val (.int eb), .val (.int el), .val (.int (0 : Int32)), .val (.int (1 : Int32)), .val (.ref t1), .val .null, .val (.ref u1), .val (.ref u2), .val (.ref b135), .val (.int (0 : Int32)), .unset, .unset] [(.int z)])) t) (show (0 : Int32) = (bi (own_cs p0 = own_cs eb)) from (bi_f hA).symm)) q)
        have k167_ : ∀ t, Steps p.tables e below (T164.setTop (mkF m 142 #[.val (.int p0), .val (.int p1), .val (.int p2), .val (.int p3), .val (.int p4), .val (.int eb), .val (.int el), .val (.int (0 : Int32)), .val (.int (1 : Int32)), .val (.ref t1), .val .null, .val (.ref u1), .val (.ref u2), .val (.ref b135), .val (.int (0 : Int32)), .unset, .unset] [])) t → Steps p.tables e below (s₁.setTop (mkF m 0 #[.val (.int p0), .val (.int p1), .val (.int p2), .val (.int p3), .val (.int p4), .unset, .unset, .unset, .unset, .unset, .unset, .unset, .unset, .unset, .unset, .unset, .unset] [])) t := by
          intro t q
          refine k166_ _ ?_
          show Steps p.tables e below (T164.setTop (mkF m 135 #[.val (.int p0), .val (.int p1), .val (.int p2), .val (.int p3), .val (.int p4), .val (.int eb), .val (.int el), .val (.int (0 : Int32)), .val (.int (1 : Int32)), .val (.ref t1), .val .null, .val (.ref u1), .val (.ref u2), .val (.ref b135), .val (.int (0 : Int32)), .unset, .unset] [(.int (0 : Int32))])) _
          refine XS.ifYes X164.here hx rfl (pc0 := 135) (pc' := 142) rfl (hb hby at_135) rfl ((if0 _ _).trans (teq (by decide)).1) (by decide) (by decide) ?_
          show Steps p.tables e below (T164.setTop (mkF m 142 #[.val (.int p0), .val (.int p1), .val (.int p2), .val (.int p3), .val (.int p4), .val (.int eb), .val (.int el), .val (.int (0 : Int32)), .val (.int (1 : Int32)), .val (.ref t1), .val .null, .val (.ref u1), .val (.ref u2), .val (.ref b135), .val (.int (0 : Int32)), .unset, .unset] [])) _
          exact q
        have k168_ : ∀ t, Steps p.tables e below (T164.setTop (mkF m 147 #[.val (.int p0), .val (.int p1), .val (.int p2), .val (.int p3), .val (.int p4), .val (.int eb), .val (.int el), .val (.int (0 : Int32)), .val (.int (1 : Int32)), .val (.ref t1), .val .null, .val (.ref u1), .val (.ref u2), .val (.ref b135), .val (.int (0 : Int32)), .val (.int (0 : Int32)), .unset] [(.int (1 : Int32))])) t → Steps p.tables e below (s₁.setTop (mkF m 0 #[.val (.int p0), .val (.int p1), .val (.int p2), .val (.int p3), .val (.int p4), .unset, .unset, .unset, .unset, .unset, .unset, .unset, .unset, .unset, .unset, .unset, .unset] [])) t := by
          intro t q
          refine k167_ _ ?_
          show Steps p.tables e below (T164.setTop (mkF m 142 #[.val (.int p0), .val (.int p1), .val (.int p2), .val (.int p3), .val (.int p4), .val (.int eb), .val (.int el), .val (.int (0 : Int32)), .val (.int (1 : Int32)), .val (.ref t1), .val .null, .val (.ref u1), .val (.ref u2), .val (.ref b135), .val (.int (0 : Int32)), .unset, .unset] [])) _
          refine XS.iconst X164.here hx rfl (hb hby at_142) ?_
          refine XS.istore X164.here hx rfl (hb hby at_143) rfl (l' := #[.val (.int p0), .val (.int p1), .val (.int p2), .val (.int p3), .val (.int p4), .val (.int eb), .val (.int el), .val (.int (0 : Int32)), .val (.int (1 : Int32)), .val (.ref t1), .val .null, .val (.ref u1), .val (.ref u2), .val (.ref b135), .val (.int (0 : Int32)), .val (.int (0 : Int32)), .unset]) rfl ?_
          show Steps p.tables e below (T164.setTop (mkF m 145 #[.val (.int p0), .val (.int p1), .val (.int p2), .val (.int p3), .val (.int p4), .val (.int eb), .val (.int el), .val (.int (0 : Int32)), .val (.int (1 : Int32)), .val (.ref t1), .val .null, .val (.ref u1), .val (.ref u2), .val (.ref b135), .val (.int (0 : Int32)), .val (.int (0 : Int32)), .unset] [])) _
          refine XS.iload X164.here hx rfl (hb hby at_145) rfl ?_
          show Steps p.tables e below (T164.setTop (mkF m 147 #[.val (.int p0), .val (.int p1), .val (.int p2), .val (.int p3), .val (.int p4), .val (.int eb), .val (.int el), .val (.int (0 : Int32)), .val (.int (1 : Int32)), .val (.ref t1), .val .null, .val (.ref u1), .val (.ref u2), .val (.ref b135), .val (.int (0 : Int32)), .val (.int (0 : Int32)), .unset] [(.int (1 : Int32))])) _
          exact q
        have k169_ : ∀ t, Steps p.tables e below (T164.setTop (mkF m 159 #[.val (.int p0), .val (.int p1), .val (.int p2), .val (.int p3), .val (.int p4), .val (.int eb), .val (.int el), .val (.int (0 : Int32)), .val (.int (1 : Int32)), .val (.ref t1), .val .null, .val (.ref u1), .val (.ref u2), .val (.ref b135), .val (.int (0 : Int32)), .val (.int (0 : Int32)), .unset] [])) t → Steps p.tables e below (s₁.setTop (mkF m 0 #[.val (.int p0), .val (.int p1), .val (.int p2), .val (.int p3), .val (.int p4), .unset, .unset, .unset, .unset, .unset, .unset, .unset, .unset, .unset, .unset, .unset, .unset] [])) t := by
          intro t q
          refine k168_ _ ?_
          show Steps p.tables e below (T164.setTop (mkF m 147 #[.val (.int p0), .val (.int p1), .val (.int p2), .val (.int p3), .val (.int p4), .val (.int eb), .val (.int el), .val (.int (0 : Int32)), .val (.int (1 : Int32)), .val (.ref t1), .val .null, .val (.ref u1), .val (.ref u2), .val (.ref b135), .val (.int (0 : Int32)), .val (.int (0 : Int32)), .unset] [(.int (1 : Int32))])) _
          refine XS.ifYes X164.here hx rfl (pc0 := 147) (pc' := 159) rfl (hb hby at_147) rfl ((if0 _ _).trans (feq (by decide)).2) (by decide) (by decide) ?_
          show Steps p.tables e below (T164.setTop (mkF m 159 #[.val (.int p0), .val (.int p1), .val (.int p2), .val (.int p3), .val (.int p4), .val (.int eb), .val (.int el), .val (.int (0 : Int32)), .val (.int (1 : Int32)), .val (.ref t1), .val .null, .val (.ref u1), .val (.ref u2), .val (.ref b135), .val (.int (0 : Int32)), .val (.int (0 : Int32)), .unset] [])) _
          exact q
        have k170_ : ∀ t, Steps p.tables e below (T164.setTop (mkF m 170 #[.val (.int p0), .val (.int p1), .val (.int p2), .val (.int p3), .val (.int p4), .val (.int eb), .val (.int el), .val (.int (0 : Int32)), .val (.int (1 : Int32)), .val (.ref t1), .val .null, .val (.ref u1), .val (.ref u2), .val (.ref b135), .val (.int (0 : Int32)), .val (.int (0 : Int32)), .val (.int (1 : Int32))] [(.int (0 : Int32)), (.int (0 : Int32))])) t → Steps p.tables e below (s₁.setTop (mkF m 0 #[.val (.int p0), .val (.int p1), .val (.int p2), .val (.int p3), .val (.int p4), .unset, .unset, .unset, .unset, .unset, .unset, .unset, .unset, .unset, .unset, .unset, .unset] [])) t := by
          intro t q
          refine k169_ _ ?_
          show Steps p.tables e below (T164.setTop (mkF m 159 #[.val (.int p0), .val (.int p1), .val (.int p2), .val (.int p3), .val (.int p4), .val (.int eb), .val (.int el), .val (.int (0 : Int32)), .val (.int (1 : Int32)), .val (.ref t1), .val .null, .val (.ref u1), .val (.ref u2), .val (.ref b135), .val (.int (0 : Int32)), .val (.int (0 : Int32)), .unset] [])) _
          refine XS.iconst X164.here hx rfl (hb hby at_159) ?_
          refine XS.goto X164.here hx rfl (pc0 := 160) (pc' := 164) rfl (hb hby at_160) (by decide) (by decide) ?_
          show Steps p.tables e below (T164.setTop (mkF m 164 #[.val (.int p0), .val (.int p1), .val (.int p2), .val (.int p3), .val (.int p4), .val (.int eb), .val (.int el), .val (.int (0 : Int32)), .val (.int (1 : Int32)), .val (.ref t1), .val .null, .val (.ref u1), .val (.ref u2), .val (.ref b135), .val (.int (0 : Int32)), .val (.int (0 : Int32)), .unset] [(.int (1 : Int32))])) _
          refine XS.istore X164.here hx rfl (hb hby at_164) rfl (l' := #[.val (.int p0), .val (.int p1), .val (.int p2), .val (.int p3), .val (.int p4), .val (.int eb), .val (.int el), .val (.int (0 : Int32)), .val (.int (1 : Int32)), .val (.ref t1), .val .null, .val (.ref u1), .val (.ref u2), .val (.ref b135), .val (.int (0 : Int32)), .val (.int (0 : Int32)), .val (.int (1 : Int32))]) rfl ?_
          refine XS.iload X164.here hx rfl (hb hby at_166) rfl ?_
          show Steps p.tables e below (T164.setTop (mkF m 168 #[.val (.int p0), .val (.int p1), .val (.int p2), .val (.int p3), .val (.int p4), .val (.int eb), .val (.int el), .val (.int (0 : Int32)), .val (.int (1 : Int32)), .val (.ref t1), .val .null, .val (.ref u1), .val (.ref u2), .val (.ref b135), .val (.int (0 : Int32)), .val (.int (0 : Int32)), .val (.int (1 : Int32))] [(.int (0 : Int32))])) _
          refine XS.iload X164.here hx rfl (hb hby at_168) rfl ?_
          show Steps p.tables e below (T164.setTop (mkF m 170 #[.val (.int p0), .val (.int p1), .val (.int p2), .val (.int p3), .val (.int p4), .val (.int eb), .val (.int el), .val (.int (0 : Int32)), .val (.int (1 : Int32)), .val (.ref t1), .val .null, .val (.ref u1), .val (.ref u2), .val (.ref b135), .val (.int (0 : Int32)), .val (.int (0 : Int32)), .val (.int (1 : Int32))] [(.int (0 : Int32)), (.int (0 : Int32))])) _
          exact q
        have k171_ : ∀ t, Steps p.tables e below (T164.setTop (mkF m 182 #[.val (.int p0), .val (.int p1), .val (.int p2), .val (.int p3), .val (.int p4), .val (.int eb), .val (.int el), .val (.int (0 : Int32)), .val (.int (1 : Int32)), .val (.ref t1), .val .null, .val (.ref u1), .val (.ref u2), .val (.ref b135), .val (.int (0 : Int32)), .val (.int (0 : Int32)), .val (.int (1 : Int32))] [(.int (0 : Int32))])) t → Steps p.tables e below (s₁.setTop (mkF m 0 #[.val (.int p0), .val (.int p1), .val (.int p2), .val (.int p3), .val (.int p4), .unset, .unset, .unset, .unset, .unset, .unset, .unset, .unset, .unset, .unset, .unset, .unset] [])) t := by
          intro t q
          refine k170_ _ ?_
          show Steps p.tables e below (T164.setTop (mkF m 170 #[.val (.int p0), .val (.int p1), .val (.int p2), .val (.int p3), .val (.int p4), .val (.int eb), .val (.int el), .val (.int (0 : Int32)), .val (.int (1 : Int32)), .val (.ref t1), .val .null, .val (.ref u1), .val (.ref u2), .val (.ref b135), .val (.int (0 : Int32)), .val (.int (0 : Int32)), .val (.int (1 : Int32))] [(.int (0 : Int32)), (.int (0 : Int32))])) _
          refine XS.ifYes X164.here hx rfl (pc0 := 170) (pc' := 182) rfl (hb hby at_170) rfl ((if0 _ _).trans (teq (by decide)).1) (by decide) (by decide) ?_
          show Steps p.tables e below (T164.setTop (mkF m 182 #[.val (.int p0), .val (.int p1), .val (.int p2), .val (.int p3), .val (.int p4), .val (.int eb), .val (.int el), .val (.int (0 : Int32)), .val (.int (1 : Int32)), .val (.ref t1), .val .null, .val (.ref u1), .val (.ref u2), .val (.ref b135), .val (.int (0 : Int32)), .val (.int (0 : Int32)), .val (.int (1 : Int32))] [(.int (0 : Int32))])) _
          exact q
        have k172_ : ∀ t, Steps p.tables e below (T164.setTop (mkF m 183 #[.val (.int p0), .val (.int p1), .val (.int p2), .val (.int p3), .val (.int p4), .val (.int eb), .val (.int el), .val (.int (0 : Int32)), .val (.int (1 : Int32)), .val (.ref t1), .val .null, .val (.ref u1), .val (.ref u2), .val (.ref b135), .val (.int (0 : Int32)), .val (.int (0 : Int32)), .val (.int (1 : Int32))] [(.int (0 : Int32)), (.int (0 : Int32))])) t → Steps p.tables e below (s₁.setTop (mkF m 0 #[.val (.int p0), .val (.int p1), .val (.int p2), .val (.int p3), .val (.int p4), .unset, .unset, .unset, .unset, .unset, .unset, .unset, .unset, .unset, .unset, .unset, .unset] [])) t := by
          intro t q
          refine k171_ _ ?_
          show Steps p.tables e below (T164.setTop (mkF m 182 #[.val (.int p0), .val (.int p1), .val (.int p2), .val (.int p3), .val (.int p4), .val (.int eb), .val (.int el), .val (.int (0 : Int32)), .val (.int (1 : Int32)), .val (.ref t1), .val .null, .val (.ref u1), .val (.ref u2), .val (.ref b135), .val (.int (0 : Int32)), .val (.int (0 : Int32)), .val (.int (1 : Int32))] [(.int (0 : Int32))])) _
          refine XS.iconst X164.here hx rfl (hb hby at_182) ?_
          show Steps p.tables e below (T164.setTop (mkF m 183 #[.val (.int p0), .val (.int p1), .val (.int p2), .val (.int p3), .val (.int p4), .val (.int eb), .val (.int el), .val (.int (0 : Int32)), .val (.int (1 : Int32)), .val (.ref t1), .val .null, .val (.ref u1), .val (.ref u2), .val (.ref b135), .val (.int (0 : Int32)), .val (.int (0 : Int32)), .val (.int (1 : Int32))] [(.int (0 : Int32)), (.int (0 : Int32))])) _
          exact q
        have k173_ : ∀ t, Steps p.tables e below (T164.setTop (mkF m 186 #[.val (.int p0), .val (.int p1), .val (.int p2), .val (.int p3), .val (.int p4), .val (.int eb), .val (.int el), .val (.int (0 : Int32)), .val (.int (1 : Int32)), .val (.ref t1), .val .null, .val (.ref u1), .val (.ref u2), .val (.ref b135), .val (.int (0 : Int32)), .val (.int (0 : Int32)), .val (.int (1 : Int32))] [])) t → Steps p.tables e below (s₁.setTop (mkF m 0 #[.val (.int p0), .val (.int p1), .val (.int p2), .val (.int p3), .val (.int p4), .unset, .unset, .unset, .unset, .unset, .unset, .unset, .unset, .unset, .unset, .unset, .unset] [])) t := by
          intro t q
          refine k172_ _ ?_
          show Steps p.tables e below (T164.setTop (mkF m 183 #[.val (.int p0), .val (.int p1), .val (.int p2), .val (.int p3), .val (.int p4), .val (.int eb), .val (.int el), .val (.int (0 : Int32)), .val (.int (1 : Int32)), .val (.ref t1), .val .null, .val (.ref u1), .val (.ref u2), .val (.ref b135), .val (.int (0 : Int32)), .val (.int (0 : Int32)), .val (.int (1 : Int32))] [(.int (0 : Int32)), (.int (0 : Int32))])) _
          refine XS.icmpNo X164.here hx rfl (hb hby at_183) rfl (teq rfl).2 ?_
          show Steps p.tables e below (T164.setTop (mkF m 186 #[.val (.int p0), .val (.int p1), .val (.int p2), .val (.int p3), .val (.int p4), .val (.int eb), .val (.int el), .val (.int (0 : Int32)), .val (.int (1 : Int32)), .val (.ref t1), .val .null, .val (.ref u1), .val (.ref u2), .val (.ref b135), .val (.int (0 : Int32)), .val (.int (0 : Int32)), .val (.int (1 : Int32))] [])) _
          exact q
        have k174_ : ∀ t, Steps p.tables e below (T164.setTop (mkF m 191 #[.val (.int p0), .val (.int p1), .val (.int p2), .val (.int p3), .val (.int p4), .val (.int eb), .val (.int el), .val (.int (0 : Int32)), .val (.int (1 : Int32)), .val (.ref t1), .val .null, .val (.ref u1), .val (.ref u2), .val (.ref b135), .val (.int (0 : Int32)), .val (.int (0 : Int32)), .val (.int (1 : Int32))] [(.int (1 : Int32))])) t → Steps p.tables e below (s₁.setTop (mkF m 0 #[.val (.int p0), .val (.int p1), .val (.int p2), .val (.int p3), .val (.int p4), .unset, .unset, .unset, .unset, .unset, .unset, .unset, .unset, .unset, .unset, .unset, .unset] [])) t := by
          intro t q
          refine k173_ _ ?_
          show Steps p.tables e below (T164.setTop (mkF m 186 #[.val (.int p0), .val (.int p1), .val (.int p2), .val (.int p3), .val (.int p4), .val (.int eb), .val (.int el), .val (.int (0 : Int32)), .val (.int (1 : Int32)), .val (.ref t1), .val .null, .val (.ref u1), .val (.ref u2), .val (.ref b135), .val (.int (0 : Int32)), .val (.int (0 : Int32)), .val (.int (1 : Int32))] [])) _
          refine XS.iconst X164.here hx rfl (hb hby at_186) ?_
          refine XS.goto X164.here hx rfl (pc0 := 187) (pc' := 191) rfl (hb hby at_187) (by decide) (by decide) ?_
          show Steps p.tables e below (T164.setTop (mkF m 191 #[.val (.int p0), .val (.int p1), .val (.int p2), .val (.int p3), .val (.int p4), .val (.int eb), .val (.int el), .val (.int (0 : Int32)), .val (.int (1 : Int32)), .val (.ref t1), .val .null, .val (.ref u1), .val (.ref u2), .val (.ref b135), .val (.int (0 : Int32)), .val (.int (0 : Int32)), .val (.int (1 : Int32))] [(.int (1 : Int32))])) _
          exact q
        obtain ⟨fs, hr, hrun, hended, r1, r2, r3, r4⟩ := Stand.leaveW (s := s) (vm₁ := T132.vm) X164 hS (by rw [hq164]; exact hk) (v := some (.int (1 : Int32))) (fun h => by rw [Bd.returns] at h; cases h)
        refine ⟨_, _, pre0 _ (k174_ _ ?_), hrun, hended, _, rfl, N164, r1, r2, r3, r4.mono (by decide) (by decide)⟩
        · show Steps p.tables e below (T164.setTop (mkF m 191 #[.val (.int p0), .val (.int p1), .val (.int p2), .val (.int p3), .val (.int p4), .val (.int eb), .val (.int el), .val (.int (0 : Int32)), .val (.int (1 : Int32)), .val (.ref t1), .val .null, .val (.ref u1), .val (.ref u2), .val (.ref b135), .val (.int (0 : Int32)), .val (.int (0 : Int32)), .val (.int (1 : Int32))] [(.int (1 : Int32))])) _
          exact retN X164 hx (t := .boolean) Bd.returns (by simp) (hb hby at_191) hr
  · have k175_ : ∀ t, Steps p.tables e below (s₁.setTop (mkF m 35 #[.val (.int p0), .val (.int p1), .val (.int p2), .val (.int p3), .val (.int p4), .val (.int eb), .val (.int el), .unset, .unset, .unset, .unset, .unset, .unset, .unset, .unset, .unset, .unset] [])) t → Steps p.tables e below (s₁.setTop (mkF m 0 #[.val (.int p0), .val (.int p1), .val (.int p2), .val (.int p3), .val (.int p4), .unset, .unset, .unset, .unset, .unset, .unset, .unset, .unset, .unset, .unset, .unset, .unset] [])) t := by
      intro t q
      refine k7_ _ ?_
      show Steps p.tables e below (s₁.setTop (mkF m 32 #[.val (.int p0), .val (.int p1), .val (.int p2), .val (.int p3), .val (.int p4), .val (.int eb), .val (.int el), .unset, .unset, .unset, .unset, .unset, .unset, .unset, .unset, .unset, .unset] [(.int (p0 &&& (67108864 : Int32)))])) _
      refine XS.ifNo X0.here hx rfl (hb hby at_32) rfl ((if0 _ _).trans (feq hna).1) ?_
      show Steps p.tables e below (s₁.setTop (mkF m 35 #[.val (.int p0), .val (.int p1), .val (.int p2), .val (.int p3), .val (.int p4), .val (.int eb), .val (.int el), .unset, .unset, .unset, .unset, .unset, .unset, .unset, .unset, .unset, .unset] [])) _
      exact q
    have k176_ : ∀ t, Steps p.tables e below (s₁.setTop (mkF m 46 #[.val (.int p0), .val (.int p1), .val (.int p2), .val (.int p3), .val (.int p4), .val (.int eb), .val (.int el), .val (.int (1 : Int32)), .unset, .unset, .unset, .unset, .unset, .unset, .unset, .unset, .unset] [(.int (p1 &&& (67108864 : Int32)))])) t → Steps p.tables e below (s₁.setTop (mkF m 0 #[.val (.int p0), .val (.int p1), .val (.int p2), .val (.int p3), .val (.int p4), .unset, .unset, .unset, .unset, .unset, .unset, .unset, .unset, .unset, .unset, .unset, .unset] [])) t := by
      intro t q
      refine k175_ _ ?_
      show Steps p.tables e below (s₁.setTop (mkF m 35 #[.val (.int p0), .val (.int p1), .val (.int p2), .val (.int p3), .val (.int p4), .val (.int eb), .val (.int el), .unset, .unset, .unset, .unset, .unset, .unset, .unset, .unset, .unset, .unset] [])) _
      refine XS.iconst X0.here hx rfl (hb hby at_35) ?_
      refine XS.goto X0.here hx rfl (pc0 := 36) (pc' := 40) rfl (hb hby at_36) (by decide) (by decide) ?_
      show Steps p.tables e below (s₁.setTop (mkF m 40 #[.val (.int p0), .val (.int p1), .val (.int p2), .val (.int p3), .val (.int p4), .val (.int eb), .val (.int el), .unset, .unset, .unset, .unset, .unset, .unset, .unset, .unset, .unset, .unset] [(.int (1 : Int32))])) _
      refine XS.istore X0.here hx rfl (hb hby at_40) rfl (l' := #[.val (.int p0), .val (.int p1), .val (.int p2), .val (.int p3), .val (.int p4), .val (.int eb), .val (.int el), .val (.int (1 : Int32)), .unset, .unset, .unset, .unset, .unset, .unset, .unset, .unset, .unset]) rfl ?_
      refine XS.iloadN X0.here hx rfl (hb hby at_42) rfl ?_
      show Steps p.tables e below (s₁.setTop (mkF m 43 #[.val (.int p0), .val (.int p1), .val (.int p2), .val (.int p3), .val (.int p4), .val (.int eb), .val (.int el), .val (.int (1 : Int32)), .unset, .unset, .unset, .unset, .unset, .unset, .unset, .unset, .unset] [(.int p1)])) _
      refine X0.ldcInt hx hown (mvT hZ (hw _ (List.mem_of_getElem? (i := 0) rfl))) (g := (mkF m 43 #[.val (.int p0), .val (.int p1), .val (.int p2), .val (.int p3), .val (.int p4), .val (.int eb), .val (.int el), .val (.int (1 : Int32)), .unset, .unset, .unset, .unset, .unset, .unset, .unset, .unset, .unset] [(.int p1)])) rfl (hb hby at_43) _ ?_
      refine XS.iand X0.here hx rfl (hb hby at_45) rfl ?_
      show Steps p.tables e below (s₁.setTop (mkF m 46 #[.val (.int p0), .val (.int p1), .val (.int p2), .val (.int p3), .val (.int p4), .val (.int eb), .val (.int el), .val (.int (1 : Int32)), .unset, .unset, .unset, .unset, .unset, .unset, .unset, .unset, .unset] [(.int (p1 &&& (67108864 : Int32)))])) _
      exact q
    by_cases hnb : (p1 &&& (67108864 : Int32)) = (0 : Int32)
    · have k177_ : ∀ t, Steps p.tables e below (s₁.setTop (mkF m 53 #[.val (.int p0), .val (.int p1), .val (.int p2), .val (.int p3), .val (.int p4), .val (.int eb), .val (.int el), .val (.int (1 : Int32)), .unset, .unset, .unset, .unset, .unset, .unset, .unset, .unset, .unset] [])) t → Steps p.tables e below (s₁.setTop (mkF m 0 #[.val (.int p0), .val (.int p1), .val (.int p2), .val (.int p3), .val (.int p4), .unset, .unset, .unset, .unset, .unset, .unset, .unset, .unset, .unset, .unset, .unset, .unset] [])) t := by
        intro t q
        refine k176_ _ ?_
        show Steps p.tables e below (s₁.setTop (mkF m 46 #[.val (.int p0), .val (.int p1), .val (.int p2), .val (.int p3), .val (.int p4), .val (.int eb), .val (.int el), .val (.int (1 : Int32)), .unset, .unset, .unset, .unset, .unset, .unset, .unset, .unset, .unset] [(.int (p1 &&& (67108864 : Int32)))])) _
        refine XS.ifYes X0.here hx rfl (pc0 := 46) (pc' := 53) rfl (hb hby at_46) rfl ((if0 _ _).trans (teq hnb).1) (by decide) (by decide) ?_
        show Steps p.tables e below (s₁.setTop (mkF m 53 #[.val (.int p0), .val (.int p1), .val (.int p2), .val (.int p3), .val (.int p4), .val (.int eb), .val (.int el), .val (.int (1 : Int32)), .unset, .unset, .unset, .unset, .unset, .unset, .unset, .unset, .unset] [])) _
        exact q
      have k178_ : ∀ t, Steps p.tables e below (s₁.setTop (mkF m 58 #[.val (.int p0), .val (.int p1), .val (.int p2), .val (.int p3), .val (.int p4), .val (.int eb), .val (.int el), .val (.int (1 : Int32)), .val (.int (0 : Int32)), .unset, .unset, .unset, .unset, .unset, .unset, .unset, .unset] [(.int (1 : Int32))])) t → Steps p.tables e below (s₁.setTop (mkF m 0 #[.val (.int p0), .val (.int p1), .val (.int p2), .val (.int p3), .val (.int p4), .unset, .unset, .unset, .unset, .unset, .unset, .unset, .unset, .unset, .unset, .unset, .unset] [])) t := by
        intro t q
        refine k177_ _ ?_
        show Steps p.tables e below (s₁.setTop (mkF m 53 #[.val (.int p0), .val (.int p1), .val (.int p2), .val (.int p3), .val (.int p4), .val (.int eb), .val (.int el), .val (.int (1 : Int32)), .unset, .unset, .unset, .unset, .unset, .unset, .unset, .unset, .unset] [])) _
        refine XS.iconst X0.here hx rfl (hb hby at_53) ?_
        refine XS.istore X0.here hx rfl (hb hby at_54) rfl (l' := #[.val (.int p0), .val (.int p1), .val (.int p2), .val (.int p3), .val (.int p4), .val (.int eb), .val (.int el), .val (.int (1 : Int32)), .val (.int (0 : Int32)), .unset, .unset, .unset, .unset, .unset, .unset, .unset, .unset]) rfl ?_
        show Steps p.tables e below (s₁.setTop (mkF m 56 #[.val (.int p0), .val (.int p1), .val (.int p2), .val (.int p3), .val (.int p4), .val (.int eb), .val (.int el), .val (.int (1 : Int32)), .val (.int (0 : Int32)), .unset, .unset, .unset, .unset, .unset, .unset, .unset, .unset] [])) _
        refine XS.iload X0.here hx rfl (hb hby at_56) rfl ?_
        show Steps p.tables e below (s₁.setTop (mkF m 58 #[.val (.int p0), .val (.int p1), .val (.int p2), .val (.int p3), .val (.int p4), .val (.int eb), .val (.int el), .val (.int (1 : Int32)), .val (.int (0 : Int32)), .unset, .unset, .unset, .unset, .unset, .unset, .unset, .unset] [(.int (1 : Int32))])) _
        exact q
      have k179_ : ∀ t, Steps p.tables e below (s₁.setTop (mkF m 61 #[.val (.int p0), .val (.int p1), .val (.int p2), .val (.int p3), .val (.int p4), .val (.int eb), .val (.int el), .val (.int (1 : Int32)), .val (.int (0 : Int32)), .unset, .unset, .unset, .unset, .unset, .unset, .unset, .unset] [])) t → Steps p.tables e below (s₁.setTop (mkF m 0 #[.val (.int p0), .val (.int p1), .val (.int p2), .val (.int p3), .val (.int p4), .unset, .unset, .unset, .unset, .unset, .unset, .unset, .unset, .unset, .unset, .unset, .unset] [])) t := by
        intro t q
        refine k178_ _ ?_
        show Steps p.tables e below (s₁.setTop (mkF m 58 #[.val (.int p0), .val (.int p1), .val (.int p2), .val (.int p3), .val (.int p4), .val (.int eb), .val (.int el), .val (.int (1 : Int32)), .val (.int (0 : Int32)), .unset, .unset, .unset, .unset, .unset, .unset, .unset, .unset] [(.int (1 : Int32))])) _
        refine XS.ifNo X0.here hx rfl (hb hby at_58) rfl ((if0 _ _).trans (feq (by decide)).1) ?_
        show Steps p.tables e below (s₁.setTop (mkF m 61 #[.val (.int p0), .val (.int p1), .val (.int p2), .val (.int p3), .val (.int p4), .val (.int eb), .val (.int el), .val (.int (1 : Int32)), .val (.int (0 : Int32)), .unset, .unset, .unset, .unset, .unset, .unset, .unset, .unset] [])) _
        exact q
      have k180_ : ∀ t, Steps p.tables e below (s₁.setTop (mkF m 73 #[.val (.int p0), .val (.int p1), .val (.int p2), .val (.int p3), .val (.int p4), .val (.int eb), .val (.int el), .val (.int (1 : Int32)), .val (.int (0 : Int32)), .val .null, .unset, .unset, .unset, .unset, .unset, .unset, .unset] [(.int (0 : Int32))])) t → Steps p.tables e below (s₁.setTop (mkF m 0 #[.val (.int p0), .val (.int p1), .val (.int p2), .val (.int p3), .val (.int p4), .unset, .unset, .unset, .unset, .unset, .unset, .unset, .unset, .unset, .unset, .unset, .unset] [])) t := by
        intro t q
        refine k179_ _ ?_
        show Steps p.tables e below (s₁.setTop (mkF m 61 #[.val (.int p0), .val (.int p1), .val (.int p2), .val (.int p3), .val (.int p4), .val (.int eb), .val (.int el), .val (.int (1 : Int32)), .val (.int (0 : Int32)), .unset, .unset, .unset, .unset, .unset, .unset, .unset, .unset] [])) _
        refine XS.aconstNull X0.here hx rfl (hb hby at_61) ?_
        refine XS.goto X0.here hx rfl (pc0 := 62) (pc' := 69) rfl (hb hby at_62) (by decide) (by decide) ?_
        show Steps p.tables e below (s₁.setTop (mkF m 69 #[.val (.int p0), .val (.int p1), .val (.int p2), .val (.int p3), .val (.int p4), .val (.int eb), .val (.int el), .val (.int (1 : Int32)), .val (.int (0 : Int32)), .unset, .unset, .unset, .unset, .unset, .unset, .unset, .unset] [.null])) _
        refine XS.astore X0.here hx rfl (hb hby at_69) rfl rfl (l' := #[.val (.int p0), .val (.int p1), .val (.int p2), .val (.int p3), .val (.int p4), .val (.int eb), .val (.int el), .val (.int (1 : Int32)), .val (.int (0 : Int32)), .val .null, .unset, .unset, .unset, .unset, .unset, .unset, .unset]) rfl ?_
        refine XS.iload X0.here hx rfl (hb hby at_71) rfl ?_
        show Steps p.tables e below (s₁.setTop (mkF m 73 #[.val (.int p0), .val (.int p1), .val (.int p2), .val (.int p3), .val (.int p4), .val (.int eb), .val (.int el), .val (.int (1 : Int32)), .val (.int (0 : Int32)), .val .null, .unset, .unset, .unset, .unset, .unset, .unset, .unset] [(.int (0 : Int32))])) _
        exact q
      have k181_ : ∀ t, Steps p.tables e below (s₁.setTop (mkF m 80 #[.val (.int p0), .val (.int p1), .val (.int p2), .val (.int p3), .val (.int p4), .val (.int eb), .val (.int el), .val (.int (1 : Int32)), .val (.int (0 : Int32)), .val .null, .unset, .unset, .unset, .unset, .unset, .unset, .unset] [])) t → Steps p.tables e below (s₁.setTop (mkF m 0 #[.val (.int p0), .val (.int p1), .val (.int p2), .val (.int p3), .val (.int p4), .unset, .unset, .unset, .unset, .unset, .unset, .unset, .unset, .unset, .unset, .unset, .unset] [])) t := by
        intro t q
        refine k180_ _ ?_
        show Steps p.tables e below (s₁.setTop (mkF m 73 #[.val (.int p0), .val (.int p1), .val (.int p2), .val (.int p3), .val (.int p4), .val (.int eb), .val (.int el), .val (.int (1 : Int32)), .val (.int (0 : Int32)), .val .null, .unset, .unset, .unset, .unset, .unset, .unset, .unset] [(.int (0 : Int32))])) _
        refine XS.ifYes X0.here hx rfl (pc0 := 73) (pc' := 80) rfl (hb hby at_73) rfl ((if0 _ _).trans (teq rfl).1) (by decide) (by decide) ?_
        show Steps p.tables e below (s₁.setTop (mkF m 80 #[.val (.int p0), .val (.int p1), .val (.int p2), .val (.int p3), .val (.int p4), .val (.int eb), .val (.int el), .val (.int (1 : Int32)), .val (.int (0 : Int32)), .val .null, .unset, .unset, .unset, .unset, .unset, .unset, .unset] [])) _
        exact q
      have k182_ : ∀ t, Steps p.tables e below (s₁.setTop (mkF m 81 #[.val (.int p0), .val (.int p1), .val (.int p2), .val (.int p3), .val (.int p4), .val (.int eb), .val (.int el), .val (.int (1 : Int32)), .val (.int (0 : Int32)), .val .null, .unset, .unset, .unset, .unset, .unset, .unset, .unset] [(.int p1)])) t → Steps p.tables e below (s₁.setTop (mkF m 0 #[.val (.int p0), .val (.int p1), .val (.int p2), .val (.int p3), .val (.int p4), .unset, .unset, .unset, .unset, .unset, .unset, .unset, .unset, .unset, .unset, .unset, .unset] [])) t := by
        intro t q
        refine k181_ _ ?_
        show Steps p.tables e below (s₁.setTop (mkF m 80 #[.val (.int p0), .val (.int p1), .val (.int p2), .val (.int p3), .val (.int p4), .val (.int eb), .val (.int el), .val (.int (1 : Int32)), .val (.int (0 : Int32)), .val .null, .unset, .unset, .unset, .unset, .unset, .unset, .unset] [])) _
        refine XS.iloadN X0.here hx rfl (hb hby at_80) rfl ?_
        show Steps p.tables e below (s₁.setTop (mkF m 81 #[.val (.int p0), .val (.int p1), .val (.int p2), .val (.int p3), .val (.int p4), .val (.int eb), .val (.int el), .val (.int (1 : Int32)), .val (.int (0 : Int32)), .val .null, .unset, .unset, .unset, .unset, .unset, .unset, .unset] [(.int p1)])) _
        exact q
      obtain ⟨_, _, ⟨T183, L183, kk183, n183⟩, -, X183_, hs183, hG183, ⟨Lc183, hQ183, l183, y183, z183, hc183⟩, st183⟩ := callSS X0 hx (y := (⟨"com/example/triplewright/triplewright/source/ElementNameMatchesPinLaw", "mk", "(I)Ljava/lang/String;"⟩ : MethodName)) hown (mvT hZ (hw _ (List.mem_of_getElem? (i := 1) rfl))) (mvT hZ (hw _ (List.mem_of_getElem? (i := 2) rfl))) (mvT hZ (hw _ (List.mem_of_getElem? (i := 3) rfl))) (mvT hZ (hw _ (List.mem_of_getElem? (i := 4) rfl))) (by decide) (backOfSH (s := s) (vm0 := s.vm) (EL := own_EL) (W := 0) (rmM l Z a0 hw [] p1 zc h0 n0 Zn O2 hzc X00 wS hEL) hZ (hw _ (List.mem_of_getElem? (i := 4) rfl)) (hw _ (List.mem_of_getElem? (i := 3) rfl)) (by decide) (by decide) hEL hCH.1) (g := (mkF m 81 #[.val (.int p0), .val (.int p1), .val (.int p2), .val (.int p3), .val (.int p4), .val (.int eb), .val (.int el), .val (.int (1 : Int32)), .val (.int (0 : Int32)), .val .null, .unset, .unset, .unset, .unset, .unset, .unset, .unset] [(.int p1)])) rfl (by rw [hml]; rfl) (argsL := [(.int p1)]) (rest := []) (lenOf pd_88406 rfl) rfl (by show 2 * 0 + _ ≤ _; exact Nat.le_of_eq rfl) (hb hby at_81) (fun _ _ => ⟨rfl, e0, (by decide : 0 + 4 ≤ _), (by decide : 0 + 11 ≤ _)⟩)
      dsimp only [Pt.U, Pt.locs, Pt.cells, Pt.slots] at X183_ l183 y183 z183 st183 hQ183 hG183 hs183 hc183
      rw [l183, y183, z183] at X183_
      obtain ⟨X183, hS183, hZ183, hown183⟩ := rebS (s := s) (vm0 := s.vm) hS (by rw [e0]; exact hk) X183_ hs183 hG183 hZ hown
      replace hS := hS183
      replace hZ := hZ183
      replace hown := hown183
      replace hCH := hCH.trans hc183
      replace hk : T183.heap.size ≤ T183.heap.size := Nat.le_refl _
      obtain ⟨t2, rfl, Nq183, K_t2, S_t2⟩ := hQ183
      have N183 := Fr.app N0 Nq183
      have k184_ : ∀ t, Steps p.tables e below (T183.setTop (mkF m 84 #[.val (.int p0), .val (.int p1), .val (.int p2), .val (.int p3), .val (.int p4), .val (.int eb), .val (.int el), .val (.int (1 : Int32)), .val (.int (0 : Int32)), .val .null, .unset, .unset, .unset, .unset, .unset, .unset, .unset] [(.ref t2)])) t → Steps p.tables e below (s₁.setTop (mkF m 0 #[.val (.int p0), .val (.int p1), .val (.int p2), .val (.int p3), .val (.int p4), .unset, .unset, .unset, .unset, .unset, .unset, .unset, .unset, .unset, .unset, .unset, .unset] [])) t := fun t q => k182_ t (st183.trans q)
      replace X00 := X00.keep K_t2 all0
      replace Zn := Nat.le_trans Zn K_t2.1
      have k185_ : ∀ t, Steps p.tables e below (T183.setTop (mkF m 88 #[.val (.int p0), .val (.int p1), .val (.int p2), .val (.int p3), .val (.int p4), .val (.int eb), .val (.int el), .val (.int (1 : Int32)), .val (.int (0 : Int32)), .val .null, .val (.ref t2), .unset, .unset, .unset, .unset, .unset, .unset] [(.int eb)])) t → Steps p.tables e below (s₁.setTop (mkF m 0 #[.val (.int p0), .val (.int p1), .val (.int p2), .val (.int p3), .val (.int p4), .unset, .unset, .unset, .unset, .unset, .unset, .unset, .unset, .unset, .unset, .unset, .unset] [])) t := by
        intro t q
        refine k184_ _ ?_
        show Steps p.tables e below (T183.setTop (mkF m 84 #[.val (.int p0), .val (.int p1), .val (.int p2), .val (.int p3), .val (.int p4), .val (.int eb), .val (.int el), .val (.int (1 : Int32)), .val (.int (0 : Int32)), .val .null, .unset, .unset, .unset, .unset, .unset, .unset, .unset] [(.ref t2)])) _
        refine XS.astore X183.here hx rfl (hb hby at_84) rfl rfl (l' := #[.val (.int p0), .val (.int p1), .val (.int p2), .val (.int p3), .val (.int p4), .val (.int eb), .val (.int el), .val (.int (1 : Int32)), .val (.int (0 : Int32)), .val .null, .val (.ref t2), .unset, .unset, .unset, .unset, .unset, .unset]) rfl ?_
        refine XS.iload X183.here hx rfl (hb hby at_86) rfl ?_
        show Steps p.tables e below (T183.setTop (mkF m 88 #[.val (.int p0), .val (.int p1), .val (.int p2), .val (.int p3), .val (.int p4), .val (.int eb), .val (.int el), .val (.int (1 : Int32)), .val (.int (0 : Int32)), .val .null, .val (.ref t2), .unset, .unset, .unset, .unset, .unset, .unset] [(.int eb)])) _
        exact q
      obtain ⟨_, _, ⟨T186, L186, kk186, n186⟩, -, X186_, hs186, hG186, ⟨Lc186, hQ186, l186, y186, z186, hc186⟩, st186⟩ := callSS X183 hx (y := (⟨"com/example/triplewright/triplewright/source/ElementNameMatchesPinLaw", "mk", "(I)Ljava/lang/String;"⟩ : MethodName)) hown (mvT hZ (hw _ (List.mem_of_getElem? (i := 1) rfl))) (mvT hZ (hw _ (List.mem_of_getElem? (i := 2) rfl))) (mvT hZ (hw _ (List.mem_of_getElem? (i := 3) rfl))) (mvT hZ (hw _ (List.mem_of_getElem? (i := 4) rfl))) (by decide) (backOfSH (s := s) (vm0 := T183.vm) (EL := own_EL) (W := 0) (rmM l Z a0 hw [] eb zc T183.heap n0 Zn O2 hzc X00 wS hEL) hZ (hw _ (List.mem_of_getElem? (i := 4) rfl)) (hw _ (List.mem_of_getElem? (i := 3) rfl)) (by decide) (by decide) hEL hCH.1) (g := (mkF m 88 #[.val (.int p0), .val (.int p1), .val (.int p2), .val (.int p3), .val (.int p4), .val (.int eb), .val (.int el), .val (.int (1 : Int32)), .val (.int (0 : Int32)), .val .null, .val (.ref t2), .unset, .unset, .unset, .unset, .unset, .unset] [(.int eb)])) rfl (by rw [hml]; rfl) (argsL := [(.int eb)]) (rest := []) (lenOf pd_88406 rfl) rfl (by show 2 * 0 + _ ≤ _; exact Nat.le_of_eq rfl) (hb hby at_88) (fun _ _ => ⟨rfl, rfl, (by decide : 0 + 4 + 4 ≤ _), (by decide : 0 + 11 + 11 ≤ _)⟩)
      dsimp only [Pt.U, Pt.locs, Pt.cells, Pt.slots] at X186_ l186 y186 z186 st186 hQ186 hG186 hs186 hc186
      rw [l186, y186, z186] at X186_
      obtain ⟨X186, hS186, hZ186, hown186⟩ := rebS (s := s) (vm0 := T183.vm) hS hk X186_ hs186 hG186 hZ hown
      replace hS := hS186
      replace hZ := hZ186
      replace hown := hown186
      replace hCH := hCH.trans hc186
      replace hk : T186.heap.size ≤ T186.heap.size := Nat.le_refl _
      obtain ⟨u1, rfl, Nq186, K_u1, S_u1⟩ := hQ186
      have N186 := Fr.app N183 Nq186
      have k187_ : ∀ t, Steps p.tables e below (T186.setTop (mkF m 91 #[.val (.int p0), .val (.int p1), .val (.int p2), .val (.int p3), .val (.int p4), .val (.int eb), .val (.int el), .val (.int (1 : Int32)), .val (.int (0 : Int32)), .val .null, .val (.ref t2), .unset, .unset, .unset, .unset, .unset, .unset] [(.ref u1)])) t → Steps p.tables e below (s₁.setTop (mkF m 0 #[.val (.int p0), .val (.int p1), .val (.int p2), .val (.int p3), .val (.int p4), .unset, .unset, .unset, .unset, .unset, .unset, .unset, .unset, .unset, .unset, .unset, .unset] [])) t := fun t q => k185_ t (st186.trans q)
      replace X00 := X00.keep K_u1 all0
      replace Zn := Nat.le_trans Zn K_u1.1
      replace S_t2 := own_Str_keep S_t2 K_u1
      have k188_ : ∀ t, Steps p.tables e below (T186.setTop (mkF m 95 #[.val (.int p0), .val (.int p1), .val (.int p2), .val (.int p3), .val (.int p4), .val (.int eb), .val (.int el), .val (.int (1 : Int32)), .val (.int (0 : Int32)), .val .null, .val (.ref t2), .val (.ref u1), .unset, .unset, .unset, .unset, .unset] [(.int el)])) t → Steps p.tables e below (s₁.setTop (mkF m 0 #[.val (.int p0), .val (.int p1), .val (.int p2), .val (.int p3), .val (.int p4), .unset, .unset, .unset, .unset, .unset, .unset, .unset, .unset, .unset, .unset, .unset, .unset] [])) t := by
        intro t q
        refine k187_ _ ?_
        show Steps p.tables e below (T186.setTop (mkF m 91 #[.val (.int p0), .val (.int p1), .val (.int p2), .val (.int p3), .val (.int p4), .val (.int eb), .val (.int el), .val (.int (1 : Int32)), .val (.int (0 : Int32)), .val .null, .val (.ref t2), .unset, .unset, .unset, .unset, .unset, .unset] [(.ref u1)])) _
        refine XS.astore X186.here hx rfl (hb hby at_91) rfl rfl (l' := #[.val (.int p0), .val (.int p1), .val (.int p2), .val (.int p3), .val (.int p4), .val (.int eb), .val (.int el), .val (.int (1 : Int32)), .val (.int (0 : Int32)), .val .null, .val (.ref t2), .val (.ref u1), .unset, .unset, .unset, .unset, .unset]) rfl ?_
        refine XS.iload X186.here hx rfl (hb hby at_93) rfl ?_
        show Steps p.tables e below (T186.setTop (mkF m 95 #[.val (.int p0), .val (.int p1), .val (.int p2), .val (.int p3), .val (.int p4), .val (.int eb), .val (.int el), .val (.int (1 : Int32)), .val (.int (0 : Int32)), .val .null, .val (.ref t2), .val (.ref u1), .unset, .unset, .unset, .unset, .unset] [(.int el)])) _
        exact q
      obtain ⟨_, _, ⟨T189, L189, kk189, n189⟩, -, X189_, hs189, hG189, ⟨Lc189, hQ189, l189, y189, z189, hc189⟩, st189⟩ := callSS X186 hx (y := (⟨"com/example/triplewright/triplewright/source/ElementNameMatchesPinLaw", "mk", "(I)Ljava/lang/String;"⟩ : MethodName)) hown (mvT hZ (hw _ (List.mem_of_getElem? (i := 1) rfl))) (mvT hZ (hw _ (List.mem_of_getElem? (i := 2) rfl))) (mvT hZ (hw _ (List.mem_of_getElem? (i := 3) rfl))) (mvT hZ (hw _ (List.mem_of_getElem? (i := 4) rfl))) (by decide) (backOfSH (s := s) (vm0 := T186.vm) (EL := own_EL) (W := 0) (rmM l Z a0 hw [] el zc T186.heap n0 Zn O2 hzc X00 wS hEL) hZ (hw _ (List.mem_of_getElem? (i := 4) rfl)) (hw _ (List.mem_of_getElem? (i := 3) rfl)) (by decide) (by decide) hEL hCH.1) (g := (mkF m 95 #[.val (.int p0), .val (.int p1), .val (.int p2), .val (.int p3), .val (.int p4), .val (.int eb), .val (.int el), .val (.int (1 : Int32)), .val (.int (0 : Int32)), .val .null, .val (.ref t2), .val (.ref u1), .unset, .unset, .unset, .unset, .unset] [(.int el)])) rfl (by rw [hml]; rfl) (argsL := [(.int el)]) (rest := []) (lenOf pd_88406 rfl) rfl (by show 2 * 0 + _ ≤ _; exact Nat.le_of_eq rfl) (hb hby at_95) (fun _ _ => ⟨rfl, rfl, (by decide : 0 + 4 + 4 + 4 ≤ _), (by decide : 0 + 11 + 11 + 11 ≤ _)⟩)
      dsimp only [Pt.U, Pt.locs, Pt.cells, Pt.slots] at X189_ l189 y189 z189 st189 hQ189 hG189 hs189 hc189
      rw [l189, y189, z189] at X189_
      obtain ⟨X189, hS189, hZ189, hown189⟩ := rebS (s := s) (vm0 := T186.vm) hS hk X189_ hs189 hG189 hZ hown
      replace hS := hS189
      replace hZ := hZ189
      replace hown := hown189
      replace hCH := hCH.trans hc189
      replace hk : T189.heap.size ≤ T189.heap.size := Nat.le_refl _
      obtain ⟨u2, rfl, Nq189, K_u2, S_u2⟩ := hQ189
      have N189 := Fr.app N186 Nq189
      have k190_ : ∀ t, Steps p.tables e below (T189.setTop (mkF m 98 #[.val (.int p0), .val (.int p1), .val (.int p2), .val (.int p3), .val (.int p4), .val (.int eb), .val (.int el), .val (.int (1 : Int32)), .val (.int (0 : Int32)), .val .null, .val (.ref t2), .val (.ref u1), .unset, .unset, .unset, .unset, .unset] [(.ref u2)])) t → Steps p.tables e below (s₁.setTop (mkF m 0 #[.val (.int p0), .val (.int p1), .val (.int p2), .val (.int p3), .val (.int p4), .unset, .unset, .unset, .unset, .unset, .unset, .unset, .unset, .unset, .unset, .unset, .unset] [])) t := fun t q => k188_ t (st189.trans q)
      replace X00 := X00.keep K_u2 all0
      replace Zn := Nat.le_trans Zn K_u2.1
      replace S_t2 := own_Str_keep S_t2 K_u2
      replace S_u1 := own_Str_keep S_u1 K_u2
      have k191_ : ∀ t, Steps p.tables e below (T189.setTop (mkF m 100 #[.val (.int p0), .val (.int p1), .val (.int p2), .val (.int p3), .val (.int p4), .val (.int eb), .val (.int el), .val (.int (1 : Int32)), .val (.int (0 : Int32)), .val .null, .val (.ref t2), .val (.ref u1), .val (.ref u2), .unset, .unset, .unset, .unset] [])) t → Steps p.tables e below (s₁.setTop (mkF m 0 #[.val (.int p0), .val (.int p1), .val (.int p2), .val (.int p3), .val (.int p4), .unset, .unset, .unset, .unset, .unset, .unset, .unset, .unset, .unset, .unset, .unset, .unset] [])) t := by
        intro t q
        refine k190_ _ ?_
        show Steps p.tables e below (T189.setTop (mkF m 98 #[.val (.int p0), .val (.int p1), .val (.int p2), .val (.int p3), .val (.int p4), .val (.int eb), .val (.int el), .val (.int (1 : Int32)), .val (.int (0 : Int32)), .val .null, .val (.ref t2), .val (.ref u1), .unset, .unset, .unset, .unset, .unset] [(.ref u2)])) _
        refine XS.astore X189.here hx rfl (hb hby at_98) rfl rfl (l' := #[.val (.int p0), .val (.int p1), .val (.int p2), .val (.int p3), .val (.int p4), .val (.int eb), .val (.int el), .val (.int (1 : Int32)), .val (.int (0 : Int32)), .val .null, .val (.ref t2), .val (.ref u1), .val (.ref u2), .unset, .unset, .unset, .unset]) rfl ?_
        show Steps p.tables e below (T189.setTop (mkF m 100 #[.val (.int p0), .val (.int p1), .val (.int p2), .val (.int p3), .val (.int p4), .val (.int eb), .val (.int el), .val (.int (1 : Int32)), .val (.int (0 : Int32)), .val .null, .val (.ref t2), .val (.ref u1), .val (.ref u2), .unset, .unset, .unset, .unset] [])) _
        exact q
      obtain ⟨T192, h192, X192, e192, E192, A192, D192, -, st192⟩ := newO X189 hx hZ hown (hw _ (List.mem_of_getElem? (i := 44) rfl)) (hw _ (List.mem_of_getElem? (i := 45) rfl)) (hw _ (List.mem_of_getElem? (i := 46) rfl)) rfl (g := (mkF m 100 #[.val (.int p0), .val (.int p1), .val (.int p2), .val (.int p3), .val (.int p4), .val (.int eb), .val (.int el), .val (.int (1 : Int32)), .val (.int (0 : Int32)), .val .null, .val (.ref t2), .val (.ref u1), .val (.ref u2), .unset, .unset, .unset, .unset] [])) rfl (hb hby at_100) (by decide) (by decide)
      obtain ⟨b192, g192⟩ : ∃ z, z = T189.heap.size := ⟨_, rfl⟩
      rw [← g192] at A192 D192 st192
      have k193_ : ∀ t, Steps p.tables e below (T192.setTop (mkF m 103 #[.val (.int p0), .val (.int p1), .val (.int p2), .val (.int p3), .val (.int p4), .val (.int eb), .val (.int el), .val (.int (1 : Int32)), .val (.int (0 : Int32)), .val .null, .val (.ref t2), .val (.ref u1), .val (.ref u2), .unset, .unset, .unset, .unset] [(.ref b192)])) t → Steps p.tables e below (s₁.setTop (mkF m 0 #[.val (.int p0), .val (.int p1), .val (.int p2), .val (.int p3), .val (.int p4), .unset, .unset, .unset, .unset, .unset, .unset, .unset, .unset, .unset, .unset, .unset, .unset] [])) t := fun t q => k191_ t (st192 t q)
      have gb : n0 ≤ b192 := Nat.le_trans Zn (Nat.le_of_eq g192.symm)
      have KN := (Keep.refl _ []).ext E192
      replace X00 := X00.ext E192
      replace Zn := Nat.le_trans Zn E192.1
      replace hk := Nat.le_trans hk E192.1
      replace hCH := hCH.trans (CHr.ext E192 hCH.1)
      replace S_t2 := own_Str_keep S_t2 KN
      replace S_u1 := own_Str_keep S_u1 KN
      replace S_u2 := own_Str_keep S_u2 KN
      have F_namespace : Fld Z h192 b192 "com/example/triplewright/triplewright/source/XmlParser$ElementName" "namespace" "Ljava/lang/String;" .null := D192 (Or.inr (hw _ (List.mem_of_getElem? (i := 57) rfl))) (ty := (.object "java/lang/String")) (by decide)
      have F_localName : Fld Z h192 b192 "com/example/triplewright/triplewright/source/XmlParser$ElementName" "localName" "Ljava/lang/String;" .null := D192 (Or.inr (hw _ (List.mem_of_getElem? (i := 59) rfl))) (ty := (.object "java/lang/String")) (by decide)
      have SB : Safe Z own_EL T189.vm h192 b192 := Safe.exa hZ.alike A192 (by decide) (by decide)
      have k194_ : ∀ t, Steps p.tables e below (T192.setTop (mkF m 108 #[.val (.int p0), .val (.int p1), .val (.int p2), .val (.int p3), .val (.int p4), .val (.int eb), .val (.int el), .val (.int (1 : Int32)), .val (.int (0 : Int32)), .val .null, .val (.ref t2), .val (.ref u1), .val (.ref u2), .unset, .unset, .unset, .unset] [(.ref t2), .null, (.ref b192), (.ref b192)])) t → Steps p.tables e below (s₁.setTop (mkF m 0 #[.val (.int p0), .val (.int p1), .val (.int p2), .val (.int p3), .val (.int p4), .unset, .unset, .unset, .unset, .unset, .unset, .unset, .unset, .unset, .unset, .unset, .unset] [])) t := by
        intro t q
        refine k193_ _ ?_
        show Steps p.tables e below (T192.setTop (mkF m 103 #[.val (.int p0), .val (.int p1), .val (.int p2), .val (.int p3), .val (.int p4), .val (.int eb), .val (.int el), .val (.int (1 : Int32)), .val (.int (0 : Int32)), .val .null, .val (.ref t2), .val (.ref u1), .val (.ref u2), .unset, .unset, .unset, .unset] [(.ref b192)])) _
        refine XS.dup X192.here hx rfl (hb hby at_103) rfl rfl ?_
        refine XS.aload X192.here hx rfl (hb hby at_104) rfl rfl ?_
        show Steps p.tables e below (T192.setTop (mkF m 106 #[.val (.int p0), .val (.int p1), .val (.int p2), .val (.int p3), .val (.int p4), .val (.int eb), .val (.int el), .val (.int (1 : Int32)), .val (.int (0 : Int32)), .val .null, .val (.ref t2), .val (.ref u1), .val (.ref u2), .unset, .unset, .unset, .unset] [.null, (.ref b192), (.ref b192)])) _
        refine XS.aload X192.here hx rfl (hb hby at_106) rfl rfl ?_
        show Steps p.tables e below (T192.setTop (mkF m 108 #[.val (.int p0), .val (.int p1), .val (.int p2), .val (.int p3), .val (.int p4), .val (.int eb), .val (.int el), .val (.int (1 : Int32)), .val (.int (0 : Int32)), .val .null, .val (.ref t2), .val (.ref u1), .val (.ref u2), .unset, .unset, .unset, .unset] [(.ref t2), .null, (.ref b192), (.ref b192)])) _
        exact q
      obtain ⟨_, _, ⟨T195, L195, kk195, n195⟩, -, X195, ⟨Lc195, hQ195, l195, y195, z195⟩, st195⟩ := X192.specialBack hx (y := (⟨"com/example/triplewright/triplewright/source/XmlParser$ElementName", "<init>", "(Ljava/lang/String;Ljava/lang/String;)V"⟩ : MethodName)) rfl hown (mvT hZ (hw _ (List.mem_of_getElem? (i := 47) rfl))) (mvT hZ (hw _ (List.mem_of_getElem? (i := 48) rfl))) (mvT hZ (hw _ (List.mem_of_getElem? (i := 49) rfl))) (by decide) (backOf (W := 1) (rmE10 l Z a0 hw [] b192 t2 h192 n0 Zn A192 F_namespace F_localName gb) hZ (hw _ (List.mem_of_getElem? (i := 49) rfl)) (hw _ (List.mem_of_getElem? (i := 46) rfl)) (by decide) (by decide)) (g := (mkF m 108 #[.val (.int p0), .val (.int p1), .val (.int p2), .val (.int p3), .val (.int p4), .val (.int eb), .val (.int el), .val (.int (1 : Int32)), .val (.int (0 : Int32)), .val .null, .val (.ref t2), .val (.ref u1), .val (.ref u2), .unset, .unset, .unset, .unset] [(.ref t2), .null, (.ref b192), (.ref b192)])) rfl (by rw [hml]; rfl) (Steps.refl _) (a := b192) (argsL := [.null, (.ref t2)]) (rest := [(.ref b192)]) (lenOf pd_38756 rfl) rfl (by show 2 * 0 + _ ≤ _; exact Nat.le_of_eq rfl) (hb hby at_108) (fun _ _ => ⟨rfl, e192, (by decide : 0 + 4 + 4 + 4 + 1 + 0 ≤ _), (by decide : 0 + 11 + 11 + 11 + 2 + 0 ≤ _)⟩)
      dsimp only [Pt.U, Pt.locs, Pt.cells, Pt.slots] at X195 l195 y195 z195 st195 hQ195
      rw [l195, y195, z195] at X195
      obtain ⟨rfl, Nq195, KI, EI, F1, F2⟩ := hQ195
      have N195 := Fr.app N189 Nq195
      have k196_ : ∀ t, Steps p.tables e below (T195.setTop (mkF m 111 #[.val (.int p0), .val (.int p1), .val (.int p2), .val (.int p3), .val (.int p4), .val (.int eb), .val (.int el), .val (.int (1 : Int32)), .val (.int (0 : Int32)), .val .null, .val (.ref t2), .val (.ref u1), .val (.ref u2), .unset, .unset, .unset, .unset] [(.ref b192)])) t → Steps p.tables e below (s₁.setTop (mkF m 0 #[.val (.int p0), .val (.int p1), .val (.int p2), .val (.int p3), .val (.int p4), .unset, .unset, .unset, .unset, .unset, .unset, .unset, .unset, .unset, .unset, .unset, .unset] [])) t := fun t q => k194_ t (st195.trans q)
      replace hCH := hCH.trans (CHr.keep KI (sfS SB sf0) hCH.1)
      replace Zn := Nat.le_trans Zn KI.1
      replace hk := Nat.le_trans hk KI.1
      replace X00 := X00.keep KI (allS gb all0)
      replace S_t2 := own_Str_new S_t2 KI A192 (hw _ (List.mem_of_getElem? (i := 45) rfl)) (by decide)
      replace S_u1 := own_Str_new S_u1 KI A192 (hw _ (List.mem_of_getElem? (i := 45) rfl)) (by decide)
      replace S_u2 := own_Str_new S_u2 KI A192 (hw _ (List.mem_of_getElem? (i := 45) rfl)) (by decide)
      have k197_ : ∀ t, Steps p.tables e below (T195.setTop (mkF m 119 #[.val (.int p0), .val (.int p1), .val (.int p2), .val (.int p3), .val (.int p4), .val (.int eb), .val (.int el), .val (.int (1 : Int32)), .val (.int (0 : Int32)), .val .null, .val (.ref t2), .val (.ref u1), .val (.ref u2), .val (.ref b192), .unset, .unset, .unset] [(.ref u2), (.ref u1), (.ref b192)])) t → Steps p.tables e below (s₁.setTop (mkF m 0 #[.val (.int p0), .val (.int p1), .val (.int p2), .val (.int p3), .val (.int p4), .unset, .unset, .unset, .unset, .unset, .unset, .unset, .unset, .unset, .unset, .unset, .unset] [])) t := by
        intro t q
        refine k196_ _ ?_
        show Steps p.tables e below (T195.setTop (mkF m 111 #[.val (.int p0), .val (.int p1), .val (.int p2), .val (.int p3), .val (.int p4), .val (.int eb), .val (.int el), .val (.int (1 : Int32)), .val (.int (0 : Int32)), .val .null, .val (.ref t2), .val (.ref u1), .val (.ref u2), .unset, .unset, .unset, .unset] [(.ref b192)])) _
        refine XS.astore X195.here hx rfl (hb hby at_111) rfl rfl (l' := #[.val (.int p0), .val (.int p1), .val (.int p2), .val (.int p3), .val (.int p4), .val (.int eb), .val (.int el), .val (.int (1 : Int32)), .val (.int (0 : Int32)), .val .null, .val (.ref t2), .val (.ref u1), .val (.ref u2), .val (.ref b192), .unset, .unset, .unset]) rfl ?_
        refine XS.aload X195.here hx rfl (hb hby at_113) rfl rfl ?_
        show Steps p.tables e below (T195.setTop (mkF m 115 #[.val (.int p0), .val (.int p1), .val (.int p2), .val (.int p3), .val (.int p4), .val (.int eb), .val (.int el), .val (.int (1 : Int32)), .val (.int (0 : Int32)), .val .null, .val (.ref t2), .val (.ref u1), .val (.ref u2), .val (.ref b192), .unset, .unset, .unset] [(.ref b192)])) _
        refine XS.aload X195.here hx rfl (hb hby at_115) rfl rfl ?_
        refine XS.aload X195.here hx rfl (hb hby at_117) rfl rfl ?_
        show Steps p.tables e below (T195.setTop (mkF m 119 #[.val (.int p0), .val (.int p1), .val (.int p2), .val (.int p3), .val (.int p4), .val (.int eb), .val (.int el), .val (.int (1 : Int32)), .val (.int (0 : Int32)), .val .null, .val (.ref t2), .val (.ref u1), .val (.ref u2), .val (.ref b192), .unset, .unset, .unset] [(.ref u2), (.ref u1), (.ref b192)])) _
        exact q
      obtain ⟨cq198, kq198, q198a, q198b, q198c⟩ := isOf hZ rfl EI
      obtain ⟨_, _, ⟨T198, L198, kk198, n198⟩, -, X198, ⟨Lc198, hQ198, l198, y198, z198⟩, st198⟩ := X195.virtualBack hx (y := (⟨"com/example/triplewright/triplewright/source/XmlParser$ElementName", "matches", "(Ljava/lang/String;Ljava/lang/String;)Z"⟩ : MethodName)) (z := (⟨"com/example/triplewright/triplewright/source/XmlParser$ElementName", "matches", "(Ljava/lang/String;Ljava/lang/String;)Z"⟩ : MethodName)) hown (mvT hZ (hw _ (List.mem_of_getElem? (i := 60) rfl))) (mvT hZ (hw _ (List.mem_of_getElem? (i := 61) rfl))) (notFace_of_selects (args := #[]) (mvT hZ (hw _ (List.mem_of_getElem? (i := 63) rfl)))) (mvT hZ (hw _ (List.mem_of_getElem? (i := 63) rfl))) (mvT hZ (hw _ (List.mem_of_getElem? (i := 62) rfl))) (by decide) (backOf (W := 0) (rmT10 l Z a0 hw [] b192 u1 u2 t2 p0 eb p1 el zc T195.heap n0 Zn F1 F2 S_u1 S_u2 S_t2 O2 hzc X00) hZ (hw _ (List.mem_of_getElem? (i := 64) rfl)) (hw _ (List.mem_of_getElem? (i := 46) rfl)) (by decide) (by decide)) q198a q198c (g := (mkF m 119 #[.val (.int p0), .val (.int p1), .val (.int p2), .val (.int p3), .val (.int p4), .val (.int eb), .val (.int el), .val (.int (1 : Int32)), .val (.int (0 : Int32)), .val .null, .val (.ref t2), .val (.ref u1), .val (.ref u2), .val (.ref b192), .unset, .unset, .unset] [(.ref u2), (.ref u1), (.ref b192)])) rfl (by rw [hml]; rfl) (Steps.refl _) (argsL := [(.ref u1), (.ref u2)]) (rest := []) (lenOf pd_38760 rfl) rfl (by show 2 * 0 + _ ≤ _; exact Nat.le_of_eq rfl) (hb hby at_119) (fun _ _ => ⟨rfl, rfl, (by decide : 0 + 4 + 4 + 4 + 1 + 0 + 0 ≤ _), (by decide : 0 + 11 + 11 + 11 + 2 + 0 + 0 ≤ _)⟩)
      dsimp only [Pt.U, Pt.locs, Pt.cells, Pt.slots] at X198 l198 y198 z198 st198 hQ198
      rw [l198, y198, z198] at X198
      obtain ⟨rfl, Nq198, hq198⟩ := hQ198
      have N198 := Fr.app N195 Nq198
      have k199_ : ∀ t, Steps p.tables e below (T198.setTop (mkF m 122 #[.val (.int p0), .val (.int p1), .val (.int p2), .val (.int p3), .val (.int p4), .val (.int eb), .val (.int el), .val (.int (1 : Int32)), .val (.int (0 : Int32)), .val .null, .val (.ref t2), .val (.ref u1), .val (.ref u2), .val (.ref b192), .unset, .unset, .unset] [(.int (bi ((True) ∧ (own_cs p1 = own_cs el))))])) t → Steps p.tables e below (s₁.setTop (mkF m 0 #[.val (.int p0), .val (.int p1), .val (.int p2), .val (.int p3), .val (.int p4), .unset, .unset, .unset, .unset, .unset, .unset, .unset, .unset, .unset, .unset, .unset, .unset] [])) t := fun t q => k197_ t (st198.trans q)
      by_cases hB : own_cs p1 = own_cs el
      · have k200_ : ∀ t, Steps p.tables e below (T198.setTop (mkF m 122 #[.val (.int p0), .val (.int p1), .val (.int p2), .val (.int p3), .val (.int p4), .val (.int eb), .val (.int el), .val (.int (1 : Int32)), .val (.int (0 : Int32)), .val .null, .val (.ref t2), .val (.ref u1), .val (.ref u2), .val (.ref b192), .unset, .unset, .unset] [(.int (1 : Int32))])) t → Steps p.tables e below (s₁.setTop (mkF m 0 #[.val (.int p0), .val (.int p1), .val (.int p2), .val (.int p3), .val (.int p4), .unset, .unset, .unset, .unset, .unset, .unset, .unset, .unset, .unset, .unset, .unset, .unset] [])) t := fun t q => k199_ t (Eq.mp (congrArg (fun z => Steps p.tables e below (T198.setTop (mkF m 122 #[.val (.int p0), .val (.int p1), .val (.int p2), .val (.int p3), .val (.int p4), .val (.int eb), .val (.int el), .val (.int (1 : Int32)), .val (.int (0 : Int32)), .val .null, .val (.ref t2), .val (.ref u1), .val (.ref u2), .val (.ref b192), .unset, .unset, .unset] [(.int z)])) t) (show (1 : Int32) = (bi ((True) ∧ (own_cs p1 = own_cs el))) from (bi_t ⟨trivial, hB⟩).symm)) q)
        have k201_ : ∀ t, Steps p.tables e below (T198.setTop (mkF m 126 #[.val (.int p0), .val (.int p1), .val (.int p2), .val (.int p3), .val (.int p4), .val (.int eb), .val (.int el), .val (.int (1 : Int32)), .val (.int (0 : Int32)), .val .null, .val (.ref t2), .val (.ref u1), .val (.ref u2), .val (.ref b192), .val (.int (1 : Int32)), .unset, .unset] [(.int (1 : Int32))])) t → Steps p.tables e below (s₁.setTop (mkF m 0 #[.val (.int p0), .val (.int p1), .val (.int p2), .val (.int p3), .val (.int p4), .unset, .unset, .unset, .unset, .unset, .unset, .unset, .unset, .unset, .unset, .unset, .unset] [])) t := by
          intro t q
          refine k200_ _ ?_
          show Steps p.tables e below (T198.setTop (mkF m 122 #[.val (.int p0), .val (.int p1), .val (.int p2), .val (.int p3), .val (.int p4), .val (.int eb), .val (.int el), .val (.int (1 : Int32)), .val (.int (0 : Int32)), .val .null, .val (.ref t2), .val (.ref u1), .val (.ref u2), .val (.ref b192), .unset, .unset, .unset] [(.int (1 : Int32))])) _
          refine XS.istore X198.here hx rfl (hb hby at_122) rfl (l' := #[.val (.int p0), .val (.int p1), .val (.int p2), .val (.int p3), .val (.int p4), .val (.int eb), .val (.int el), .val (.int (1 : Int32)), .val (.int (0 : Int32)), .val .null, .val (.ref t2), .val (.ref u1), .val (.ref u2), .val (.ref b192), .val (.int (1 : Int32)), .unset, .unset]) rfl ?_
          refine XS.iload X198.here hx rfl (hb hby at_124) rfl ?_
          show Steps p.tables e below (T198.setTop (mkF m 126 #[.val (.int p0), .val (.int p1), .val (.int p2), .val (.int p3), .val (.int p4), .val (.int eb), .val (.int el), .val (.int (1 : Int32)), .val (.int (0 : Int32)), .val .null, .val (.ref t2), .val (.ref u1), .val (.ref u2), .val (.ref b192), .val (.int (1 : Int32)), .unset, .unset] [(.int (1 : Int32))])) _
          exact q
        have k202_ : ∀ t, Steps p.tables e below (T198.setTop (mkF m 138 #[.val (.int p0), .val (.int p1), .val (.int p2), .val (.int p3), .val (.int p4), .val (.int eb), .val (.int el), .val (.int (1 : Int32)), .val (.int (0 : Int32)), .val .null, .val (.ref t2), .val (.ref u1), .val (.ref u2), .val (.ref b192), .val (.int (1 : Int32)), .unset, .unset] [])) t → Steps p.tables e below (s₁.setTop (mkF m 0 #[.val (.int p0), .val (.int p1), .val (.int p2), .val (.int p3), .val (.int p4), .unset, .unset, .unset, .unset, .unset, .unset, .unset, .unset, .unset, .unset, .unset, .unset] [])) t := by
          intro t q
          refine k201_ _ ?_
          show Steps p.tables e below (T198.setTop (mkF m 126 #[.val (.int p0), .val (.int p1), .val (.int p2), .val (.int p3), .val (.int p4), .val (.int eb), .val (.int el), .val (.int (1 : Int32)), .val (.int (0 : Int32)), .val .null, .val (.ref t2), .val (.ref u1), .val (.ref u2), .val (.ref b192), .val (.int (1 : Int32)), .unset, .unset] [(.int (1 : Int32))])) _
          refine XS.ifYes X198.here hx rfl (pc0 := 126) (pc' := 138) rfl (hb hby at_126) rfl ((if0 _ _).trans (feq (by decide)).2) (by decide) (by decide) ?_
          show Steps p.tables e below (T198.setTop (mkF m 138 #[.val (.int p0), .val (.int p1), .val (.int p2), .val (.int p3), .val (.int p4), .val (.int eb), .val (.int el), .val (.int (1 : Int32)), .val (.int (0 : Int32)), .val .null, .val (.ref t2), .val (.ref u1), .val (.ref u2), .val (.ref b192), .val (.int (1 : Int32)), .unset, .unset] [])) _
          exact q
        have k203_ : ∀ t, Steps p.tables e below (T198.setTop (mkF m 147 #[.val (.int p0), .val (.int p1), .val (.int p2), .val (.int p3), .val (.int p4), .val (.int eb), .val (.int el), .val (.int (1 : Int32)), .val (.int (0 : Int32)), .val .null, .val (.ref t2), .val (.ref u1), .val (.ref u2), .val (.ref b192), .val (.int (1 : Int32)), .val (.int (1 : Int32)), .unset] [(.int (0 : Int32))])) t → Steps p.tables e below (s₁.setTop (mkF m 0 #[.val (.int p0), .val (.int p1), .val (.int p2), .val (.int p3), .val (.int p4), .unset, .unset, .unset, .unset, .unset, .unset, .unset, .unset, .unset, .unset, .unset, .unset] [])) t := by
          intro t q
          refine k202_ _ ?_
          show Steps p.tables e below (T198.setTop (mkF m 138 #[.val (.int p0), .val (.int p1), .val (.int p2), .val (.int p3), .val (.int p4), .val (.int eb), .val (.int el), .val (.int (1 : Int32)), .val (.int (0 : Int32)), .val .null, .val (.ref t2), .val (.ref u1), .val (.ref u2), .val (.ref b192), .val (.int (1 : Int32)), .unset, .unset] [])) _
          refine XS.iconst X198.here hx rfl (hb hby at_138) ?_
          refine XS.goto X198.here hx rfl (pc0 := 139) (pc' := 143) rfl (hb hby at_139) (by decide) (by decide) ?_
          show Steps p.tables e below (T198.setTop (mkF m 143 #[.val (.int p0), .val (.int p1), .val (.int p2), .val (.int p3), .val (.int p4), .val (.int eb), .val (.int el), .val (.int (1 : Int32)), .val (.int (0 : Int32)), .val .null, .val (.ref t2), .val (.ref u1), .val (.ref u2), .val (.ref b192), .val (.int (1 : Int32)), .unset, .unset] [(.int (1 : Int32))])) _
          refine XS.istore X198.here hx rfl (hb hby at_143) rfl (l' := #[.val (.int p0), .val (.int p1), .val (.int p2), .val (.int p3), .val (.int p4), .val (.int eb), .val (.int el), .val (.int (1 : Int32)), .val (.int (0 : Int32)), .val .null, .val (.ref t2), .val (.ref u1), .val (.ref u2), .val (.ref b192), .val (.int (1 : Int32)), .val (.int (1 : Int32)), .unset]) rfl ?_
          refine XS.iload X198.here hx rfl (hb hby at_145) rfl ?_
          show Steps p.tables e below (T198.setTop (mkF m 147 #[.val (.int p0), .val (.int p1), .val (.int p2), .val (.int p3), .val (.int p4), .val (.int eb), .val (.int el), .val (.int (1 : Int32)), .val (.int (0 : Int32)), .val .null, .val (.ref t2), .val (.ref u1), .val (.ref u2), .val (.ref b192), .val (.int (1 : Int32)), .val (.int (1 : Int32)), .unset] [(.int (0 : Int32))])) _
          exact q
        have k204_ : ∀ t, Steps p.tables e below (T198.setTop (mkF m 150 #[.val (.int p0), .val (.int p1), .val (.int p2), .val (.int p3), .val (.int p4), .val (.int eb), .val (.int el), .val (.int (1 : Int32)), .val (.int (0 : Int32)), .val .null, .val (.ref t2), .val (.ref u1), .val (.ref u2), .val (.ref b192), .val (.int (1 : Int32)), .val (.int (1 : Int32)), .unset] [])) t → Steps p.tables e below (s₁.setTop (mkF m 0 #[.val (.int p0), .val (.int p1), .val (.int p2), .val (.int p3), .val (.int p4), .unset, .unset, .unset, .unset, .unset, .unset, .unset, .unset, .unset, .unset, .unset, .unset] [])) t := by
          intro t q
          refine k203_ _ ?_
          show Steps p.tables e below (T198.setTop (mkF m 147 #[.val (.int p0), .val (.int p1), .val (.int p2), .val (.int p3), .val (.int p4), .val (.int eb), .val (.int el), .val (.int (1 : Int32)), .val (.int (0 : Int32)), .val .null, .val (.ref t2), .val (.ref u1), .val (.ref u2), .val (.ref b192), .val (.int (1 : Int32)), .val (.int (1 : Int32)), .unset] [(.int (0 : Int32))])) _
          refine XS.ifNo X198.here hx rfl (hb hby at_147) rfl ((if0 _ _).trans (teq rfl).2) ?_
          show Steps p.tables e below (T198.setTop (mkF m 150 #[.val (.int p0), .val (.int p1), .val (.int p2), .val (.int p3), .val (.int p4), .val (.int eb), .val (.int el), .val (.int (1 : Int32)), .val (.int (0 : Int32)), .val .null, .val (.ref t2), .val (.ref u1), .val (.ref u2), .val (.ref b192), .val (.int (1 : Int32)), .val (.int (1 : Int32)), .unset] [])) _
          exact q
        have k205_ : ∀ t, Steps p.tables e below (T198.setTop (mkF m 153 #[.val (.int p0), .val (.int p1), .val (.int p2), .val (.int p3), .val (.int p4), .val (.int eb), .val (.int el), .val (.int (1 : Int32)), .val (.int (0 : Int32)), .val .null, .val (.ref t2), .val (.ref u1), .val (.ref u2), .val (.ref b192), .val (.int (1 : Int32)), .val (.int (1 : Int32)), .unset] [(.int el), (.int p1)])) t → Steps p.tables e below (s₁.setTop (mkF m 0 #[.val (.int p0), .val (.int p1), .val (.int p2), .val (.int p3), .val (.int p4), .unset, .unset, .unset, .unset, .unset, .unset, .unset, .unset, .unset, .unset, .unset, .unset] [])) t := by
          intro t q
          refine k204_ _ ?_
          show Steps p.tables e below (T198.setTop (mkF m 150 #[.val (.int p0), .val (.int p1), .val (.int p2), .val (.int p3), .val (.int p4), .val (.int eb), .val (.int el), .val (.int (1 : Int32)), .val (.int (0 : Int32)), .val .null, .val (.ref t2), .val (.ref u1), .val (.ref u2), .val (.ref b192), .val (.int (1 : Int32)), .val (.int (1 : Int32)), .unset] [])) _
          refine XS.iloadN X198.here hx rfl (hb hby at_150) rfl ?_
          refine XS.iload X198.here hx rfl (hb hby at_151) rfl ?_
          show Steps p.tables e below (T198.setTop (mkF m 153 #[.val (.int p0), .val (.int p1), .val (.int p2), .val (.int p3), .val (.int p4), .val (.int eb), .val (.int el), .val (.int (1 : Int32)), .val (.int (0 : Int32)), .val .null, .val (.ref t2), .val (.ref u1), .val (.ref u2), .val (.ref b192), .val (.int (1 : Int32)), .val (.int (1 : Int32)), .unset] [(.int el), (.int p1)])) _
          exact q
        obtain ⟨_, _, ⟨T206, L206, kk206, n206⟩, -, X206, ⟨Lc206, hQ206, l206, y206, z206⟩, st206⟩ := Jvm.LawKit.callS X198 hx (y := (⟨"com/example/triplewright/triplewright/source/ElementNameMatchesPinLaw", "same", "(II)Z"⟩ : MethodName)) hown (mvT hZ (hw _ (List.mem_of_getElem? (i := 75) rfl))) (mvT hZ (hw _ (List.mem_of_getElem? (i := 76) rfl))) (mvT hZ (hw _ (List.mem_of_getElem? (i := 3) rfl))) (mvT hZ (hw _ (List.mem_of_getElem? (i := 77) rfl))) (by decide) (backOf (W := 0) (rmSa l Z a0 hw [] p1 el T195.heap n0 Zn) hZ (hw _ (List.mem_of_getElem? (i := 77) rfl)) (hw _ (List.mem_of_getElem? (i := 3) rfl)) (by decide) (by decide)) (g := (mkF m 153 #[.val (.int p0), .val (.int p1), .val (.int p2), .val (.int p3), .val (.int p4), .val (.int eb), .val (.int el), .val (.int (1 : Int32)), .val (.int (0 : Int32)), .val .null, .val (.ref t2), .val (.ref u1), .val (.ref u2), .val (.ref b192), .val (.int (1 : Int32)), .val (.int (1 : Int32)), .unset] [(.int el), (.int p1)])) rfl (by rw [hml]; rfl) (argsL := [(.int p1), (.int el)]) (rest := []) (lenOf pd_90437 rfl) rfl (by show 2 * 0 + _ ≤ _; exact Nat.le_of_eq rfl) (hb hby at_153) (fun _ _ => ⟨rfl, hq198, (by decide : 0 + 4 + 4 + 4 + 1 + 0 + 0 + 0 ≤ _), (by decide : 0 + 11 + 11 + 11 + 2 + 0 + 0 + 0 ≤ _)⟩)
        dsimp only [Pt.U, Pt.locs, Pt.cells, Pt.slots] at X206 l206 y206 z206 st206 hQ206
        rw [l206, y206, z206] at X206
        obtain ⟨rfl, Nq206, hq206⟩ := hQ206
        have N206 := Fr.app N198 Nq206
        have k207_ : ∀ t, Steps p.tables e below (T206.setTop (mkF m 156 #[.val (.int p0), .val (.int p1), .val (.int p2), .val (.int p3), .val (.int p4), .val (.int eb), .val (.int el), .val (.int (1 : Int32)), .val (.int (0 : Int32)), .val .null, .val (.ref t2), .val (.ref u1), .val (.ref u2), .val (.ref b192), .val (.int (1 : Int32)), .val (.int (1 : Int32)), .unset] [(.int (bi (own_cs p1 = own_cs el)))])) t → Steps p.tables e below (s₁.setTop (mkF m 0 #[.val (.int p0), .val (.int p1), .val (.int p2), .val (.int p3), .val (.int p4), .unset, .unset, .unset, .unset, .unset, .unset, .unset, .unset, .unset, .unset, .unset, .unset] [])) t := fun t q => k205_ t (st206 t q)
        have k208_ : ∀ t, Steps p.tables e below (T206.setTop (mkF m 156 #[.val (.int p0), .val (.int p1), .val (.int p2), .val (.int p3), .val (.int p4), .val (.int eb), .val (.int el), .val (.int (1 : Int32)), .val (.int (0 : Int32)), .val .null, .val (.ref t2), .val (.ref u1), .val (.ref u2), .val (.ref b192), .val (.int (1 : Int32)), .val (.int (1 : Int32)), .unset] [(.int (1 : Int32))])) t → Steps p.tables e below (s₁.setTop (mkF m 0 #[.val (.int p0), .val (.int p1), .val (.int p2), .val (.int p3), .val (.int p4), .unset, .unset, .unset, .unset, .unset, .unset, .unset, .unset, .unset, .unset, .unset, .unset] [])) t := fun t q => k207_ t (Eq.mp (congrArg (fun z => Steps p.tables e below (T206.setTop (mkF m 156 #[.val (.int p0), .val (.int p1), .val (.int p2), .val (.int p3), .val (.int p4), .val (.int eb), .val (.int el), .val (.int (1 : Int32)), .val (.int (0 : Int32)), .val .null, .val (.ref t2), .val (.ref u1), .val (.ref u2), .val (.ref b192), .val (.int (1 : Int32)), .val (.int (1 : Int32)), .unset] [(.int z)])) t) (show (1 : Int32) = (bi (own_cs p1 = own_cs el)) from (bi_t hB).symm)) q)
        have k209_ : ∀ t, Steps p.tables e below (T206.setTop (mkF m 159 #[.val (.int p0), .val (.int p1), .val (.int p2), .val (.int p3), .val (.int p4), .val (.int eb), .val (.int el), .val (.int (1 : Int32)), .val (.int (0 : Int32)), .val .null, .val (.ref t2), .val (.ref u1), .val (.ref u2), .val (.ref b192), .val (.int (1 : Int32)), .val (.int (1 : Int32)), .unset] [])) t → Steps p.tables e below (s₁.setTop (mkF m 0 #[.val (.int p0), .val (.int p1), .val (.int p2), .val (.int p3), .val (.int p4), .unset, .unset, .unset, .unset, .unset, .unset, .unset, .unset, .unset, .unset, .unset, .unset] [])) t := by
          intro t q
          refine k208_ _ ?_
          show Steps p.tables e below (T206.setTop (mkF m 156 #[.val (.int p0), .val (.int p1), .val (.int p2), .val (.int p3), .val (.int p4), .val (.int eb), .val (.int el), .val (.int (1 : Int32)), .val (.int (0 : Int32)), .val .null, .val (.ref t2), .val (.ref u1), .val (.ref u2), .val (.ref b192), .val (.int (1 : Int32)), .val (.int (1 : Int32)), .unset] [(.int (1 : Int32))])) _
          refine XS.ifNo X206.here hx rfl (hb hby at_156) rfl ((if0 _ _).trans (feq (by decide)).1) ?_
          show Steps p.tables e below (T206.setTop (mkF m 159 #[.val (.int p0), .val (.int p1), .val (.int p2), .val (.int p3), .val (.int p4), .val (.int eb), .val (.int el), .val (.int (1 : Int32)), .val (.int (0 : Int32)), .val .null, .val (.ref t2), .val (.ref u1), .val (.ref u2), .val (.ref b192), .val (.int (1 : Int32)), .val (.int (1 : Int32)), .unset] [])) _
          exact q
        have k210_ : ∀ t, Steps p.tables e below (T206.setTop (mkF m 170 #[.val (.int p0), .val (.int p1), .val (.int p2), .val (.int p3), .val (.int p4), .val (.int eb), .val (.int el), .val (.int (1 : Int32)), .val (.int (0 : Int32)), .val .null, .val (.ref t2), .val (.ref u1), .val (.ref u2), .val (.ref b192), .val (.int (1 : Int32)), .val (.int (1 : Int32)), .val (.int (1 : Int32))] [(.int (1 : Int32)), (.int (1 : Int32))])) t → Steps p.tables e below (s₁.setTop (mkF m 0 #[.val (.int p0), .val (.int p1), .val (.int p2), .val (.int p3), .val (.int p4), .unset, .unset, .unset, .unset, .unset, .unset, .unset, .unset, .unset, .unset, .unset, .unset] [])) t := by
          intro t q
          refine k209_ _ ?_
          show Steps p.tables e below (T206.setTop (mkF m 159 #[.val (.int p0), .val (.int p1), .val (.int p2), .val (.int p3), .val (.int p4), .val (.int eb), .val (.int el), .val (.int (1 : Int32)), .val (.int (0 : Int32)), .val .null, .val (.ref t2), .val (.ref u1), .val (.ref u2), .val (.ref b192), .val (.int (1 : Int32)), .val (.int (1 : Int32)), .unset] [])) _
          refine XS.iconst X206.here hx rfl (hb hby at_159) ?_
          refine XS.goto X206.here hx rfl (pc0 := 160) (pc' := 164) rfl (hb hby at_160) (by decide) (by decide) ?_
          show Steps p.tables e below (T206.setTop (mkF m 164 #[.val (.int p0), .val (.int p1), .val (.int p2), .val (.int p3), .val (.int p4), .val (.int eb), .val (.int el), .val (.int (1 : Int32)), .val (.int (0 : Int32)), .val .null, .val (.ref t2), .val (.ref u1), .val (.ref u2), .val (.ref b192), .val (.int (1 : Int32)), .val (.int (1 : Int32)), .unset] [(.int (1 : Int32))])) _
          refine XS.istore X206.here hx rfl (hb hby at_164) rfl (l' := #[.val (.int p0), .val (.int p1), .val (.int p2), .val (.int p3), .val (.int p4), .val (.int eb), .val (.int el), .val (.int (1 : Int32)), .val (.int (0 : Int32)), .val .null, .val (.ref t2), .val (.ref u1), .val (.ref u2), .val (.ref b192), .val (.int (1 : Int32)), .val (.int (1 : Int32)), .val (.int (1 : Int32))]) rfl ?_
          refine XS.iload X206.here hx rfl (hb hby at_166) rfl ?_
          show Steps p.tables e below (T206.setTop (mkF m 168 #[.val (.int p0), .val (.int p1), .val (.int p2), .val (.int p3), .val (.int p4), .val (.int eb), .val (.int el), .val (.int (1 : Int32)), .val (.int (0 : Int32)), .val .null, .val (.ref t2), .val (.ref u1), .val (.ref u2), .val (.ref b192), .val (.int (1 : Int32)), .val (.int (1 : Int32)), .val (.int (1 : Int32))] [(.int (1 : Int32))])) _
          refine XS.iload X206.here hx rfl (hb hby at_168) rfl ?_
          show Steps p.tables e below (T206.setTop (mkF m 170 #[.val (.int p0), .val (.int p1), .val (.int p2), .val (.int p3), .val (.int p4), .val (.int eb), .val (.int el), .val (.int (1 : Int32)), .val (.int (0 : Int32)), .val .null, .val (.ref t2), .val (.ref u1), .val (.ref u2), .val (.ref b192), .val (.int (1 : Int32)), .val (.int (1 : Int32)), .val (.int (1 : Int32))] [(.int (1 : Int32)), (.int (1 : Int32))])) _
          exact q
        have k211_ : ∀ t, Steps p.tables e below (T206.setTop (mkF m 173 #[.val (.int p0), .val (.int p1), .val (.int p2), .val (.int p3), .val (.int p4), .val (.int eb), .val (.int el), .val (.int (1 : Int32)), .val (.int (0 : Int32)), .val .null, .val (.ref t2), .val (.ref u1), .val (.ref u2), .val (.ref b192), .val (.int (1 : Int32)), .val (.int (1 : Int32)), .val (.int (1 : Int32))] [(.int (1 : Int32))])) t → Steps p.tables e below (s₁.setTop (mkF m 0 #[.val (.int p0), .val (.int p1), .val (.int p2), .val (.int p3), .val (.int p4), .unset, .unset, .unset, .unset, .unset, .unset, .unset, .unset, .unset, .unset, .unset, .unset] [])) t := by
          intro t q
          refine k210_ _ ?_
          show Steps p.tables e below (T206.setTop (mkF m 170 #[.val (.int p0), .val (.int p1), .val (.int p2), .val (.int p3), .val (.int p4), .val (.int eb), .val (.int el), .val (.int (1 : Int32)), .val (.int (0 : Int32)), .val .null, .val (.ref t2), .val (.ref u1), .val (.ref u2), .val (.ref b192), .val (.int (1 : Int32)), .val (.int (1 : Int32)), .val (.int (1 : Int32))] [(.int (1 : Int32)), (.int (1 : Int32))])) _
          refine XS.ifNo X206.here hx rfl (hb hby at_170) rfl ((if0 _ _).trans (feq (by decide)).1) ?_
          show Steps p.tables e below (T206.setTop (mkF m 173 #[.val (.int p0), .val (.int p1), .val (.int p2), .val (.int p3), .val (.int p4), .val (.int eb), .val (.int el), .val (.int (1 : Int32)), .val (.int (0 : Int32)), .val .null, .val (.ref t2), .val (.ref u1), .val (.ref u2), .val (.ref b192), .val (.int (1 : Int32)), .val (.int (1 : Int32)), .val (.int (1 : Int32))] [(.int (1 : Int32))])) _
          exact q
        have k212_ : ∀ t, Steps p.tables e below (T206.setTop (mkF m 175 #[.val (.int p0), .val (.int p1), .val (.int p2), .val (.int p3), .val (.int p4), .val (.int eb), .val (.int el), .val (.int (1 : Int32)), .val (.int (0 : Int32)), .val .null, .val (.ref t2), .val (.ref u1), .val (.ref u2), .val (.ref b192), .val (.int (1 : Int32)), .val (.int (1 : Int32)), .val (.int (1 : Int32))] [(.int (1 : Int32)), (.int (1 : Int32))])) t → Steps p.tables e below (s₁.setTop (mkF m 0 #[.val (.int p0), .val (.int p1), .val (.int p2), .val (.int p3), .val (.int p4), .unset, .unset, .unset, .unset, .unset, .unset, .unset, .unset, .unset, .unset, .unset, .unset] [])) t := by
          intro t q
          refine k211_ _ ?_
          show Steps p.tables e below (T206.setTop (mkF m 173 #[.val (.int p0), .val (.int p1), .val (.int p2), .val (.int p3), .val (.int p4), .val (.int eb), .val (.int el), .val (.int (1 : Int32)), .val (.int (0 : Int32)), .val .null, .val (.ref t2), .val (.ref u1), .val (.ref u2), .val (.ref b192), .val (.int (1 : Int32)), .val (.int (1 : Int32)), .val (.int (1 : Int32))] [(.int (1 : Int32))])) _
          refine XS.iload X206.here hx rfl (hb hby at_173) rfl ?_
          show Steps p.tables e below (T206.setTop (mkF m 175 #[.val (.int p0), .val (.int p1), .val (.int p2), .val (.int p3), .val (.int p4), .val (.int eb), .val (.int el), .val (.int (1 : Int32)), .val (.int (0 : Int32)), .val .null, .val (.ref t2), .val (.ref u1), .val (.ref u2), .val (.ref b192), .val (.int (1 : Int32)), .val (.int (1 : Int32)), .val (.int (1 : Int32))] [(.int (1 : Int32)), (.int (1 : Int32))])) _
          exact q
        have k213_ : ∀ t, Steps p.tables e below (T206.setTop (mkF m 178 #[.val (.int p0), .val (.int p1), .val (.int p2), .val (.int p3), .val (.int p4), .val (.int eb), .val (.int el), .val (.int (1 : Int32)), .val (.int (0 : Int32)), .val .null, .val (.ref t2), .val (.ref u1), .val (.ref u2), .val (.ref b192), .val (.int (1 : Int32)), .val (.int (1 : Int32)), .val (.int (1 : Int32))] [(.int (1 : Int32))])) t → Steps p.tables e below (s₁.setTop (mkF m 0 #[.val (.int p0), .val (.int p1), .val (.int p2), .val (.int p3), .val (.int p4), .unset, .unset, .unset, .unset, .unset, .unset, .unset, .unset, .unset, .unset, .unset, .unset] [])) t := by
          intro t q
          refine k212_ _ ?_
          show Steps p.tables e below (T206.setTop (mkF m 175 #[.val (.int p0), .val (.int p1), .val (.int p2), .val (.int p3), .val (.int p4), .val (.int eb), .val (.int el), .val (.int (1 : Int32)), .val (.int (0 : Int32)), .val .null, .val (.ref t2), .val (.ref u1), .val (.ref u2), .val (.ref b192), .val (.int (1 : Int32)), .val (.int (1 : Int32)), .val (.int (1 : Int32))] [(.int (1 : Int32)), (.int (1 : Int32))])) _
          refine XS.ifNo X206.here hx rfl (hb hby at_175) rfl ((if0 _ _).trans (feq (by decide)).1) ?_
          show Steps p.tables e below (T206.setTop (mkF m 178 #[.val (.int p0), .val (.int p1), .val (.int p2), .val (.int p3), .val (.int p4), .val (.int eb), .val (.int el), .val (.int (1 : Int32)), .val (.int (0 : Int32)), .val .null, .val (.ref t2), .val (.ref u1), .val (.ref u2), .val (.ref b192), .val (.int (1 : Int32)), .val (.int (1 : Int32)), .val (.int (1 : Int32))] [(.int (1 : Int32))])) _
          exact q
        have k214_ : ∀ t, Steps p.tables e below (T206.setTop (mkF m 183 #[.val (.int p0), .val (.int p1), .val (.int p2), .val (.int p3), .val (.int p4), .val (.int eb), .val (.int el), .val (.int (1 : Int32)), .val (.int (0 : Int32)), .val .null, .val (.ref t2), .val (.ref u1), .val (.ref u2), .val (.ref b192), .val (.int (1 : Int32)), .val (.int (1 : Int32)), .val (.int (1 : Int32))] [(.int (1 : Int32)), (.int (1 : Int32))])) t → Steps p.tables e below (s₁.setTop (mkF m 0 #[.val (.int p0), .val (.int p1), .val (.int p2), .val (.int p3), .val (.int p4), .unset, .unset, .unset, .unset, .unset, .unset, .unset, .unset, .unset, .unset, .unset, .unset] [])) t := by
          intro t q
          refine k213_ _ ?_
          show Steps p.tables e below (T206.setTop (mkF m 178 #[.val (.int p0), .val (.int p1), .val (.int p2), .val (.int p3), .val (.int p4), .val (.int eb), .val (.int el), .val (.int (1 : Int32)), .val (.int (0 : Int32)), .val .null, .val (.ref t2), .val (.ref u1), .val (.ref u2), .val (.ref b192), .val (.int (1 : Int32)), .val (.int (1 : Int32)), .val (.int (1 : Int32))] [(.int (1 : Int32))])) _
          refine XS.iconst X206.here hx rfl (hb hby at_178) ?_
          refine XS.goto X206.here hx rfl (pc0 := 179) (pc' := 183) rfl (hb hby at_179) (by decide) (by decide) ?_
          show Steps p.tables e below (T206.setTop (mkF m 183 #[.val (.int p0), .val (.int p1), .val (.int p2), .val (.int p3), .val (.int p4), .val (.int eb), .val (.int el), .val (.int (1 : Int32)), .val (.int (0 : Int32)), .val .null, .val (.ref t2), .val (.ref u1), .val (.ref u2), .val (.ref b192), .val (.int (1 : Int32)), .val (.int (1 : Int32)), .val (.int (1 : Int32))] [(.int (1 : Int32)), (.int (1 : Int32))])) _
          exact q
        have k215_ : ∀ t, Steps p.tables e below (T206.setTop (mkF m 186 #[.val (.int p0), .val (.int p1), .val (.int p2), .val (.int p3), .val (.int p4), .val (.int eb), .val (.int el), .val (.int (1 : Int32)), .val (.int (0 : Int32)), .val .null, .val (.ref t2), .val (.ref u1), .val (.ref u2), .val (.ref b192), .val (.int (1 : Int32)), .val (.int (1 : Int32)), .val (.int (1 : Int32))] [])) t → Steps p.tables e below (s₁.setTop (mkF m 0 #[.val (.int p0), .val (.int p1), .val (.int p2), .val (.int p3), .val (.int p4), .unset, .unset, .unset, .unset, .unset, .unset, .unset, .unset, .unset, .unset, .unset, .unset] [])) t := by
          intro t q
          refine k214_ _ ?_
          show Steps p.tables e below (T206.setTop (mkF m 183 #[.val (.int p0), .val (.int p1), .val (.int p2), .val (.int p3), .val (.int p4), .val (.int eb), .val (.int el), .val (.int (1 : Int32)), .val (.int (0 : Int32)), .val .null, .val (.ref t2), .val (.ref u1), .val (.ref u2), .val (.ref b192), .val (.int (1 : Int32)), .val (.int (1 : Int32)), .val (.int (1 : Int32))] [(.int (1 : Int32)), (.int (1 : Int32))])) _
          refine XS.icmpNo X206.here hx rfl (hb hby at_183) rfl (teq rfl).2 ?_
          show Steps p.tables e below (T206.setTop (mkF m 186 #[.val (.int p0), .val (.int p1), .val (.int p2), .val (.int p3), .val (.int p4), .val (.int eb), .val (.int el), .val (.int (1 : Int32)), .val (.int (0 : Int32)), .val .null, .val (.ref t2), .val (.ref u1), .val (.ref u2), .val (.ref b192), .val (.int (1 : Int32)), .val (.int (1 : Int32)), .val (.int (1 : Int32))] [])) _
          exact q
        have k216_ : ∀ t, Steps p.tables e below (T206.setTop (mkF m 191 #[.val (.int p0), .val (.int p1), .val (.int p2), .val (.int p3), .val (.int p4), .val (.int eb), .val (.int el), .val (.int (1 : Int32)), .val (.int (0 : Int32)), .val .null, .val (.ref t2), .val (.ref u1), .val (.ref u2), .val (.ref b192), .val (.int (1 : Int32)), .val (.int (1 : Int32)), .val (.int (1 : Int32))] [(.int (1 : Int32))])) t → Steps p.tables e below (s₁.setTop (mkF m 0 #[.val (.int p0), .val (.int p1), .val (.int p2), .val (.int p3), .val (.int p4), .unset, .unset, .unset, .unset, .unset, .unset, .unset, .unset, .unset, .unset, .unset, .unset] [])) t := by
          intro t q
          refine k215_ _ ?_
          show Steps p.tables e below (T206.setTop (mkF m 186 #[.val (.int p0), .val (.int p1), .val (.int p2), .val (.int p3), .val (.int p4), .val (.int eb), .val (.int el), .val (.int (1 : Int32)), .val (.int (0 : Int32)), .val .null, .val (.ref t2), .val (.ref u1), .val (.ref u2), .val (.ref b192), .val (.int (1 : Int32)), .val (.int (1 : Int32)), .val (.int (1 : Int32))] [])) _
          refine XS.iconst X206.here hx rfl (hb hby at_186) ?_
          refine XS.goto X206.here hx rfl (pc0 := 187) (pc' := 191) rfl (hb hby at_187) (by decide) (by decide) ?_
          show Steps p.tables e below (T206.setTop (mkF m 191 #[.val (.int p0), .val (.int p1), .val (.int p2), .val (.int p3), .val (.int p4), .val (.int eb), .val (.int el), .val (.int (1 : Int32)), .val (.int (0 : Int32)), .val .null, .val (.ref t2), .val (.ref u1), .val (.ref u2), .val (.ref b192), .val (.int (1 : Int32)), .val (.int (1 : Int32)), .val (.int (1 : Int32))] [(.int (1 : Int32))])) _
          exact q
        obtain ⟨fs, hr, hrun, hended, r1, r2, r3, r4⟩ := Stand.leaveW (s := s) (vm₁ := T189.vm) X206 hS (by rw [hq206]; exact hk) (v := some (.int (1 : Int32))) (fun h => by rw [Bd.returns] at h; cases h)
        refine ⟨_, _, pre0 _ (k216_ _ ?_), hrun, hended, _, rfl, N206, r1, r2, r3, r4.mono (by decide) (by decide)⟩
        · show Steps p.tables e below (T206.setTop (mkF m 191 #[.val (.int p0), .val (.int p1), .val (.int p2), .val (.int p3), .val (.int p4), .val (.int eb), .val (.int el), .val (.int (1 : Int32)), .val (.int (0 : Int32)), .val .null, .val (.ref t2), .val (.ref u1), .val (.ref u2), .val (.ref b192), .val (.int (1 : Int32)), .val (.int (1 : Int32)), .val (.int (1 : Int32))] [(.int (1 : Int32))])) _
          exact retN X206 hx (t := .boolean) Bd.returns (by simp) (hb hby at_191) hr
      · have k217_ : ∀ t, Steps p.tables e below (T198.setTop (mkF m 122 #[.val (.int p0), .val (.int p1), .val (.int p2), .val (.int p3), .val (.int p4), .val (.int eb), .val (.int el), .val (.int (1 : Int32)), .val (.int (0 : Int32)), .val .null, .val (.ref t2), .val (.ref u1), .val (.ref u2), .val (.ref b192), .unset, .unset, .unset] [(.int (0 : Int32))])) t → Steps p.tables e below (s₁.setTop (mkF m 0 #[.val (.int p0), .val (.int p1), .val (.int p2), .val (.int p3), .val (.int p4), .unset, .unset, .unset, .unset, .unset, .unset, .unset, .unset, .unset, .unset, .unset, .unset] [])) t := fun t q => k199_ t (Eq.mp (congrArg (fun z => Steps p.tables e below (T198.setTop (mkF m 122 #[.val (.int p0), .val (.int p1), .val (.int p2), .val (.int p3), .val (.int p4), .val (.int eb), .val (.int el), .val (.int (1 : Int32)), .val (.int (0 : Int32)), .val .null, .val (.ref t2), .val (.ref u1), .val (.ref u2), .val (.ref b192), .unset, .unset, .unset] [(.int z)])) t) (show (0 : Int32) = (bi ((True) ∧ (own_cs p1 = own_cs el))) from (bi_f fun z => hB z.2).symm)) q)
        have k218_ : ∀ t, Steps p.tables e below (T198.setTop (mkF m 126 #[.val (.int p0), .val (.int p1), .val (.int p2), .val (.int p3), .val (.int p4), .val (.int eb), .val (.int el), .val (.int (1 : Int32)), .val (.int (0 : Int32)), .val .null, .val (.ref t2), .val (.ref u1), .val (.ref u2), .val (.ref b192), .val (.int (0 : Int32)), .unset, .unset] [(.int (1 : Int32))])) t → Steps p.tables e below (s₁.setTop (mkF m 0 #[.val (.int p0), .val (.int p1), .val (.int p2), .val (.int p3), .val (.int p4), .unset, .unset, .unset, .unset, .unset, .unset, .unset, .unset, .unset, .unset, .unset, .unset] [])) t := by
          intro t q
          refine k217_ _ ?_
          show Steps p.tables e below (T198.setTop (mkF m 122 #[.val (.int p0), .val (.int p1), .val (.int p2), .val (.int p3), .val (.int p4), .val (.int eb), .val (.int el), .val (.int (1 : Int32)), .val (.int (0 : Int32)), .val .null, .val (.ref t2), .val (.ref u1), .val (.ref u2), .val (.ref b192), .unset, .unset, .unset] [(.int (0 : Int32))])) _
          refine XS.istore X198.here hx rfl (hb hby at_122) rfl (l' := #[.val (.int p0), .val (.int p1), .val (.int p2), .val (.int p3), .val (.int p4), .val (.int eb), .val (.int el), .val (.int (1 : Int32)), .val (.int (0 : Int32)), .val .null, .val (.ref t2), .val (.ref u1), .val (.ref u2), .val (.ref b192), .val (.int (0 : Int32)), .unset, .unset]) rfl ?_
          refine XS.iload X198.here hx rfl (hb hby at_124) rfl ?_
          show Steps p.tables e below (T198.setTop (mkF m 126 #[.val (.int p0), .val (.int p1), .val (.int p2), .val (.int p3), .val (.int p4), .val (.int eb), .val (.int el), .val (.int (1 : Int32)), .val (.int (0 : Int32)), .val .null, .val (.ref t2), .val (.ref u1), .val (.ref u2), .val (.ref b192), .val (.int (0 : Int32)), .unset, .unset] [(.int (1 : Int32))])) _
          exact q
        have k219_ : ∀ t, Steps p.tables e below (T198.setTop (mkF m 138 #[.val (.int p0), .val (.int p1), .val (.int p2), .val (.int p3), .val (.int p4), .val (.int eb), .val (.int el), .val (.int (1 : Int32)), .val (.int (0 : Int32)), .val .null, .val (.ref t2), .val (.ref u1), .val (.ref u2), .val (.ref b192), .val (.int (0 : Int32)), .unset, .unset] [])) t → Steps p.tables e below (s₁.setTop (mkF m 0 #[.val (.int p0), .val (.int p1), .val (.int p2), .val (.int p3), .val (.int p4), .unset, .unset, .unset, .unset, .unset, .unset, .unset, .unset, .unset, .unset, .unset, .unset] [])) t := by
          intro t q
          refine k218_ _ ?_
          show Steps p.tables e below (T198.setTop (mkF m 126 #[.val (.int p0), .val (.int p1), .val (.int p2), .val (.int p3), .val (.int p4), .val (.int eb), .val (.int el), .val (.int (1 : Int32)), .val (.int (0 : Int32)), .val .null, .val (.ref t2), .val (.ref u1), .val (.ref u2), .val (.ref b192), .val (.int (0 : Int32)), .unset, .unset] [(.int (1 : Int32))])) _
          refine XS.ifYes X198.here hx rfl (pc0 := 126) (pc' := 138) rfl (hb hby at_126) rfl ((if0 _ _).trans (feq (by decide)).2) (by decide) (by decide) ?_
          show Steps p.tables e below (T198.setTop (mkF m 138 #[.val (.int p0), .val (.int p1), .val (.int p2), .val (.int p3), .val (.int p4), .val (.int eb), .val (.int el), .val (.int (1 : Int32)), .val (.int (0 : Int32)), .val .null, .val (.ref t2), .val (.ref u1), .val (.ref u2), .val (.ref b192), .val (.int (0 : Int32)), .unset, .unset] [])) _
          exact q
        have k220_ : ∀ t, Steps p.tables e below (T198.setTop (mkF m 147 #[.val (.int p0), .val (.int p1), .val (.int p2), .val (.int p3), .val (.int p4), .val (.int eb), .val (.int el), .val (.int (1 : Int32)), .val (.int (0 : Int32)), .val .null, .val (.ref t2), .val (.ref u1), .val (.ref u2), .val (.ref b192), .val (.int (0 : Int32)), .val (.int (1 : Int32)), .unset] [(.int (0 : Int32))])) t → Steps p.tables e below (s₁.setTop (mkF m 0 #[.val (.int p0), .val (.int p1), .val (.int p2), .val (.int p3), .val (.int p4), .unset, .unset, .unset, .unset, .unset, .unset, .unset, .unset, .unset, .unset, .unset, .unset] [])) t := by
          intro t q
          refine k219_ _ ?_
          show Steps p.tables e below (T198.setTop (mkF m 138 #[.val (.int p0), .val (.int p1), .val (.int p2), .val (.int p3), .val (.int p4), .val (.int eb), .val (.int el), .val (.int (1 : Int32)), .val (.int (0 : Int32)), .val .null, .val (.ref t2), .val (.ref u1), .val (.ref u2), .val (.ref b192), .val (.int (0 : Int32)), .unset, .unset] [])) _
          refine XS.iconst X198.here hx rfl (hb hby at_138) ?_
          refine XS.goto X198.here hx rfl (pc0 := 139) (pc' := 143) rfl (hb hby at_139) (by decide) (by decide) ?_
          show Steps p.tables e below (T198.setTop (mkF m 143 #[.val (.int p0), .val (.int p1), .val (.int p2), .val (.int p3), .val (.int p4), .val (.int eb), .val (.int el), .val (.int (1 : Int32)), .val (.int (0 : Int32)), .val .null, .val (.ref t2), .val (.ref u1), .val (.ref u2), .val (.ref b192), .val (.int (0 : Int32)), .unset, .unset] [(.int (1 : Int32))])) _
          refine XS.istore X198.here hx rfl (hb hby at_143) rfl (l' := #[.val (.int p0), .val (.int p1), .val (.int p2), .val (.int p3), .val (.int p4), .val (.int eb), .val (.int el), .val (.int (1 : Int32)), .val (.int (0 : Int32)), .val .null, .val (.ref t2), .val (.ref u1), .val (.ref u2), .val (.ref b192), .val (.int (0 : Int32)), .val (.int (1 : Int32)), .unset]) rfl ?_
          refine XS.iload X198.here hx rfl (hb hby at_145) rfl ?_
          show Steps p.tables e below (T198.setTop (mkF m 147 #[.val (.int p0), .val (.int p1), .val (.int p2), .val (.int p3), .val (.int p4), .val (.int eb), .val (.int el), .val (.int (1 : Int32)), .val (.int (0 : Int32)), .val .null, .val (.ref t2), .val (.ref u1), .val (.ref u2), .val (.ref b192), .val (.int (0 : Int32)), .val (.int (1 : Int32)), .unset] [(.int (0 : Int32))])) _
          exact q
        have k221_ : ∀ t, Steps p.tables e below (T198.setTop (mkF m 150 #[.val (.int p0), .val (.int p1), .val (.int p2), .val (.int p3), .val (.int p4), .val (.int eb), .val (.int el), .val (.int (1 : Int32)), .val (.int (0 : Int32)), .val .null, .val (.ref t2), .val (.ref u1), .val (.ref u2), .val (.ref b192), .val (.int (0 : Int32)), .val (.int (1 : Int32)), .unset] [])) t → Steps p.tables e below (s₁.setTop (mkF m 0 #[.val (.int p0), .val (.int p1), .val (.int p2), .val (.int p3), .val (.int p4), .unset, .unset, .unset, .unset, .unset, .unset, .unset, .unset, .unset, .unset, .unset, .unset] [])) t := by
          intro t q
          refine k220_ _ ?_
          show Steps p.tables e below (T198.setTop (mkF m 147 #[.val (.int p0), .val (.int p1), .val (.int p2), .val (.int p3), .val (.int p4), .val (.int eb), .val (.int el), .val (.int (1 : Int32)), .val (.int (0 : Int32)), .val .null, .val (.ref t2), .val (.ref u1), .val (.ref u2), .val (.ref b192), .val (.int (0 : Int32)), .val (.int (1 : Int32)), .unset] [(.int (0 : Int32))])) _
          refine XS.ifNo X198.here hx rfl (hb hby at_147) rfl ((if0 _ _).trans (teq rfl).2) ?_
          show Steps p.tables e below (T198.setTop (mkF m 150 #[.val (.int p0), .val (.int p1), .val (.int p2), .val (.int p3), .val (.int p4), .val (.int eb), .val (.int el), .val (.int (1 : Int32)), .val (.int (0 : Int32)), .val .null, .val (.ref t2), .val (.ref u1), .val (.ref u2), .val (.ref b192), .val (.int (0 : Int32)), .val (.int (1 : Int32)), .unset] [])) _
          exact q
        have k222_ : ∀ t, Steps p.tables e below (T198.setTop (mkF m 153 #[.val (.int p0), .val (.int p1), .val (.int p2), .val (.int p3), .val (.int p4), .val (.int eb), .val (.int el), .val (.int (1 : Int32)), .val (.int (0 : Int32)), .val .null, .val (.ref t2), .val (.ref u1), .val (.ref u2), .val (.ref b192), .val (.int (0 : Int32)), .val (.int (1 : Int32)), .unset] [(.int el), (.int p1)])) t → Steps p.tables e below (s₁.setTop (mkF m 0 #[.val (.int p0), .val (.int p1), .val (.int p2), .val (.int p3), .val (.int p4), .unset, .unset, .unset, .unset, .unset, .unset, .unset, .unset, .unset, .unset, .unset, .unset] [])) t := by
          intro t q
          refine k221_ _ ?_
          show Steps p.tables e below (T198.setTop (mkF m 150 #[.val (.int p0), .val (.int p1), .val (.int p2), .val (.int p3), .val (.int p4), .val (.int eb), .val (.int el), .val (.int (1 : Int32)), .val (.int (0 : Int32)), .val .null, .val (.ref t2), .val (.ref u1), .val (.ref u2), .val (.ref b192), .val (.int (0 : Int32)), .val (.int (1 : Int32)), .unset] [])) _
          refine XS.iloadN X198.here hx rfl (hb hby at_150) rfl ?_
          refine XS.iload X198.here hx rfl (hb hby at_151) rfl ?_
          show Steps p.tables e below (T198.setTop (mkF m 153 #[.val (.int p0), .val (.int p1), .val (.int p2), .val (.int p3), .val (.int p4), .val (.int eb), .val (.int el), .val (.int (1 : Int32)), .val (.int (0 : Int32)), .val .null, .val (.ref t2), .val (.ref u1), .val (.ref u2), .val (.ref b192), .val (.int (0 : Int32)), .val (.int (1 : Int32)), .unset] [(.int el), (.int p1)])) _
          exact q
        obtain ⟨_, _, ⟨T223, L223, kk223, n223⟩, -, X223, ⟨Lc223, hQ223, l223, y223, z223⟩, st223⟩ := Jvm.LawKit.callS X198 hx (y := (⟨"com/example/triplewright/triplewright/source/ElementNameMatchesPinLaw", "same", "(II)Z"⟩ : MethodName)) hown (mvT hZ (hw _ (List.mem_of_getElem? (i := 75) rfl))) (mvT hZ (hw _ (List.mem_of_getElem? (i := 76) rfl))) (mvT hZ (hw _ (List.mem_of_getElem? (i := 3) rfl))) (mvT hZ (hw _ (List.mem_of_getElem? (i := 77) rfl))) (by decide) (backOf (W := 0) (rmSa l Z a0 hw [] p1 el T195.heap n0 Zn) hZ (hw _ (List.mem_of_getElem? (i := 77) rfl)) (hw _ (List.mem_of_getElem? (i := 3) rfl)) (by decide) (by decide)) (g := (mkF m 153 #[.val (.int p0), .val (.int p1), .val (.int p2), .val (.int p3), .val (.int p4), .val (.int eb), .val (.int el), .val (.int (1 : Int32)), .val (.int (0 : Int32)), .val .null, .val (.ref t2), .val (.ref u1), .val (.ref u2), .val (.ref b192), .val (.int (0 : Int32)), .val (.int (1 : Int32)), .unset] [(.int el), (.int p1)])) rfl (by rw [hml]; rfl) (argsL := [(.int p1), (.int el)]) (rest := []) (lenOf pd_90437 rfl) rfl (by show 2 * 0 + _ ≤ _; exact Nat.le_of_eq rfl) (hb hby at_153) (fun _ _ => ⟨rfl, hq198, (by decide : 0 + 4 + 4 + 4 + 1 + 0 + 0 + 0 ≤ _), (by decide : 0 + 11 + 11 + 11 + 2 + 0 + 0 + 0 ≤ _)⟩)
        dsimp only [Pt.U, Pt.locs, Pt.cells, Pt.slots] at X223 l223 y223 z223 st223 hQ223
        rw [l223, y223, z223] at X223
        obtain ⟨rfl, Nq223, hq223⟩ := hQ223
        have N223 := Fr.app N198 Nq223
        have k224_ : ∀ t, Steps p.tables e below (T223.setTop (mkF m 156 #[.val (.int p0), .val (.int p1), .val (.int p2), .val (.int p3), .val (.int p4), .val (.int eb), .val (.int el), .val (.int (1 : Int32)), .val (.int (0 : Int32)), .val .null, .val (.ref t2), .val (.ref u1), .val (.ref u2), .val (.ref b192), .val (.int (0 : Int32)), .val (.int (1 : Int32)), .unset] [(.int (bi (own_cs p1 = own_cs el)))])) t → Steps p.tables e below (s₁.setTop (mkF m 0 #[.val (.int p0), .val (.int p1), .val (.int p2), .val (.int p3), .val (.int p4), .unset, .unset, .unset, .unset, .unset, .unset, .unset, .unset, .unset, .unset, .unset, .unset] [])) t := fun t q => k222_ t (st223 t q)
        have k225_ : ∀ t, Steps p.tables e below (T223.setTop (mkF m 156 #[.val (.int p0), .val (.int p1), .val (.int p2), .val (.int p3), .val (.int p4), .val (.int eb), .val (.int el), .val (.int (1 : Int32)), .val (.int (0 : Int32)), .val .null, .val (.ref t2), .val (.ref u1), .val (.ref u2), .val (.ref b192), .val (.int (0 : Int32)), .val (.int (1 : Int32)), .unset] [(.int (0 : Int32))])) t → Steps p.tables e below (s₁.setTop (mkF m 0 #[.val (.int p0), .val (.int p1), .val (.int p2), .val (.int p3), .val (.int p4), .unset, .unset, .unset, .unset, .unset, .unset, .unset, .unset, .unset, .unset, .unset, .unset] [])) t := fun t q => k224_ t (Eq.mp (congrArg (fun z => Steps p.tables e below (T223.setTop (mkF m 156 #[.val (.int p0), .val (.int p1), .val (.int p2), .val (.int p3), .val (.int p4), .val (.int eb), .val (.int el), .val (.int (1 : Int32)), .val (.int (0 : Int32)), .val .null, .val (.ref t2), .val (.ref u1), .val (.ref u2), .val (.ref b192), .val (.int (0 : Int32)), .val (.int (1 : Int32)), .unset] [(.int z)])) t) (show (0 : Int32) = (bi (own_cs p1 = own_cs el)) from (bi_f hB).symm)) q)
        have k226_ : ∀ t, Steps p.tables e below (T223.setTop (mkF m 163 #[.val (.int p0), .val (.int p1), .val (.int p2), .val (.int p3), .val (.int p4), .val (.int eb), .val (.int el), .val (.int (1 : Int32)), .val (.int (0 : Int32)), .val .null, .val (.ref t2), .val (.ref u1), .val (.ref u2), .val (.ref b192), .val (.int (0 : Int32)), .val (.int (1 : Int32)), .unset] [])) t → Steps p.tables e below (s₁.setTop (mkF m 0 #[.val (.int p0), .val (.int p1), .val (.int p2), .val (.int p3), .val (.int p4), .unset, .unset, .unset, .unset, .unset, .unset, .unset, .unset, .unset, .unset, .unset, .unset] [])) t := by
          intro t q
          refine k225_ _ ?_
          show Steps p.tables e below (T223.setTop (mkF m 156 #[.val (.int p0), .val (.int p1), .val (.int p2), .val (.int p3), .val (.int p4), .val (.int eb), .val (.int el), .val (.int (1 : Int32)), .val (.int (0 : Int32)), .val .null, .val (.ref t2), .val (.ref u1), .val (.ref u2), .val (.ref b192), .val (.int (0 : Int32)), .val (.int (1 : Int32)), .unset] [(.int (0 : Int32))])) _
          refine XS.ifYes X223.here hx rfl (pc0 := 156) (pc' := 163) rfl (hb hby at_156) rfl ((if0 _ _).trans (teq (by decide)).1) (by decide) (by decide) ?_
          show Steps p.tables e below (T223.setTop (mkF m 163 #[.val (.int p0), .val (.int p1), .val (.int p2), .val (.int p3), .val (.int p4), .val (.int eb), .val (.int el), .val (.int (1 : Int32)), .val (.int (0 : Int32)), .val .null, .val (.ref t2), .val (.ref u1), .val (.ref u2), .val (.ref b192), .val (.int (0 : Int32)), .val (.int (1 : Int32)), .unset] [])) _
          exact q
        have k227_ : ∀ t, Steps p.tables e below (T223.setTop (mkF m 170 #[.val (.int p0), .val (.int p1), .val (.int p2), .val (.int p3), .val (.int p4), .val (.int eb), .val (.int el), .val (.int (1 : Int32)), .val (.int (0 : Int32)), .val .null, .val (.ref t2), .val (.ref u1), .val (.ref u2), .val (.ref b192), .val (.int (0 : Int32)), .val (.int (1 : Int32)), .val (.int (0 : Int32))] [(.int (1 : Int32)), (.int (0 : Int32))])) t → Steps p.tables e below (s₁.setTop (mkF m 0 #[.val (.int p0), .val (.int p1), .val (.int p2), .val (.int p3), .val (.int p4), .unset, .unset, .unset, .unset, .unset, .unset, .unset, .unset, .unset, .unset, .unset, .unset] [])) t := by
          intro t q
          refine k226_ _ ?_
          show Steps p.tables e below (T223.setTop (mkF m 163 #[.val (.int p0), .val (.int p1), .val (.int p2), .val (.int p3), .val (.int p4), .val (.int eb), .val (.int el), .val (.int (1 : Int32)), .val (.int (0 : Int32)), .val .null, .val (.ref t2), .val (.ref u1), .val (.ref u2), .val (.ref b192), .val (.int (0 : Int32)), .val (.int (1 : Int32)), .unset] [])) _
          refine XS.iconst X223.here hx rfl (hb hby at_163) ?_
          refine XS.istore X223.here hx rfl (hb hby at_164) rfl (l' := #[.val (.int p0), .val (.int p1), .val (.int p2), .val (.int p3), .val (.int p4), .val (.int eb), .val (.int el), .val (.int (1 : Int32)), .val (.int (0 : Int32)), .val .null, .val (.ref t2), .val (.ref u1), .val (.ref u2), .val (.ref b192), .val (.int (0 : Int32)), .val (.int (1 : Int32)), .val (.int (0 : Int32))]) rfl ?_
          show Steps p.tables e below (T223.setTop (mkF m 166 #[.val (.int p0), .val (.int p1), .val (.int p2), .val (.int p3), .val (.int p4), .val (.int eb), .val (.int el), .val (.int (1 : Int32)), .val (.int (0 : Int32)), .val .null, .val (.ref t2), .val (.ref u1), .val (.ref u2), .val (.ref b192), .val (.int (0 : Int32)), .val (.int (1 : Int32)), .val (.int (0 : Int32))] [])) _
          refine XS.iload X223.here hx rfl (hb hby at_166) rfl ?_
          refine XS.iload X223.here hx rfl (hb hby at_168) rfl ?_
          show Steps p.tables e below (T223.setTop (mkF m 170 #[.val (.int p0), .val (.int p1), .val (.int p2), .val (.int p3), .val (.int p4), .val (.int eb), .val (.int el), .val (.int (1 : Int32)), .val (.int (0 : Int32)), .val .null, .val (.ref t2), .val (.ref u1), .val (.ref u2), .val (.ref b192), .val (.int (0 : Int32)), .val (.int (1 : Int32)), .val (.int (0 : Int32))] [(.int (1 : Int32)), (.int (0 : Int32))])) _
          exact q
        have k228_ : ∀ t, Steps p.tables e below (T223.setTop (mkF m 173 #[.val (.int p0), .val (.int p1), .val (.int p2), .val (.int p3), .val (.int p4), .val (.int eb), .val (.int el), .val (.int (1 : Int32)), .val (.int (0 : Int32)), .val .null, .val (.ref t2), .val (.ref u1), .val (.ref u2), .val (.ref b192), .val (.int (0 : Int32)), .val (.int (1 : Int32)), .val (.int (0 : Int32))] [(.int (0 : Int32))])) t → Steps p.tables e below (s₁.setTop (mkF m 0 #[.val (.int p0), .val (.int p1), .val (.int p2), .val (.int p3), .val (.int p4), .unset, .unset, .unset, .unset, .unset, .unset, .unset, .unset, .unset, .unset, .unset, .unset] [])) t := by
          intro t q
          refine k227_ _ ?_
          show Steps p.tables e below (T223.setTop (mkF m 170 #[.val (.int p0), .val (.int p1), .val (.int p2), .val (.int p3), .val (.int p4), .val (.int eb), .val (.int el), .val (.int (1 : Int32)), .val (.int (0 : Int32)), .val .null, .val (.ref t2), .val (.ref u1), .val (.ref u2), .val (.ref b192), .val (.int (0 : Int32)), .val (.int (1 : Int32)), .val (.int (0 : Int32))] [(.int (1 : Int32)), (.int (0 : Int32))])) _
          refine XS.ifNo X223.here hx rfl (hb hby at_170) rfl ((if0 _ _).trans (feq (by decide)).1) ?_
          show Steps p.tables e below (T223.setTop (mkF m 173 #[.val (.int p0), .val (.int p1), .val (.int p2), .val (.int p3), .val (.int p4), .val (.int eb), .val (.int el), .val (.int (1 : Int32)), .val (.int (0 : Int32)), .val .null, .val (.ref t2), .val (.ref u1), .val (.ref u2), .val (.ref b192), .val (.int (0 : Int32)), .val (.int (1 : Int32)), .val (.int (0 : Int32))] [(.int (0 : Int32))])) _
          exact q
        have k229_ : ∀ t, Steps p.tables e below (T223.setTop (mkF m 175 #[.val (.int p0), .val (.int p1), .val (.int p2), .val (.int p3), .val (.int p4), .val (.int eb), .val (.int el), .val (.int (1 : Int32)), .val (.int (0 : Int32)), .val .null, .val (.ref t2), .val (.ref u1), .val (.ref u2), .val (.ref b192), .val (.int (0 : Int32)), .val (.int (1 : Int32)), .val (.int (0 : Int32))] [(.int (0 : Int32)), (.int (0 : Int32))])) t → Steps p.tables e below (s₁.setTop (mkF m 0 #[.val (.int p0), .val (.int p1), .val (.int p2), .val (.int p3), .val (.int p4), .unset, .unset, .unset, .unset, .unset, .unset, .unset, .unset, .unset, .unset, .unset, .unset] [])) t := by
          intro t q
          refine k228_ _ ?_
          show Steps p.tables e below (T223.setTop (mkF m 173 #[.val (.int p0), .val (.int p1), .val (.int p2), .val (.int p3), .val (.int p4), .val (.int eb), .val (.int el), .val (.int (1 : Int32)), .val (.int (0 : Int32)), .val .null, .val (.ref t2), .val (.ref u1), .val (.ref u2), .val (.ref b192), .val (.int (0 : Int32)), .val (.int (1 : Int32)), .val (.int (0 : Int32))] [(.int (0 : Int32))])) _
          refine XS.iload X223.here hx rfl (hb hby at_173) rfl ?_
          show Steps p.tables e below (T223.setTop (mkF m 175 #[.val (.int p0), .val (.int p1), .val (.int p2), .val (.int p3), .val (.int p4), .val (.int eb), .val (.int el), .val (.int (1 : Int32)), .val (.int (0 : Int32)), .val .null, .val (.ref t2), .val (.ref u1), .val (.ref u2), .val (.ref b192), .val (.int (0 : Int32)), .val (.int (1 : Int32)), .val (.int (0 : Int32))] [(.int (0 : Int32)), (.int (0 : Int32))])) _
          exact q
        have k230_ : ∀ t, Steps p.tables e below (T223.setTop (mkF m 182 #[.val (.int p0), .val (.int p1), .val (.int p2), .val (.int p3), .val (.int p4), .val (.int eb), .val (.int el), .val (.int (1 : Int32)), .val (.int (0 : Int32)), .val .null, .val (.ref t2), .val (.ref u1), .val (.ref u2), .val (.ref b192), .val (.int (0 : Int32)), .val (.int (1 : Int32)), .val (.int (0 : Int32))] [(.int (0 : Int32))])) t → Steps p.tables e below (s₁.setTop (mkF m 0 #[.val (.int p0), .val (.int p1), .val (.int p2), .val (.int p3), .val (.int p4), .unset, .unset, .unset, .unset, .unset, .unset, .unset, .unset, .unset, .unset, .unset, .unset] [])) t := by
          intro t q
          refine k229_ _ ?_
          show Steps p.tables e below (T223.setTop (mkF m 175 #[.val (.int p0), .val (.int p1), .val (.int p2), .val (.int p3), .val (.int p4), .val (.int eb), .val (.int el), .val (.int (1 : Int32)), .val (.int (0 : Int32)), .val .null, .val (.ref t2), .val (.ref u1), .val (.ref u2), .val (.ref b192), .val (.int (0 : Int32)), .val (.int (1 : Int32)), .val (.int (0 : Int32))] [(.int (0 : Int32)), (.int (0 : Int32))])) _
          refine XS.ifYes X223.here hx rfl (pc0 := 175) (pc' := 182) rfl (hb hby at_175) rfl ((if0 _ _).trans (teq (by decide)).1) (by decide) (by decide) ?_
          show Steps p.tables e below (T223.setTop (mkF m 182 #[.val (.int p0), .val (.int p1), .val (.int p2), .val (.int p3), .val (.int p4), .val (.int eb), .val (.int el), .val (.int (1 : Int32)), .val (.int (0 : Int32)), .val .null, .val (.ref t2), .val (.ref u1), .val (.ref u2), .val (.ref b192), .val (.int (0 : Int32)), .val (.int (1 : Int32)), .val (.int (0 : Int32))] [(.int (0 : Int32))])) _
          exact q
        have k231_ : ∀ t, Steps p.tables e below (T223.setTop (mkF m 183 #[.val (.int p0), .val (.int p1), .val (.int p2), .val (.int p3), .val (.int p4), .val (.int eb), .val (.int el), .val (.int (1 : Int32)), .val (.int (0 : Int32)), .val .null, .val (.ref t2), .val (.ref u1), .val (.ref u2), .val (.ref b192), .val (.int (0 : Int32)), .val (.int (1 : Int32)), .val (.int (0 : Int32))] [(.int (0 : Int32)), (.int (0 : Int32))])) t → Steps p.tables e below (s₁.setTop (mkF m 0 #[.val (.int p0), .val (.int p1), .val (.int p2), .val (.int p3), .val (.int p4), .unset, .unset, .unset, .unset, .unset, .unset, .unset, .unset, .unset, .unset, .unset, .unset] [])) t := by
          intro t q
          refine k230_ _ ?_
          show Steps p.tables e below (T223.setTop (mkF m 182 #[.val (.int p0), .val (.int p1), .val (.int p2), .val (.int p3), .val (.int p4), .val (.int eb), .val (.int el), .val (.int (1 : Int32)), .val (.int (0 : Int32)), .val .null, .val (.ref t2), .val (.ref u1), .val (.ref u2), .val (.ref b192), .val (.int (0 : Int32)), .val (.int (1 : Int32)), .val (.int (0 : Int32))] [(.int (0 : Int32))])) _
          refine XS.iconst X223.here hx rfl (hb hby at_182) ?_
          show Steps p.tables e below (T223.setTop (mkF m 183 #[.val (.int p0), .val (.int p1), .val (.int p2), .val (.int p3), .val (.int p4), .val (.int eb), .val (.int el), .val (.int (1 : Int32)), .val (.int (0 : Int32)), .val .null, .val (.ref t2), .val (.ref u1), .val (.ref u2), .val (.ref b192), .val (.int (0 : Int32)), .val (.int (1 : Int32)), .val (.int (0 : Int32))] [(.int (0 : Int32)), (.int (0 : Int32))])) _
          exact q
        have k232_ : ∀ t, Steps p.tables e below (T223.setTop (mkF m 186 #[.val (.int p0), .val (.int p1), .val (.int p2), .val (.int p3), .val (.int p4), .val (.int eb), .val (.int el), .val (.int (1 : Int32)), .val (.int (0 : Int32)), .val .null, .val (.ref t2), .val (.ref u1), .val (.ref u2), .val (.ref b192), .val (.int (0 : Int32)), .val (.int (1 : Int32)), .val (.int (0 : Int32))] [])) t → Steps p.tables e below (s₁.setTop (mkF m 0 #[.val (.int p0), .val (.int p1), .val (.int p2), .val (.int p3), .val (.int p4), .unset, .unset, .unset, .unset, .unset, .unset, .unset, .unset, .unset, .unset, .unset, .unset] [])) t := by
          intro t q
          refine k231_ _ ?_
          show Steps p.tables e below (T223.setTop (mkF m 183 #[.val (.int p0), .val (.int p1), .val (.int p2), .val (.int p3), .val (.int p4), .val (.int eb), .val (.int el), .val (.int (1 : Int32)), .val (.int (0 : Int32)), .val .null, .val (.ref t2), .val (.ref u1), .val (.ref u2), .val (.ref b192), .val (.int (0 : Int32)), .val (.int (1 : Int32)), .val (.int (0 : Int32))] [(.int (0 : Int32)), (.int (0 : Int32))])) _
          refine XS.icmpNo X223.here hx rfl (hb hby at_183) rfl (teq rfl).2 ?_
          show Steps p.tables e below (T223.setTop (mkF m 186 #[.val (.int p0), .val (.int p1), .val (.int p2), .val (.int p3), .val (.int p4), .val (.int eb), .val (.int el), .val (.int (1 : Int32)), .val (.int (0 : Int32)), .val .null, .val (.ref t2), .val (.ref u1), .val (.ref u2), .val (.ref b192), .val (.int (0 : Int32)), .val (.int (1 : Int32)), .val (.int (0 : Int32))] [])) _
          exact q
        have k233_ : ∀ t, Steps p.tables e below (T223.setTop (mkF m 191 #[.val (.int p0), .val (.int p1), .val (.int p2), .val (.int p3), .val (.int p4), .val (.int eb), .val (.int el), .val (.int (1 : Int32)), .val (.int (0 : Int32)), .val .null, .val (.ref t2), .val (.ref u1), .val (.ref u2), .val (.ref b192), .val (.int (0 : Int32)), .val (.int (1 : Int32)), .val (.int (0 : Int32))] [(.int (1 : Int32))])) t → Steps p.tables e below (s₁.setTop (mkF m 0 #[.val (.int p0), .val (.int p1), .val (.int p2), .val (.int p3), .val (.int p4), .unset, .unset, .unset, .unset, .unset, .unset, .unset, .unset, .unset, .unset, .unset, .unset] [])) t := by
          intro t q
          refine k232_ _ ?_
          show Steps p.tables e below (T223.setTop (mkF m 186 #[.val (.int p0), .val (.int p1), .val (.int p2), .val (.int p3), .val (.int p4), .val (.int eb), .val (.int el), .val (.int (1 : Int32)), .val (.int (0 : Int32)), .val .null, .val (.ref t2), .val (.ref u1), .val (.ref u2), .val (.ref b192), .val (.int (0 : Int32)), .val (.int (1 : Int32)), .val (.int (0 : Int32))] [])) _
          refine XS.iconst X223.here hx rfl (hb hby at_186) ?_
          refine XS.goto X223.here hx rfl (pc0 := 187) (pc' := 191) rfl (hb hby at_187) (by decide) (by decide) ?_
          show Steps p.tables e below (T223.setTop (mkF m 191 #[.val (.int p0), .val (.int p1), .val (.int p2), .val (.int p3), .val (.int p4), .val (.int eb), .val (.int el), .val (.int (1 : Int32)), .val (.int (0 : Int32)), .val .null, .val (.ref t2), .val (.ref u1), .val (.ref u2), .val (.ref b192), .val (.int (0 : Int32)), .val (.int (1 : Int32)), .val (.int (0 : Int32))] [(.int (1 : Int32))])) _
          exact q
        obtain ⟨fs, hr, hrun, hended, r1, r2, r3, r4⟩ := Stand.leaveW (s := s) (vm₁ := T189.vm) X223 hS (by rw [hq223]; exact hk) (v := some (.int (1 : Int32))) (fun h => by rw [Bd.returns] at h; cases h)
        refine ⟨_, _, pre0 _ (k233_ _ ?_), hrun, hended, _, rfl, N223, r1, r2, r3, r4.mono (by decide) (by decide)⟩
        · show Steps p.tables e below (T223.setTop (mkF m 191 #[.val (.int p0), .val (.int p1), .val (.int p2), .val (.int p3), .val (.int p4), .val (.int eb), .val (.int el), .val (.int (1 : Int32)), .val (.int (0 : Int32)), .val .null, .val (.ref t2), .val (.ref u1), .val (.ref u2), .val (.ref b192), .val (.int (0 : Int32)), .val (.int (1 : Int32)), .val (.int (0 : Int32))] [(.int (1 : Int32))])) _
          exact retN X223 hx (t := .boolean) Bd.returns (by simp) (hb hby at_191) hr
    · have k234_ : ∀ t, Steps p.tables e below (s₁.setTop (mkF m 49 #[.val (.int p0), .val (.int p1), .val (.int p2), .val (.int p3), .val (.int p4), .val (.int eb), .val (.int el), .val (.int (1 : Int32)), .unset, .unset, .unset, .unset, .unset, .unset, .unset, .unset, .unset] [])) t → Steps p.tables e below (s₁.setTop (mkF m 0 #[.val (.int p0), .val (.int p1), .val (.int p2), .val (.int p3), .val (.int p4), .unset, .unset, .unset, .unset, .unset, .unset, .unset, .unset, .unset, .unset, .unset, .unset] [])) t := by
        intro t q
        refine k176_ _ ?_
        show Steps p.tables e below (s₁.setTop (mkF m 46 #[.val (.int p0), .val (.int p1), .val (.int p2), .val (.int p3), .val (.int p4), .val (.int eb), .val (.int el), .val (.int (1 : Int32)), .unset, .unset, .unset, .unset, .unset, .unset, .unset, .unset, .unset] [(.int (p1 &&& (67108864 : Int32)))])) _
        refine XS.ifNo X0.here hx rfl (hb hby at_46) rfl ((if0 _ _).trans (feq hnb).1) ?_
        show Steps p.tables e below (s₁.setTop (mkF m 49 #[.val (.int p0), .val (.int p1), .val (.int p2), .val (.int p3), .val (.int p4), .val (.int eb), .val (.int el), .val (.int (1 : Int32)), .unset, .unset, .unset, .unset, .unset, .unset, .unset, .unset, .unset] [])) _
        exact q
      have k235_ : ∀ t, Steps p.tables e below (s₁.setTop (mkF m 58 #[.val (.int p0), .val (.int p1), .val (.int p2), .val (.int p3), .val (.int p4), .val (.int eb), .val (.int el), .val (.int (1 : Int32)), .val (.int (1 : Int32)), .unset, .unset, .unset, .unset, .unset, .unset, .unset, .unset] [(.int (1 : Int32))])) t → Steps p.tables e below (s₁.setTop (mkF m 0 #[.val (.int p0), .val (.int p1), .val (.int p2), .val (.int p3), .val (.int p4), .unset, .unset, .unset, .unset, .unset, .unset, .unset, .unset, .unset, .unset, .unset, .unset] [])) t := by
        intro t q
        refine k234_ _ ?_
        show Steps p.tables e below (s₁.setTop (mkF m 49 #[.val (.int p0), .val (.int p1), .val (.int p2), .val (.int p3), .val (.int p4), .val (.int eb), .val (.int el), .val (.int (1 : Int32)), .unset, .unset, .unset, .unset, .unset, .unset, .unset, .unset, .unset] [])) _
        refine XS.iconst X0.here hx rfl (hb hby at_49) ?_
        refine XS.goto X0.here hx rfl (pc0 := 50) (pc' := 54) rfl (hb hby at_50) (by decide) (by decide) ?_
        show Steps p.tables e below (s₁.setTop (mkF m 54 #[.val (.int p0), .val (.int p1), .val (.int p2), .val (.int p3), .val (.int p4), .val (.int eb), .val (.int el), .val (.int (1 : Int32)), .unset, .unset, .unset, .unset, .unset, .unset, .unset, .unset, .unset] [(.int (1 : Int32))])) _
        refine XS.istore X0.here hx rfl (hb hby at_54) rfl (l' := #[.val (.int p0), .val (.int p1), .val (.int p2), .val (.int p3), .val (.int p4), .val (.int eb), .val (.int el), .val (.int (1 : Int32)), .val (.int (1 : Int32)), .unset, .unset, .unset, .unset, .unset, .unset, .unset, .unset]) rfl ?_
        refine XS.iload X0.here hx rfl (hb hby at_56) rfl ?_
        show Steps p.tables e below (s₁.setTop (mkF m 58 #[.val (.int p0), .val (.int p1), .val (.int p2), .val (.int p3), .val (.int p4), .val (.int eb), .val (.int el), .val (.int (1 : Int32)), .val (.int (1 : Int32)), .unset, .unset, .unset, .unset, .unset, .unset, .unset, .unset] [(.int (1 : Int32))])) _
        exact q
      have k236_ : ∀ t, Steps p.tables e below (s₁.setTop (mkF m 61 #[.val (.int p0), .val (.int p1), .val (.int p2), .val (.int p3), .val (.int p4), .val (.int eb), .val (.int el), .val (.int (1 : Int32)), .val (.int (1 : Int32)), .unset, .unset, .unset, .unset, .unset, .unset, .unset, .unset] [])) t → Steps p.tables e below (s₁.setTop (mkF m 0 #[.val (.int p0), .val (.int p1), .val (.int p2), .val (.int p3), .val (.int p4), .unset, .unset, .unset, .unset, .unset, .unset, .unset, .unset, .unset, .unset, .unset, .unset] [])) t := by
        intro t q
        refine k235_ _ ?_
        show Steps p.tables e below (s₁.setTop (mkF m 58 #[.val (.int p0), .val (.int p1), .val (.int p2), .val (.int p3), .val (.int p4), .val (.int eb), .val (.int el), .val (.int (1 : Int32)), .val (.int (1 : Int32)), .unset, .unset, .unset, .unset, .unset, .unset, .unset, .unset] [(.int (1 : Int32))])) _
        refine XS.ifNo X0.here hx rfl (hb hby at_58) rfl ((if0 _ _).trans (feq (by decide)).1) ?_
        show Steps p.tables e below (s₁.setTop (mkF m 61 #[.val (.int p0), .val (.int p1), .val (.int p2), .val (.int p3), .val (.int p4), .val (.int eb), .val (.int el), .val (.int (1 : Int32)), .val (.int (1 : Int32)), .unset, .unset, .unset, .unset, .unset, .unset, .unset, .unset] [])) _
        exact q
      have k237_ : ∀ t, Steps p.tables e below (s₁.setTop (mkF m 73 #[.val (.int p0), .val (.int p1), .val (.int p2), .val (.int p3), .val (.int p4), .val (.int eb), .val (.int el), .val (.int (1 : Int32)), .val (.int (1 : Int32)), .val .null, .unset, .unset, .unset, .unset, .unset, .unset, .unset] [(.int (1 : Int32))])) t → Steps p.tables e below (s₁.setTop (mkF m 0 #[.val (.int p0), .val (.int p1), .val (.int p2), .val (.int p3), .val (.int p4), .unset, .unset, .unset, .unset, .unset, .unset, .unset, .unset, .unset, .unset, .unset, .unset] [])) t := by
        intro t q
        refine k236_ _ ?_
        show Steps p.tables e below (s₁.setTop (mkF m 61 #[.val (.int p0), .val (.int p1), .val (.int p2), .val (.int p3), .val (.int p4), .val (.int eb), .val (.int el), .val (.int (1 : Int32)), .val (.int (1 : Int32)), .unset, .unset, .unset, .unset, .unset, .unset, .unset, .unset] [])) _
        refine XS.aconstNull X0.here hx rfl (hb hby at_61) ?_
        refine XS.goto X0.here hx rfl (pc0 := 62) (pc' := 69) rfl (hb hby at_62) (by decide) (by decide) ?_
        show Steps p.tables e below (s₁.setTop (mkF m 69 #[.val (.int p0), .val (.int p1), .val (.int p2), .val (.int p3), .val (.int p4), .val (.int eb), .val (.int el), .val (.int (1 : Int32)), .val (.int (1 : Int32)), .unset, .unset, .unset, .unset, .unset, .unset, .unset, .unset] [.null])) _
        refine XS.astore X0.here hx rfl (hb hby at_69) rfl rfl (l' := #[.val (.int p0), .val (.int p1), .val (.int p2), .val (.int p3), .val (.int p4), .val (.int eb), .val (.int el), .val (.int (1 : Int32)), .val (.int (1 : Int32)), .val .null, .unset, .unset, .unset, .unset, .unset, .unset, .unset]) rfl ?_
        refine XS.iload X0.here hx rfl (hb hby at_71) rfl ?_
        show Steps p.tables e below (s₁.setTop (mkF m 73 #[.val (.int p0), .val (.int p1), .val (.int p2), .val (.int p3), .val (.int p4), .val (.int eb), .val (.int el), .val (.int (1 : Int32)), .val (.int (1 : Int32)), .val .null, .unset, .unset, .unset, .unset, .unset, .unset, .unset] [(.int (1 : Int32))])) _
        exact q
      have k238_ : ∀ t, Steps p.tables e below (s₁.setTop (mkF m 76 #[.val (.int p0), .val (.int p1), .val (.int p2), .val (.int p3), .val (.int p4), .val (.int eb), .val (.int el), .val (.int (1 : Int32)), .val (.int (1 : Int32)), .val .null, .unset, .unset, .unset, .unset, .unset, .unset, .unset] [])) t → Steps p.tables e below (s₁.setTop (mkF m 0 #[.val (.int p0), .val (.int p1), .val (.int p2), .val (.int p3), .val (.int p4), .unset, .unset, .unset, .unset, .unset, .unset, .unset, .unset, .unset, .unset, .unset, .unset] [])) t := by
        intro t q
        refine k237_ _ ?_
        show Steps p.tables e below (s₁.setTop (mkF m 73 #[.val (.int p0), .val (.int p1), .val (.int p2), .val (.int p3), .val (.int p4), .val (.int eb), .val (.int el), .val (.int (1 : Int32)), .val (.int (1 : Int32)), .val .null, .unset, .unset, .unset, .unset, .unset, .unset, .unset] [(.int (1 : Int32))])) _
        refine XS.ifNo X0.here hx rfl (hb hby at_73) rfl ((if0 _ _).trans (feq (by decide)).1) ?_
        show Steps p.tables e below (s₁.setTop (mkF m 76 #[.val (.int p0), .val (.int p1), .val (.int p2), .val (.int p3), .val (.int p4), .val (.int eb), .val (.int el), .val (.int (1 : Int32)), .val (.int (1 : Int32)), .val .null, .unset, .unset, .unset, .unset, .unset, .unset, .unset] [])) _
        exact q
      have k239_ : ∀ t, Steps p.tables e below (s₁.setTop (mkF m 88 #[.val (.int p0), .val (.int p1), .val (.int p2), .val (.int p3), .val (.int p4), .val (.int eb), .val (.int el), .val (.int (1 : Int32)), .val (.int (1 : Int32)), .val .null, .val .null, .unset, .unset, .unset, .unset, .unset, .unset] [(.int eb)])) t → Steps p.tables e below (s₁.setTop (mkF m 0 #[.val (.int p0), .val (.int p1), .val (.int p2), .val (.int p3), .val (.int p4), .unset, .unset, .unset, .unset, .unset, .unset, .unset, .unset, .unset, .unset, .unset, .unset] [])) t := by
        intro t q
        refine k238_ _ ?_
        show Steps p.tables e below (s₁.setTop (mkF m 76 #[.val (.int p0), .val (.int p1), .val (.int p2), .val (.int p3), .val (.int p4), .val (.int eb), .val (.int el), .val (.int (1 : Int32)), .val (.int (1 : Int32)), .val .null, .unset, .unset, .unset, .unset, .unset, .unset, .unset] [])) _
        refine XS.aconstNull X0.here hx rfl (hb hby at_76) ?_
        refine XS.goto X0.here hx rfl (pc0 := 77) (pc' := 84) rfl (hb hby at_77) (by decide) (by decide) ?_
        show Steps p.tables e below (s₁.setTop (mkF m 84 #[.val (.int p0), .val (.int p1), .val (.int p2), .val (.int p3), .val (.int p4), .val (.int eb), .val (.int el), .val (.int (1 : Int32)), .val (.int (1 : Int32)), .val .null, .unset, .unset, .unset, .unset, .unset, .unset, .unset] [.null])) _
        refine XS.astore X0.here hx rfl (hb hby at_84) rfl rfl (l' := #[.val (.int p0), .val (.int p1), .val (.int p2), .val (.int p3), .val (.int p4), .val (.int eb), .val (.int el), .val (.int (1 : Int32)), .val (.int (1 : Int32)), .val .null, .val .null, .unset, .unset, .unset, .unset, .unset, .unset]) rfl ?_
        refine XS.iload X0.here hx rfl (hb hby at_86) rfl ?_
        show Steps p.tables e below (s₁.setTop (mkF m 88 #[.val (.int p0), .val (.int p1), .val (.int p2), .val (.int p3), .val (.int p4), .val (.int eb), .val (.int el), .val (.int (1 : Int32)), .val (.int (1 : Int32)), .val .null, .val .null, .unset, .unset, .unset, .unset, .unset, .unset] [(.int eb)])) _
        exact q
      obtain ⟨_, _, ⟨T240, L240, kk240, n240⟩, -, X240_, hs240, hG240, ⟨Lc240, hQ240, l240, y240, z240, hc240⟩, st240⟩ := callSS X0 hx (y := (⟨"com/example/triplewright/triplewright/source/ElementNameMatchesPinLaw", "mk", "(I)Ljava/lang/String;"⟩ : MethodName)) hown (mvT hZ (hw _ (List.mem_of_getElem? (i := 1) rfl))) (mvT hZ (hw _ (List.mem_of_getElem? (i := 2) rfl))) (mvT hZ (hw _ (List.mem_of_getElem? (i := 3) rfl))) (mvT hZ (hw _ (List.mem_of_getElem? (i := 4) rfl))) (by decide) (backOfSH (s := s) (vm0 := s.vm) (EL := own_EL) (W := 0) (rmM l Z a0 hw [] eb zc h0 n0 Zn O2 hzc X00 wS hEL) hZ (hw _ (List.mem_of_getElem? (i := 4) rfl)) (hw _ (List.mem_of_getElem? (i := 3) rfl)) (by decide) (by decide) hEL hCH.1) (g := (mkF m 88 #[.val (.int p0), .val (.int p1), .val (.int p2), .val (.int p3), .val (.int p4), .val (.int eb), .val (.int el), .val (.int (1 : Int32)), .val (.int (1 : Int32)), .val .null, .val .null, .unset, .unset, .unset, .unset, .unset, .unset] [(.int eb)])) rfl (by rw [hml]; rfl) (argsL := [(.int eb)]) (rest := []) (lenOf pd_88406 rfl) rfl (by show 2 * 0 + _ ≤ _; exact Nat.le_of_eq rfl) (hb hby at_88) (fun _ _ => ⟨rfl, e0, (by decide : 0 + 4 ≤ _), (by decide : 0 + 11 ≤ _)⟩)
      dsimp only [Pt.U, Pt.locs, Pt.cells, Pt.slots] at X240_ l240 y240 z240 st240 hQ240 hG240 hs240 hc240
      rw [l240, y240, z240] at X240_
      obtain ⟨X240, hS240, hZ240, hown240⟩ := rebS (s := s) (vm0 := s.vm) hS (by rw [e0]; exact hk) X240_ hs240 hG240 hZ hown
      replace hS := hS240
      replace hZ := hZ240
      replace hown := hown240
      replace hCH := hCH.trans hc240
      replace hk : T240.heap.size ≤ T240.heap.size := Nat.le_refl _
      obtain ⟨u1, rfl, Nq240, K_u1, S_u1⟩ := hQ240
      have N240 := Fr.app N0 Nq240
      have k241_ : ∀ t, Steps p.tables e below (T240.setTop (mkF m 91 #[.val (.int p0), .val (.int p1), .val (.int p2), .val (.int p3), .val (.int p4), .val (.int eb), .val (.int el), .val (.int (1 : Int32)), .val (.int (1 : Int32)), .val .null, .val .null, .unset, .unset, .unset, .unset, .unset, .unset] [(.ref u1)])) t → Steps p.tables e below (s₁.setTop (mkF m 0 #[.val (.int p0), .val (.int p1), .val (.int p2), .val (.int p3), .val (.int p4), .unset, .unset, .unset, .unset, .unset, .unset, .unset, .unset, .unset, .unset, .unset, .unset] [])) t := fun t q => k239_ t (st240.trans q)
      replace X00 := X00.keep K_u1 all0
      replace Zn := Nat.le_trans Zn K_u1.1
      have k242_ : ∀ t, Steps p.tables e below (T240.setTop (mkF m 95 #[.val (.int p0), .val (.int p1), .val (.int p2), .val (.int p3), .val (.int p4), .val (.int eb), .val (.int el), .val (.int (1 : Int32)), .val (.int (1 : Int32)), .val .null, .val .null, .val (.ref u1), .unset, .unset, .unset, .unset, .unset] [(.int el)])) t → Steps p.tables e below (s₁.setTop (mkF m 0 #[.val (.int p0), .val (.int p1), .val (.int p2), .val (.int p3), .val (.int p4), .unset, .unset, .unset, .unset, .unset, .unset, .unset, .unset, .unset, .unset, .unset, .unset] [])) t := by
        intro t q
        refine k241_ _ ?_
        show Steps p.tables e below (T240.setTop (mkF m 91 #[.val (.int p0), .val (.int p1), .val (.int p2), .val (.int p3), .val (.int p4), .val (.int eb), .val (.int el), .val (.int (1 : Int32)), .val (.int (1 : Int32)), .val .null, .val .null, .unset, .unset, .unset, .unset, .unset, .unset] [(.ref u1)])) _
        refine XS.astore X240.here hx rfl (hb hby at_91) rfl rfl (l' := #[.val (.int p0), .val (.int p1), .val (.int p2), .val (.int p3), .val (.int p4), .val (.int eb), .val (.int el), .val (.int (1 : Int32)), .val (.int (1 : Int32)), .val .null, .val .null, .val (.ref u1), .unset, .unset, .unset, .unset, .unset]) rfl ?_
        refine XS.iload X240.here hx rfl (hb hby at_93) rfl ?_
        show Steps p.tables e below (T240.setTop (mkF m 95 #[.val (.int p0), .val (.int p1), .val (.int p2), .val (.int p3), .val (.int p4), .val (.int eb), .val (.int el), .val (.int (1 : Int32)), .val (.int (1 : Int32)), .val .null, .val .null, .val (.ref u1), .unset, .unset, .unset, .unset, .unset] [(.int el)])) _
        exact q
      obtain ⟨_, _, ⟨T243, L243, kk243, n243⟩, -, X243_, hs243, hG243, ⟨Lc243, hQ243, l243, y243, z243, hc243⟩, st243⟩ := callSS X240 hx (y := (⟨"com/example/triplewright/triplewright/source/ElementNameMatchesPinLaw", "mk", "(I)Ljava/lang/String;"⟩ : MethodName)) hown (mvT hZ (hw _ (List.mem_of_getElem? (i := 1) rfl))) (mvT hZ (hw _ (List.mem_of_getElem? (i := 2) rfl))) (mvT hZ (hw _ (List.mem_of_getElem? (i := 3) rfl))) (mvT hZ (hw _ (List.mem_of_getElem? (i := 4) rfl))) (by decide) (backOfSH (s := s) (vm0 := T240.vm) (EL := own_EL) (W := 0) (rmM l Z a0 hw [] el zc T240.heap n0 Zn O2 hzc X00 wS hEL) hZ (hw _ (List.mem_of_getElem? (i := 4) rfl)) (hw _ (List.mem_of_getElem? (i := 3) rfl)) (by decide) (by decide) hEL hCH.1) (g := (mkF m 95 #[.val (.int p0), .val (.int p1), .val (.int p2), .val (.int p3), .val (.int p4), .val (.int eb), .val (.int el), .val (.int (1 : Int32)), .val (.int (1 : Int32)), .val .null, .val .null, .val (.ref u1), .unset, .unset, .unset, .unset, .unset] [(.int el)])) rfl (by rw [hml]; rfl) (argsL := [(.int el)]) (rest := []) (lenOf pd_88406 rfl) rfl (by show 2 * 0 + _ ≤ _; exact Nat.le_of_eq rfl) (hb hby at_95) (fun _ _ => ⟨rfl, rfl, (by decide : 0 + 4 + 4 ≤ _), (by decide : 0 + 11 + 11 ≤ _)⟩)
      dsimp only [Pt.U, Pt.locs, Pt.cells, Pt.slots] at X243_ l243 y243 z243 st243 hQ243 hG243 hs243 hc243
      rw [l243, y243, z243] at X243_
      obtain ⟨X243, hS243, hZ243, hown243⟩ := rebS (s := s) (vm0 := T240.vm) hS hk X243_ hs243 hG243 hZ hown
      replace hS := hS243
      replace hZ := hZ243
      replace hown := hown243
      replace hCH := hCH.trans hc243
      replace hk : T243.heap.size ≤ T243.heap.size := Nat.le_refl _
      obtain ⟨u2, rfl, Nq243, K_u2, S_u2⟩ := hQ243
      have N243 := Fr.app N240 Nq243
      have k244_ : ∀ t, Steps p.tables e below (T243.setTop (mkF m 98 #[.val (.int p0), .val (.int p1), .val (.int p2), .val (.int p3), .val (.int p4), .val (.int eb), .val (.int el), .val (.int (1 : Int32)), .val (.int (1 : Int32)), .val .null, .val .null, .val (.ref u1), .unset, .unset, .unset, .unset, .unset] [(.ref u2)])) t → Steps p.tables e below (s₁.setTop (mkF m 0 #[.val (.int p0), .val (.int p1), .val (.int p2), .val (.int p3), .val (.int p4), .unset, .unset, .unset, .unset, .unset, .unset, .unset, .unset, .unset, .unset, .unset, .unset] [])) t := fun t q => k242_ t (st243.trans q)
      replace X00 := X00.keep K_u2 all0
      replace Zn := Nat.le_trans Zn K_u2.1
      replace S_u1 := own_Str_keep S_u1 K_u2
      have k245_ : ∀ t, Steps p.tables e below (T243.setTop (mkF m 100 #[.val (.int p0), .val (.int p1), .val (.int p2), .val (.int p3), .val (.int p4), .val (.int eb), .val (.int el), .val (.int (1 : Int32)), .val (.int (1 : Int32)), .val .null, .val .null, .val (.ref u1), .val (.ref u2), .unset, .unset, .unset, .unset] [])) t → Steps p.tables e below (s₁.setTop (mkF m 0 #[.val (.int p0), .val (.int p1), .val (.int p2), .val (.int p3), .val (.int p4), .unset, .unset, .unset, .unset, .unset, .unset, .unset, .unset, .unset, .unset, .unset, .unset] [])) t := by
        intro t q
        refine k244_ _ ?_
        show Steps p.tables e below (T243.setTop (mkF m 98 #[.val (.int p0), .val (.int p1), .val (.int p2), .val (.int p3), .val (.int p4), .val (.int eb), .val (.int el), .val (.int (1 : Int32)), .val (.int (1 : Int32)), .val .null, .val .null, .val (.ref u1), .unset, .unset, .unset, .unset, .unset] [(.ref u2)])) _
        refine XS.astore X243.here hx rfl (hb hby at_98) rfl rfl (l' := #[.val (.int p0), .val (.int p1), .val (.int p2), .val (.int p3), .val (.int p4), .val (.int eb), .val (.int el), .val (.int (1 : Int32)), .val (.int (1 : Int32)), .val .null, .val .null, .val (.ref u1), .val (.ref u2), .unset, .unset, .unset, .unset]) rfl ?_
        show Steps p.tables e below (T243.setTop (mkF m 100 #[.val (.int p0), .val (.int p1), .val (.int p2), .val (.int p3), .val (.int p4), .val (.int eb), .val (.int el), .val (.int (1 : Int32)), .val (.int (1 : Int32)), .val .null, .val .null, .val (.ref u1), .val (.ref u2), .unset, .unset, .unset, .unset] [])) _
        exact q
      obtain ⟨T246, h246, X246, e246, E246, A246, D246, -, st246⟩ := newO X243 hx hZ hown (hw _ (List.mem_of_getElem? (i := 44) rfl)) (hw _ (List.mem_of_getElem? (i := 45) rfl)) (hw _ (List.mem_of_getElem? (i := 46) rfl)) rfl (g := (mkF m 100 #[.val (.int p0), .val (.int p1), .val (.int p2), .val (.int p3), .val (.int p4), .val (.int eb), .val (.int el), .val (.int (1 : Int32)), .val (.int (1 : Int32)), .val .null, .val .null, .val (.ref u1), .val (.ref u2), .unset, .unset, .unset, .unset] [])) rfl (hb hby at_100) (by decide) (by decide)
      obtain ⟨b246, g246⟩ : ∃ z, z = T243.heap.size := ⟨_, rfl⟩
      rw [← g246] at A246 D246 st246
      have k247_ : ∀ t, Steps p.tables e below (T246.setTop (mkF m 103 #[.val (.int p0), .val (.int p1), .val (.int p2), .val (.int p3), .val (.int p4), .val (.int eb), .val (.int el), .val (.int (1 : Int32)), .val (.int (1 : Int32)), .val .null, .val .null, .val (.ref u1), .val (.ref u2), .unset, .unset, .unset, .unset] [(.ref b246)])) t → Steps p.tables e below (s₁.setTop (mkF m 0 #[.val (.int p0), .val (.int p1), .val (.int p2), .val (.int p3), .val (.int p4), .unset, .unset, .unset, .unset, .unset, .unset, .unset, .unset, .unset, .unset, .unset, .unset] [])) t := fun t q => k245_ t (st246 t q)
      have gb : n0 ≤ b246 := Nat.le_trans Zn (Nat.le_of_eq g246.symm)
      have KN := (Keep.refl _ []).ext E246
      replace X00 := X00.ext E246
      replace Zn := Nat.le_trans Zn E246.1
      replace hk := Nat.le_trans hk E246.1
      replace hCH := hCH.trans (CHr.ext E246 hCH.1)
      replace S_u1 := own_Str_keep S_u1 KN
      replace S_u2 := own_Str_keep S_u2 KN
      have F_namespace : Fld Z h246 b246 "com/example/triplewright/triplewright/source/XmlParser$ElementName" "namespace" "Ljava/lang/String;" .null := D246 (Or.inr (hw _ (List.mem_of_getElem? (i := 57) rfl))) (ty := (.object "java/lang/String")) (by decide)
      have F_localName : Fld Z h246 b246 "com/example/triplewright/triplewright/source/XmlParser$ElementName" "localName" "Ljava/lang/String;" .null := D246 (Or.inr (hw _ (List.mem_of_getElem? (i := 59) rfl))) (ty := (.object "java/lang/String")) (by decide)
      have SB : Safe Z own_EL T243.vm h246 b246 := Safe.exa hZ.alike A246 (by decide) (by decide)
      have k248_ : ∀ t, Steps p.tables e below (T246.setTop (mkF m 108 #[.val (.int p0), .val (.int p1), .val (.int p2), .val (.int p3), .val (.int p4), .val (.int eb), .val (.int el), .val (.int (1 : Int32)), .val (.int (1 : Int32)), .val .null, .val .null, .val (.ref u1), .val (.ref u2), .unset, .unset, .unset, .unset] [.null, .null, (.ref b246), (.ref b246)])) t → Steps p.tables e below (s₁.setTop (mkF m 0 #[.val (.int p0), .val (.int p1), .val (.int p2), .val (.int p3), .val (.int p4), .unset, .unset, .unset, .unset, .unset, .unset, .unset, .unset, .unset, .unset, .unset, .unset] [])) t := by
        intro t q
        refine k247_ _ ?_
        show Steps p.tables e below (T246.setTop (mkF m 103 #[.val (.int p0), .val (.int p1), .val (.int p2), .val (.int p3), .val (.int p4), .val (.int eb), .val (.int el), .val (.int (1 : Int32)), .val (.int (1 : Int32)), .val .null, .val .null, .val (.ref u1), .val (.ref u2), .unset, .unset, .unset, .unset] [(.ref b246)])) _
        refine XS.dup X246.here hx rfl (hb hby at_103) rfl rfl ?_
        refine XS.aload X246.here hx rfl (hb hby at_104) rfl rfl ?_
        show Steps p.tables e below (T246.setTop (mkF m 106 #[.val (.int p0), .val (.int p1), .val (.int p2), .val (.int p3), .val (.int p4), .val (.int eb), .val (.int el), .val (.int (1 : Int32)), .val (.int (1 : Int32)), .val .null, .val .null, .val (.ref u1), .val (.ref u2), .unset, .unset, .unset, .unset] [.null, (.ref b246), (.ref b246)])) _
        refine XS.aload X246.here hx rfl (hb hby at_106) rfl rfl ?_
        show Steps p.tables e below (T246.setTop (mkF m 108 #[.val (.int p0), .val (.int p1), .val (.int p2), .val (.int p3), .val (.int p4), .val (.int eb), .val (.int el), .val (.int (1 : Int32)), .val (.int (1 : Int32)), .val .null, .val .null, .val (.ref u1), .val (.ref u2), .unset, .unset, .unset, .unset] [.null, .null, (.ref b246), (.ref b246)])) _
        exact q
      obtain ⟨_, _, ⟨T249, L249, kk249, n249⟩, -, X249, ⟨Lc249, hQ249, l249, y249, z249⟩, st249⟩ := X246.specialBack hx (y := (⟨"com/example/triplewright/triplewright/source/XmlParser$ElementName", "<init>", "(Ljava/lang/String;Ljava/lang/String;)V"⟩ : MethodName)) rfl hown (mvT hZ (hw _ (List.mem_of_getElem? (i := 47) rfl))) (mvT hZ (hw _ (List.mem_of_getElem? (i := 48) rfl))) (mvT hZ (hw _ (List.mem_of_getElem? (i := 49) rfl))) (by decide) (backOf (W := 1) (rmE11 l Z a0 hw [] b246 h246 n0 Zn A246 F_namespace F_localName gb) hZ (hw _ (List.mem_of_getElem? (i := 49) rfl)) (hw _ (List.mem_of_getElem? (i := 46) rfl)) (by decide) (by decide)) (g := (mkF m 108 #[.val (.int p0), .val (.int p1), .val (.int p2), .val (.int p3), .val (.int p4), .val (.int eb), .val (.int el), .val (.int (1 : Int32)), .val (.int (1 : Int32)), .val .null, .val .null, .val (.ref u1), .val (.ref u2), .unset, .unset, .unset, .unset] [.null, .null, (.ref b246), (.ref b246)])) rfl (by rw [hml]; rfl) (Steps.refl _) (a := b246) (argsL := [.null, .null]) (rest := [(.ref b246)]) (lenOf pd_38756 rfl) rfl (by show 2 * 0 + _ ≤ _; exact Nat.le_of_eq rfl) (hb hby at_108) (fun _ _ => ⟨rfl, e246, (by decide : 0 + 4 + 4 + 1 + 0 ≤ _), (by decide : 0 + 11 + 11 + 2 + 0 ≤ _)⟩)
      dsimp only [Pt.U, Pt.locs, Pt.cells, Pt.slots] at X249 l249 y249 z249 st249 hQ249
      rw [l249, y249, z249] at X249
      obtain ⟨rfl, Nq249, KI, EI, F1, F2⟩ := hQ249
      have N249 := Fr.app N243 Nq249
      have k250_ : ∀ t, Steps p.tables e below (T249.setTop (mkF m 111 #[.val (.int p0), .val (.int p1), .val (.int p2), .val (.int p3), .val (.int p4), .val (.int eb), .val (.int el), .val (.int (1 : Int32)), .val (.int (1 : Int32)), .val .null, .val .null, .val (.ref u1), .val (.ref u2), .unset, .unset, .unset, .unset] [(.ref b246)])) t → Steps p.tables e below (s₁.setTop (mkF m 0 #[.val (.int p0), .val (.int p1), .val (.int p2), .val (.int p3), .val (.int p4), .unset, .unset, .unset, .unset, .unset, .unset, .unset, .unset, .unset, .unset, .unset, .unset] [])) t := fun t q => k248_ t (st249.trans q)
      replace hCH := hCH.trans (CHr.keep KI (sfS SB sf0) hCH.1)
      replace Zn := Nat.le_trans Zn KI.1
      replace hk := Nat.le_trans hk KI.1
      replace X00 := X00.keep KI (allS gb all0)
      replace S_u1 := own_Str_new S_u1 KI A246 (hw _ (List.mem_of_getElem? (i := 45) rfl)) (by decide)
      replace S_u2 := own_Str_new S_u2 KI A246 (hw _ (List.mem_of_getElem? (i := 45) rfl)) (by decide)
      have k251_ : ∀ t, Steps p.tables e below (T249.setTop (mkF m 119 #[.val (.int p0), .val (.int p1), .val (.int p2), .val (.int p3), .val (.int p4), .val (.int eb), .val (.int el), .val (.int (1 : Int32)), .val (.int (1 : Int32)), .val .null, .val .null, .val (.ref u1), .val (.ref u2), .val (.ref b246), .unset, .unset, .unset] [(.ref u2), (.ref u1), (.ref b246)])) t → Steps p.tables e below (s₁.setTop (mkF m 0 #[.val (.int p0), .val (.int p1), .val (.int p2), .val (.int p3), .val (.int p4), .unset, .unset, .unset, .unset, .unset, .unset, .unset, .unset, .unset, .unset, .unset, .unset] [])) t := by
        intro t q
        refine k250_ _ ?_
        show Steps p.tables e below (T249.setTop (mkF m 111 #[.val (.int p0), .val (.int p1), .val (.int p2), .val (.int p3), .val (.int p4), .val (.int eb), .val (.int el), .val (.int (1 : Int32)), .val (.int (1 : Int32)), .val .null, .val .null, .val (.ref u1), .val (.ref u2), .unset, .unset, .unset, .unset] [(.ref b246)])) _
        refine XS.astore X249.here hx rfl (hb hby at_111) rfl rfl (l' := #[.val (.int p0), .val (.int p1), .val (.int p2), .val (.int p3), .val (.int p4), .val (.int eb), .val (.int el), .val (.int (1 : Int32)), .val (.int (1 : Int32)), .val .null, .val .null, .val (.ref u1), .val (.ref u2), .val (.ref b246), .unset, .unset, .unset]) rfl ?_
        refine XS.aload X249.here hx rfl (hb hby at_113) rfl rfl ?_
        show Steps p.tables e below (T249.setTop (mkF m 115 #[.val (.int p0), .val (.int p1), .val (.int p2), .val (.int p3), .val (.int p4), .val (.int eb), .val (.int el), .val (.int (1 : Int32)), .val (.int (1 : Int32)), .val .null, .val .null, .val (.ref u1), .val (.ref u2), .val (.ref b246), .unset, .unset, .unset] [(.ref b246)])) _
        refine XS.aload X249.here hx rfl (hb hby at_115) rfl rfl ?_
        refine XS.aload X249.here hx rfl (hb hby at_117) rfl rfl ?_
        show Steps p.tables e below (T249.setTop (mkF m 119 #[.val (.int p0), .val (.int p1), .val (.int p2), .val (.int p3), .val (.int p4), .val (.int eb), .val (.int el), .val (.int (1 : Int32)), .val (.int (1 : Int32)), .val .null, .val .null, .val (.ref u1), .val (.ref u2), .val (.ref b246), .unset, .unset, .unset] [(.ref u2), (.ref u1), (.ref b246)])) _
        exact q
      obtain ⟨cq252, kq252, q252a, q252b, q252c⟩ := isOf hZ rfl EI
      obtain ⟨_, _, ⟨T252, L252, kk252, n252⟩, -, X252, ⟨Lc252, hQ252, l252, y252, z252⟩, st252⟩ := X249.virtualBack hx (y := (⟨"com/example/triplewright/triplewright/source/XmlParser$ElementName", "matches", "(Ljava/lang/String;Ljava/lang/String;)Z"⟩ : MethodName)) (z := (⟨"com/example/triplewright/triplewright/source/XmlParser$ElementName", "matches", "(Ljava/lang/String;Ljava/lang/String;)Z"⟩ : MethodName)) hown (mvT hZ (hw _ (List.mem_of_getElem? (i := 60) rfl))) (mvT hZ (hw _ (List.mem_of_getElem? (i := 61) rfl))) (notFace_of_selects (args := #[]) (mvT hZ (hw _ (List.mem_of_getElem? (i := 63) rfl)))) (mvT hZ (hw _ (List.mem_of_getElem? (i := 63) rfl))) (mvT hZ (hw _ (List.mem_of_getElem? (i := 62) rfl))) (by decide) (backOf (W := 0) (rmT11 l Z a0 hw [] b246 u1 u2 p0 eb p1 el zc T249.heap n0 Zn F1 F2 S_u1 S_u2 O2 hzc X00) hZ (hw _ (List.mem_of_getElem? (i := 64) rfl)) (hw _ (List.mem_of_getElem? (i := 46) rfl)) (by decide) (by decide)) q252a q252c (g := (mkF m 119 #[.val (.int p0), .val (.int p1), .val (.int p2), .val (.int p3), .val (.int p4), .val (.int eb), .val (.int el), .val (.int (1 : Int32)), .val (.int (1 : Int32)), .val .null, .val .null, .val (.ref u1), .val (.ref u2), .val (.ref b246), .unset, .unset, .unset] [(.ref u2), (.ref u1), (.ref b246)])) rfl (by rw [hml]; rfl) (Steps.refl _) (argsL := [(.ref u1), (.ref u2)]) (rest := []) (lenOf pd_38760 rfl) rfl (by show 2 * 0 + _ ≤ _; exact Nat.le_of_eq rfl) (hb hby at_119) (fun _ _ => ⟨rfl, rfl, (by decide : 0 + 4 + 4 + 1 + 0 + 0 ≤ _), (by decide : 0 + 11 + 11 + 2 + 0 + 0 ≤ _)⟩)
      dsimp only [Pt.U, Pt.locs, Pt.cells, Pt.slots] at X252 l252 y252 z252 st252 hQ252
      rw [l252, y252, z252] at X252
      obtain ⟨rfl, Nq252, hq252⟩ := hQ252
      have N252 := Fr.app N249 Nq252
      have k253_ : ∀ t, Steps p.tables e below (T252.setTop (mkF m 122 #[.val (.int p0), .val (.int p1), .val (.int p2), .val (.int p3), .val (.int p4), .val (.int eb), .val (.int el), .val (.int (1 : Int32)), .val (.int (1 : Int32)), .val .null, .val .null, .val (.ref u1), .val (.ref u2), .val (.ref b246), .unset, .unset, .unset] [(.int (bi ((True) ∧ (True))))])) t → Steps p.tables e below (s₁.setTop (mkF m 0 #[.val (.int p0), .val (.int p1), .val (.int p2), .val (.int p3), .val (.int p4), .unset, .unset, .unset, .unset, .unset, .unset, .unset, .unset, .unset, .unset, .unset, .unset] [])) t := fun t q => k251_ t (st252.trans q)
      have k254_ : ∀ t, Steps p.tables e below (T252.setTop (mkF m 122 #[.val (.int p0), .val (.int p1), .val (.int p2), .val (.int p3), .val (.int p4), .val (.int eb), .val (.int el), .val (.int (1 : Int32)), .val (.int (1 : Int32)), .val .null, .val .null, .val (.ref u1), .val (.ref u2), .val (.ref b246), .unset, .unset, .unset] [(.int (1 : Int32))])) t → Steps p.tables e below (s₁.setTop (mkF m 0 #[.val (.int p0), .val (.int p1), .val (.int p2), .val (.int p3), .val (.int p4), .unset, .unset, .unset, .unset, .unset, .unset, .unset, .unset, .unset, .unset, .unset, .unset] [])) t := fun t q => k253_ t (Eq.mp (congrArg (fun z => Steps p.tables e below (T252.setTop (mkF m 122 #[.val (.int p0), .val (.int p1), .val (.int p2), .val (.int p3), .val (.int p4), .val (.int eb), .val (.int el), .val (.int (1 : Int32)), .val (.int (1 : Int32)), .val .null, .val .null, .val (.ref u1), .val (.ref u2), .val (.ref b246), .unset, .unset, .unset] [(.int z)])) t) (show (1 : Int32) = (bi ((True) ∧ (True))) from (bi_t ⟨trivial, trivial⟩).symm)) q)
      have k255_ : ∀ t, Steps p.tables e below (T252.setTop (mkF m 126 #[.val (.int p0), .val (.int p1), .val (.int p2), .val (.int p3), .val (.int p4), .val (.int eb), .val (.int el), .val (.int (1 : Int32)), .val (.int (1 : Int32)), .val .null, .val .null, .val (.ref u1), .val (.ref u2), .val (.ref b246), .val (.int (1 : Int32)), .unset, .unset] [(.int (1 : Int32))])) t → Steps p.tables e below (s₁.setTop (mkF m 0 #[.val (.int p0), .val (.int p1), .val (.int p2), .val (.int p3), .val (.int p4), .unset, .unset, .unset, .unset, .unset, .unset, .unset, .unset, .unset, .unset, .unset, .unset] [])) t := by
        intro t q
        refine k254_ _ ?_
        show Steps p.tables e below (T252.setTop (mkF m 122 #[.val (.int p0), .val (.int p1), .val (.int p2), .val (.int p3), .val (.int p4), .val (.int eb), .val (.int el), .val (.int (1 : Int32)), .val (.int (1 : Int32)), .val .null, .val .null, .val (.ref u1), .val (.ref u2), .val (.ref b246), .unset, .unset, .unset] [(.int (1 : Int32))])) _
        refine XS.istore X252.here hx rfl (hb hby at_122) rfl (l' := #[.val (.int p0), .val (.int p1), .val (.int p2), .val (.int p3), .val (.int p4), .val (.int eb), .val (.int el), .val (.int (1 : Int32)), .val (.int (1 : Int32)), .val .null, .val .null, .val (.ref u1), .val (.ref u2), .val (.ref b246), .val (.int (1 : Int32)), .unset, .unset]) rfl ?_
        refine XS.iload X252.here hx rfl (hb hby at_124) rfl ?_
        show Steps p.tables e below (T252.setTop (mkF m 126 #[.val (.int p0), .val (.int p1), .val (.int p2), .val (.int p3), .val (.int p4), .val (.int eb), .val (.int el), .val (.int (1 : Int32)), .val (.int (1 : Int32)), .val .null, .val .null, .val (.ref u1), .val (.ref u2), .val (.ref b246), .val (.int (1 : Int32)), .unset, .unset] [(.int (1 : Int32))])) _
        exact q
      have k256_ : ∀ t, Steps p.tables e below (T252.setTop (mkF m 138 #[.val (.int p0), .val (.int p1), .val (.int p2), .val (.int p3), .val (.int p4), .val (.int eb), .val (.int el), .val (.int (1 : Int32)), .val (.int (1 : Int32)), .val .null, .val .null, .val (.ref u1), .val (.ref u2), .val (.ref b246), .val (.int (1 : Int32)), .unset, .unset] [])) t → Steps p.tables e below (s₁.setTop (mkF m 0 #[.val (.int p0), .val (.int p1), .val (.int p2), .val (.int p3), .val (.int p4), .unset, .unset, .unset, .unset, .unset, .unset, .unset, .unset, .unset, .unset, .unset, .unset] [])) t := by
        intro t q
        refine k255_ _ ?_
        show Steps p.tables e below (T252.setTop (mkF m 126 #[.val (.int p0), .val (.int p1), .val (.int p2), .val (.int p3), .val (.int p4), .val (.int eb), .val (.int el), .val (.int (1 : Int32)), .val (.int (1 : Int32)), .val .null, .val .null, .val (.ref u1), .val (.ref u2), .val (.ref b246), .val (.int (1 : Int32)), .unset, .unset] [(.int (1 : Int32))])) _
        refine XS.ifYes X252.here hx rfl (pc0 := 126) (pc' := 138) rfl (hb hby at_126) rfl ((if0 _ _).trans (feq (by decide)).2) (by decide) (by decide) ?_
        show Steps p.tables e below (T252.setTop (mkF m 138 #[.val (.int p0), .val (.int p1), .val (.int p2), .val (.int p3), .val (.int p4), .val (.int eb), .val (.int el), .val (.int (1 : Int32)), .val (.int (1 : Int32)), .val .null, .val .null, .val (.ref u1), .val (.ref u2), .val (.ref b246), .val (.int (1 : Int32)), .unset, .unset] [])) _
        exact q
      have k257_ : ∀ t, Steps p.tables e below (T252.setTop (mkF m 147 #[.val (.int p0), .val (.int p1), .val (.int p2), .val (.int p3), .val (.int p4), .val (.int eb), .val (.int el), .val (.int (1 : Int32)), .val (.int (1 : Int32)), .val .null, .val .null, .val (.ref u1), .val (.ref u2), .val (.ref b246), .val (.int (1 : Int32)), .val (.int (1 : Int32)), .unset] [(.int (1 : Int32))])) t → Steps p.tables e below (s₁.setTop (mkF m 0 #[.val (.int p0), .val (.int p1), .val (.int p2), .val (.int p3), .val (.int p4), .unset, .unset, .unset, .unset, .unset, .unset, .unset, .unset, .unset, .unset, .unset, .unset] [])) t := by
        intro t q
        refine k256_ _ ?_
        show Steps p.tables e below (T252.setTop (mkF m 138 #[.val (.int p0), .val (.int p1), .val (.int p2), .val (.int p3), .val (.int p4), .val (.int eb), .val (.int el), .val (.int (1 : Int32)), .val (.int (1 : Int32)), .val .null, .val .null, .val (.ref u1), .val (.ref u2), .val (.ref b246), .val (.int (1 : Int32)), .unset, .unset] [])) _
        refine XS.iconst X252.here hx rfl (hb hby at_138) ?_
        refine XS.goto X252.here hx rfl (pc0 := 139) (pc' := 143) rfl (hb hby at_139) (by decide) (by decide) ?_
        show Steps p.tables e below (T252.setTop (mkF m 143 #[.val (.int p0), .val (.int p1), .val (.int p2), .val (.int p3), .val (.int p4), .val (.int eb), .val (.int el), .val (.int (1 : Int32)), .val (.int (1 : Int32)), .val .null, .val .null, .val (.ref u1), .val (.ref u2), .val (.ref b246), .val (.int (1 : Int32)), .unset, .unset] [(.int (1 : Int32))])) _
        refine XS.istore X252.here hx rfl (hb hby at_143) rfl (l' := #[.val (.int p0), .val (.int p1), .val (.int p2), .val (.int p3), .val (.int p4), .val (.int eb), .val (.int el), .val (.int (1 : Int32)), .val (.int (1 : Int32)), .val .null, .val .null, .val (.ref u1), .val (.ref u2), .val (.ref b246), .val (.int (1 : Int32)), .val (.int (1 : Int32)), .unset]) rfl ?_
        refine XS.iload X252.here hx rfl (hb hby at_145) rfl ?_
        show Steps p.tables e below (T252.setTop (mkF m 147 #[.val (.int p0), .val (.int p1), .val (.int p2), .val (.int p3), .val (.int p4), .val (.int eb), .val (.int el), .val (.int (1 : Int32)), .val (.int (1 : Int32)), .val .null, .val .null, .val (.ref u1), .val (.ref u2), .val (.ref b246), .val (.int (1 : Int32)), .val (.int (1 : Int32)), .unset] [(.int (1 : Int32))])) _
        exact q
      have k258_ : ∀ t, Steps p.tables e below (T252.setTop (mkF m 159 #[.val (.int p0), .val (.int p1), .val (.int p2), .val (.int p3), .val (.int p4), .val (.int eb), .val (.int el), .val (.int (1 : Int32)), .val (.int (1 : Int32)), .val .null, .val .null, .val (.ref u1), .val (.ref u2), .val (.ref b246), .val (.int (1 : Int32)), .val (.int (1 : Int32)), .unset] [])) t → Steps p.tables e below (s₁.setTop (mkF m 0 #[.val (.int p0), .val (.int p1), .val (.int p2), .val (.int p3), .val (.int p4), .unset, .unset, .unset, .unset, .unset, .unset, .unset, .unset, .unset, .unset, .unset, .unset] [])) t := by
        intro t q
        refine k257_ _ ?_
        show Steps p.tables e below (T252.setTop (mkF m 147 #[.val (.int p0), .val (.int p1), .val (.int p2), .val (.int p3), .val (.int p4), .val (.int eb), .val (.int el), .val (.int (1 : Int32)), .val (.int (1 : Int32)), .val .null, .val .null, .val (.ref u1), .val (.ref u2), .val (.ref b246), .val (.int (1 : Int32)), .val (.int (1 : Int32)), .unset] [(.int (1 : Int32))])) _
        refine XS.ifYes X252.here hx rfl (pc0 := 147) (pc' := 159) rfl (hb hby at_147) rfl ((if0 _ _).trans (feq (by decide)).2) (by decide) (by decide) ?_
        show Steps p.tables e below (T252.setTop (mkF m 159 #[.val (.int p0), .val (.int p1), .val (.int p2), .val (.int p3), .val (.int p4), .val (.int eb), .val (.int el), .val (.int (1 : Int32)), .val (.int (1 : Int32)), .val .null, .val .null, .val (.ref u1), .val (.ref u2), .val (.ref b246), .val (.int (1 : Int32)), .val (.int (1 : Int32)), .unset] [])) _
        exact q
      have k259_ : ∀ t, Steps p.tables e below (T252.setTop (mkF m 170 #[.val (.int p0), .val (.int p1), .val (.int p2), .val (.int p3), .val (.int p4), .val (.int eb), .val (.int el), .val (.int (1 : Int32)), .val (.int (1 : Int32)), .val .null, .val .null, .val (.ref u1), .val (.ref u2), .val (.ref b246), .val (.int (1 : Int32)), .val (.int (1 : Int32)), .val (.int (1 : Int32))] [(.int (1 : Int32)), (.int (1 : Int32))])) t → Steps p.tables e below (s₁.setTop (mkF m 0 #[.val (.int p0), .val (.int p1), .val (.int p2), .val (.int p3), .val (.int p4), .unset, .unset, .unset, .unset, .unset, .unset, .unset, .unset, .unset, .unset, .unset, .unset] [])) t := by
        intro t q
        refine k258_ _ ?_
        show Steps p.tables e below (T252.setTop (mkF m 159 #[.val (.int p0), .val (.int p1), .val (.int p2), .val (.int p3), .val (.int p4), .val (.int eb), .val (.int el), .val (.int (1 : Int32)), .val (.int (1 : Int32)), .val .null, .val .null, .val (.ref u1), .val (.ref u2), .val (.ref b246), .val (.int (1 : Int32)), .val (.int (1 : Int32)), .unset] [])) _
        refine XS.iconst X252.here hx rfl (hb hby at_159) ?_
        refine XS.goto X252.here hx rfl (pc0 := 160) (pc' := 164) rfl (hb hby at_160) (by decide) (by decide) ?_
        show Steps p.tables e below (T252.setTop (mkF m 164 #[.val (.int p0), .val (.int p1), .val (.int p2), .val (.int p3), .val (.int p4), .val (.int eb), .val (.int el), .val (.int (1 : Int32)), .val (.int (1 : Int32)), .val .null, .val .null, .val (.ref u1), .val (.ref u2), .val (.ref b246), .val (.int (1 : Int32)), .val (.int (1 : Int32)), .unset] [(.int (1 : Int32))])) _
        refine XS.istore X252.here hx rfl (hb hby at_164) rfl (l' := #[.val (.int p0), .val (.int p1), .val (.int p2), .val (.int p3), .val (.int p4), .val (.int eb), .val (.int el), .val (.int (1 : Int32)), .val (.int (1 : Int32)), .val .null, .val .null, .val (.ref u1), .val (.ref u2), .val (.ref b246), .val (.int (1 : Int32)), .val (.int (1 : Int32)), .val (.int (1 : Int32))]) rfl ?_
        refine XS.iload X252.here hx rfl (hb hby at_166) rfl ?_
        show Steps p.tables e below (T252.setTop (mkF m 168 #[.val (.int p0), .val (.int p1), .val (.int p2), .val (.int p3), .val (.int p4), .val (.int eb), .val (.int el), .val (.int (1 : Int32)), .val (.int (1 : Int32)), .val .null, .val .null, .val (.ref u1), .val (.ref u2), .val (.ref b246), .val (.int (1 : Int32)), .val (.int (1 : Int32)), .val (.int (1 : Int32))] [(.int (1 : Int32))])) _
        refine XS.iload X252.here hx rfl (hb hby at_168) rfl ?_
        show Steps p.tables e below (T252.setTop (mkF m 170 #[.val (.int p0), .val (.int p1), .val (.int p2), .val (.int p3), .val (.int p4), .val (.int eb), .val (.int el), .val (.int (1 : Int32)), .val (.int (1 : Int32)), .val .null, .val .null, .val (.ref u1), .val (.ref u2), .val (.ref b246), .val (.int (1 : Int32)), .val (.int (1 : Int32)), .val (.int (1 : Int32))] [(.int (1 : Int32)), (.int (1 : Int32))])) _
        exact q
      have k260_ : ∀ t, Steps p.tables e below (T252.setTop (mkF m 173 #[.val (.int p0), .val (.int p1), .val (.int p2), .val (.int p3), .val (.int p4), .val (.int eb), .val (.int el), .val (.int (1 : Int32)), .val (.int (1 : Int32)), .val .null, .val .null, .val (.ref u1), .val (.ref u2), .val (.ref b246), .val (.int (1 : Int32)), .val (.int (1 : Int32)), .val (.int (1 : Int32))] [(.int (1 : Int32))])) t → Steps p.tables e below (s₁.setTop (mkF m 0 #[.val (.int p0), .val (.int p1), .val (.int p2), .val (.int p3), .val (.int p4), .unset, .unset, .unset, .unset, .unset, .unset, .unset, .unset, .unset, .unset, .unset, .unset] [])) t := by
        intro t q
        refine k259_ _ ?_
        show Steps p.tables e below (T252.setTop (mkF m 170 #[.val (.int p0), .val (.int p1), .val (.int p2), .val (.int p3), .val (.int p4), .val (.int eb), .val (.int el), .val (.int (1 : Int32)), .val (.int (1 : Int32)), .val .null, .val .null, .val (.ref u1), .val (.ref u2), .val (.ref b246), .val (.int (1 : Int32)), .val (.int (1 : Int32)), .val (.int (1 : Int32))] [(.int (1 : Int32)), (.int (1 : Int32))])) _
        refine XS.ifNo X252.here hx rfl (hb hby at_170) rfl ((if0 _ _).trans (feq (by decide)).1) ?_
        show Steps p.tables e below (T252.setTop (mkF m 173 #[.val (.int p0), .val (.int p1), .val (.int p2), .val (.int p3), .val (.int p4), .val (.int eb), .val (.int el), .val (.int (1 : Int32)), .val (.int (1 : Int32)), .val .null, .val .null, .val (.ref u1), .val (.ref u2), .val (.ref b246), .val (.int (1 : Int32)), .val (.int (1 : Int32)), .val (.int (1 : Int32))] [(.int (1 : Int32))])) _
        exact q
      have k261_ : ∀ t, Steps p.tables e below (T252.setTop (mkF m 175 #[.val (.int p0), .val (.int p1), .val (.int p2), .val (.int p3), .val (.int p4), .val (.int eb), .val (.int el), .val (.int (1 : Int32)), .val (.int (1 : Int32)), .val .null, .val .null, .val (.ref u1), .val (.ref u2), .val (.ref b246), .val (.int (1 : Int32)), .val (.int (1 : Int32)), .val (.int (1 : Int32))] [(.int (1 : Int32)), (.int (1 : Int32))])) t → Steps p.tables e below (s₁.setTop (mkF m 0 #[.val (.int p0), .val (.int p1), .val (.int p2), .val (.int p3), .val (.int p4), .unset, .unset, .unset, .unset, .unset, .unset, .unset, .unset, .unset, .unset, .unset, .unset] [])) t := by
        intro t q
        refine k260_ _ ?_
        show Steps p.tables e below (T252.setTop (mkF m 173 #[.val (.int p0), .val (.int p1), .val (.int p2), .val (.int p3), .val (.int p4), .val (.int eb), .val (.int el), .val (.int (1 : Int32)), .val (.int (1 : Int32)), .val .null, .val .null, .val (.ref u1), .val (.ref u2), .val (.ref b246), .val (.int (1 : Int32)), .val (.int (1 : Int32)), .val (.int (1 : Int32))] [(.int (1 : Int32))])) _
        refine XS.iload X252.here hx rfl (hb hby at_173) rfl ?_
        show Steps p.tables e below (T252.setTop (mkF m 175 #[.val (.int p0), .val (.int p1), .val (.int p2), .val (.int p3), .val (.int p4), .val (.int eb), .val (.int el), .val (.int (1 : Int32)), .val (.int (1 : Int32)), .val .null, .val .null, .val (.ref u1), .val (.ref u2), .val (.ref b246), .val (.int (1 : Int32)), .val (.int (1 : Int32)), .val (.int (1 : Int32))] [(.int (1 : Int32)), (.int (1 : Int32))])) _
        exact q
      have k262_ : ∀ t, Steps p.tables e below (T252.setTop (mkF m 178 #[.val (.int p0), .val (.int p1), .val (.int p2), .val (.int p3), .val (.int p4), .val (.int eb), .val (.int el), .val (.int (1 : Int32)), .val (.int (1 : Int32)), .val .null, .val .null, .val (.ref u1), .val (.ref u2), .val (.ref b246), .val (.int (1 : Int32)), .val (.int (1 : Int32)), .val (.int (1 : Int32))] [(.int (1 : Int32))])) t → Steps p.tables e below (s₁.setTop (mkF m 0 #[.val (.int p0), .val (.int p1), .val (.int p2), .val (.int p3), .val (.int p4), .unset, .unset, .unset, .unset, .unset, .unset, .unset, .unset, .unset, .unset, .unset, .unset] [])) t := by
        intro t q
        refine k261_ _ ?_
        show Steps p.tables e below (T252.setTop (mkF m 175 #[.val (.int p0), .val (.int p1), .val (.int p2), .val (.int p3), .val (.int p4), .val (.int eb), .val (.int el), .val (.int (1 : Int32)), .val (.int (1 : Int32)), .val .null, .val .null, .val (.ref u1), .val (.ref u2), .val (.ref b246), .val (.int (1 : Int32)), .val (.int (1 : Int32)), .val (.int (1 : Int32))] [(.int (1 : Int32)), (.int (1 : Int32))])) _
        refine XS.ifNo X252.here hx rfl (hb hby at_175) rfl ((if0 _ _).trans (feq (by decide)).1) ?_
        show Steps p.tables e below (T252.setTop (mkF m 178 #[.val (.int p0), .val (.int p1), .val (.int p2), .val (.int p3), .val (.int p4), .val (.int eb), .val (.int el), .val (.int (1 : Int32)), .val (.int (1 : Int32)), .val .null, .val .null, .val (.ref u1), .val (.ref u2), .val (.ref b246), .val (.int (1 : Int32)), .val (.int (1 : Int32)), .val (.int (1 : Int32))] [(.int (1 : Int32))])) _
        exact q
      have k263_ : ∀ t, Steps p.tables e below (T252.setTop (mkF m 183 #[.val (.int p0), .val (.int p1), .val (.int p2), .val (.int p3), .val (.int p4), .val (.int eb), .val (.int el), .val (.int (1 : Int32)), .val (.int (1 : Int32)), .val .null, .val .null, .val (.ref u1), .val (.ref u2), .val (.ref b246), .val (.int (1 : Int32)), .val (.int (1 : Int32)), .val (.int (1 : Int32))] [(.int (1 : Int32)), (.int (1 : Int32))])) t → Steps p.tables e below (s₁.setTop (mkF m 0 #[.val (.int p0), .val (.int p1), .val (.int p2), .val (.int p3), .val (.int p4), .unset, .unset, .unset, .unset, .unset, .unset, .unset, .unset, .unset, .unset, .unset, .unset] [])) t := by
        intro t q
        refine k262_ _ ?_
        show Steps p.tables e below (T252.setTop (mkF m 178 #[.val (.int p0), .val (.int p1), .val (.int p2), .val (.int p3), .val (.int p4), .val (.int eb), .val (.int el), .val (.int (1 : Int32)), .val (.int (1 : Int32)), .val .null, .val .null, .val (.ref u1), .val (.ref u2), .val (.ref b246), .val (.int (1 : Int32)), .val (.int (1 : Int32)), .val (.int (1 : Int32))] [(.int (1 : Int32))])) _
        refine XS.iconst X252.here hx rfl (hb hby at_178) ?_
        refine XS.goto X252.here hx rfl (pc0 := 179) (pc' := 183) rfl (hb hby at_179) (by decide) (by decide) ?_
        show Steps p.tables e below (T252.setTop (mkF m 183 #[.val (.int p0), .val (.int p1), .val (.int p2), .val (.int p3), .val (.int p4), .val (.int eb), .val (.int el), .val (.int (1 : Int32)), .val (.int (1 : Int32)), .val .null, .val .null, .val (.ref u1), .val (.ref u2), .val (.ref b246), .val (.int (1 : Int32)), .val (.int (1 : Int32)), .val (.int (1 : Int32))] [(.int (1 : Int32)), (.int (1 : Int32))])) _
        exact q
      have k264_ : ∀ t, Steps p.tables e below (T252.setTop (mkF m 186 #[.val (.int p0), .val (.int p1), .val (.int p2), .val (.int p3), .val (.int p4), .val (.int eb), .val (.int el), .val (.int (1 : Int32)), .val (.int (1 : Int32)), .val .null, .val .null, .val (.ref u1), .val (.ref u2), .val (.ref b246), .val (.int (1 : Int32)), .val (.int (1 : Int32)), .val (.int (1 : Int32))] [])) t → Steps p.tables e below (s₁.setTop (mkF m 0 #[.val (.int p0), .val (.int p1), .val (.int p2), .val (.int p3), .val (.int p4), .unset, .unset, .unset, .unset, .unset, .unset, .unset, .unset, .unset, .unset, .unset, .unset] [])) t := by
        intro t q
        refine k263_ _ ?_
        show Steps p.tables e below (T252.setTop (mkF m 183 #[.val (.int p0), .val (.int p1), .val (.int p2), .val (.int p3), .val (.int p4), .val (.int eb), .val (.int el), .val (.int (1 : Int32)), .val (.int (1 : Int32)), .val .null, .val .null, .val (.ref u1), .val (.ref u2), .val (.ref b246), .val (.int (1 : Int32)), .val (.int (1 : Int32)), .val (.int (1 : Int32))] [(.int (1 : Int32)), (.int (1 : Int32))])) _
        refine XS.icmpNo X252.here hx rfl (hb hby at_183) rfl (teq rfl).2 ?_
        show Steps p.tables e below (T252.setTop (mkF m 186 #[.val (.int p0), .val (.int p1), .val (.int p2), .val (.int p3), .val (.int p4), .val (.int eb), .val (.int el), .val (.int (1 : Int32)), .val (.int (1 : Int32)), .val .null, .val .null, .val (.ref u1), .val (.ref u2), .val (.ref b246), .val (.int (1 : Int32)), .val (.int (1 : Int32)), .val (.int (1 : Int32))] [])) _
        exact q
      have k265_ : ∀ t, Steps p.tables e below (T252.setTop (mkF m 191 #[.val (.int p0), .val (.int p1), .val (.int p2), .val (.int p3), .val (.int p4), .val (.int eb), .val (.int el), .val (.int (1 : Int32)), .val (.int (1 : Int32)), .val .null, .val .null, .val (.ref u1), .val (.ref u2), .val (.ref b246), .val (.int (1 : Int32)), .val (.int (1 : Int32)), .val (.int (1 : Int32))] [(.int (1 : Int32))])) t → Steps p.tables e below (s₁.setTop (mkF m 0 #[.val (.int p0), .val (.int p1), .val (.int p2), .val (.int p3), .val (.int p4), .unset, .unset, .unset, .unset, .unset, .unset, .unset, .unset, .unset, .unset, .unset, .unset] [])) t := by
        intro t q
        refine k264_ _ ?_
        show Steps p.tables e below (T252.setTop (mkF m 186 #[.val (.int p0), .val (.int p1), .val (.int p2), .val (.int p3), .val (.int p4), .val (.int eb), .val (.int el), .val (.int (1 : Int32)), .val (.int (1 : Int32)), .val .null, .val .null, .val (.ref u1), .val (.ref u2), .val (.ref b246), .val (.int (1 : Int32)), .val (.int (1 : Int32)), .val (.int (1 : Int32))] [])) _
        refine XS.iconst X252.here hx rfl (hb hby at_186) ?_
        refine XS.goto X252.here hx rfl (pc0 := 187) (pc' := 191) rfl (hb hby at_187) (by decide) (by decide) ?_
        show Steps p.tables e below (T252.setTop (mkF m 191 #[.val (.int p0), .val (.int p1), .val (.int p2), .val (.int p3), .val (.int p4), .val (.int eb), .val (.int el), .val (.int (1 : Int32)), .val (.int (1 : Int32)), .val .null, .val .null, .val (.ref u1), .val (.ref u2), .val (.ref b246), .val (.int (1 : Int32)), .val (.int (1 : Int32)), .val (.int (1 : Int32))] [(.int (1 : Int32))])) _
        exact q
      obtain ⟨fs, hr, hrun, hended, r1, r2, r3, r4⟩ := Stand.leaveW (s := s) (vm₁ := T243.vm) X252 hS (by rw [hq252]; exact hk) (v := some (.int (1 : Int32))) (fun h => by rw [Bd.returns] at h; cases h)
      refine ⟨_, _, pre0 _ (k265_ _ ?_), hrun, hended, _, rfl, N252, r1, r2, r3, r4.mono (by decide) (by decide)⟩
      · show Steps p.tables e below (T252.setTop (mkF m 191 #[.val (.int p0), .val (.int p1), .val (.int p2), .val (.int p3), .val (.int p4), .val (.int eb), .val (.int el), .val (.int (1 : Int32)), .val (.int (1 : Int32)), .val .null, .val .null, .val (.ref u1), .val (.ref u2), .val (.ref b246), .val (.int (1 : Int32)), .val (.int (1 : Int32)), .val (.int (1 : Int32))] [(.int (1 : Int32))])) _
        exact retN X252 hx (t := .boolean) Bd.returns (by simp) (hb hby at_191) hr
set_option maxRecDepth 65536 in
set_option maxHeartbeats 40000000 in
theorem comes_1 {Post : Tables → Env → Array Value → State → Outcome → State → Prop} (hpost : ∀ tb e args s v u, (limb_1_1.after args s (.returned v) u = true ∧ limb_1_2.after args s (.returned v) u = true ∧ True) → ReturnedEndW s (.returned v) u (Jvm.fieldLocs frame_1_writes args s ++ Jvm.arrayLocs frame_1_arrays args s ++ Jvm.staticLocs frame_1_statics s) 40 1216 → Post tb e args s (.returned v) u) :
    ArmFor flags0 classFile x code maxLocals ret World_1 tables_1 room_1 Calls_1 rest_1 Pre_1 Post := by
  intro l hfl _ _ p e ha hc hk s m args below hf hA hF happ hP
  obtain ⟨hcalls, hrest, hpre⟩ := hP
  obtain ⟨-, -, -, hnamed, -, -, -, hat⟩ := (Spec.applies_iff hf).mp happ
  obtain ⟨hg, hn⟩ := and_e (Cond.before_iff.mp (show (Jvm.Cond.and given_1 narrow_1).before args s = true from hpre))
  obtain ⟨hcnt, hg0⟩ := and_e hg
  obtain ⟨hi0, hg1⟩ := and_e hg0
  obtain ⟨hi1, hg2⟩ := and_e hg1
  obtain ⟨hi2, hg3⟩ := and_e hg2
  obtain ⟨hi3, hg4⟩ := and_e hg3
  have hi4 := hg4
  obtain ⟨w0, w1, w2, w3, w4, rfl⟩ : ∃ w0 w1 w2 w3 w4 : Value, args = #[w0, w1, w2, w3, w4] := by
    have hs : args.size = 5 := by simpa [Cond.value, given_1] using hcnt
    obtain ⟨L⟩ := args
    match L, hs with
    | [w0, w1, w2, w3, w4], _ => exact ⟨w0, w1, w2, w3, w4, rfl⟩
  have hw := fun d (hd : d ∈ tables_1) => atoms_spec (ws := Jvm.Cond.code x code maxLocals ret :: tables_1) hat d (List.mem_cons_of_mem _ hd)
  have hfit : Fit s := fun {y c} hc i hi => by
    obtain ⟨ha, rfl⟩ := Array.getElem?_eq_some_iff.mp hc
    have q := List.all_eq_true.mp ((Array.all_eq_true_iff_forall_mem.mp hF) _ (Array.getElem_mem ha)) i (List.mem_range.mpr hi)
    simpa [Array.getElem?_eq_getElem hi] using q
  obtain ⟨i0, ei0⟩ := is_v hi0
  obtain rfl : w0 = (.int i0) := Option.some.inj ei0
  obtain ⟨i1, ei1⟩ := is_v hi1
  obtain rfl : w1 = (.int i1) := Option.some.inj ei1
  obtain ⟨i2, ei2⟩ := is_v hi2
  obtain rfl : w2 = (.int i2) := Option.some.inj ei2
  obtain ⟨i3, ei3⟩ := is_v hi3
  obtain rfl : w3 = (.int i3) := Option.some.inj ei3
  obtain ⟨i4, ei4⟩ := is_v hi4
  obtain rfl : w4 = (.int i4) := Option.some.inj ei4
  obtain ⟨hsets, hown0⟩ := atoms_of _ (rest_1_c_eq ▸ (show rest_1_c.before _ s = true from hrest))
  have hj := fun d (hd : d ∈ jdkStatics_1) => hsets d hd
  obtain ⟨cs, ecs⟩ := is_v (Cond.before_iff.mp (hj _ (List.mem_of_getElem? (i := 1) rfl)))
  have SC := Sta.start ecs (Or.inl (hj _ (List.mem_of_getElem? (i := 0) rfl)))
  have hcw := hj _ (List.mem_of_getElem? (i := 2) rfl)
  have hcs : ¬ cs = (0 : Int32) := fun q => by
    have h := not_v (Cond.before_iff.mp hcw)
    rw [eq_i ecs (Term.int_eval 0) (congrArg Value.int q)] at h
    exact absurd h (by decide)
  have wS : ∀ a ∈ Bundle.stringAtoms, a.before (#[.int i0, .int i1, .int i2, .int i3, .int i4] : Array Value) s = true := by
    intro a ha
    simp only [Bundle.stringAtoms, Bundle.sN, List.mem_cons, List.not_mem_nil, or_false] at ha
    rcases ha with rfl | rfl | rfl | rfl | rfl | rfl | rfl
    · exact hw _ (List.mem_of_getElem? (i := 11) rfl)
    · exact hw _ (List.mem_of_getElem? (i := 10) rfl)
    · exact hw _ (List.mem_of_getElem? (i := 23) rfl)
    · exact hw _ (List.mem_of_getElem? (i := 24) rfl)
    · exact hw _ (List.mem_of_getElem? (i := 25) rfl)
    · exact hw _ (List.mem_of_getElem? (i := 26) rfl)
    · exact hw _ (List.mem_of_getElem? (i := 27) rfl)
  obtain ⟨hcl, -⟩ := hcalls
  have hEL : EW s (#[.int i0, .int i1, .int i2, .int i3, .int i4] : Array Value) own_EL := EW.cons (hw _ (List.mem_of_getElem? (i := 22) rfl)) (fun c hc => by simp at hc) EW.nil
  have hCH0 : CHv s own_EL s.vm s.heap := CHv.start hEL (fun p hp => hcl p hp) hcw (hw _ (List.mem_of_getElem? (i := 23) rfl)) (hw _ (List.mem_of_getElem? (i := 10) rfl))
  obtain ⟨n, o, h1, h2, h3, L, rfl, N, hq⟩ := rm0 l s _ hw tables_1 i0 i1 i2 i3 i4 cs s.heap s.heap.size (Nat.le_refl _) rfl SC hcs wS hEL hCH0 p e ha hc hk s m _ below hf ((Spec.applies_iff_loose hf).mp happ).1 ⟨rfl, rfl, rfl⟩ trivial
  refine ⟨n, _, h1, h2, h3, hpost _ _ _ _ _ _ ⟨Cond.after_iff.mpr rfl, Cond.after_iff.mpr (eq_i res_at (Term.int_eval (1)) rfl), trivial⟩ ⟨hq.1, hq.2.1, hq.2.2.1, (hq.2.2.2.sift fun y hy => Or.inr (N y hy)).mono (by decide) (by decide)⟩⟩
theorem main_1_1 : Claimed_1_1 := comes_1 fun _ _ _ _ _ _ h hF => ⟨h.1, hF⟩
theorem main_1_2 : Claimed_1_2 := comes_1 fun _ _ _ _ _ _ h hF => ⟨h.2.1, hF⟩
end Jvm.Pilot.@@N@@
namespace Jvm.Pilot.@@N@@
open Jvm Jvm.ClassFile Sem Op Lib Jvm.Free Jvm.Stand Jvm.Pilot.@@N@@.Jvm.D
/-! MADE BY PROGRAM (witnessworld.py) out of the Statement's table words and the real class files: 21 classes; the members and pool entries that the words name. The judged class is class 1, her method 5. -/
namespace start1
open Jvm.ClassFile
def u (s : String) : CpInfo := .utf8 (stringToUtf16 s)
/-- a pool by its gaps: so many unusable entries, then the entry; so many at the end -/
def gap : Nat → List CpInfo → List CpInfo
  | 0, r => r
  | n + 1, r => .unusable :: gap n r
def poolList (es : List (Nat × CpInfo)) (last : Nat) : List CpInfo := es.foldr (fun e r => gap e.1 (e.2 :: r)) (gap last [])
def pool (es : List (Nat × CpInfo)) (last : Nat) : Array CpInfo := ⟨poolList es last⟩
def fileOf (pool : Array CpInfo) (this : Nat) (attrs : Array Attribute := #[]) (ms : Array MethodInfo := #[]) (fl : Nat := 33) (sup : Nat := 0) (ifs : Array Nat := #[]) (fds : Array FieldInfo := #[]) : ClassFile where
  minorVersion := 0
  majorVersion := 65
  constantPool := pool
  accessFlags := fl
  thisClass := this
  superClass := sup
  interfaces := ifs
  fields := fds
  methods := ms
  attributes := attrs
def plain (name : String) (sup : Option ClassId) : Class where
  name := name
  kind := .ordinary
  loader := none
  accessFlags := 33
  super := sup
  interfaces := #[]
  cf := none
  fields := #[]
  methods := #[]
  instanceTypes := #[]
  staticTypes := #[]
  resolved := #[]
  callSites := []
  init := .initialized
  statics := none
  mirror := none

def pool0 : Array CpInfo := pool [(5, u "<init>"), (0, u "()V"), (1, .class_ 10), (1, u "java/lang/Object")] 113

def k0c0 : Code := { maxStack := 0, maxLocals := 1, code := object_method_1_code, exceptionTable := #[], attributes := #[] }
def k0m0 : Method := { name := "<init>", desc := "()V", sig := { parameters := [], returnType := none }, accessFlags := 1, code := some k0c0 }
/-- java/lang/Object -/
def k0 : Class := { plain "java/lang/Object" none with
  accessFlags := 33
  interfaces := #[]
  cf := some (fileOf pool0 8 #[] #[{ accessFlags := 1, nameIndex := 5, descriptorIndex := 6, attributes := #[] }] 33 0 #[] #[])
  fields := #[]
  methods := #[k0m0]
  instanceTypes := #[]
  staticTypes := #[]
  resolved := Array.replicate 124 none
  statics := none }

def pool1 : Array CpInfo := pool [(2, .class_ 4), (1, u "java/lang/Object"), (0, u "<init>"), (0, u "()V"), (0, .methodref 8 9), (0, .class_ 10), (0, .nameAndType 11 12), (0, u "com/example/triplewright/triplewright/source/ElementNameMatchesPinLaw"), (0, u "len"), (0, u "(I)I"), (0, .methodref 8 14), (0, .nameAndType 15 16), (0, u "ch"), (0, u "(II)C"), (0, .class_ 18), (0, u "java/lang/String"), (0, .methodref 17 20), (0, .nameAndType 5 21), (0, u "([C)V"), (0, .integer 67108864), (0, .methodref 8 24), (0, .nameAndType 25 26), (0, u "mk"), (0, u "(I)Ljava/lang/String;"), (0, .class_ 28), (0, u "com/example/triplewright/triplewright/source/XmlParser$ElementName"), (0, .methodref 27 30), (0, .nameAndType 5 31), (0, u "(Ljava/lang/String;Ljava/lang/String;)V"), (0, .methodref 27 33), (0, .nameAndType 34 35), (0, u "matches"), (0, u "(Ljava/lang/String;Ljava/lang/String;)Z"), (0, .methodref 8 37), (0, .nameAndType 38 39), (0, u "same"), (0, u "(II)Z"), (5, u "law"), (0, u "(IIIII)Z")] 6

def k1m0 : Method := { name := "<init>", desc := "()V", sig := { parameters := [], returnType := none }, accessFlags := 2, code := none }
def k1c1 : Code := { maxStack := 2, maxLocals := 1, code := method_2_code, exceptionTable := #[], attributes := #[] }
def k1m1 : Method := { name := "len", desc := "(I)I", sig := { parameters := [.int], returnType := some .int }, accessFlags := 10, code := some k1c1 }
def k1c2 : Code := { maxStack := 4, maxLocals := 2, code := method_3_code, exceptionTable := #[], attributes := #[] }
def k1m2 : Method := { name := "ch", desc := "(II)C", sig := { parameters := [.int, .int], returnType := some .char }, accessFlags := 10, code := some k1c2 }
def k1c3 : Code := { maxStack := 5, maxLocals := 3, code := method_4_code, exceptionTable := #[], attributes := #[] }
def k1m3 : Method := { name := "mk", desc := "(I)Ljava/lang/String;", sig := { parameters := [.int], returnType := some (.object "java/lang/String") }, accessFlags := 10, code := some k1c3 }
def k1c4 : Code := { maxStack := 3, maxLocals := 4, code := method_5_code, exceptionTable := #[], attributes := #[] }
def k1m4 : Method := { name := "same", desc := "(II)Z", sig := { parameters := [.int, .int], returnType := some .boolean }, accessFlags := 10, code := some k1c4 }
def k1c5 : Code := { maxStack := 4, maxLocals := 17, code := code, exceptionTable := #[], attributes := #[] }
def k1m5 : Method := { name := "law", desc := "(IIIII)Z", sig := { parameters := [.int, .int, .int, .int, .int], returnType := some .boolean }, accessFlags := 9, code := some k1c5 }
/-- com/example/triplewright/triplewright/source/ElementNameMatchesPinLaw -/
def k1 : Class := { plain "com/example/triplewright/triplewright/source/ElementNameMatchesPinLaw" (some 0) with
  accessFlags := 49
  interfaces := #[]
  cf := some (fileOf pool1 8 #[] #[{ accessFlags := 2, nameIndex := 5, descriptorIndex := 6, attributes := #[] }, { accessFlags := 10, nameIndex := 11, descriptorIndex := 12, attributes := #[] }, { accessFlags := 10, nameIndex := 15, descriptorIndex := 16, attributes := #[] }, { accessFlags := 10, nameIndex := 25, descriptorIndex := 26, attributes := #[] }, { accessFlags := 10, nameIndex := 38, descriptorIndex := 39, attributes := #[] }, { accessFlags := 9, nameIndex := 45, descriptorIndex := 46, attributes := #[] }] 49 2 #[] #[])
  fields := #[]
  methods := #[k1m0, k1m1, k1m2, k1m3, k1m4, k1m5]
  instanceTypes := #[]
  staticTypes := #[]
  resolved := Array.replicate 53 none
  statics := none }

def pool2 : Array CpInfo := pool [(1, .class_ 2), (0, u "java/io/Serializable"), (0, .class_ 4), (0, u "java/lang/Object")] 2

/-- java/io/Serializable -/
def k2 : Class := { plain "java/io/Serializable" (some 0) with
  accessFlags := 1537
  interfaces := #[]
  cf := some (fileOf pool2 1 #[] #[] 1537 3 #[] #[])
  fields := #[]
  methods := #[]
  instanceTypes := #[]
  staticTypes := #[]
  resolved := Array.replicate 7 none
  statics := none }

def pool3 : Array CpInfo := pool [(1, .class_ 2), (0, u "java/lang/Comparable"), (0, .class_ 4), (0, u "java/lang/Object")] 7

/-- java/lang/Comparable -/
def k3 : Class := { plain "java/lang/Comparable" (some 0) with
  accessFlags := 1537
  interfaces := #[]
  cf := some (fileOf pool3 1 #[] #[] 1537 3 #[] #[])
  fields := #[]
  methods := #[]
  instanceTypes := #[]
  staticTypes := #[]
  resolved := Array.replicate 12 none
  statics := none }

def pool4 : Array CpInfo := pool [(2, .class_ 4), (1, u "java/lang/CharSequence"), (42, .class_ 48), (0, u "java/lang/CharSequence$1CodePointIterator"), (10, .class_ 60), (0, u "java/lang/CharSequence$1CharIterator"), (5, .class_ 67), (0, u "java/lang/Object")] 63

/-- java/lang/CharSequence -/
def k4 : Class := { plain "java/lang/CharSequence" (some 0) with
  accessFlags := 1537
  interfaces := #[]
  cf := some (fileOf pool4 2 #[.nestMembers #[47, 59]] #[] 1537 66 #[] #[])
  fields := #[]
  methods := #[]
  instanceTypes := #[]
  staticTypes := #[]
  resolved := Array.replicate 131 none
  statics := none }

def pool5 : Array CpInfo := pool [(1, .class_ 2), (0, u "java/lang/constant/Constable"), (0, .class_ 4), (0, u "java/lang/Object")] 6

/-- java/lang/constant/Constable -/
def k5 : Class := { plain "java/lang/constant/Constable" (some 0) with
  accessFlags := 1537
  interfaces := #[]
  cf := some (fileOf pool5 1 #[] #[] 1537 3 #[] #[])
  fields := #[]
  methods := #[]
  instanceTypes := #[]
  staticTypes := #[]
  resolved := Array.replicate 11 none
  statics := none }

def pool6 : Array CpInfo := pool [(1, .class_ 2), (0, u "java/lang/constant/ConstantDesc"), (0, .class_ 4), (0, u "java/lang/Object")] 32

/-- java/lang/constant/ConstantDesc -/
def k6 : Class := { plain "java/lang/constant/ConstantDesc" (some 0) with
  accessFlags := 1537
  interfaces := #[]
  cf := some (fileOf pool6 1 #[] #[] 1537 3 #[] #[])
  fields := #[]
  methods := #[]
  instanceTypes := #[]
  staticTypes := #[]
  resolved := Array.replicate 37 none
  statics := none }

def pool7 : Array CpInfo := pool [(1, .methodref 2 3), (0, .class_ 4), (0, .nameAndType 5 6), (0, u "java/lang/Object"), (0, u "<init>"), (0, u "()V"), (0, .string 8), (0, u ""), (0, .fieldref 10 11), (0, .class_ 12), (0, .nameAndType 13 14), (0, u "java/lang/String"), (0, u "value"), (0, u "[B"), (0, .fieldref 10 16), (0, .nameAndType 17 18), (0, u "coder"), (0, u "B"), (2, u "hash"), (0, u "I"), (2, u "hashIsZero"), (0, u "Z"), (0, .methodref 10 28), (0, .nameAndType 5 29), (0, u "([CIILjava/lang/Void;)V"), (8, .fieldref 10 39), (0, .nameAndType 40 26), (0, u "COMPACT_STRINGS"), (1, .class_ 44), (1, u "java/lang/StringUTF16"), (0, u "compress"), (1, .methodref 42 48), (0, .nameAndType 49 50), (0, u "coderFromArrayLen"), (0, u "([BI)B"), (56, .class_ 109), (1, u "java/lang/StringLatin1"), (67, .methodref 42 178), (0, .nameAndType 45 179), (0, u "([CII)[B"), (361, .methodref 107 542), (0, .nameAndType 543 544), (0, u "equals"), (0, u "([B[B)Z"), (28, u "(Ljava/lang/Object;)Z"), (1, .class_ 576), (0, u "java/lang/CharSequence"), (22, u "CASE_INSENSITIVE_ORDER"), (0, u "Ljava/util/Comparator;"), (409, u "([C)V"), (90, u "serialPersistentFields"), (0, u "[Ljava/io/ObjectStreamField;"), (0, .class_ 1104), (0, u "java/lang/String$CaseInsensitiveComparator"), (1, .class_ 1107), (0, u "java/io/Serializable"), (0, .class_ 1109), (0, u "java/lang/Comparable"), (0, .class_ 1111), (0, u "java/lang/constant/Constable"), (0, .class_ 1113), (0, u "java/lang/constant/ConstantDesc"), (2, u "serialVersionUID"), (0, u "J"), (3, u "REPL"), (0, u "C"), (2, u "LATIN1"), (1, u "UTF16")] 323

def k7m0 : Method := { name := "<init>", desc := "()V", sig := { parameters := [], returnType := none }, accessFlags := 1, code := none }
def k7c1 : Code := { maxStack := 5, maxLocals := 2, code := jdk_42_method_3_code, exceptionTable := #[], attributes := #[] }
def k7m1 : Method := { name := "<init>", desc := "([C)V", sig := { parameters := [(.array .char)], returnType := none }, accessFlags := 1, code := some k7c1 }
def k7c2 : Code := { maxStack := 2, maxLocals := 3, code := jdk_42_method_66_code, exceptionTable := #[], attributes := #[] }
def k7m2 : Method := { name := "equals", desc := "(Ljava/lang/Object;)Z", sig := { parameters := [(.object "java/lang/Object")], returnType := some .boolean }, accessFlags := 1, code := some k7c2 }
def k7c3 : Code := { maxStack := 4, maxLocals := 6, code := jdk_42_method_149_code, exceptionTable := #[], attributes := #[] }
def k7m3 : Method := { name := "<init>", desc := "([CIILjava/lang/Void;)V", sig := { parameters := [(.array .char), .int, .int, (.object "java/lang/Void")], returnType := none }, accessFlags := 2, code := some k7c3 }
/-- java/lang/String -/
def k7 : Class := { plain "java/lang/String" (some 0) with
  accessFlags := 49
  interfaces := #[2, 3, 4, 5, 6]
  cf := some (fileOf pool7 10 #[.nestMembers #[1103]] #[{ accessFlags := 1, nameIndex := 5, descriptorIndex := 6, attributes := #[] }, { accessFlags := 1, nameIndex := 5, descriptorIndex := 1010, attributes := #[] }, { accessFlags := 1, nameIndex := 543, descriptorIndex := 573, attributes := #[] }, { accessFlags := 2, nameIndex := 5, descriptorIndex := 29, attributes := #[] }] 49 2 #[1106, 1108, 575, 1110, 1112] #[{ accessFlags := 18, nameIndex := 13, descriptorIndex := 14, attributes := #[] }, { accessFlags := 18, nameIndex := 17, descriptorIndex := 18, attributes := #[] }, { accessFlags := 2, nameIndex := 21, descriptorIndex := 22, attributes := #[] }, { accessFlags := 2, nameIndex := 25, descriptorIndex := 26, attributes := #[] }, { accessFlags := 26, nameIndex := 1116, descriptorIndex := 1117, attributes := #[] }, { accessFlags := 24, nameIndex := 40, descriptorIndex := 26, attributes := #[] }, { accessFlags := 26, nameIndex := 1101, descriptorIndex := 1102, attributes := #[] }, { accessFlags := 26, nameIndex := 1121, descriptorIndex := 1122, attributes := #[] }, { accessFlags := 25, nameIndex := 599, descriptorIndex := 600, attributes := #[] }, { accessFlags := 24, nameIndex := 1125, descriptorIndex := 18, attributes := #[] }, { accessFlags := 24, nameIndex := 1127, descriptorIndex := 18, attributes := #[] }])
  fields := #[{ name := "value", type := (.array .byte), accessFlags := 18, slot := 0, constantValue := 0 }, { name := "coder", type := .byte, accessFlags := 18, slot := 1, constantValue := 0 }, { name := "hash", type := .int, accessFlags := 2, slot := 2, constantValue := 0 }, { name := "hashIsZero", type := .boolean, accessFlags := 2, slot := 3, constantValue := 0 }, { name := "serialVersionUID", type := .long, accessFlags := 26, slot := 0, constantValue := 0 }, { name := "COMPACT_STRINGS", type := .boolean, accessFlags := 24, slot := 1, constantValue := 0 }, { name := "serialPersistentFields", type := (.array (.object "java/io/ObjectStreamField")), accessFlags := 26, slot := 2, constantValue := 0 }, { name := "REPL", type := .char, accessFlags := 26, slot := 3, constantValue := 0 }, { name := "CASE_INSENSITIVE_ORDER", type := (.object "java/util/Comparator"), accessFlags := 25, slot := 4, constantValue := 0 }, { name := "LATIN1", type := .byte, accessFlags := 24, slot := 5, constantValue := 0 }, { name := "UTF16", type := .byte, accessFlags := 24, slot := 6, constantValue := 0 }]
  methods := #[k7m0, k7m1, k7m2, k7m3]
  instanceTypes := #[(.array .byte), .byte, .int, .boolean]
  staticTypes := #[.long, .boolean, (.array (.object "java/io/ObjectStreamField")), .char, (.object "java/util/Comparator"), .byte, .byte]
  resolved := Array.replicate 1451 none
  statics := some 0 }

def pool8 : Array CpInfo := pool [(6, .class_ 8), (1, u "java/lang/Object"), (0, u "<init>"), (0, u "()V"), (1, .class_ 14), (1, u "java/lang/StringUTF16"), (31, u "$assertionsDisabled"), (0, u "Z"), (13, u "HI_BYTE_SHIFT"), (0, u "I"), (2, u "LO_BYTE_SHIFT"), (49, .methodref 12 116), (0, .nameAndType 117 118), (0, u "compress"), (0, u "([CI[BII)I"), (3, u "([CII)[B"), (138, u "coderFromArrayLen"), (0, u "([BI)B"), (106, .class_ 371), (1, u "java/lang/StringUTF16$LinesSpliterator"), (58, u "MAX_LENGTH"), (196, .class_ 628), (0, u "java/lang/StringUTF16$CodePointsSpliterator"), (0, .class_ 630), (0, u "java/lang/StringUTF16$CharsSpliterator")] 4

def k8m0 : Method := { name := "<init>", desc := "()V", sig := { parameters := [], returnType := none }, accessFlags := 0, code := none }
def k8c1 : Code := { maxStack := 2, maxLocals := 2, code := jdk_52_method_15_code, exceptionTable := #[], attributes := #[] }
def k8m1 : Method := { name := "coderFromArrayLen", desc := "([BI)B", sig := { parameters := [(.array .byte), .int], returnType := some .byte }, accessFlags := 8, code := some k8c1 }
def k8c2 : Code := { maxStack := 5, maxLocals := 6, code := jdk_52_method_16_code, exceptionTable := #[], attributes := #[] }
def k8m2 : Method := { name := "compress", desc := "([CII)[B", sig := { parameters := [(.array .char), .int, .int], returnType := some (.array .byte) }, accessFlags := 9, code := some k8c2 }
def k8c3 : Code := { maxStack := 3, maxLocals := 7, code := jdk_52_method_21_code, exceptionTable := #[], attributes := #[] }
def k8m3 : Method := { name := "compress", desc := "([CI[BII)I", sig := { parameters := [(.array .char), .int, (.array .byte), .int, .int], returnType := some .int }, accessFlags := 9, code := some k8c3 }
/-- java/lang/StringUTF16 -/
def k8 : Class := { plain "java/lang/StringUTF16" (some 0) with
  accessFlags := 48
  interfaces := #[]
  cf := some (fileOf pool8 12 #[.nestMembers #[627, 629, 369]] #[{ accessFlags := 0, nameIndex := 9, descriptorIndex := 10, attributes := #[] }, { accessFlags := 8, nameIndex := 261, descriptorIndex := 262, attributes := #[] }, { accessFlags := 9, nameIndex := 117, descriptorIndex := 122, attributes := #[] }, { accessFlags := 9, nameIndex := 117, descriptorIndex := 118, attributes := #[] }] 48 6 #[] #[{ accessFlags := 26, nameIndex := 61, descriptorIndex := 62, attributes := #[] }, { accessFlags := 26, nameIndex := 65, descriptorIndex := 62, attributes := #[] }, { accessFlags := 24, nameIndex := 430, descriptorIndex := 62, attributes := #[] }, { accessFlags := 4120, nameIndex := 46, descriptorIndex := 47, attributes := #[] }])
  fields := #[{ name := "HI_BYTE_SHIFT", type := .int, accessFlags := 26, slot := 0, constantValue := 0 }, { name := "LO_BYTE_SHIFT", type := .int, accessFlags := 26, slot := 1, constantValue := 0 }, { name := "MAX_LENGTH", type := .int, accessFlags := 24, slot := 2, constantValue := 0 }, { name := "$assertionsDisabled", type := .boolean, accessFlags := 4120, slot := 3, constantValue := 0 }]
  methods := #[k8m0, k8m1, k8m2, k8m3]
  instanceTypes := #[]
  staticTypes := #[.int, .int, .int, .boolean]
  resolved := Array.replicate 635 none
  statics := none }

def pool9 : Array CpInfo := pool [(1, .methodref 2 3), (0, .class_ 4), (0, .nameAndType 5 6), (0, u "java/lang/Object"), (0, u "<init>"), (0, u "()V"), (0, .class_ 8), (0, u "java/lang/Record")] 13

def k9c0 : Code := { maxStack := 1, maxLocals := 1, code := jdk_30_method_1_code, exceptionTable := #[], attributes := #[] }
def k9m0 : Method := { name := "<init>", desc := "()V", sig := { parameters := [], returnType := none }, accessFlags := 4, code := some k9c0 }
/-- java/lang/Record -/
def k9 : Class := { plain "java/lang/Record" (some 0) with
  accessFlags := 1057
  interfaces := #[]
  cf := some (fileOf pool9 7 #[] #[{ accessFlags := 4, nameIndex := 5, descriptorIndex := 6, attributes := #[] }] 1057 2 #[] #[])
  fields := #[]
  methods := #[k9m0]
  instanceTypes := #[]
  staticTypes := #[]
  resolved := Array.replicate 22 none
  statics := none }

def pool10 : Array CpInfo := pool [(1, .methodref 2 3), (0, .class_ 4), (0, .nameAndType 5 6), (0, u "java/lang/Record"), (0, u "<init>"), (0, u "()V"), (0, .fieldref 8 9), (0, .class_ 10), (0, .nameAndType 11 12), (0, u "com/example/triplewright/triplewright/source/XmlParser$ElementName"), (0, u "namespace"), (0, u "Ljava/lang/String;"), (0, .fieldref 8 14), (0, .nameAndType 15 12), (0, u "localName"), (0, .methodref 17 18), (0, .class_ 19), (0, .nameAndType 20 21), (0, u "java/lang/String"), (0, u "equals"), (0, u "(Ljava/lang/Object;)Z"), (11, u "(Ljava/lang/String;Ljava/lang/String;)V"), (3, u "matches"), (0, u "(Ljava/lang/String;Ljava/lang/String;)Z"), (6, .class_ 46), (0, u "com/example/triplewright/triplewright/source/XmlParser")] 20

def k10c0 : Code := { maxStack := 2, maxLocals := 3, code := prog_70_method_1_code, exceptionTable := #[], attributes := #[] }
def k10m0 : Method := { name := "<init>", desc := "(Ljava/lang/String;Ljava/lang/String;)V", sig := { parameters := [(.object "java/lang/String"), (.object "java/lang/String")], returnType := none }, accessFlags := 0, code := some k10c0 }
def k10c1 : Code := { maxStack := 2, maxLocals := 3, code := prog_70_method_2_code, exceptionTable := #[], attributes := #[] }
def k10m1 : Method := { name := "matches", desc := "(Ljava/lang/String;Ljava/lang/String;)Z", sig := { parameters := [(.object "java/lang/String"), (.object "java/lang/String")], returnType := some .boolean }, accessFlags := 0, code := some k10c1 }
/-- com/example/triplewright/triplewright/source/XmlParser$ElementName -/
def k10 : Class := { plain "com/example/triplewright/triplewright/source/XmlParser$ElementName" (some 9) with
  accessFlags := 48
  interfaces := #[]
  cf := some (fileOf pool10 8 #[.nestHost 45] #[{ accessFlags := 0, nameIndex := 5, descriptorIndex := 33, attributes := #[] }, { accessFlags := 0, nameIndex := 37, descriptorIndex := 38, attributes := #[] }] 48 2 #[] #[{ accessFlags := 18, nameIndex := 11, descriptorIndex := 12, attributes := #[] }, { accessFlags := 18, nameIndex := 15, descriptorIndex := 12, attributes := #[] }])
  fields := #[{ name := "namespace", type := (.object "java/lang/String"), accessFlags := 18, slot := 0, constantValue := 0 }, { name := "localName", type := (.object "java/lang/String"), accessFlags := 18, slot := 1, constantValue := 0 }]
  methods := #[k10m0, k10m1]
  instanceTypes := #[(.object "java/lang/String"), (.object "java/lang/String")]
  staticTypes := #[]
  resolved := Array.replicate 67 none
  statics := none }

def pool11 : Array CpInfo := pool [(4, .class_ 6), (1, u "java/lang/Object"), (0, u "<init>"), (0, u "()V"), (5, .class_ 16), (1, u "java/lang/StringLatin1"), (104, u "$assertionsDisabled"), (0, u "Z"), (98, .class_ 223), (1, u "java/lang/StringLatin1$LinesSpliterator"), (57, u "equals"), (0, u "([B[B)Z"), (107, .class_ 391), (0, u "java/lang/StringLatin1$CharsSpliterator")] 3

def k11m0 : Method := { name := "<init>", desc := "()V", sig := { parameters := [], returnType := none }, accessFlags := 0, code := none }
def k11c1 : Code := { maxStack := 3, maxLocals := 3, code := jdk_43_method_13_code, exceptionTable := #[], attributes := #[] }
def k11m1 : Method := { name := "equals", desc := "([B[B)Z", sig := { parameters := [(.array .byte), (.array .byte)], returnType := some .boolean }, accessFlags := 9, code := some k11c1 }
/-- java/lang/StringLatin1 -/
def k11 : Class := { plain "java/lang/StringLatin1" (some 0) with
  accessFlags := 48
  interfaces := #[]
  cf := some (fileOf pool11 14 #[.nestMembers #[390, 221]] #[{ accessFlags := 0, nameIndex := 7, descriptorIndex := 8, attributes := #[] }, { accessFlags := 9, nameIndex := 281, descriptorIndex := 282, attributes := #[] }] 48 4 #[] #[{ accessFlags := 4120, nameIndex := 121, descriptorIndex := 122, attributes := #[] }])
  fields := #[{ name := "$assertionsDisabled", type := .boolean, accessFlags := 4120, slot := 0, constantValue := 0 }]
  methods := #[k11m0, k11m1]
  instanceTypes := #[]
  staticTypes := #[.boolean]
  resolved := Array.replicate 395 none
  statics := none }

def pool12 : Array CpInfo := pool [(2, .class_ 4), (1, u "java/lang/Object"), (0, u "<init>"), (0, u "()V"), (17, .class_ 26), (1, u "jdk/internal/util/Preconditions"), (28, .class_ 56), (0, u "jdk/internal/util/Preconditions$4"), (57, .class_ 115), (0, u "jdk/internal/util/Preconditions$1"), (7, u "SIOOBE_FORMATTER"), (0, u "Ljava/util/function/BiFunction;"), (0, .class_ 126), (0, u "jdk/internal/util/Preconditions$2"), (3, u "AIOOBE_FORMATTER"), (0, .class_ 132), (0, u "jdk/internal/util/Preconditions$3"), (3, u "IOOBE_FORMATTER")] 57

def k12m0 : Method := { name := "<init>", desc := "()V", sig := { parameters := [], returnType := none }, accessFlags := 1, code := none }
/-- jdk/internal/util/Preconditions -/
def k12 : Class := { plain "jdk/internal/util/Preconditions" (some 0) with
  accessFlags := 33
  interfaces := #[]
  cf := some (fileOf pool12 24 #[.nestMembers #[55, 131, 125, 114]] #[{ accessFlags := 1, nameIndex := 5, descriptorIndex := 6, attributes := #[] }] 33 2 #[] #[{ accessFlags := 25, nameIndex := 123, descriptorIndex := 124, attributes := #[] }, { accessFlags := 25, nameIndex := 130, descriptorIndex := 124, attributes := #[] }, { accessFlags := 25, nameIndex := 136, descriptorIndex := 124, attributes := #[] }])
  fields := #[{ name := "SIOOBE_FORMATTER", type := (.object "java/util/function/BiFunction"), accessFlags := 25, slot := 0, constantValue := 0 }, { name := "AIOOBE_FORMATTER", type := (.object "java/util/function/BiFunction"), accessFlags := 25, slot := 1, constantValue := 0 }, { name := "IOOBE_FORMATTER", type := (.object "java/util/function/BiFunction"), accessFlags := 25, slot := 2, constantValue := 0 }]
  methods := #[k12m0]
  instanceTypes := #[]
  staticTypes := #[(.object "java/util/function/BiFunction"), (.object "java/util/function/BiFunction"), (.object "java/util/function/BiFunction")]
  resolved := Array.replicate 194 none
  statics := some 1 }

def pool13 : Array CpInfo := pool [(9, u "<init>"), (6, .class_ 18), (1, u "java/lang/Object"), (0, u "()V"), (1, .class_ 23), (1, u "jdk/internal/util/ArraysSupport"), (0, u "LOG2_ARRAY_LONG_INDEX_SCALE"), (0, u "I"), (2, u "U"), (0, u "Ljdk/internal/misc/Unsafe;"), (8, u "BIG_ENDIAN"), (0, u "Z"), (8, u "LOG2_BYTE_BIT_SIZE"), (4, u "LOG2_ARRAY_INT_INDEX_SCALE"), (54, u "JLA"), (0, u "Ljdk/internal/access/JavaLangAccess;"), (11, u "LOG2_ARRAY_BOOLEAN_INDEX_SCALE"), (9, u "LOG2_ARRAY_BYTE_INDEX_SCALE"), (5, u "LOG2_ARRAY_CHAR_INDEX_SCALE"), (5, u "LOG2_ARRAY_SHORT_INDEX_SCALE"), (18, u "LOG2_ARRAY_FLOAT_INDEX_SCALE"), (24, u "LOG2_ARRAY_DOUBLE_INDEX_SCALE"), (89, u "T_BOOLEAN"), (2, u "T_CHAR"), (1, u "T_FLOAT"), (1, u "T_DOUBLE"), (1, u "T_BYTE"), (1, u "T_SHORT"), (1, u "T_INT"), (1, u "T_LONG"), (1, u "SOFT_MAX_ARRAY_LENGTH")] 83

def k13m0 : Method := { name := "<init>", desc := "()V", sig := { parameters := [], returnType := none }, accessFlags := 2, code := none }
/-- jdk/internal/util/ArraysSupport -/
def k13 : Class := { plain "jdk/internal/util/ArraysSupport" (some 0) with
  accessFlags := 33
  interfaces := #[]
  cf := some (fileOf pool13 21 #[] #[{ accessFlags := 2, nameIndex := 9, descriptorIndex := 19, attributes := #[] }] 33 16 #[] #[{ accessFlags := 24, nameIndex := 28, descriptorIndex := 29, attributes := #[] }, { accessFlags := 26, nameIndex := 38, descriptorIndex := 39, attributes := #[] }, { accessFlags := 25, nameIndex := 121, descriptorIndex := 25, attributes := #[] }, { accessFlags := 25, nameIndex := 131, descriptorIndex := 25, attributes := #[] }, { accessFlags := 25, nameIndex := 137, descriptorIndex := 25, attributes := #[] }, { accessFlags := 25, nameIndex := 143, descriptorIndex := 25, attributes := #[] }, { accessFlags := 25, nameIndex := 53, descriptorIndex := 25, attributes := #[] }, { accessFlags := 25, nameIndex := 24, descriptorIndex := 25, attributes := #[] }, { accessFlags := 25, nameIndex := 162, descriptorIndex := 25, attributes := #[] }, { accessFlags := 25, nameIndex := 187, descriptorIndex := 25, attributes := #[] }, { accessFlags := 26, nameIndex := 48, descriptorIndex := 25, attributes := #[] }, { accessFlags := 25, nameIndex := 277, descriptorIndex := 25, attributes := #[] }, { accessFlags := 25, nameIndex := 280, descriptorIndex := 25, attributes := #[] }, { accessFlags := 25, nameIndex := 282, descriptorIndex := 25, attributes := #[] }, { accessFlags := 25, nameIndex := 284, descriptorIndex := 25, attributes := #[] }, { accessFlags := 25, nameIndex := 286, descriptorIndex := 25, attributes := #[] }, { accessFlags := 25, nameIndex := 288, descriptorIndex := 25, attributes := #[] }, { accessFlags := 25, nameIndex := 290, descriptorIndex := 25, attributes := #[] }, { accessFlags := 25, nameIndex := 292, descriptorIndex := 25, attributes := #[] }, { accessFlags := 26, nameIndex := 108, descriptorIndex := 109, attributes := #[] }, { accessFlags := 25, nameIndex := 294, descriptorIndex := 25, attributes := #[] }])
  fields := #[{ name := "U", type := (.object "jdk/internal/misc/Unsafe"), accessFlags := 24, slot := 0, constantValue := 0 }, { name := "BIG_ENDIAN", type := .boolean, accessFlags := 26, slot := 1, constantValue := 0 }, { name := "LOG2_ARRAY_BOOLEAN_INDEX_SCALE", type := .int, accessFlags := 25, slot := 2, constantValue := 0 }, { name := "LOG2_ARRAY_BYTE_INDEX_SCALE", type := .int, accessFlags := 25, slot := 3, constantValue := 0 }, { name := "LOG2_ARRAY_CHAR_INDEX_SCALE", type := .int, accessFlags := 25, slot := 4, constantValue := 0 }, { name := "LOG2_ARRAY_SHORT_INDEX_SCALE", type := .int, accessFlags := 25, slot := 5, constantValue := 0 }, { name := "LOG2_ARRAY_INT_INDEX_SCALE", type := .int, accessFlags := 25, slot := 6, constantValue := 0 }, { name := "LOG2_ARRAY_LONG_INDEX_SCALE", type := .int, accessFlags := 25, slot := 7, constantValue := 0 }, { name := "LOG2_ARRAY_FLOAT_INDEX_SCALE", type := .int, accessFlags := 25, slot := 8, constantValue := 0 }, { name := "LOG2_ARRAY_DOUBLE_INDEX_SCALE", type := .int, accessFlags := 25, slot := 9, constantValue := 0 }, { name := "LOG2_BYTE_BIT_SIZE", type := .int, accessFlags := 26, slot := 10, constantValue := 0 }, { name := "T_BOOLEAN", type := .int, accessFlags := 25, slot := 11, constantValue := 0 }, { name := "T_CHAR", type := .int, accessFlags := 25, slot := 12, constantValue := 0 }, { name := "T_FLOAT", type := .int, accessFlags := 25, slot := 13, constantValue := 0 }, { name := "T_DOUBLE", type := .int, accessFlags := 25, slot := 14, constantValue := 0 }, { name := "T_BYTE", type := .int, accessFlags := 25, slot := 15, constantValue := 0 }, { name := "T_SHORT", type := .int, accessFlags := 25, slot := 16, constantValue := 0 }, { name := "T_INT", type := .int, accessFlags := 25, slot := 17, constantValue := 0 }, { name := "T_LONG", type := .int, accessFlags := 25, slot := 18, constantValue := 0 }, { name := "JLA", type := (.object "jdk/internal/access/JavaLangAccess"), accessFlags := 26, slot := 19, constantValue := 0 }, { name := "SOFT_MAX_ARRAY_LENGTH", type := .int, accessFlags := 25, slot := 20, constantValue := 0 }]
  methods := #[k13m0]
  instanceTypes := #[]
  staticTypes := #[(.object "jdk/internal/misc/Unsafe"), .boolean, .int, .int, .int, .int, .int, .int, .int, .int, .int, .int, .int, .int, .int, .int, .int, .int, .int, (.object "jdk/internal/access/JavaLangAccess"), .int]
  resolved := Array.replicate 378 none
  statics := none }

def pool14 : Array CpInfo := pool [(1, u "java/lang/Cloneable"), (0, .class_ 1), (0, u "java/lang/Object"), (0, .class_ 3)] 3

/-- java/lang/Cloneable -/
def k14 : Class := { plain "java/lang/Cloneable" (some 0) with
  accessFlags := 1537
  interfaces := #[]
  cf := some (fileOf pool14 2 #[] #[] 1537 4 #[] #[])
  fields := #[]
  methods := #[]
  instanceTypes := #[]
  staticTypes := #[]
  resolved := Array.replicate 8 none
  statics := none }

/-- the primitive byte -/
def k15 : Class := { plain "byte" none with kind := .primitive 'B', accessFlags := 0x411 }
/-- [B -/
def k16 : Class := { plain "[B" (some 0) with kind := .array 15 .byte, interfaces := #[14, 2], accessFlags := 1041 }

/-- the primitive char -/
def k17 : Class := { plain "char" none with kind := .primitive 'C', accessFlags := 0x411 }
/-- [C -/
def k18 : Class := { plain "[C" (some 0) with kind := .array 17 .char, interfaces := #[14, 2], accessFlags := 1041 }

/-- the primitive int -/
def k19 : Class := { plain "int" none with kind := .primitive 'I', accessFlags := 0x411 }
/-- [I -/
def k20 : Class := { plain "[I" (some 0) with kind := .array 19 .int, interfaces := #[14, 2], accessFlags := 1041 }

def heap : Heap := #[{ cls := 7, slots := #[.long 0, .int 1, .null, .int 0, .null, .int 0, .int 0], vm := .statics 7 },
  { cls := 12, slots := #[.null, .null, .null], vm := .statics 12 }]
def classes : Array Class := #[k0, k1, k2, k3, k4, k5, k6, k7, k8, k9, k10, k11, k12, k13, k14, k15, k16, k17, k18, k19, k20]
def interned : List (Array UInt16 × Addr) := []
def slotsUsed : Nat := 10
def theMethod : MethodId := ⟨1, 5⟩
def args0 : Array Value := #[.int 5, .int 5, .int 5, .int 5, .int 5]
def aboutOver (below : List Frame) : State where
  vm := { classes := classes, interned := interned.toArray }
  heap := heap
  slotsUsed := slotsUsed
  threads := #[{ frames := .invoking theMethod args0 :: below }]
def below0 : List Frame := [.native { method := ⟨0, 0⟩, args := #[] }]
def about1 : State := aboutOver below0
def p0 : Program := .bare "" "" ""
def e0 : Env := launch0.env 0 0 0
theorem w_frames : about1.frames = Frame.invoking theMethod args0 :: below0 := rfl
set_option maxRecDepth 65536 in
theorem w_args : argsFit about1.vm theMethod args0 = true := by decide +kernel
set_option maxRecDepth 65536 in
theorem w_heap : heapFits about1 = true := by decide +kernel
set_option maxRecDepth 65536 in
theorem w_runnable : about1.curStatus? = some .runnable := by decide +kernel
set_option maxRecDepth 65536 in
theorem w_alone : about1.alone = true := by decide +kernel
set_option maxRecDepth 65536 in
theorem w_named : about1.methodNamed? x = some theMethod := by decide +kernel
set_option maxRecDepth 65536 in
theorem w_hears : about1.hears theMethod below0 = true := by decide +kernel
set_option maxRecDepth 65536 in
theorem w_ripe : about1.ripe theMethod args0 below0 = true := by decide +kernel
theorem w_running : about1.status = .running := rfl
set_option maxRecDepth 65536 in
theorem w_room : about1.hasRoom e0.platform room_1 = true :=
  launch0.hasRoom_least _ room_1 (by decide +kernel) (by decide +kernel) (by decide +kernel) (by decide +kernel) (by decide +kernel) (by decide +kernel)
theorem allAtoms_all (ts : List Jvm.Cond) (a : Array Jvm.Value) (st : Jvm.State) : (allAtoms ts).before a st = ts.all (fun c => c.before a st) := by
  induction ts with
  | nil => rfl
  | cons c t ih =>
    show (Jvm.Cond.and c (allAtoms t)).before a st = _
    rw [Jvm.Cond.before_and, ih, List.all_cons]
def words1 : List Jvm.Cond := Jvm.Cond.code x code maxLocals ret :: tables_1
/-- a 'code' word, met by the world's own term for the bytes: nothing is compared byte by byte -/
theorem code_word {y : MethodName} {bytes : ByteArray} {mx : Nat} {rt : Option FieldType} {a : Array Value} {s : State} {m : MethodId} {meth : Method} {c : Code} (h1 : s.methodNamed? y = some m) (h2 : s.vm.method? m = some meth) (h3 : meth.code = some c) (h4 : c.code = bytes)
    (h5 : (c.maxLocals == mx && c.exceptionTable.isEmpty && decide (c.maxStack ≤ mostOperands) && decide (meth.sig.returnType = rt) && !meth.locks && decide (parseMethodDescriptor y.desc = some meth.sig)) = true) : (Jvm.Cond.code y bytes mx rt).before a s = true := by
  simp only [Bool.and_eq_true, beq_iff_eq, Bool.not_eq_true', decide_eq_true_eq] at h5
  obtain ⟨⟨⟨⟨⟨g1, g2⟩, g3⟩, g4⟩, g5⟩, g6⟩ := h5
  simp [Cond.before, Cond.holds, Cond.value, h1, h2, h3, h4, g1, g2, g3, g4, g5, g6]
def isCode : Jvm.Cond → Bool
  | .code _ _ _ _ => true
  | _ => false
theorem all_split {L : List Jvm.Cond} {P : Jvm.Cond → Bool} (h1 : L.all (fun c => isCode c || P c) = true) (h2 : ∀ c ∈ L.filter isCode, P c = true) : L.all P = true := by
  refine List.all_eq_true.mpr fun c hc => ?_
  have h := List.all_eq_true.mp h1 c hc
  rcases Bool.eq_false_or_eq_true (isCode c) with hi | hi
  · exact h2 c (List.mem_filter.mpr ⟨hc, hi⟩)
  · simpa [hi] using h
set_option maxRecDepth 65536 in
theorem w_c0 : (Jvm.Cond.code x code maxLocals ret).before args0 about1 = true := code_word (m := ⟨1, 5⟩) (meth := k1m5) (c := k1c5) (by decide +kernel) rfl rfl rfl (by decide +kernel)
set_option maxRecDepth 65536 in
theorem w_c1 : (Jvm.Cond.code ({ cls := "com/example/triplewright/triplewright/source/ElementNameMatchesPinLaw", name := "mk", desc := "(I)Ljava/lang/String;" } : Jvm.MethodName) method_4_code (3 : Nat) (Option.some (Jvm.ClassFile.FieldType.object "java/lang/String"))).before args0 about1 = true := code_word (m := ⟨1, 3⟩) (meth := k1m3) (c := k1c3) (by decide +kernel) rfl rfl rfl (by decide +kernel)
set_option maxRecDepth 65536 in
theorem w_c2 : (Jvm.Cond.code ({ cls := "com/example/triplewright/triplewright/source/ElementNameMatchesPinLaw", name := "len", desc := "(I)I" } : Jvm.MethodName) method_2_code (1 : Nat) (Option.some Jvm.ClassFile.FieldType.int)).before args0 about1 = true := code_word (m := ⟨1, 1⟩) (meth := k1m1) (c := k1c1) (by decide +kernel) rfl rfl rfl (by decide +kernel)
set_option maxRecDepth 65536 in
theorem w_c3 : (Jvm.Cond.code ({ cls := "java/lang/String", name := "<init>", desc := "([C)V" } : Jvm.MethodName) jdk_42_method_3_code (2 : Nat) (Option.none : Option Jvm.ClassFile.FieldType)).before args0 about1 = true := code_word (m := ⟨7, 1⟩) (meth := k7m1) (c := k7c1) (by decide +kernel) rfl rfl rfl (by decide +kernel)
set_option maxRecDepth 65536 in
theorem w_c4 : (Jvm.Cond.code ({ cls := "java/lang/String", name := "<init>", desc := "([CIILjava/lang/Void;)V" } : Jvm.MethodName) jdk_42_method_149_code (6 : Nat) (Option.none : Option Jvm.ClassFile.FieldType)).before args0 about1 = true := code_word (m := ⟨7, 3⟩) (meth := k7m3) (c := k7c3) (by decide +kernel) rfl rfl rfl (by decide +kernel)
set_option maxRecDepth 65536 in
theorem w_c5 : (Jvm.Cond.code ({ cls := "java/lang/Object", name := "<init>", desc := "()V" } : Jvm.MethodName) object_method_1_code (1 : Nat) (Option.none : Option Jvm.ClassFile.FieldType)).before args0 about1 = true := code_word (m := ⟨0, 0⟩) (meth := k0m0) (c := k0c0) (by decide +kernel) rfl rfl rfl (by decide +kernel)
set_option maxRecDepth 65536 in
theorem w_c6 : (Jvm.Cond.code ({ cls := "com/example/triplewright/triplewright/source/ElementNameMatchesPinLaw", name := "ch", desc := "(II)C" } : Jvm.MethodName) method_3_code (2 : Nat) (Option.some Jvm.ClassFile.FieldType.char)).before args0 about1 = true := code_word (m := ⟨1, 2⟩) (meth := k1m2) (c := k1c2) (by decide +kernel) rfl rfl rfl (by decide +kernel)
set_option maxRecDepth 65536 in
theorem w_c7 : (Jvm.Cond.code ({ cls := "java/lang/StringUTF16", name := "compress", desc := "([CII)[B" } : Jvm.MethodName) jdk_52_method_16_code (6 : Nat) (Option.some (Jvm.ClassFile.FieldType.array Jvm.ClassFile.FieldType.byte))).before args0 about1 = true := code_word (m := ⟨8, 2⟩) (meth := k8m2) (c := k8c2) (by decide +kernel) rfl rfl rfl (by decide +kernel)
set_option maxRecDepth 65536 in
theorem w_c8 : (Jvm.Cond.code ({ cls := "java/lang/StringUTF16", name := "compress", desc := "([CI[BII)I" } : Jvm.MethodName) jdk_52_method_21_code (7 : Nat) (Option.some Jvm.ClassFile.FieldType.int)).before args0 about1 = true := code_word (m := ⟨8, 3⟩) (meth := k8m3) (c := k8c3) (by decide +kernel) rfl rfl rfl (by decide +kernel)
set_option maxRecDepth 65536 in
theorem w_c9 : (Jvm.Cond.code ({ cls := "java/lang/StringUTF16", name := "coderFromArrayLen", desc := "([BI)B" } : Jvm.MethodName) jdk_52_method_15_code (2 : Nat) (Option.some Jvm.ClassFile.FieldType.byte)).before args0 about1 = true := code_word (m := ⟨8, 1⟩) (meth := k8m1) (c := k8c1) (by decide +kernel) rfl rfl rfl (by decide +kernel)
set_option maxRecDepth 65536 in
theorem w_c10 : (Jvm.Cond.code ({ cls := "com/example/triplewright/triplewright/source/XmlParser$ElementName", name := "<init>", desc := "(Ljava/lang/String;Ljava/lang/String;)V" } : Jvm.MethodName) prog_70_method_1_code (3 : Nat) (Option.none : Option Jvm.ClassFile.FieldType)).before args0 about1 = true := code_word (m := ⟨10, 0⟩) (meth := k10m0) (c := k10c0) (by decide +kernel) rfl rfl rfl (by decide +kernel)
set_option maxRecDepth 65536 in
theorem w_c11 : (Jvm.Cond.code ({ cls := "java/lang/Record", name := "<init>", desc := "()V" } : Jvm.MethodName) jdk_30_method_1_code (1 : Nat) (Option.none : Option Jvm.ClassFile.FieldType)).before args0 about1 = true := code_word (m := ⟨9, 0⟩) (meth := k9m0) (c := k9c0) (by decide +kernel) rfl rfl rfl (by decide +kernel)
set_option maxRecDepth 65536 in
theorem w_c12 : (Jvm.Cond.code ({ cls := "com/example/triplewright/triplewright/source/XmlParser$ElementName", name := "matches", desc := "(Ljava/lang/String;Ljava/lang/String;)Z" } : Jvm.MethodName) prog_70_method_2_code (3 : Nat) (Option.some Jvm.ClassFile.FieldType.boolean)).before args0 about1 = true := code_word (m := ⟨10, 1⟩) (meth := k10m1) (c := k10c1) (by decide +kernel) rfl rfl rfl (by decide +kernel)
set_option maxRecDepth 65536 in
theorem w_c13 : (Jvm.Cond.code ({ cls := "java/lang/String", name := "equals", desc := "(Ljava/lang/Object;)Z" } : Jvm.MethodName) jdk_42_method_66_code (3 : Nat) (Option.some Jvm.ClassFile.FieldType.boolean)).before args0 about1 = true := code_word (m := ⟨7, 2⟩) (meth := k7m2) (c := k7c2) (by decide +kernel) rfl rfl rfl (by decide +kernel)
set_option maxRecDepth 65536 in
theorem w_c14 : (Jvm.Cond.code ({ cls := "java/lang/StringLatin1", name := "equals", desc := "([B[B)Z" } : Jvm.MethodName) jdk_43_method_13_code (3 : Nat) (Option.some Jvm.ClassFile.FieldType.boolean)).before args0 about1 = true := code_word (m := ⟨11, 1⟩) (meth := k11m1) (c := k11c1) (by decide +kernel) rfl rfl rfl (by decide +kernel)
set_option maxRecDepth 65536 in
theorem w_c15 : (Jvm.Cond.code ({ cls := "com/example/triplewright/triplewright/source/ElementNameMatchesPinLaw", name := "same", desc := "(II)Z" } : Jvm.MethodName) method_5_code (4 : Nat) (Option.some Jvm.ClassFile.FieldType.boolean)).before args0 about1 = true := code_word (m := ⟨1, 4⟩) (meth := k1m4) (c := k1c4) (by decide +kernel) rfl rfl rfl (by decide +kernel)
def codes1 : List Jvm.Cond := [Jvm.Cond.code x code maxLocals ret, Jvm.Cond.code ({ cls := "com/example/triplewright/triplewright/source/ElementNameMatchesPinLaw", name := "mk", desc := "(I)Ljava/lang/String;" } : Jvm.MethodName) method_4_code (3 : Nat) (Option.some (Jvm.ClassFile.FieldType.object "java/lang/String")), Jvm.Cond.code ({ cls := "com/example/triplewright/triplewright/source/ElementNameMatchesPinLaw", name := "len", desc := "(I)I" } : Jvm.MethodName) method_2_code (1 : Nat) (Option.some Jvm.ClassFile.FieldType.int), Jvm.Cond.code ({ cls := "java/lang/String", name := "<init>", desc := "([C)V" } : Jvm.MethodName) jdk_42_method_3_code (2 : Nat) (Option.none : Option Jvm.ClassFile.FieldType), Jvm.Cond.code ({ cls := "java/lang/String", name := "<init>", desc := "([CIILjava/lang/Void;)V" } : Jvm.MethodName) jdk_42_method_149_code (6 : Nat) (Option.none : Option Jvm.ClassFile.FieldType), Jvm.Cond.code ({ cls := "java/lang/Object", name := "<init>", desc := "()V" } : Jvm.MethodName) object_method_1_code (1 : Nat) (Option.none : Option Jvm.ClassFile.FieldType), Jvm.Cond.code ({ cls := "com/example/triplewright/triplewright/source/ElementNameMatchesPinLaw", name := "ch", desc := "(II)C" } : Jvm.MethodName) method_3_code (2 : Nat) (Option.some Jvm.ClassFile.FieldType.char), Jvm.Cond.code ({ cls := "java/lang/StringUTF16", name := "compress", desc := "([CII)[B" } : Jvm.MethodName) jdk_52_method_16_code (6 : Nat) (Option.some (Jvm.ClassFile.FieldType.array Jvm.ClassFile.FieldType.byte)), Jvm.Cond.code ({ cls := "java/lang/StringUTF16", name := "compress", desc := "([CI[BII)I" } : Jvm.MethodName) jdk_52_method_21_code (7 : Nat) (Option.some Jvm.ClassFile.FieldType.int), Jvm.Cond.code ({ cls := "java/lang/StringUTF16", name := "coderFromArrayLen", desc := "([BI)B" } : Jvm.MethodName) jdk_52_method_15_code (2 : Nat) (Option.some Jvm.ClassFile.FieldType.byte), Jvm.Cond.code ({ cls := "com/example/triplewright/triplewright/source/XmlParser$ElementName", name := "<init>", desc := "(Ljava/lang/String;Ljava/lang/String;)V" } : Jvm.MethodName) prog_70_method_1_code (3 : Nat) (Option.none : Option Jvm.ClassFile.FieldType), Jvm.Cond.code ({ cls := "java/lang/Record", name := "<init>", desc := "()V" } : Jvm.MethodName) jdk_30_method_1_code (1 : Nat) (Option.none : Option Jvm.ClassFile.FieldType), Jvm.Cond.code ({ cls := "com/example/triplewright/triplewright/source/XmlParser$ElementName", name := "matches", desc := "(Ljava/lang/String;Ljava/lang/String;)Z" } : Jvm.MethodName) prog_70_method_2_code (3 : Nat) (Option.some Jvm.ClassFile.FieldType.boolean), Jvm.Cond.code ({ cls := "java/lang/String", name := "equals", desc := "(Ljava/lang/Object;)Z" } : Jvm.MethodName) jdk_42_method_66_code (3 : Nat) (Option.some Jvm.ClassFile.FieldType.boolean), Jvm.Cond.code ({ cls := "java/lang/StringLatin1", name := "equals", desc := "([B[B)Z" } : Jvm.MethodName) jdk_43_method_13_code (3 : Nat) (Option.some Jvm.ClassFile.FieldType.boolean), Jvm.Cond.code ({ cls := "com/example/triplewright/triplewright/source/ElementNameMatchesPinLaw", name := "same", desc := "(II)Z" } : Jvm.MethodName) method_5_code (4 : Nat) (Option.some Jvm.ClassFile.FieldType.boolean)]
set_option maxRecDepth 65536 in
theorem codes_eq : words1.filter isCode = codes1 := rfl
theorem w_codes : ∀ c ∈ words1.filter isCode, c.before args0 about1 = true := by
  rw [codes_eq]
  intro c hc
  simp only [codes1, List.mem_cons, List.not_mem_nil, or_false] at hc
  rcases hc with rfl | rfl | rfl | rfl | rfl | rfl | rfl | rfl | rfl | rfl | rfl | rfl | rfl | rfl | rfl | rfl
  · exact w_c0
  · exact w_c1
  · exact w_c2
  · exact w_c3
  · exact w_c4
  · exact w_c5
  · exact w_c6
  · exact w_c7
  · exact w_c8
  · exact w_c9
  · exact w_c10
  · exact w_c11
  · exact w_c12
  · exact w_c13
  · exact w_c14
  · exact w_c15
set_option maxRecDepth 65536 in
theorem w_t1 : (words1.take 24).all (fun c => isCode c || c.before args0 about1) = true := by decide +kernel
set_option maxRecDepth 65536 in
theorem w_t2 : ((words1.drop 24).take 24).all (fun c => isCode c || c.before args0 about1) = true := by decide +kernel
set_option maxRecDepth 65536 in
theorem w_t3 : (((words1.drop 24).drop 24).take 24).all (fun c => isCode c || c.before args0 about1) = true := by decide +kernel
set_option maxRecDepth 65536 in
theorem w_t4 : (((words1.drop 24).drop 24).drop 24).all (fun c => isCode c || c.before args0 about1) = true := by decide +kernel
theorem w_tables : (allAtoms (Jvm.Cond.code x code maxLocals ret :: tables_1)).before args0 about1 = true := by
  rw [allAtoms_all]
  show words1.all (fun c => c.before args0 about1) = true
  refine all_split ?_ w_codes
  rw [← List.take_append_drop 24 words1, List.all_append, w_t1, ← List.take_append_drop 24 (words1.drop 24), List.all_append, w_t2, ← List.take_append_drop 24 ((words1.drop 24).drop 24), List.all_append, w_t3, w_t4]
  rfl
set_option maxRecDepth 65536 in
theorem w_rest : rest_1_c.before args0 about1 = true := by decide +kernel
set_option maxRecDepth 65536 in
theorem w_case : (Jvm.Cond.and given_1 narrow_1).before args0 about1 = true := by decide +kernel
set_option maxRecDepth 65536 in
theorem w_consts : constsHeld consts_1 about1 := Jvm.Lit.constsHeldB_iff.mp (by decide +kernel)
theorem w_applies : (headSpec (Jvm.Cond.code x code maxLocals ret :: tables_1) room_1).applies x e0.platform about1 = true :=
  (Spec.applies_iff w_frames).mpr ⟨w_running, w_runnable, w_alone, w_named, w_hears, w_ripe, w_room, w_tables⟩
theorem atStart : AtStart classFile x code maxLocals ret World_1 tables_1 room_1 Calls_1 rest_1 Pre_1 launch0 p0 e0 about1 theMethod args0 below0 :=
  ⟨lists_1, trivial, launch0.admits_env _ _ _, launch0.least_env, fairChoices_fair.cas, fairChoices_fair.clock, w_frames, w_args, w_heap, w_applies, ⟨w_consts, trivial⟩, w_rest, w_case⟩
end start1
theorem witness_1 : WitnessClaimed_1 := ⟨start1.p0, start1.e0, start1.about1, start1.theMethod, start1.args0, start1.below0, start1.atStart⟩
end Jvm.Pilot.@@N@@
