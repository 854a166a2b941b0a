import JvmDerived
import JvmDerived.Pilot.@@N@@Statement
import JvmDerived.Pilot.@@N@@Code
set_option linter.unusedVariables false
set_option linter.unusedSimpArgs false
namespace Jvm.RoadKit
open Sem ClassFile Op Lib Jvm.Stand Jvm.Free Jvm.LawKit
section New
variable {p : Program} {l : Launch} {e : Env} {R : Room} {s : State} {m : MethodId} {args : Array Value} {below : List Frame} {meth : Method} {c : Code} {T : State} {locs : List Loc} {cells slots : Nat}
theorem retI (X : Stand p l e R s m args below meth c T locs cells slots) (hx : p.tables.exec = Jvm.exec) {pc : Nat} {Ls : Array Slot} {z : Int32} {rest : List Value} (hret : meth.sig.returnType = some .int) (hd : decode c.code pc = .ok (.ireturn, 1)) {fs : List Frame}
    (hl : ∀ (f : JFrame) (acts : List Action), f.method = m → f.locked = none → f.entered = [] → (doReturn e (T.setTop f) acts (some (.int z))).1 = T.setFrames fs) : Steps p.tables e below (T.setTop (mkF m pc Ls (.int z :: rest))) (T.setFrames fs) := by
  have hm' : T.vm.method? m = some meth := X.method'
  have hn : narrow .int (.int z) = .int z := rfl
  show Steps p.tables e below (T.setTop { method := m, pc := pc, locals := Ls, stack := _ :: rest, locked := none }) _
  jvm_step X.here [X.here.top, hx, hd, hm', hret, hn]
  first | (intro acts; rw [hl _ acts rfl rfl rfl]) | rw [hl _ _ rfl rfl rfl]
  exact Steps.refl _
theorem retD (X : Stand p l e R s m args below meth c T locs cells slots) (hx : p.tables.exec = Jvm.exec) {pc : Nat} {Ls : Array Slot} {z : UInt64} {rest : List Value} (hret : meth.sig.returnType = some .double) (hd : decode c.code pc = .ok (.dreturn, 1)) {fs : List Frame}
    (hl : ∀ (f : JFrame) (acts : List Action), f.method = m → f.locked = none → f.entered = [] → (doReturn e (T.setTop f) acts (some (.double z))).1 = T.setFrames fs) : Steps p.tables e below (T.setTop (mkF m pc Ls (.double z :: rest))) (T.setFrames fs) := by
  have hm' : T.vm.method? m = some meth := X.method'
  have hn : narrow .double (.double z) = .double z := rfl
  show Steps p.tables e below (T.setTop { method := m, pc := pc, locals := Ls, stack := _ :: rest, locked := none }) _
  jvm_step X.here [X.here.top, hx, hd, hm', hret, hn]
  first | (intro acts; rw [hl _ acts rfl rfl rfl]) | rw [hl _ _ rfl rfl rfl]
  exact Steps.refl _
end New
end Jvm.RoadKit
namespace Jvm.RoadKit
open Sem ClassFile Op Lib Jvm.Stand Jvm.Free Jvm.LawKit
theorem own_lsw {tb : Tables} [Ours tb] {e : Env} {below : List Frame} {T target : State} {m : MethodId} {c : Code} {g : JFrame} (h : At T m c below) (hx : tb.exec = Jvm.exec) (hg : g.method = m) {dflt : Int} {pairs : Array (Int × Int)} {len : Nat} {pc0 pc' : Nat} (hpc : g.pc = pc0) (hd : decode c.code g.pc = .ok (.lookupswitch dflt pairs, len)) {i : Int32} {rest : List Value} (hs : g.stack = .int i :: rest) {o : Int}
    (hoff : lookupswitch.offset pairs.toList dflt i.toInt = o) (hso : (pairs.toList.zip (pairs.toList.drop 1)).all (fun (a, next) => a.1 < next.1) = true) (ho : 0 ≤ (pc0 : Int) + o) (hp : ((pc0 : Int) + o).toNat = pc')
    (hr : Steps tb e below (T.setTop { g with pc := pc', stack := rest }) target) : Steps tb e below (T.setTop g) target := by
  subst hg hpc hp
  jvm_step h [h.top, hx, hd, hs, hoff, ho, lookupswitch.wp_chain]
  exact ⟨by simpa using hso, hr⟩
theorem own_off_no {k d : Int} : ∀ {L : List (Int × Int)}, (∀ q ∈ L, ¬ q.1 = k) → lookupswitch.offset L d k = d
  | [], _ => rfl
  | (a, o) :: r, h => by rw [lookupswitch.offset_cons, if_neg (h (a, o) (List.mem_cons_self ..))]; exact own_off_no fun q hq => h q (List.mem_cons_of_mem _ hq)
theorem own_ne_lit {x k : Int32} (h : ¬ x = k) {z : Int} (hz : k.toInt = z) : ¬ z = x.toInt := fun q => h (Int32.toInt_inj.mp (by rw [← q, hz]))
def own_rem (x y : Int32) : Int32 := x - (x / y) * y
def bi (P : Prop) [Decidable P] : Int32 := if P then 1 else 0
theorem bi_t {P : Prop} [Decidable P] (h : P) : bi P = 1 := if_pos h
theorem bi_f {P : Prop} [Decidable P] (h : ¬ P) : bi P = 0 := if_neg h
theorem bi_nar {P : Prop} [Decidable P] : nar .boolean (bi P) = bi P := by unfold bi; split <;> rfl
theorem bi_0 {P : Prop} [Decidable P] : (bi P = 0) ↔ ¬ P := by unfold bi; split <;> simp_all
theorem bi_inj {P Q : Prop} [Decidable P] [Decidable Q] (h : P ↔ Q) : bi P = bi Q := by unfold bi; simp only [h]
end Jvm.RoadKit
namespace Jvm.RoadKit
open Sem ClassFile Op Lib Jvm.Stand Jvm.Free Jvm.LawKit
section OwnWords
variable {args : Array Value} {s : State} {idx : List Nat} {t i : Term} {aT : Addr} {cl : Cell} {b k A B z : Int32}
theorem own_or {G Y : Cond} (h : (Cond.or G Y).value args s none s idx = some true) (hg : G.value args s none s idx = some false) : Y.value args s none s idx = some true := by
  simpa only [Cond.value, hg] using h
theorem own_el (h : (Cond.eq (.elem t i) (.int b)).value args s none s idx = some true) (ht : t.eval args s none idx s = some (.ref aT)) (hi : i.eval args s none idx s = some (.int k)) (hc : s.heap[aT]? = some cl) : atv cl k = b := by
  obtain ⟨x, y, e1, e2, -, -⟩ := cmp_v (Or.inl h)
  obtain ⟨-, e3⟩ := elem_in e1 ht hi hc
  have e4 : (Term.int b).eval args s none idx s = some (.int b) := rfl
  cases e4.symm.trans e2
  have e5 : x = .int b := by cases x <;> simp [Cond.value, e1, e4] at h; rw [h]
  subst e5
  exact atv_of e3
theorem own_r1 (h : (Cond.all t (.or (.le (.int A) (.index 0)) (.eq (.elem t (.index 0)) (.int b)))).value args s none s [] = some true) (ht : ∀ idx, t.eval args s none idx s = some (.ref aT)) (hc : s.heap[aT]? = some cl) (ha : s.arrayAt? aT = some cl) {n : Nat} (hn : n < cl.slots.size) (h1 : ¬ A ≤ n.toInt32) : atv cl n.toInt32 = b := by
  have q := Cond.all_elim (ht []) ha h n hn
  exact own_el (own_or q (by simp [Cond.value, Term.eval, h1])) (ht _) (by simp [Term.eval]) hc
theorem own_r2 (h : (Cond.all t (.or (.lt (.index 0) (.int A)) (.or (.le (.int B) (.index 0)) (.eq (.elem t (.index 0)) (.int b))))).value args s none s [] = some true) (ht : ∀ idx, t.eval args s none idx s = some (.ref aT)) (hc : s.heap[aT]? = some cl) (ha : s.arrayAt? aT = some cl) {n : Nat} (hn : n < cl.slots.size) (h1 : ¬ n.toInt32 < A) (h2 : ¬ B ≤ n.toInt32) : atv cl n.toInt32 = b := by
  have q := Cond.all_elim (ht []) ha h n hn
  exact own_el (own_or (own_or q (by simp [Cond.value, Term.eval, h1])) (by simp [Cond.value, Term.eval, h2])) (ht _) (by simp [Term.eval]) hc
theorem own_len (h : (Cond.eq (.length t) (.int z)).value args s none s idx = some true) (ht : t.eval args s none idx s = some (.ref aT)) (ha : s.arrayAt? aT = some cl) : cl.slots.size < 2 ^ 31 ∧ cl.slots.size.toInt32 = z := by
  by_cases q : cl.slots.size < 2 ^ 31
  · simp [Cond.value, Term.eval, ht, ha, q] at h; exact ⟨q, h⟩
  · simp [Cond.value, Term.eval, ht, ha, q] at h
theorem own_sta_idx {C n d : String} {v : Value} (h : (Term.static C n d).eval args s none [] s = some v) (idx : List Nat) : (Term.static C n d).eval args s none idx s = some v := by
  simp only [Term.eval] at h ⊢; exact h
end OwnWords
theorem own_toInt_ofNat {n : Nat} (h : n < 2147483648) : (Int32.ofNat n).toInt = n := Int32.toInt_ofNat_small h
theorem own_of_rng {c : Int32} (h0 : ¬ c < 0) : c = Int32.ofNat c.toInt.toNat := by
  have h0' : 0 ≤ c.toInt := by rw [Int32.lt_iff_toInt_lt] at h0; have : (0 : Int32).toInt = 0 := rfl; omega
  have := c.toInt_lt
  apply Int32.toInt_inj.mp
  rw [own_toInt_ofNat (by omega)]; omega
end Jvm.RoadKit
namespace Jvm.RoadKit
open Sem ClassFile Op Lib Jvm.Stand Jvm.Free Jvm.LawKit
theorem own_ord {args : Array Value} {s : State} {t : Term} {a : Addr} {k : Int32} {C n d : String} (h : (Cond.eq (.field t C n d) (.int k)).value args s none s [] = some true) (ht : t.eval args s none [] s = some (.ref a)) : s.fieldOf? a C n d = some (.int k) := by
  obtain ⟨x, y, e1, e2, -, -⟩ := cmp_v (Or.inl h)
  have e4 : (Term.int k).eval args s none [] s = some (.int k) := rfl
  have e5 : x = .int k := by cases x <;> simp [Cond.value, e1, e4] at h; rw [h]
  rw [fld_at ht] at e1
  rw [e1, e5]
theorem own_ord_ne {o : Addr → Option Value} {a b : Addr} {j k : Int32} (h1 : o a = some (.int j)) (h2 : o b = some (.int k)) (hjk : ¬ j = k) : ¬ a = b := fun e => by
  subst e; exact hjk (Value.int.inj (Option.some.inj (h1.symm.trans h2)))
theorem own_and7 (x : Int32) : (x &&& 7).toInt = 0 ∨ (x &&& 7).toInt = 1 ∨ (x &&& 7).toInt = 2 ∨ (x &&& 7).toInt = 3 ∨ (x &&& 7).toInt = 4 ∨ (x &&& 7).toInt = 5 ∨ (x &&& 7).toInt = 6 ∨ (x &&& 7).toInt = 7 := by
  have h := c_mask x 7 3 (by decide) (by decide)
  have : ((2 ^ 3 : Nat) : Int) = 8 := rfl
  omega
theorem own_i32 {x k : Int32} {z : Int} (h : x.toInt = z) (hk : k.toInt = z) : x = k := Int32.toInt_inj.mp (h.trans hk.symm)
end Jvm.RoadKit
namespace Jvm.Pilot.@@N@@
open Jvm Jvm.ClassFile Sem Op Lib Jvm.Free Jvm.Stand Jvm.LawKit Jvm.RoadKit Bundle Jvm.Pilot.@@N@@.Jvm.D
section OwnFP
open Jvm.FP.Core
theorem own_pow {X Y a b : Nat} (h : X * 2 ^ a = Y * 2 ^ b) : X * 2 ^ (a - b) = Y * 2 ^ (b - a) := by
  rcases Nat.le_total a b with q | q
  · obtain ⟨d, rfl⟩ := Nat.exists_eq_add_of_le q
    have h2 : X * 2 ^ a = (Y * 2 ^ d) * 2 ^ a := by rw [h, Nat.pow_add]; simp only [Nat.mul_assoc, Nat.mul_comm, Nat.mul_left_comm]
    have h3 := Nat.eq_of_mul_eq_mul_right (Nat.two_pow_pos a) h2
    rw [Nat.sub_eq_zero_of_le q, Nat.add_sub_cancel_left, Nat.pow_zero, Nat.mul_one, h3]
  · obtain ⟨d, rfl⟩ := Nat.exists_eq_add_of_le q
    have h2 : (X * 2 ^ d) * 2 ^ b = Y * 2 ^ b := by rw [← h, Nat.pow_add]; simp only [Nat.mul_assoc, Nat.mul_comm, Nat.mul_left_comm]
    have h3 := Nat.eq_of_mul_eq_mul_right (Nat.two_pow_pos b) h2
    rw [Nat.sub_eq_zero_of_le q, Nat.add_sub_cancel_left, Nat.pow_zero, Nat.mul_one, h3]
theorem own_qmin : b64.qmin = -1074 := by decide
theorem own_qmax : b64.qmax = 971 := by decide
/-- the double x is the number n * 2^(-k) -/
def own_V (x : UInt64) (n : Int) (k : Nat) : Prop := val64 x = roundRatio b64 (decide (n < 0)) n.natAbs 1 (-(k : Int)) ∧ n.natAbs < 2 ^ 53 ∧ k ≤ 100
theorem own_fin {x : UInt64} {n : Int} {k : Nat} (h : own_V x n k) : ∃ c q, val64 x = .fin (decide (n < 0)) c q ∧ b64.qmin ≤ q ∧ c * 2 ^ (q - b64.qmin).toNat = n.natAbs * 2 ^ (-(k : Int) - b64.qmin).toNat := by
  obtain ⟨e, hb, hk⟩ := h
  obtain ⟨c, q, e2, u⟩ := round_exact good_b64 (decide (n < 0)) (c := n.natAbs) (q := -(k : Int)) hb (by rw [own_qmin]; omega) (by rw [own_qmax]; omega)
  have e3 : val64 x = .fin (decide (n < 0)) c q := e.trans e2
  have hf := val64_fits x
  rw [e3] at hf
  exact ⟨c, q, e3, hf.2.1, u⟩
theorem own_Vl {a : Int64} (h : a.toInt.natAbs < 2 ^ 53) : own_V (l2d a) a.toInt 0 := ⟨val64_l2d a, h, by decide⟩
theorem own_Vs {x : UInt64} {n : Int} {k : Nat} (h : own_V x n k) (j : Nat) (hb : (n * 2 ^ j).natAbs < 2 ^ 53) (hk : k + j ≤ 100) : own_V x (n * 2 ^ j) (k + j) := by
  refine ⟨?_, hb, hk⟩
  have p : (0 : Int) < 2 ^ j := Int.pow_pos (by decide)
  have hs : decide (n * 2 ^ j < 0) = decide (n < 0) := by
    by_cases q : n < 0
    · rw [decide_eq_true q, decide_eq_true (Int.mul_neg_of_neg_of_pos q p)]
    · rw [decide_eq_false q, decide_eq_false (Int.not_lt.mpr (Int.mul_nonneg (Int.not_lt.mp q) (Int.le_of_lt p)))]
  rw [h.1, hs]
  refine roundRatio_congr (by decide) (by decide) ?_
  rw [Nat.mul_one, Nat.mul_one, Int.natAbs_mul, Int.natAbs_pow]
  have e1 : (-(k : Int) - -((k + j : Nat) : Int)).toNat = j := by omega
  have e2 : (-((k + j : Nat) : Int) - -(k : Int)).toNat = 0 := by omega
  rw [e1, e2]; simp
theorem own_sgn {n m : Int} (hz : n * m = 0 → 0 ≤ n ∧ 0 ≤ m) : (decide (n < 0) != decide (m < 0)) = decide (n * m < 0) := by
  by_cases hn : n < 0
  · by_cases hm : m < 0
    · have := Int.mul_pos_of_neg_of_neg hn hm
      rw [decide_eq_true hn, decide_eq_true hm, decide_eq_false (by omega)]; rfl
    · by_cases h0 : m = 0
      · subst h0; exact absurd (hz (Int.mul_zero n)).1 (by omega)
      · have := Int.mul_neg_of_neg_of_pos hn (show 0 < m by omega)
        rw [decide_eq_true hn, decide_eq_false hm, decide_eq_true this]; rfl
  · by_cases hm : m < 0
    · by_cases h0 : n = 0
      · subst h0; exact absurd (hz (Int.zero_mul m)).2 (by omega)
      · have := Int.mul_neg_of_pos_of_neg (show 0 < n by omega) hm
        rw [decide_eq_false hn, decide_eq_true hm, decide_eq_true this]; rfl
    · have := Int.mul_nonneg (Int.not_lt.mp hn) (Int.not_lt.mp hm)
      rw [decide_eq_false hn, decide_eq_false hm, decide_eq_false (by omega)]; rfl
theorem own_Vm {x y : UInt64} {n m : Int} {k j : Nat} (hx : own_V x n k) (hy : own_V y m j) (hb : (n * m).natAbs < 2 ^ 53) (hk : k + j ≤ 100) (hz : n * m = 0 → 0 ≤ n ∧ 0 ≤ m) : own_V (dmul x y) (n * m) (k + j) := by
  have k1 := hx.2.2; have k2 := hy.2.2
  obtain ⟨c, q, e1, q1, u1⟩ := own_fin hx
  obtain ⟨d, r, e2, r1, u2⟩ := own_fin hy
  refine ⟨?_, hb, hk⟩
  rw [val64_dmul, e1, e2]
  show roundRatio b64 (decide (n < 0) != decide (m < 0)) (c * d) 1 (q + r) = _
  rw [own_sgn hz]
  refine roundRatio_congr (by decide) (by decide) ?_
  rw [Nat.mul_one, Nat.mul_one, Int.natAbs_mul]
  have h := own_pow (X := c * d) (Y := n.natAbs * m.natAbs) (a := (q - b64.qmin).toNat + (r - b64.qmin).toNat) (b := (-(k : Int) - b64.qmin).toNat + (-(j : Int) - b64.qmin).toNat) (by
    rw [Nat.pow_add, Nat.pow_add]
    calc c * d * (2 ^ (q - b64.qmin).toNat * 2 ^ (r - b64.qmin).toNat) = (c * 2 ^ (q - b64.qmin).toNat) * (d * 2 ^ (r - b64.qmin).toNat) := by simp only [Nat.mul_assoc, Nat.mul_comm, Nat.mul_left_comm]
      _ = (n.natAbs * 2 ^ (-(k : Int) - b64.qmin).toNat) * (m.natAbs * 2 ^ (-(j : Int) - b64.qmin).toNat) := by rw [u1, u2]
      _ = n.natAbs * m.natAbs * (2 ^ (-(k : Int) - b64.qmin).toNat * 2 ^ (-(j : Int) - b64.qmin).toNat) := by simp only [Nat.mul_assoc, Nat.mul_comm, Nat.mul_left_comm])
  rw [own_qmin] at h q1 r1
  have x1 : (q + r - -((k + j : Nat) : Int)).toNat = (q - -1074).toNat + (r - -1074).toNat - ((-(k : Int) - -1074).toNat + (-(j : Int) - -1074).toNat) := by omega
  have x2 : (-((k + j : Nat) : Int) - (q + r)).toNat = (-(k : Int) - -1074).toNat + (-(j : Int) - -1074).toNat - ((q - -1074).toNat + (r - -1074).toNat) := by omega
  rw [x1, x2]; exact h
theorem own_signed {n : Int} {c Q K : Nat} (u : c * 2 ^ Q = n.natAbs * 2 ^ K) : signed (decide (n < 0)) (c * 2 ^ Q) = n * 2 ^ K := by
  rw [u]; unfold signed
  by_cases q : n < 0
  · rw [if_pos (decide_eq_true q)]
    have : (n.natAbs : Int) = -n := by omega
    rw [Int.natCast_mul, this, Int.natCast_pow]; simp [Int.neg_mul]
  · rw [if_neg (by simp [q])]
    have : (n.natAbs : Int) = n := by omega
    rw [Int.natCast_mul, this, Int.natCast_pow]; simp
theorem own_sum {s t : Bool} {c d K k : Nat} {q r n m : Int} (hk : k ≤ 100) (hK : K = (-(k : Int) - b64.qmin).toNat) (q1 : b64.qmin ≤ q) (r1 : b64.qmin ≤ r) (u1 : signed s (c * 2 ^ (q - b64.qmin).toNat) = n * 2 ^ K) (u2 : signed t (d * 2 ^ (r - b64.qmin).toNat) = m * 2 ^ K) (hz : n + m = 0 → (s && t) = false) :
    round b64 (exactSum (.fin s c q) (.fin t d r)) = roundRatio b64 (decide (n + m < 0)) (n + m).natAbs 1 (-(k : Int)) := by
  show roundRatio b64 (sumSign s t (sumUnits s c q t d r (min q r))) (sumUnits s c q t d r (min q r)).natAbs 1 (min q r) = _
  have hE : ∀ (s : Bool) (c : Nat) (q e : Int), b64.qmin ≤ e → e ≤ q → signed s (inUnits c q e) * 2 ^ (e - b64.qmin).toNat = signed s (c * 2 ^ (q - b64.qmin).toNat) := by
    intro s c q e h1 h2
    have hx : c * 2 ^ (q - b64.qmin).toNat = inUnits c q e * 2 ^ (e - b64.qmin).toNat := by
      unfold inUnits; rw [Nat.mul_assoc, ← Nat.pow_add]; congr 2; omega
    rw [hx]; unfold signed
    cases s <;> simp [Int.natCast_mul, Int.natCast_pow, Int.neg_mul]
  have hmin : b64.qmin ≤ min q r := by omega
  have hu : sumUnits s c q t d r (min q r) * 2 ^ (min q r - b64.qmin).toNat = (n + m) * 2 ^ K := by
    unfold sumUnits; rw [Int.add_mul, hE s c q _ hmin (by omega), hE t d r _ hmin (by omega), u1, u2, Int.add_mul]
  generalize hsu : sumUnits s c q t d r (min q r) = su at hu
  generalize hee : min q r = ee at hu hmin
  have pE : (0 : Int) < 2 ^ (ee - b64.qmin).toNat := Int.pow_pos (by decide)
  have pK : (0 : Int) < 2 ^ K := Int.pow_pos (by decide)
  have hneg : su < 0 ↔ n + m < 0 := by
    constructor
    · intro h; have := Int.mul_neg_of_neg_of_pos h pE; rw [hu] at this
      exact Int.not_le.mp fun w => absurd (Int.mul_nonneg w (Int.le_of_lt pK)) (by omega)
    · intro h; have := Int.mul_neg_of_neg_of_pos h pK; rw [← hu] at this
      exact Int.not_le.mp fun w => absurd (Int.mul_nonneg w (Int.le_of_lt pE)) (by omega)
  have hzero : su = 0 ↔ n + m = 0 := by
    constructor
    · intro h; rw [h, Int.zero_mul] at hu
      rcases Int.mul_eq_zero.mp hu.symm with w | w
      · exact w
      · omega
    · intro h; rw [h, Int.zero_mul] at hu
      rcases Int.mul_eq_zero.mp hu with w | w
      · exact w
      · omega
  have hs : sumSign s t su = decide (n + m < 0) := by
    unfold sumSign
    by_cases w : su = 0
    · rw [if_pos w, hz (hzero.mp w), decide_eq_false (by have := hzero.mp w; omega)]
    · rw [if_neg w]; exact decide_eq_decide.mpr hneg
  rw [hs]
  refine roundRatio_congr (by decide) (by decide) ?_
  rw [Nat.mul_one, Nat.mul_one]
  have hab : su.natAbs * 2 ^ (ee - b64.qmin).toNat = (n + m).natAbs * 2 ^ K := by
    have := congrArg Int.natAbs hu
    rw [Int.natAbs_mul, Int.natAbs_mul, Int.natAbs_pow, Int.natAbs_pow] at this
    exact this
  have h := own_pow hab
  rw [hK, own_qmin] at h
  rw [own_qmin] at hmin
  have x1 : (ee - -(k : Int)).toNat = (ee - -1074).toNat - (-(k : Int) - -1074).toNat := by omega
  have x2 : (-(k : Int) - ee).toNat = (-(k : Int) - -1074).toNat - (ee - -1074).toNat := by omega
  rw [x1, x2]; exact h
theorem own_Va {x y : UInt64} {n m : Int} {k : Nat} (hx : own_V x n k) (hy : own_V y m k) (hb : (n + m).natAbs < 2 ^ 53) : own_V (dadd x y) (n + m) k := by
  obtain ⟨c, q, e1, q1, u1⟩ := own_fin hx
  obtain ⟨d, r, e2, r1, u2⟩ := own_fin hy
  refine ⟨?_, hb, hx.2.2⟩
  rw [val64_dadd, e1, e2]
  exact own_sum hx.2.2 rfl q1 r1 (own_signed u1) (own_signed u2) (fun h => by
    by_cases w : n < 0
    · rw [decide_eq_false (show ¬ m < 0 by omega), Bool.and_false]
    · rw [decide_eq_false w, Bool.false_and])
theorem own_Vb {x y : UInt64} {n m : Int} {k : Nat} (hx : own_V x n k) (hy : own_V y m k) (hn : 0 ≤ n) (hb : (n - m).natAbs < 2 ^ 53) : own_V (dsub x y) (n - m) k := by
  obtain ⟨c, q, e1, q1, u1⟩ := own_fin hx
  obtain ⟨d, r, e2, r1, u2⟩ := own_fin hy
  refine ⟨?_, hb, hx.2.2⟩
  rw [val64_dsub, e1, e2]
  have u3 : signed (!decide (m < 0)) (d * 2 ^ (r - b64.qmin).toNat) = (-m) * 2 ^ (-(k : Int) - b64.qmin).toNat := by
    have h := own_signed u2
    rw [Int.neg_mul, ← h]; unfold signed
    cases decide (m < 0) <;> simp
  have h := own_sum (s := decide (n < 0)) (t := !decide (m < 0)) hx.2.2 rfl q1 r1 (own_signed u1) u3 (fun _ => by rw [decide_eq_false (show ¬ n < 0 by omega), Bool.false_and])
  rw [← Int.sub_eq_add_neg] at h
  exact h
theorem own_Vd {x y : UInt64} {n m : Int} {k j : Nat} (hx : own_V x n k) (hy : own_V y m j) (hm : 0 < m) : val64 (ddiv x y) = roundRatio b64 (decide (n < 0)) n.natAbs m.natAbs ((j : Int) - k) := by
  have k1 := hx.2.2; have k2 := hy.2.2
  obtain ⟨c, q, e1, q1, u1⟩ := own_fin hx
  obtain ⟨d, r, e2, r1, u2⟩ := own_fin hy
  have hd : d ≠ 0 := fun w => by
    rw [w, Nat.zero_mul] at u2
    rcases Nat.mul_eq_zero.mp u2.symm with z | z
    · omega
    · exact absurd z (Nat.ne_of_gt (Nat.two_pow_pos _))
  rw [val64_ddiv, e1, e2]
  show (if d = 0 then _ else roundRatio b64 (decide (n < 0) != decide (m < 0)) c d (q - r)) = _
  rw [if_neg hd, decide_eq_false (show ¬ m < 0 by omega), Bool.bne_false]
  refine roundRatio_congr (Nat.pos_of_ne_zero hd) (by omega) ?_
  have h := own_pow (X := c * m.natAbs) (Y := n.natAbs * d) (a := (q - b64.qmin).toNat + (-(j : Int) - b64.qmin).toNat) (b := (-(k : Int) - b64.qmin).toNat + (r - b64.qmin).toNat) (by
    rw [Nat.pow_add, Nat.pow_add]
    calc c * m.natAbs * (2 ^ (q - b64.qmin).toNat * 2 ^ (-(j : Int) - b64.qmin).toNat) = (c * 2 ^ (q - b64.qmin).toNat) * (m.natAbs * 2 ^ (-(j : Int) - b64.qmin).toNat) := by simp only [Nat.mul_assoc, Nat.mul_comm, Nat.mul_left_comm]
      _ = (n.natAbs * 2 ^ (-(k : Int) - b64.qmin).toNat) * (d * 2 ^ (r - b64.qmin).toNat) := by rw [u1, u2]
      _ = n.natAbs * d * (2 ^ (-(k : Int) - b64.qmin).toNat * 2 ^ (r - b64.qmin).toNat) := by simp only [Nat.mul_assoc, Nat.mul_comm, Nat.mul_left_comm])
  rw [own_qmin] at h q1 r1
  have x1 : (q - r - ((j : Int) - k)).toNat = (q - -1074).toNat + (-(j : Int) - -1074).toNat - ((-(k : Int) - -1074).toNat + (r - -1074).toNat) := by omega
  have x2 : ((j : Int) - k - (q - r)).toNat = (-(k : Int) - -1074).toNat + (r - -1074).toNat - ((q - -1074).toNat + (-(j : Int) - -1074).toNat) := by omega
  rw [x1, x2]; exact h
theorem own_Vp {x y : UInt64} {n : Int} {k i : Nat} (hx : own_V x n k) (hy : own_V y (2 ^ i) 0) (hk : k + i ≤ 100) : own_V (ddiv x y) n (k + i) := by
  have p : (0 : Int) < 2 ^ i := Int.pow_pos (by decide)
  refine ⟨?_, hx.2.1, hk⟩
  rw [own_Vd hx hy p]
  refine roundRatio_congr (by rw [Int.natAbs_pow]; exact Nat.two_pow_pos i) (by decide) ?_
  rw [Int.natAbs_pow, Nat.mul_one]
  have e1 : (((0 : Nat) : Int) - k - -((k + i : Nat) : Int)).toNat = i := by omega
  have e2 : (-((k + i : Nat) : Int) - (((0 : Nat) : Int) - k)).toNat = 0 := by omega
  rw [e1, e2]; simp
theorem own_Vq {x y x' y' : UInt64} {n m n' m' : Int} {k j k' j' : Nat} (hx : own_V x n k) (hy : own_V y m j) (hm : 0 < m) (hx' : own_V x' n' k') (hy' : own_V y' m' j') (hm' : 0 < m') (hs : n < 0 ↔ n' < 0)
    (h : n.natAbs * m'.natAbs * 2 ^ ((j : Int) - k - ((j' : Int) - k')).toNat = n'.natAbs * m.natAbs * 2 ^ ((j' : Int) - k' - ((j : Int) - k)).toNat) : ddiv x y = ddiv x' y' := by
  have e1 := own_Vd hx hy hm
  have e2 := own_Vd hx' hy' hm'
  refine val64_inj (by rw [e1]; exact roundRatio_ne_nan _ _ _ _ _) ?_
  rw [e1, e2, decide_eq_decide.mpr hs]
  exact roundRatio_congr (by omega) (by omega) h
theorem own_Vnn {x y : UInt64} {n m : Int} {k j : Nat} (hx : own_V x n k) (hy : own_V y m j) (hm : 0 < m) : val64 (ddiv x y) ≠ .nan := by rw [own_Vd hx hy hm]; exact roundRatio_ne_nan _ _ _ _ _
end OwnFP
theorem own_dc0 : FP.dconst0 = FP.l2d (0 : Int64) := by decide +kernel
theorem own_dc1 : FP.dconst1 = FP.l2d (1 : Int64) := by decide +kernel
theorem own_c4 : (4616189618054758400 : UInt64) = FP.l2d (4 : Int64) := by decide +kernel
theorem own_b53 (x : Int32) : B53 x.toInt64 := by
  have h := c_i2l x; have := rng32 x
  unfold B53; omega
theorem own_b0 : B53 0 := by unfold B53; decide
theorem own_nn {x : UInt64} {n : Int} {k : Nat} (h : own_V x n k) : Jvm.Free.Fl.NoNaN64 x := by
  refine Jvm.Free.Fl.val64_no.mpr ?_
  obtain ⟨c, q, e, -⟩ := own_fin h
  rw [e]; nofun
theorem own_Vi (x : Int32) : own_V (FP.l2d x.toInt64) x.toInt 0 := by
  have h := c_i2l x; have r := rng32 x
  have := own_Vl (a := x.toInt64) (by omega)
  rw [h] at this; exact this
theorem own_V4 : own_V (FP.l2d (4 : Int64)) (2 ^ 2) 0 := by
  have e : ((4 : Int64).toInt) = 2 ^ 2 := by decide
  rw [← e]; exact own_Vl (a := 4) (by decide)
theorem own_V1 : own_V (FP.l2d (1 : Int64)) 1 0 := by
  have e : ((1 : Int64).toInt) = 1 := by decide
  rw [← e]; exact own_Vl (a := 1) (by decide)
theorem own_and31 (x : Int32) : 0 ≤ (x &&& (31 : Int32)).toInt ∧ (x &&& (31 : Int32)).toInt ≤ 31 := c_and x 31 (by decide)
theorem own_and15 (x : Int32) : 0 ≤ (x &&& (15 : Int32)).toInt ∧ (x &&& (15 : Int32)).toInt ≤ 15 := c_and x 15 (by decide)
theorem own_pos (x : Int32) : 0 ≤ (x &&& (2147483647 : Int32)).toInt := (c_and x 2147483647 (by decide)).1
theorem own_rem5 (x : Int32) : 0 ≤ (own_rem (x &&& (7 : Int32)) (5 : Int32)).toInt ∧ (own_rem (x &&& (7 : Int32)) (5 : Int32)).toInt ≤ 4 := by
  have h2 : (own_rem (x &&& (7 : Int32)) (5 : Int32)).toInt = (x &&& (7 : Int32)).toInt.tmod (5 : Int32).toInt := rem_toInt _ _
  have e5 : (5 : Int32).toInt = 5 := rfl
  have h4 := tmod_bounds (a := (x &&& (7 : Int32)).toInt) (M := 5) (by decide)
  have h5 : 0 ≤ (x &&& (7 : Int32)).toInt.tmod 5 := Int.tmod_nonneg _ (c_and x 7 (by decide)).1
  rw [h2, e5]; omega
theorem own_near {c : Int32} {N : Nat} (h : 0 ≤ c.toInt ∧ c.toInt ≤ N) : ∃ n : Fin (N + 1), c = Int32.ofNat n.val := by
  have h0 : ¬ c < 0 := by rw [Int32.lt_iff_toInt_lt]; have : (0 : Int32).toInt = 0 := rfl; omega
  exact ⟨⟨c.toInt.toNat, by omega⟩, own_of_rng h0⟩
theorem own_shlA : ∀ n : Fin 4, ((1 : Int32) <<< (Int32.ofNat n.val &&& 31)).toInt = 2 ^ n.val := by decide +kernel
theorem own_shl (x : Int32) : ∃ i, i < 4 ∧ ((1 : Int32) <<< ((x &&& (3 : Int32)) &&& 31)).toInt = 2 ^ i := by
  obtain ⟨n, e⟩ := own_near (N := 3) (c_and x 3 (by decide))
  exact ⟨n.val, n.isLt, by rw [e]; exact own_shlA n⟩
theorem own_cmpK : ∀ n : Fin 32, ¬ cmpValue (FP.dcmp (FP.ddiv (FP.l2d ((Int32.ofNat n.val).toInt64)) (FP.l2d (4 : Int64))) (FP.l2d (0 : Int64))) .l < (0 : Int32) ∧ cmpValue (FP.dcmp (FP.ddiv (FP.l2d ((Int32.ofNat n.val).toInt64)) (FP.l2d (4 : Int64))) (9218868437227405312 : UInt64)) .g < (0 : Int32) := by decide +kernel
theorem own_cmpJ : ∀ n : Fin 5, ¬ cmpValue (FP.dcmp (FP.ddiv (FP.l2d ((Int32.ofNat n.val).toInt64)) (FP.l2d (4 : Int64))) (FP.l2d (0 : Int64))) .l < (0 : Int32) ∧ ¬ (0 : Int32) < cmpValue (FP.dcmp (FP.ddiv (FP.l2d ((Int32.ofNat n.val).toInt64)) (FP.l2d (4 : Int64))) (FP.l2d (1 : Int64))) .g := by decide +kernel
theorem own_cmp {kk jj : Int32} (hk : 0 ≤ kk.toInt ∧ kk.toInt ≤ 31) (hj : 0 ≤ jj.toInt ∧ jj.toInt ≤ 4) :
    ¬ cmpValue (FP.dcmp (FP.ddiv (FP.l2d (kk.toInt64)) (FP.l2d (4 : Int64))) (FP.l2d (0 : Int64))) .l < (0 : Int32) ∧ cmpValue (FP.dcmp (FP.ddiv (FP.l2d (kk.toInt64)) (FP.l2d (4 : Int64))) (9218868437227405312 : UInt64)) .g < (0 : Int32) ∧
    ¬ cmpValue (FP.dcmp (FP.ddiv (FP.l2d (jj.toInt64)) (FP.l2d (4 : Int64))) (FP.l2d (0 : Int64))) .l < (0 : Int32) ∧ ¬ (0 : Int32) < cmpValue (FP.dcmp (FP.ddiv (FP.l2d (jj.toInt64)) (FP.l2d (4 : Int64))) (FP.l2d (1 : Int64))) .g := by
  obtain ⟨n, rfl⟩ := own_near (N := 31) hk
  obtain ⟨m, rfl⟩ := own_near (N := 4) hj
  exact ⟨(own_cmpK n).1, (own_cmpK n).2, (own_cmpJ m).1, (own_cmpJ m).2⟩
theorem own_nm {a b : Int} {A B : Nat} (C : Nat) (ha : a.natAbs ≤ A) (hb : b.natAbs ≤ B) (h : A * B ≤ C) : (a * b).natAbs ≤ C := by
  rw [Int.natAbs_mul]; exact Nat.le_trans (Nat.mul_le_mul ha hb) h
theorem own_pw {i : Nat} (hi : i < 4) : (2 : Int) ^ i = 1 ∨ (2 : Int) ^ i = 2 ∨ (2 : Int) ^ i = 4 ∨ (2 : Int) ^ i = 8 := by
  match i, hi with
  | 0, _ => exact Or.inl rfl
  | 1, _ => exact Or.inr (Or.inl rfl)
  | 2, _ => exact Or.inr (Or.inr (Or.inl rfl))
  | 3, _ => exact Or.inr (Or.inr (Or.inr rfl))
theorem own_fne {f : Int32} (h : ¬ f = (0 : Int32)) : ¬ lcmpW (f.toInt64) (0 : Int64) = (0 : Int32) := fun q => h (by
  have q2 := (lw_eq _ _).mp q
  have e := congrArg Int64.toInt q2
  rw [c_i2l] at e
  exact Int32.toInt_inj.mp e)
theorem own_ane {aa : Int32} {i : Nat} (hi : i < 4) (ha : aa.toInt = 2 ^ i) : aa ≠ 0 := fun q => by
  rw [q] at ha; rcases own_pw hi with w | w | w | w <;> rw [w] at ha <;> exact absurd ha (by decide)
theorem own_fpos {f : Int32} (hf : 0 ≤ f.toInt ∧ f.toInt ≤ 15) (h : ¬ f = (0 : Int32)) : 0 < f.toInt := by
  have : f.toInt ≠ 0 := fun q => h (Int32.toInt_inj.mp q)
  omega
/-- the value of the denominator, in units of 2^-(4+i) -/
def own_P (J L : Int) (i : Nat) : Int := (4 - J) * 2 ^ i + J * L
def own_Dv (F K J L : Int) (i : Nat) : Int := F * 2 ^ (2 + (2 + i)) + K * own_P J L i
theorem own_z0 {a b : Int} (hb : 0 < b) (h : a * b = 0) : 0 ≤ a ∧ 0 ≤ b := by
  rcases Int.mul_eq_zero.mp h with q | q <;> omega
theorem own_Pb {J L : Int} {i : Nat} (hj : 0 ≤ J ∧ J ≤ 4) (hl : 0 ≤ L ∧ L < 2147483648) (hi : i < 4) : ((4 - J) * 2 ^ i).natAbs ≤ 32 ∧ 0 ≤ (4 - J) * 2 ^ i ∧ (J * L).natAbs ≤ 8589934592 ∧ 0 ≤ J * L ∧ 0 ≤ own_P J L i ∧ (own_P J L i).natAbs ≤ 8589934624 := by
  have p : (2 : Int) ^ i ≤ 8 ∧ 0 < (2 : Int) ^ i := by rcases own_pw hi with w | w | w | w <;> rw [w] <;> decide
  have a1 : ((4 - J) * 2 ^ i).natAbs ≤ 32 := own_nm 32 (A := 4) (B := 8) (by omega) (by omega) (by decide)
  have a2 : 0 ≤ (4 - J) * 2 ^ i := Int.mul_nonneg (by omega) (by omega)
  have a3 : (J * L).natAbs ≤ 8589934592 := own_nm _ (A := 4) (B := 2147483648) (by omega) (by omega) (by decide)
  have a4 : 0 ≤ J * L := Int.mul_nonneg hj.1 hl.1
  refine ⟨a1, a2, a3, a4, ?_, ?_⟩ <;> unfold own_P <;> omega
theorem own_Db {F K J L : Int} {i : Nat} (hf : 0 < F ∧ F ≤ 15) (hk : 0 ≤ K ∧ K ≤ 31) (hj : 0 ≤ J ∧ J ≤ 4) (hl : 0 ≤ L ∧ L < 2147483648) (hi : i < 4) : 0 < F * 2 ^ (2 + (2 + i)) ∧ (F * 2 ^ (2 + (2 + i))).natAbs ≤ 1920 ∧ 0 ≤ K * own_P J L i ∧ (K * own_P J L i).natAbs ≤ 266287973344 ∧ 0 < own_Dv F K J L i ∧ (own_Dv F K J L i).natAbs < 2 ^ 53 := by
  have q : (2 : Int) ^ (2 + (2 + i)) = 16 * 2 ^ i := by rw [show 2 + (2 + i) = 4 + i by omega, Int.pow_add]; rfl
  have p : (2 : Int) ^ i ≤ 8 ∧ 0 < (2 : Int) ^ i := by rcases own_pw hi with w | w | w | w <;> rw [w] <;> decide
  obtain ⟨-, -, -, -, b1, b2⟩ := own_Pb hj hl hi
  have a1 : 0 < F * 2 ^ (2 + (2 + i)) := Int.mul_pos hf.1 (by omega)
  have a2 : (F * 2 ^ (2 + (2 + i))).natAbs ≤ 1920 := own_nm _ (A := 15) (B := 128) (by omega) (by omega) (by decide)
  have a3 : 0 ≤ K * own_P J L i := Int.mul_nonneg hk.1 b1
  have a4 : (K * own_P J L i).natAbs ≤ 266287973344 := own_nm _ (A := 31) (B := 8589934624) (by omega) b2 (by decide)
  refine ⟨a1, a2, a3, a4, ?_, ?_⟩ <;> unfold own_Dv <;> omega
theorem own_Nb {I F K : Int} (hI : -2147483648 ≤ I ∧ I < 2147483648) (hf : 0 < F ∧ F ≤ 15) (hk : 0 ≤ K ∧ K ≤ 31) : (I * F).natAbs ≤ 32212254720 ∧ (I * F * (K + 4)).natAbs ≤ 1127428915200 :=
  have a : (I * F).natAbs ≤ 32212254720 := own_nm _ (A := 2147483648) (B := 15) (by omega) (by omega) (by decide)
  ⟨a, own_nm _ (A := 32212254720) (B := 35) a (by omega) (by decide)⟩
theorem own_one4 : own_V (FP.l2d (1 : Int64)) 4 2 := by
  have h := own_Vs own_V1 2 (by decide) (by decide)
  have e : (1 * 2 ^ 2 : Int) = 4 := by decide
  rw [e] at h; exact h
theorem own_chain (p f ln aa : Int32) {kk jj : Int32} {i : Nat} {xk xb : UInt64} (hk : 0 ≤ kk.toInt ∧ kk.toInt ≤ 31) (hj : 0 ≤ jj.toInt ∧ jj.toInt ≤ 4) (hf : 0 ≤ f.toInt ∧ f.toInt ≤ 15) (hl : 0 ≤ ln.toInt) (hi : i < 4) (ha : aa.toInt = 2 ^ i) (hz : ¬ f = (0 : Int32)) (vk : own_V xk kk.toInt 2) (vb : own_V xb jj.toInt 2) :
    own_V (FP.dmul (FP.l2d (p.toInt64)) (FP.l2d (f.toInt64))) (p.toInt * f.toInt) 0 ∧ own_V (FP.dadd xk (FP.l2d (1 : Int64))) (kk.toInt + 4) 2 ∧
    own_V (FP.dmul (FP.dmul (FP.l2d (p.toInt64)) (FP.l2d (f.toInt64))) (FP.dadd xk (FP.l2d (1 : Int64)))) (p.toInt * f.toInt * (kk.toInt + 4)) 2 ∧
    own_V (FP.dsub (FP.l2d (1 : Int64)) xb) (4 - jj.toInt) 2 ∧ own_V (FP.dmul xb (FP.l2d (ln.toInt64))) (jj.toInt * ln.toInt) 2 ∧ own_V (FP.ddiv (FP.dmul xb (FP.l2d (ln.toInt64))) (FP.l2d (aa.toInt64))) (jj.toInt * ln.toInt) (2 + i) ∧
    own_V (FP.dadd (FP.dsub (FP.l2d (1 : Int64)) xb) (FP.ddiv (FP.dmul xb (FP.l2d (ln.toInt64))) (FP.l2d (aa.toInt64)))) (own_P jj.toInt ln.toInt i) (2 + i) ∧
    own_V (FP.dmul xk (FP.dadd (FP.dsub (FP.l2d (1 : Int64)) xb) (FP.ddiv (FP.dmul xb (FP.l2d (ln.toInt64))) (FP.l2d (aa.toInt64))))) (kk.toInt * own_P jj.toInt ln.toInt i) (2 + (2 + i)) ∧
    own_V (FP.dadd (FP.l2d (f.toInt64)) (FP.dmul xk (FP.dadd (FP.dsub (FP.l2d (1 : Int64)) xb) (FP.ddiv (FP.dmul xb (FP.l2d (ln.toInt64))) (FP.l2d (aa.toInt64)))))) (own_Dv f.toInt kk.toInt jj.toInt ln.toInt i) (2 + (2 + i)) := by
  have hF : 0 < f.toInt ∧ f.toInt ≤ 15 := ⟨own_fpos hf hz, hf.2⟩
  have hL : 0 ≤ ln.toInt ∧ ln.toInt < 2147483648 := ⟨hl, (rng32 ln).2⟩
  obtain ⟨n1, n2⟩ := own_Nb (rng32 p) hF hk
  obtain ⟨b1, b2, b3, b4, b5, b6⟩ := own_Pb hj hL hi
  obtain ⟨d1, d2, d3, d4, d5, d6⟩ := own_Db hF hk hj hL hi
  have v1 := own_Vi p; have v2 := own_Vi f; have vl := own_Vi ln
  have v3 : own_V (FP.l2d aa.toInt64) (2 ^ i) 0 := ha ▸ own_Vi aa
  have w1 := own_Vm v1 v2 (by omega) (by decide) (own_z0 hF.1)
  have w2 := own_Va vk own_one4 (by omega)
  have w3 := own_Vm w1 w2 (by omega) (by decide) (own_z0 (by omega))
  have w4 := own_Vb own_one4 vb (by decide) (by omega)
  have w5 := own_Vm vb vl (by omega) (by decide) (fun _ => ⟨hj.1, hl⟩)
  have w6 := own_Vp w5 v3 (by omega)
  have w7 := own_Va (own_Vs w4 i (by omega) (by omega)) w6 (by unfold own_P at b6; omega)
  have w8 := own_Vm vk w7 (by unfold own_P at d4; omega) (by omega) (fun _ => ⟨hk.1, b5⟩)
  have v2' := own_Vs v2 (2 + (2 + i)) (by omega) (by omega)
  rw [Nat.zero_add] at v2'
  have w9 := own_Va v2' w8 (by unfold own_Dv own_P at d6; omega)
  exact ⟨w1, w2, w3, w4, w5, w6, w7, w8, w9⟩
theorem own_lmul {x y : Int64} {a b : Int} (hx : x.toInt = a) (hy : y.toInt = b) (h : (a * b).natAbs < 9223372036854775808) : (x * y).toInt = a * b := by
  have c := c_lmul x y; have r := rng64 (x * y); rw [hx, hy] at c; omega
theorem own_ladd {x y : Int64} {a b : Int} (hx : x.toInt = a) (hy : y.toInt = b) (h : (a + b).natAbs < 9223372036854775808) : (x + y).toInt = a + b := by
  have c := c_ladd x y; have r := rng64 (x + y); rw [hx, hy] at c; omega
theorem own_n128 (p f kk : Int32) (hk : 0 ≤ kk.toInt ∧ kk.toInt ≤ 31) (hF : 0 < f.toInt ∧ f.toInt ≤ 15) : ((((32 : Int64) * (p.toInt64)) * (f.toInt64)) * ((kk + (4 : Int32)).toInt64)).toInt = 32 * p.toInt * f.toInt * (kk.toInt + 4) := by
  have rp := rng32 p
  have e32 : (32 : Int64).toInt = 32 := rfl
  have e4 : (kk + (4 : Int32)).toInt = kk.toInt + 4 := by have c := c_iadd kk 4; have r := rng32 (kk + 4); have : (4 : Int32).toInt = 4 := rfl; omega
  have a1 : (32 * p.toInt).natAbs ≤ 68719476736 := by omega
  have a2 : (32 * p.toInt * f.toInt).natAbs ≤ 1030792151040 := own_nm _ a1 (B := 15) (by omega) (by decide)
  have a3 : (32 * p.toInt * f.toInt * (kk.toInt + 4)).natAbs ≤ 36077725286400 := own_nm _ a2 (B := 35) (by omega) (by decide)
  exact own_lmul (own_lmul (own_lmul e32 (c_i2l p) (by omega)) (c_i2l f) (by omega)) ((c_i2l _).trans e4) (by omega)
theorem own_q8 : ∀ n : Fin 9, (n.val = 1 ∨ n.val = 2 ∨ n.val = 4 ∨ n.val = 8) → ((8 : Int32) / Int32.ofNat n.val).toInt = 8 / n.val := by decide +kernel
theorem own_q {aa : Int32} {i : Nat} (hi : i < 4) (ha : aa.toInt = 2 ^ i) : ((8 : Int32) / aa).toInt * 2 ^ i = 8 ∧ 0 ≤ ((8 : Int32) / aa).toInt ∧ ((8 : Int32) / aa).toInt ≤ 8 := by
  have hb : 0 ≤ aa.toInt ∧ aa.toInt ≤ (8 : Nat) := by rcases own_pw hi with w | w | w | w <;> rw [w] at ha <;> omega
  obtain ⟨n, e⟩ := own_near hb
  have hn : aa.toInt = n.val := by rw [e, own_toInt_ofNat (by omega)]
  have hq := own_q8 n (by rcases own_pw hi with w | w | w | w <;> rw [w] at ha <;> omega)
  rw [← e] at hq
  rw [hq]
  rcases own_pw hi with w | w | w | w <;> rw [w] at ha ⊢ <;> (have : n.val = _ := Int.ofNat.inj (hn.symm.trans ha)) <;> rw [this] <;> decide
theorem own_d128 (f ln aa kk jj : Int32) {i : Nat} (hk : 0 ≤ kk.toInt ∧ kk.toInt ≤ 31) (hj : 0 ≤ jj.toInt ∧ jj.toInt ≤ 4) (hF : 0 < f.toInt ∧ f.toInt ≤ 15) (hl : 0 ≤ ln.toInt) (hi : i < 4) (ha : aa.toInt = 2 ^ i) :
    ((((128 : Int64) * (f.toInt64)) + ((kk.toInt64) * (((32 : Int32) - ((8 : Int32) * jj)).toInt64))) + ((((kk.toInt64) * (((8 : Int32) / aa).toInt64)) * (jj.toInt64)) * (ln.toInt64))).toInt = 128 * f.toInt + kk.toInt * (32 - 8 * jj.toInt) + kk.toInt * ((8 : Int32) / aa).toInt * jj.toInt * ln.toInt ∧
    0 < 128 * f.toInt + kk.toInt * (32 - 8 * jj.toInt) + kk.toInt * ((8 : Int32) / aa).toInt * jj.toInt * ln.toInt ∧ (128 * f.toInt + kk.toInt * (32 - 8 * jj.toInt) + kk.toInt * ((8 : Int32) / aa).toInt * jj.toInt * ln.toInt).natAbs < 2 ^ 53 := by
  obtain ⟨-, q1, q2⟩ := own_q hi ha
  have rl := rng32 ln
  have e128 : (128 : Int64).toInt = 128 := rfl
  have ej : ((32 : Int32) - ((8 : Int32) * jj)).toInt = 32 - 8 * jj.toInt := by
    have c := c_imul 8 jj; have r := rng32 ((8 : Int32) * jj); have c' := c_isub 32 ((8 : Int32) * jj); have r' := rng32 ((32 : Int32) - ((8 : Int32) * jj)); have : (8 : Int32).toInt = 8 := rfl; have : (32 : Int32).toInt = 32 := rfl
    rw [‹(8 : Int32).toInt = 8›] at c; omega
  have m1 : (kk.toInt * (32 - 8 * jj.toInt)).natAbs ≤ 992 := own_nm _ (A := 31) (B := 32) (by omega) (by omega) (by decide)
  have m1' : 0 ≤ kk.toInt * (32 - 8 * jj.toInt) := Int.mul_nonneg hk.1 (by omega)
  have m2 : (kk.toInt * ((8 : Int32) / aa).toInt).natAbs ≤ 248 := own_nm _ (A := 31) (B := 8) (by omega) (by omega) (by decide)
  have m2' : 0 ≤ kk.toInt * ((8 : Int32) / aa).toInt := Int.mul_nonneg hk.1 q1
  have m3 : (kk.toInt * ((8 : Int32) / aa).toInt * jj.toInt).natAbs ≤ 992 := own_nm _ m2 (B := 4) (by omega) (by decide)
  have m3' : 0 ≤ kk.toInt * ((8 : Int32) / aa).toInt * jj.toInt := Int.mul_nonneg m2' hj.1
  have m4 : (kk.toInt * ((8 : Int32) / aa).toInt * jj.toInt * ln.toInt).natAbs ≤ 2130303778816 := own_nm _ m3 (B := 2147483648) (by omega) (by decide)
  have m4' : 0 ≤ kk.toInt * ((8 : Int32) / aa).toInt * jj.toInt * ln.toInt := Int.mul_nonneg m3' hl
  refine ⟨own_ladd (own_ladd (own_lmul e128 (c_i2l f) (by omega)) (own_lmul (c_i2l kk) ((c_i2l _).trans ej) (by omega)) (by omega)) (own_lmul (own_lmul (own_lmul (c_i2l kk) (c_i2l _) (by omega)) (c_i2l jj) (by omega)) (c_i2l ln) (by omega)) (by omega), by omega, by omega⟩
theorem own_ratio {F K J L q : Int} {i : Nat} (hi : i < 4) (hq : q * 2 ^ i = 8) : (128 * F + K * (32 - 8 * J) + K * q * J * L) * 2 ^ (2 + i) = 32 * own_Dv F K J L i := by
  unfold own_Dv own_P
  have e1 : (2 : Int) ^ (2 + i) = 4 * 2 ^ i := by rw [Int.pow_add]; rfl
  have e2 : (2 : Int) ^ (2 + (2 + i)) = 16 * 2 ^ i := by rw [show 2 + (2 + i) = 4 + i by omega, Int.pow_add]; rfl
  rw [e1, e2]
  have hq' : K * q * J * L * (4 * 2 ^ i) = 32 * (K * (J * L)) := by
    calc K * q * J * L * (4 * 2 ^ i) = 4 * (K * (J * L)) * (q * 2 ^ i) := by simp only [Int.mul_assoc, Int.mul_comm, Int.mul_left_comm]
      _ = 32 * (K * (J * L)) := by rw [hq]; omega
  rw [Int.add_mul, Int.add_mul, hq', Int.mul_add K, Int.mul_sub, Int.sub_mul 4 J, Int.mul_sub K, Int.sub_mul (K * 32)]
  have f1 : 128 * F * (4 * 2 ^ i) = 512 * (F * 2 ^ i) := by rw [show (512 : Int) = 128 * 4 by decide]; simp only [Int.mul_assoc, Int.mul_comm, Int.mul_left_comm]
  have f2 : F * (16 * 2 ^ i) = 16 * (F * 2 ^ i) := by simp only [Int.mul_assoc, Int.mul_comm, Int.mul_left_comm]
  have f3 : K * 32 * (4 * 2 ^ i) = 128 * (K * 2 ^ i) := by rw [show (128 : Int) = 32 * 4 by decide]; simp only [Int.mul_assoc, Int.mul_comm, Int.mul_left_comm]
  have f4 : K * (8 * J) * (4 * 2 ^ i) = 32 * (K * (J * 2 ^ i)) := by rw [show (32 : Int) = 8 * 4 by decide]; simp only [Int.mul_assoc, Int.mul_comm, Int.mul_left_comm]
  have f5 : K * (4 * 2 ^ i) = 4 * (K * 2 ^ i) := by simp only [Int.mul_assoc, Int.mul_comm, Int.mul_left_comm]
  rw [f1, f2, f3, f4, f5]; omega
theorem own_got (p f ln aa : Int32) {kk jj : Int32} {i : Nat} {N D : UInt64} (hk : 0 ≤ kk.toInt ∧ kk.toInt ≤ 31) (hj : 0 ≤ jj.toInt ∧ jj.toInt ≤ 4) (hf : 0 ≤ f.toInt ∧ f.toInt ≤ 15) (hl : 0 ≤ ln.toInt) (hi : i < 4) (ha : aa.toInt = 2 ^ i) (hz : ¬ f = (0 : Int32))
    (w3 : own_V N (p.toInt * f.toInt * (kk.toInt + 4)) 2) (w9 : own_V D (own_Dv f.toInt kk.toInt jj.toInt ln.toInt i) (2 + (2 + i))) :
    Jvm.Free.Fl.NoNaN64 (FP.ddiv N D) ∧ FP.ddiv N D = FP.ddiv (FP.l2d ((((32 : Int64) * (p.toInt64)) * (f.toInt64)) * ((kk + (4 : Int32)).toInt64))) (FP.l2d ((((128 : Int64) * (f.toInt64)) + ((kk.toInt64) * (((32 : Int32) - ((8 : Int32) * jj)).toInt64))) + ((((kk.toInt64) * (((8 : Int32) / aa).toInt64)) * (jj.toInt64)) * (ln.toInt64)))) := by
  have hF : 0 < f.toInt ∧ f.toInt ≤ 15 := ⟨own_fpos hf hz, hf.2⟩
  have hL : 0 ≤ ln.toInt ∧ ln.toInt < 2147483648 := ⟨hl, (rng32 ln).2⟩
  obtain ⟨-, -, -, -, d5, -⟩ := own_Db hF hk hj hL hi
  obtain ⟨t1, t2, t3⟩ := own_d128 f ln aa kk jj hk hj hF hl hi ha
  obtain ⟨-, n2⟩ := own_Nb (rng32 p) hF hk
  have tn := own_n128 p f kk hk hF
  have e32 : 32 * p.toInt * f.toInt * (kk.toInt + 4) = 32 * (p.toInt * f.toInt * (kk.toInt + 4)) := by simp only [Int.mul_assoc]
  rw [e32] at tn
  refine ⟨Jvm.Free.Fl.val64_no.mpr (own_Vnn w3 w9 d5), ?_⟩
  have vn := own_Vl (a := (((32 : Int64) * (p.toInt64)) * (f.toInt64)) * ((kk + (4 : Int32)).toInt64)) (by rw [tn]; omega)
  have vd := own_Vl (a := (((128 : Int64) * (f.toInt64)) + ((kk.toInt64) * (((32 : Int32) - ((8 : Int32) * jj)).toInt64))) + ((((kk.toInt64) * (((8 : Int32) / aa).toInt64)) * (jj.toInt64)) * (ln.toInt64))) (by rw [t1]; exact t3)
  rw [tn] at vn; rw [t1] at vd
  refine own_Vq w3 w9 d5 vn vd t2 (by constructor <;> intro h <;> omega) ?_
  have h := own_ratio (F := f.toInt) (K := kk.toInt) (J := jj.toInt) (L := ln.toInt) hi (own_q hi ha).1
  have h' := congrArg Int.natAbs h
  rw [Int.natAbs_mul, Int.natAbs_mul, Int.natAbs_pow] at h'
  have x1 : (((2 + (2 + i) : Nat) : Int) - (2 : Nat) - (((0 : Nat) : Int) - (0 : Nat))).toNat = 2 + i := by omega
  have x2 : (((0 : Nat) : Int) - (0 : Nat) - (((2 + (2 + i) : Nat) : Int) - (2 : Nat))).toNat = 0 := by omega
  rw [x1, x2, Nat.pow_zero, Nat.mul_one, Int.natAbs_mul 32, Nat.mul_assoc]
  have h2 : (2 : Int).natAbs = 2 := rfl
  have h32 : (32 : Int).natAbs = 32 := rfl
  rw [h2, h32] at h'
  rw [h', h32]; simp only [Nat.mul_assoc, Nat.mul_comm, Nat.mul_left_comm]
theorem own_want (p f ln aa kk jj : Int32) {i : Nat} (hk : 0 ≤ kk.toInt ∧ kk.toInt ≤ 31) (hj : 0 ≤ jj.toInt ∧ jj.toInt ≤ 4) (hf : 0 ≤ f.toInt ∧ f.toInt ≤ 15) (hl : 0 ≤ ln.toInt) (hi : i < 4) (ha : aa.toInt = 2 ^ i) (hz : ¬ f = (0 : Int32)) :
    Jvm.Free.Fl.NoNaN64 (FP.ddiv (FP.l2d ((((32 : Int64) * (p.toInt64)) * (f.toInt64)) * ((kk + (4 : Int32)).toInt64))) (FP.l2d ((((128 : Int64) * (f.toInt64)) + ((kk.toInt64) * (((32 : Int32) - ((8 : Int32) * jj)).toInt64))) + ((((kk.toInt64) * (((8 : Int32) / aa).toInt64)) * (jj.toInt64)) * (ln.toInt64))))) := by
  have hF : 0 < f.toInt ∧ f.toInt ≤ 15 := ⟨own_fpos hf hz, hf.2⟩
  obtain ⟨t1, t2, t3⟩ := own_d128 f ln aa kk jj hk hj hF hl hi ha
  obtain ⟨-, n2⟩ := own_Nb (rng32 p) hF hk
  have tn := own_n128 p f kk hk hF
  have e32 : 32 * p.toInt * f.toInt * (kk.toInt + 4) = 32 * (p.toInt * f.toInt * (kk.toInt + 4)) := by simp only [Int.mul_assoc]
  rw [e32] at tn
  exact Jvm.Free.Fl.val64_no.mpr (own_Vnn (own_Vl (by rw [tn]; omega)) (own_Vl (by rw [t1]; exact t3)) (by rw [t1]; exact t2))
def QR (Z : State) (a : Addr) (h0 : Heap) (n0 : Nat) (v : Option Value) (h : Heap) (L : List Loc) : Prop := v = none ∧ Fr n0 L ∧ h = h0
theorem ef_R (m : MethodId) (x0 : Addr) : entryFrame m #[(.ref x0)] 1 = mkF m 0 #[.val (.ref x0)] [] := by first | (simp [entryFrame, mkF, argsToLocals, Value.category]; done) | rfl
theorem pn_Record : plainName "java/lang/Record" = true := by first | (simp [plainName, overriddenIn]; done) | decide +kernel
theorem d_jdk_30_method_1_0 : decode jdk_30_method_1_code 0 = .ok (.aload_n 0, 1) := by decide +kernel
theorem d_jdk_30_method_1_1 : decode jdk_30_method_1_code 1 = .ok (.invokespecial 1, 3) := by decide +kernel
theorem d_jdk_30_method_1_4 : decode jdk_30_method_1_code 4 = .ok (.return_, 1) := by decide +kernel
set_option maxRecDepth 65536 in
set_option maxHeartbeats 40000000 in
theorem rmR (l : Launch) (Z : State) (a0 : Array Value) (hw : ∀ d ∈ tables_1, d.before a0 Z = true) (ws : List Jvm.Cond) (a : Addr) (h0 : Heap) (n0 : Nat) (Z0 : n0 ≤ h0.size) :
    MetFree l (⟨"java/lang/Record", "<init>", "()V"⟩ : MethodName) (head1 (Jvm.Cond.code (⟨"java/lang/Record", "<init>", "()V"⟩ : MethodName) jdk_30_method_1_code 1 none :: ws) ({ frames := 1, cells := 0, slots := 0, locals := 12 } : Room)) (fun a_ U_ => a_ = #[(.ref a)] ∧ Z.Warmed39 U_.vm ∧ U_.heap = h0) (fun _ _ _ _ _ => True) (fun _ U_ o_ E_ => ∃ v_ L_, o_ = .returned v_ ∧ QR Z a h0 n0 v_ E_.heap L_ ∧ FrameEnd U_ o_ E_ L_ ({ frames := 1, cells := 0, slots := 0, locals := 12 } : Room).cells ({ frames := 1, cells := 0, slots := 0, locals := 12 } : Room).slots) := by
  refine MetFree.of_bodySF (plainFor_of_name pn_Record) hisR ?_
  intro p e s m args below meth c s₁ Bd hml0 hP hK
  obtain ⟨rfl, hZ, hh⟩ := hP
  have hx := Bd.exec
  have hby := Bd.bytes
  have hml : c.maxLocals = 1 := hml0
  have hown : s.vm.findClass "java/lang/Record" = some m.cls := findClass_of_methodNamed Bd.named
  have hnm := (name_of_methodNamed Bd.named Bd.method).1
  have X0 : Stand p l e ({ frames := 1, cells := 0, slots := 0, locals := 12 } : Room) s m #[(.ref a)] below meth c s₁ [] 0 0 := Stand.of_body Bd
  have e0 : s₁.heap = h0 := by rw [← hh, Bd.state]; rfl
  have N0 := Fr.nil n0
  have Zn := Z0
  have pre0 : ∀ t, Steps p.tables e below (s₁.setTop (mkF m 0 #[.val (.ref a)] [])) t → Steps p.tables e below (s₁.setTop (entryFrame m #[(.ref a)] 1)) t := fun t q => castTop (ef_R m a) q
  have k0 : ∀ t, Steps p.tables e below (s₁.setTop (mkF m 0 #[.val (.ref a)] [])) t → Steps p.tables e below (s₁.setTop (mkF m 0 #[.val (.ref a)] [])) t := fun t q => q
  have k1_ : ∀ t, Steps p.tables e below (s₁.setTop (mkF m 1 #[.val (.ref a)] [(.ref a)])) t → Steps p.tables e below (s₁.setTop (mkF m 0 #[.val (.ref a)] [])) t := by
    intro t q
    refine k0 _ ?_
    show Steps p.tables e below (s₁.setTop (mkF m 0 #[.val (.ref a)] [])) _
    refine XS.aloadN X0.here hx rfl (hb hby d_jdk_30_method_1_0) rfl rfl ?_
    show Steps p.tables e below (s₁.setTop (mkF m 1 #[.val (.ref a)] [(.ref a)])) _
    exact q
  obtain ⟨T2, X2, e2, st2⟩ := initO X0 hx hZ hown (hw _ (List.mem_of_getElem? (i := 13) rfl)) (hw _ (List.mem_of_getElem? (i := 14) rfl)) (hw _ (List.mem_of_getElem? (i := 15) rfl)) e0 (g := (mkF m 1 #[.val (.ref a)] [(.ref a)])) rfl (by rw [hml]; rfl) rfl (hb hby d_jdk_30_method_1_1) (by decide) (W := 0) (by show 2 * 0 + _ ≤ _; exact Nat.le_of_eq rfl) (by decide)
  have k3_ : ∀ t, Steps p.tables e below (T2.setTop (mkF m 4 #[.val (.ref a)] [])) t → Steps p.tables e below (s₁.setTop (mkF m 0 #[.val (.ref a)] [])) t := fun t q => k1_ t (st2 t q)
  obtain ⟨fs, hr, hrun, hended, hW, hsame⟩ := X2.leave (v := none) (fun _ => rfl)
  refine ⟨_, _, pre0 _ (k3_ _ ?_), hrun, hended, _, _, rfl, ?_, ⟨_, rfl⟩, hW, hsame.mono (by decide) (by decide)⟩
  · show Steps p.tables e below (T2.setTop (mkF m 4 #[.val (.ref a)] [])) _
    exact X2.returnOut hx Bd.returns (hb hby d_jdk_30_method_1_4) hr
  · show QR Z a h0 n0 _ T2.heap _
    rw [e2]
    exact ⟨rfl, N0, rfl⟩
def QI (Z : State) (a : Addr) (xk : UInt64) (xb : UInt64) (h0 : Heap) (n0 : Nat) (v : Option Value) (h : Heap) (L : List Loc) : Prop := v = none ∧ Fr n0 L ∧ Keep h0 h [a] ∧ Exa Z h a "com/example/haku/haku/search/Bm25" ∧ Fld Z h a "com/example/haku/haku/search/Bm25" "k1" "D" (.double xk) ∧ Fld Z h a "com/example/haku/haku/search/Bm25" "b" "D" (.double xb)
theorem ef_I (m : MethodId) (x0 : Addr) (x1 : UInt64) (x2 : UInt64) : entryFrame m #[(.ref x0), (.double x1), (.double x2)] 5 = mkF m 0 #[.val (.ref x0), .val (.double x1), .second, .val (.double x2), .second] [] := by first | (simp [entryFrame, mkF, argsToLocals, Value.category]; done) | rfl
theorem pn_Bm25 : plainName "com/example/haku/haku/search/Bm25" = true := by first | (simp [plainName, overriddenIn]; done) | decide +kernel
theorem d_prog_92_method_1_0 : decode prog_92_method_1_code 0 = .ok (.aload_n 0, 1) := by decide +kernel
theorem pd_48334 : parseMethodDescriptor "()V" = some ⟨[], none⟩ := by decide +kernel
theorem d_prog_92_method_1_1 : decode prog_92_method_1_code 1 = .ok (.invokespecial 1, 3) := by decide +kernel
theorem d_prog_92_method_1_4 : decode prog_92_method_1_code 4 = .ok (.dload_n 1, 1) := by decide +kernel
theorem d_prog_92_method_1_5 : decode prog_92_method_1_code 5 = .ok (.dconst 0, 1) := by decide +kernel
theorem d_prog_92_method_1_6 : decode prog_92_method_1_code 6 = .ok (.dcmp .l, 1) := by decide +kernel
theorem d_prog_92_method_1_7 : decode prog_92_method_1_code 7 = .ok (.ifCond .lt 11, 3) := by decide +kernel
theorem d_prog_92_method_1_10 : decode prog_92_method_1_code 10 = .ok (.dload_n 1, 1) := by decide +kernel
theorem d_prog_92_method_1_11 : decode prog_92_method_1_code 11 = .ok (.ldc2_w 9, 3) := by decide +kernel
theorem d_prog_92_method_1_14 : decode prog_92_method_1_code 14 = .ok (.dcmp .g, 1) := by decide +kernel
theorem d_prog_92_method_1_15 : decode prog_92_method_1_code 15 = .ok (.ifCond .lt 17, 3) := by decide +kernel
theorem d_prog_92_method_1_32 : decode prog_92_method_1_code 32 = .ok (.dload_n 3, 1) := by decide +kernel
theorem d_prog_92_method_1_33 : decode prog_92_method_1_code 33 = .ok (.dconst 0, 1) := by decide +kernel
theorem d_prog_92_method_1_34 : decode prog_92_method_1_code 34 = .ok (.dcmp .l, 1) := by decide +kernel
theorem d_prog_92_method_1_35 : decode prog_92_method_1_code 35 = .ok (.ifCond .lt 9, 3) := by decide +kernel
theorem d_prog_92_method_1_38 : decode prog_92_method_1_code 38 = .ok (.dload_n 3, 1) := by decide +kernel
theorem d_prog_92_method_1_39 : decode prog_92_method_1_code 39 = .ok (.dconst 1, 1) := by decide +kernel
theorem d_prog_92_method_1_40 : decode prog_92_method_1_code 40 = .ok (.dcmp .g, 1) := by decide +kernel
theorem d_prog_92_method_1_41 : decode prog_92_method_1_code 41 = .ok (.ifCond .le 17, 3) := by decide +kernel
theorem d_prog_92_method_1_58 : decode prog_92_method_1_code 58 = .ok (.aload_n 0, 1) := by decide +kernel
theorem d_prog_92_method_1_59 : decode prog_92_method_1_code 59 = .ok (.dload_n 1, 1) := by decide +kernel
theorem d_prog_92_method_1_60 : decode prog_92_method_1_code 60 = .ok (.putfield 21, 3) := by decide +kernel
theorem d_prog_92_method_1_63 : decode prog_92_method_1_code 63 = .ok (.aload_n 0, 1) := by decide +kernel
theorem d_prog_92_method_1_64 : decode prog_92_method_1_code 64 = .ok (.dload_n 3, 1) := by decide +kernel
theorem d_prog_92_method_1_65 : decode prog_92_method_1_code 65 = .ok (.putfield 27, 3) := by decide +kernel
theorem d_prog_92_method_1_68 : decode prog_92_method_1_code 68 = .ok (.return_, 1) := by decide +kernel
set_option maxRecDepth 65536 in
set_option maxHeartbeats 40000000 in
theorem rmI (l : Launch) (Z : State) (a0 : Array Value) (hw : ∀ d ∈ tables_1, d.before a0 Z = true) (ws : List Jvm.Cond) (a : Addr) (xk : UInt64) (xb : UInt64) (h0 : Heap) (n0 : Nat) (Z0 : n0 ≤ h0.size) (EA : Exa Z h0 a "com/example/haku/haku/search/Bm25") (F1 : Fld Z h0 a "com/example/haku/haku/search/Bm25" "k1" "D" (.double 0)) (F2 : Fld Z h0 a "com/example/haku/haku/search/Bm25" "b" "D" (.double 0)) (ga : n0 ≤ a) (c1 : ¬ cmpValue (FP.dcmp xk (FP.l2d (0 : Int64))) .l < (0 : Int32)) (c2 : cmpValue (FP.dcmp xk (9218868437227405312 : UInt64)) .g < (0 : Int32)) (c3 : ¬ cmpValue (FP.dcmp xb (FP.l2d (0 : Int64))) .l < (0 : Int32)) (c4 : ¬ (0 : Int32) < cmpValue (FP.dcmp xb (FP.l2d (1 : Int64))) .g) :
    MetFree l (⟨"com/example/haku/haku/search/Bm25", "<init>", "(DD)V"⟩ : MethodName) (head1 (Jvm.Cond.code (⟨"com/example/haku/haku/search/Bm25", "<init>", "(DD)V"⟩ : MethodName) prog_92_method_1_code 5 none :: ws) ({ frames := 2, cells := 0, slots := 0, locals := 24 } : Room)) (fun a_ U_ => a_ = #[(.ref a), (.double xk), (.double xb)] ∧ Z.Warmed39 U_.vm ∧ U_.heap = h0) (fun _ _ _ _ _ => True) (fun _ U_ o_ E_ => ∃ v_ L_, o_ = .returned v_ ∧ QI Z a xk xb h0 n0 v_ E_.heap L_ ∧ FrameEnd U_ o_ E_ L_ ({ frames := 2, cells := 0, slots := 0, locals := 24 } : Room).cells ({ frames := 2, cells := 0, slots := 0, locals := 24 } : Room).slots) := by
  refine MetFree.of_bodySF (plainFor_of_name pn_Bm25) hisR ?_
  intro p e s m args below meth c s₁ Bd hml0 hP hK
  obtain ⟨rfl, hZ, hh⟩ := hP
  have hx := Bd.exec
  have hby := Bd.bytes
  have hml : c.maxLocals = 5 := hml0
  have hown : s.vm.findClass "com/example/haku/haku/search/Bm25" = some m.cls := findClass_of_methodNamed Bd.named
  have hnm := (name_of_methodNamed Bd.named Bd.method).1
  have X0 : Stand p l e ({ frames := 2, cells := 0, slots := 0, locals := 24 } : Room) s m #[(.ref a), (.double xk), (.double xb)] below meth c s₁ [] 0 0 := Stand.of_body Bd
  have e0 : s₁.heap = h0 := by rw [← hh, Bd.state]; rfl
  have N0 := Fr.nil n0
  have Zn := Z0
  have pre0 : ∀ t, Steps p.tables e below (s₁.setTop (mkF m 0 #[.val (.ref a), .val (.double xk), .second, .val (.double xb), .second] [])) t → Steps p.tables e below (s₁.setTop (entryFrame m #[(.ref a), (.double xk), (.double xb)] 5)) t := fun t q => castTop (ef_I m a xk xb) q
  have k0 : ∀ t, Steps p.tables e below (s₁.setTop (mkF m 0 #[.val (.ref a), .val (.double xk), .second, .val (.double xb), .second] [])) t → Steps p.tables e below (s₁.setTop (mkF m 0 #[.val (.ref a), .val (.double xk), .second, .val (.double xb), .second] [])) t := fun t q => q
  have k1_ : ∀ t, Steps p.tables e below (s₁.setTop (mkF m 1 #[.val (.ref a), .val (.double xk), .second, .val (.double xb), .second] [(.ref a)])) t → Steps p.tables e below (s₁.setTop (mkF m 0 #[.val (.ref a), .val (.double xk), .second, .val (.double xb), .second] [])) t := by
    intro t q
    refine k0 _ ?_
    show Steps p.tables e below (s₁.setTop (mkF m 0 #[.val (.ref a), .val (.double xk), .second, .val (.double xb), .second] [])) _
    refine XS.aloadN X0.here hx rfl (hb hby d_prog_92_method_1_0) rfl rfl ?_
    show Steps p.tables e below (s₁.setTop (mkF m 1 #[.val (.ref a), .val (.double xk), .second, .val (.double xb), .second] [(.ref a)])) _
    exact q
  obtain ⟨_, _, ⟨T2, L2, kk2, n2⟩, -, X2, ⟨Lc2, hQ2, l2, y2, z2⟩, st2⟩ := X0.specialBack hx (y := (⟨"java/lang/Record", "<init>", "()V"⟩ : MethodName)) rfl hown (mvT hZ (hw _ (List.mem_of_getElem? (i := 8) rfl))) (mvT hZ (hw _ (List.mem_of_getElem? (i := 9) rfl))) (mvT hZ (hw _ (List.mem_of_getElem? (i := 12) rfl))) (by decide) (backOf (W := 0) (rmR l Z a0 hw [] a h0 n0 Zn) hZ (hw _ (List.mem_of_getElem? (i := 12) rfl)) (hw _ (List.mem_of_getElem? (i := 11) rfl)) (by decide) (by decide)) (g := (mkF m 1 #[.val (.ref a), .val (.double xk), .second, .val (.double xb), .second] [(.ref a)])) rfl (by rw [hml]; rfl) (Steps.refl _) (a := a) (argsL := []) (rest := []) (lenOf pd_48334 rfl) rfl (by show 2 * 0 + _ ≤ _; exact Nat.le_of_eq rfl) (hb hby d_prog_92_method_1_1) (fun _ _ => ⟨rfl, e0, (by decide : 0 + 0 ≤ _), (by decide : 0 + 0 ≤ _)⟩)
  dsimp only [Pt.U, Pt.locs, Pt.cells, Pt.slots] at X2 l2 y2 z2 st2 hQ2
  rw [l2, y2, z2] at X2
  obtain ⟨rfl, Nq2, hq2⟩ := hQ2
  have N2 := Fr.app N0 Nq2
  have k3_ : ∀ t, Steps p.tables e below (T2.setTop (mkF m 4 #[.val (.ref a), .val (.double xk), .second, .val (.double xb), .second] [])) t → Steps p.tables e below (s₁.setTop (mkF m 0 #[.val (.ref a), .val (.double xk), .second, .val (.double xb), .second] [])) t := fun t q => k1_ t (st2.trans q)
  have k4_ : ∀ t, Steps p.tables e below (T2.setTop (mkF m 7 #[.val (.ref a), .val (.double xk), .second, .val (.double xb), .second] [(.int (cmpValue (FP.dcmp xk (FP.l2d (0 : Int64))) .l))])) t → Steps p.tables e below (s₁.setTop (mkF m 0 #[.val (.ref a), .val (.double xk), .second, .val (.double xb), .second] [])) t := by
    intro t q
    refine k3_ _ ?_
    show Steps p.tables e below (T2.setTop (mkF m 4 #[.val (.ref a), .val (.double xk), .second, .val (.double xb), .second] [])) _
    refine XS.dloadN X2.here hx rfl (hb hby d_prog_92_method_1_4) rfl ?_
    show Steps p.tables e below (T2.setTop (mkF m 5 #[.val (.ref a), .val (.double xk), .second, .val (.double xb), .second] [(.double xk)])) _
    refine XS.dconst0 X2.here hx rfl (hb hby d_prog_92_method_1_5) (v := FP.l2d (0 : Int64)) own_dc0 ?_
    show Steps p.tables e below (T2.setTop (mkF m 6 #[.val (.ref a), .val (.double xk), .second, .val (.double xb), .second] [(.double (FP.l2d (0 : Int64))), (.double xk)])) _
    refine XS.dcmpS X2.here hx rfl (hb hby d_prog_92_method_1_6) rfl (v := (cmpValue (FP.dcmp xk (FP.l2d (0 : Int64))) .l)) rfl ?_
    show Steps p.tables e below (T2.setTop (mkF m 7 #[.val (.ref a), .val (.double xk), .second, .val (.double xb), .second] [(.int (cmpValue (FP.dcmp xk (FP.l2d (0 : Int64))) .l))])) _
    exact q
  have k5_ : ∀ t, Steps p.tables e below (T2.setTop (mkF m 10 #[.val (.ref a), .val (.double xk), .second, .val (.double xb), .second] [])) t → Steps p.tables e below (s₁.setTop (mkF m 0 #[.val (.ref a), .val (.double xk), .second, .val (.double xb), .second] [])) t := by
    intro t q
    refine k4_ _ ?_
    show Steps p.tables e below (T2.setTop (mkF m 7 #[.val (.ref a), .val (.double xk), .second, .val (.double xb), .second] [(.int (cmpValue (FP.dcmp xk (FP.l2d (0 : Int64))) .l))])) _
    refine XS.ifNo X2.here hx rfl (hb hby d_prog_92_method_1_7) rfl ((if0 _ _).trans (flt c1).1) ?_
    show Steps p.tables e below (T2.setTop (mkF m 10 #[.val (.ref a), .val (.double xk), .second, .val (.double xb), .second] [])) _
    exact q
  have k6_ : ∀ t, Steps p.tables e below (T2.setTop (mkF m 15 #[.val (.ref a), .val (.double xk), .second, .val (.double xb), .second] [(.int (cmpValue (FP.dcmp xk (9218868437227405312 : UInt64)) .g))])) t → Steps p.tables e below (s₁.setTop (mkF m 0 #[.val (.ref a), .val (.double xk), .second, .val (.double xb), .second] [])) t := by
    intro t q
    refine k5_ _ ?_
    show Steps p.tables e below (T2.setTop (mkF m 10 #[.val (.ref a), .val (.double xk), .second, .val (.double xb), .second] [])) _
    refine XS.dloadN X2.here hx rfl (hb hby d_prog_92_method_1_10) rfl ?_
    show Steps p.tables e below (T2.setTop (mkF m 11 #[.val (.ref a), .val (.double xk), .second, .val (.double xb), .second] [(.double xk)])) _
    refine X2.ldc2DoubleC hx hown (mvT hZ (hw _ (List.mem_of_getElem? (i := 16) rfl))) (g := (mkF m 11 #[.val (.ref a), .val (.double xk), .second, .val (.double xb), .second] [(.double xk)])) rfl (hb hby d_prog_92_method_1_11) _ ?_
    show Steps p.tables e below (T2.setTop (mkF m 14 #[.val (.ref a), .val (.double xk), .second, .val (.double xb), .second] [(.double (9218868437227405312 : UInt64)), (.double xk)])) _
    refine XS.dcmpS X2.here hx rfl (hb hby d_prog_92_method_1_14) rfl (v := (cmpValue (FP.dcmp xk (9218868437227405312 : UInt64)) .g)) rfl ?_
    show Steps p.tables e below (T2.setTop (mkF m 15 #[.val (.ref a), .val (.double xk), .second, .val (.double xb), .second] [(.int (cmpValue (FP.dcmp xk (9218868437227405312 : UInt64)) .g))])) _
    exact q
  have k7_ : ∀ t, Steps p.tables e below (T2.setTop (mkF m 32 #[.val (.ref a), .val (.double xk), .second, .val (.double xb), .second] [])) t → Steps p.tables e below (s₁.setTop (mkF m 0 #[.val (.ref a), .val (.double xk), .second, .val (.double xb), .second] [])) t := by
    intro t q
    refine k6_ _ ?_
    show Steps p.tables e below (T2.setTop (mkF m 15 #[.val (.ref a), .val (.double xk), .second, .val (.double xb), .second] [(.int (cmpValue (FP.dcmp xk (9218868437227405312 : UInt64)) .g))])) _
    refine XS.ifYes X2.here hx rfl (pc0 := 15) (pc' := 32) rfl (hb hby d_prog_92_method_1_15) rfl ((if0 _ _).trans (tlt c2).1) (by decide) (by decide) ?_
    show Steps p.tables e below (T2.setTop (mkF m 32 #[.val (.ref a), .val (.double xk), .second, .val (.double xb), .second] [])) _
    exact q
  have k8_ : ∀ t, Steps p.tables e below (T2.setTop (mkF m 35 #[.val (.ref a), .val (.double xk), .second, .val (.double xb), .second] [(.int (cmpValue (FP.dcmp xb (FP.l2d (0 : Int64))) .l))])) t → Steps p.tables e below (s₁.setTop (mkF m 0 #[.val (.ref a), .val (.double xk), .second, .val (.double xb), .second] [])) t := by
    intro t q
    refine k7_ _ ?_
    show Steps p.tables e below (T2.setTop (mkF m 32 #[.val (.ref a), .val (.double xk), .second, .val (.double xb), .second] [])) _
    refine XS.dloadN X2.here hx rfl (hb hby d_prog_92_method_1_32) rfl ?_
    show Steps p.tables e below (T2.setTop (mkF m 33 #[.val (.ref a), .val (.double xk), .second, .val (.double xb), .second] [(.double xb)])) _
    refine XS.dconst0 X2.here hx rfl (hb hby d_prog_92_method_1_33) (v := FP.l2d (0 : Int64)) own_dc0 ?_
    show Steps p.tables e below (T2.setTop (mkF m 34 #[.val (.ref a), .val (.double xk), .second, .val (.double xb), .second] [(.double (FP.l2d (0 : Int64))), (.double xb)])) _
    refine XS.dcmpS X2.here hx rfl (hb hby d_prog_92_method_1_34) rfl (v := (cmpValue (FP.dcmp xb (FP.l2d (0 : Int64))) .l)) rfl ?_
    show Steps p.tables e below (T2.setTop (mkF m 35 #[.val (.ref a), .val (.double xk), .second, .val (.double xb), .second] [(.int (cmpValue (FP.dcmp xb (FP.l2d (0 : Int64))) .l))])) _
    exact q
  have k9_ : ∀ t, Steps p.tables e below (T2.setTop (mkF m 38 #[.val (.ref a), .val (.double xk), .second, .val (.double xb), .second] [])) t → Steps p.tables e below (s₁.setTop (mkF m 0 #[.val (.ref a), .val (.double xk), .second, .val (.double xb), .second] [])) t := by
    intro t q
    refine k8_ _ ?_
    show Steps p.tables e below (T2.setTop (mkF m 35 #[.val (.ref a), .val (.double xk), .second, .val (.double xb), .second] [(.int (cmpValue (FP.dcmp xb (FP.l2d (0 : Int64))) .l))])) _
    refine XS.ifNo X2.here hx rfl (hb hby d_prog_92_method_1_35) rfl ((if0 _ _).trans (flt c3).1) ?_
    show Steps p.tables e below (T2.setTop (mkF m 38 #[.val (.ref a), .val (.double xk), .second, .val (.double xb), .second] [])) _
    exact q
  have k10_ : ∀ t, Steps p.tables e below (T2.setTop (mkF m 41 #[.val (.ref a), .val (.double xk), .second, .val (.double xb), .second] [(.int (cmpValue (FP.dcmp xb (FP.l2d (1 : Int64))) .g))])) t → Steps p.tables e below (s₁.setTop (mkF m 0 #[.val (.ref a), .val (.double xk), .second, .val (.double xb), .second] [])) t := by
    intro t q
    refine k9_ _ ?_
    show Steps p.tables e below (T2.setTop (mkF m 38 #[.val (.ref a), .val (.double xk), .second, .val (.double xb), .second] [])) _
    refine XS.dloadN X2.here hx rfl (hb hby d_prog_92_method_1_38) rfl ?_
    show Steps p.tables e below (T2.setTop (mkF m 39 #[.val (.ref a), .val (.double xk), .second, .val (.double xb), .second] [(.double xb)])) _
    refine XS.dconst1 X2.here hx rfl (hb hby d_prog_92_method_1_39) (v := FP.l2d (1 : Int64)) own_dc1 ?_
    show Steps p.tables e below (T2.setTop (mkF m 40 #[.val (.ref a), .val (.double xk), .second, .val (.double xb), .second] [(.double (FP.l2d (1 : Int64))), (.double xb)])) _
    refine XS.dcmpS X2.here hx rfl (hb hby d_prog_92_method_1_40) rfl (v := (cmpValue (FP.dcmp xb (FP.l2d (1 : Int64))) .g)) rfl ?_
    show Steps p.tables e below (T2.setTop (mkF m 41 #[.val (.ref a), .val (.double xk), .second, .val (.double xb), .second] [(.int (cmpValue (FP.dcmp xb (FP.l2d (1 : Int64))) .g))])) _
    exact q
  have k11_ : ∀ t, Steps p.tables e below (T2.setTop (mkF m 58 #[.val (.ref a), .val (.double xk), .second, .val (.double xb), .second] [])) t → Steps p.tables e below (s₁.setTop (mkF m 0 #[.val (.ref a), .val (.double xk), .second, .val (.double xb), .second] [])) t := by
    intro t q
    refine k10_ _ ?_
    show Steps p.tables e below (T2.setTop (mkF m 41 #[.val (.ref a), .val (.double xk), .second, .val (.double xb), .second] [(.int (cmpValue (FP.dcmp xb (FP.l2d (1 : Int64))) .g))])) _
    refine XS.ifYes X2.here hx rfl (pc0 := 41) (pc' := 58) rfl (hb hby d_prog_92_method_1_41) rfl ((if0 _ _).trans (flt c4).2.2.2) (by decide) (by decide) ?_
    show Steps p.tables e below (T2.setTop (mkF m 58 #[.val (.ref a), .val (.double xk), .second, .val (.double xb), .second] [])) _
    exact q
  have KP := Keep.refl h0 [a]
  have k12_ : ∀ t, Steps p.tables e below (T2.setTop (mkF m 60 #[.val (.ref a), .val (.double xk), .second, .val (.double xb), .second] [(.double xk), (.ref a)])) t → Steps p.tables e below (s₁.setTop (mkF m 0 #[.val (.ref a), .val (.double xk), .second, .val (.double xb), .second] [])) t := by
    intro t q
    refine k11_ _ ?_
    show Steps p.tables e below (T2.setTop (mkF m 58 #[.val (.ref a), .val (.double xk), .second, .val (.double xb), .second] [])) _
    refine XS.aloadN X2.here hx rfl (hb hby d_prog_92_method_1_58) rfl rfl ?_
    show Steps p.tables e below (T2.setTop (mkF m 59 #[.val (.ref a), .val (.double xk), .second, .val (.double xb), .second] [(.ref a)])) _
    refine XS.dloadN X2.here hx rfl (hb hby d_prog_92_method_1_59) rfl ?_
    show Steps p.tables e below (T2.setTop (mkF m 60 #[.val (.ref a), .val (.double xk), .second, .val (.double xb), .second] [(.double xk), (.ref a)])) _
    exact q
  obtain ⟨T13, h13, X13, e13, W13, st13⟩ := putF X2 hx hZ hown (host := "") (Or.inl (hw _ (List.mem_of_getElem? (i := 17) rfl))) Via.refl hq2 F1 EA (Or.inr ⟨(hw _ (List.mem_of_getElem? (i := 18) rfl)), rfl, hnm⟩) (hw _ (List.mem_of_getElem? (i := 3) rfl)) (ty := .double) (by decide) rfl rfl (g := (mkF m 60 #[.val (.ref a), .val (.double xk), .second, .val (.double xb), .second] [(.double xk), (.ref a)])) rfl rfl (hb hby d_prog_92_method_1_60)
  have k14_ : ∀ t, Steps p.tables e below (T13.setTop (mkF m 63 #[.val (.ref a), .val (.double xk), .second, .val (.double xb), .second] [])) t → Steps p.tables e below (s₁.setTop (mkF m 0 #[.val (.ref a), .val (.double xk), .second, .val (.double xb), .second] [])) t := fun t q => k12_ t (st13 t q)
  have N13 := Fr.snoc X13 N2 ga
  replace Zn := Nat.le_trans Zn (Keep.of_wr W13).1
  replace EA := EA.wr W13
  replace F2 := F2.other W13 (Or.inr (slot_ne (Or.inr (hw _ (List.mem_of_getElem? (i := 20) rfl))) (Or.inr (hw _ (List.mem_of_getElem? (i := 18) rfl))) (by decide) (t := .double) (t' := .double) (by decide) (by decide)))
  replace F1 := F1.same W13
  replace KP := KP.wr W13 (Or.inl (List.mem_of_getElem? (i := 0) rfl))
  have k15_ : ∀ t, Steps p.tables e below (T13.setTop (mkF m 65 #[.val (.ref a), .val (.double xk), .second, .val (.double xb), .second] [(.double xb), (.ref a)])) t → Steps p.tables e below (s₁.setTop (mkF m 0 #[.val (.ref a), .val (.double xk), .second, .val (.double xb), .second] [])) t := by
    intro t q
    refine k14_ _ ?_
    show Steps p.tables e below (T13.setTop (mkF m 63 #[.val (.ref a), .val (.double xk), .second, .val (.double xb), .second] [])) _
    refine XS.aloadN X13.here hx rfl (hb hby d_prog_92_method_1_63) rfl rfl ?_
    show Steps p.tables e below (T13.setTop (mkF m 64 #[.val (.ref a), .val (.double xk), .second, .val (.double xb), .second] [(.ref a)])) _
    refine XS.dloadN X13.here hx rfl (hb hby d_prog_92_method_1_64) rfl ?_
    show Steps p.tables e below (T13.setTop (mkF m 65 #[.val (.ref a), .val (.double xk), .second, .val (.double xb), .second] [(.double xb), (.ref a)])) _
    exact q
  obtain ⟨T16, h16, X16, e16, W16, st16⟩ := putF X13 hx hZ hown (host := "") (Or.inl (hw _ (List.mem_of_getElem? (i := 19) rfl))) Via.refl e13 F2 EA (Or.inr ⟨(hw _ (List.mem_of_getElem? (i := 20) rfl)), rfl, hnm⟩) (hw _ (List.mem_of_getElem? (i := 3) rfl)) (ty := .double) (by decide) rfl rfl (g := (mkF m 65 #[.val (.ref a), .val (.double xk), .second, .val (.double xb), .second] [(.double xb), (.ref a)])) rfl rfl (hb hby d_prog_92_method_1_65)
  have k17_ : ∀ t, Steps p.tables e below (T16.setTop (mkF m 68 #[.val (.ref a), .val (.double xk), .second, .val (.double xb), .second] [])) t → Steps p.tables e below (s₁.setTop (mkF m 0 #[.val (.ref a), .val (.double xk), .second, .val (.double xb), .second] [])) t := fun t q => k15_ t (st16 t q)
  have N16 := Fr.snoc X16 N13 ga
  replace Zn := Nat.le_trans Zn (Keep.of_wr W16).1
  replace EA := EA.wr W16
  replace F1 := F1.other W16 (Or.inr (slot_ne (Or.inr (hw _ (List.mem_of_getElem? (i := 18) rfl))) (Or.inr (hw _ (List.mem_of_getElem? (i := 20) rfl))) (by decide) (t := .double) (t' := .double) (by decide) (by decide)))
  replace F2 := F2.same W16
  replace KP := KP.wr W16 (Or.inl (List.mem_of_getElem? (i := 0) rfl))
  obtain ⟨fs, hr, hrun, hended, hW, hsame⟩ := X16.leave (v := none) (fun _ => rfl)
  refine ⟨_, _, pre0 _ (k17_ _ ?_), hrun, hended, _, _, rfl, ?_, ⟨_, rfl⟩, hW, hsame.mono (by decide) (by decide)⟩
  · show Steps p.tables e below (T16.setTop (mkF m 68 #[.val (.ref a), .val (.double xk), .second, .val (.double xb), .second] [])) _
    exact X16.returnOut hx Bd.returns (hb hby d_prog_92_method_1_68) hr
  · show QI Z a xk xb h0 n0 _ T16.heap _
    rw [e16]
    exact ⟨rfl, N16, KP, EA, F1, F2⟩
def QS (Z : State) (a : Addr) (idf : Int32) (f : Int32) (ln : Int32) (aa : Int32) (xk : UInt64) (xb : UInt64) (h0 : Heap) (n0 : Nat) (v : Option Value) (h : Heap) (L : List Loc) : Prop := v = some (.double (FP.ddiv (FP.dmul (FP.dmul (FP.l2d (idf.toInt64)) (FP.l2d (f.toInt64))) (FP.dadd xk (FP.l2d (1 : Int64)))) (FP.dadd (FP.l2d (f.toInt64)) (FP.dmul xk (FP.dadd (FP.dsub (FP.l2d (1 : Int64)) xb) (FP.ddiv (FP.dmul xb (FP.l2d (ln.toInt64))) (FP.l2d (aa.toInt64)))))))) ∧ Fr n0 L ∧ h = h0
theorem ef_S (m : MethodId) (x0 : Addr) (x1 : UInt64) (x2 : UInt64) (x3 : Int32) (x4 : UInt64) : entryFrame m #[(.ref x0), (.double x1), (.double x2), (.int x3), (.double x4)] 8 = mkF m 0 #[.val (.ref x0), .val (.double x1), .second, .val (.double x2), .second, .val (.int x3), .val (.double x4), .second] [] := by first | (simp [entryFrame, mkF, argsToLocals, Value.category]; done) | rfl
theorem d_prog_92_method_3_0 : decode prog_92_method_3_code 0 = .ok (.dload_n 3, 1) := by decide +kernel
theorem d_prog_92_method_3_1 : decode prog_92_method_3_code 1 = .ok (.dconst 0, 1) := by decide +kernel
theorem d_prog_92_method_3_2 : decode prog_92_method_3_code 2 = .ok (.dcmp .l, 1) := by decide +kernel
theorem d_prog_92_method_3_3 : decode prog_92_method_3_code 3 = .ok (.ifCond .ne 7, 3) := by decide +kernel
theorem d_prog_92_method_3_10 : decode prog_92_method_3_code 10 = .ok (.dload_n 1, 1) := by decide +kernel
theorem d_prog_92_method_3_11 : decode prog_92_method_3_code 11 = .ok (.dload_n 3, 1) := by decide +kernel
theorem d_prog_92_method_3_12 : decode prog_92_method_3_code 12 = .ok (.dmul, 1) := by decide +kernel
theorem d_prog_92_method_3_13 : decode prog_92_method_3_code 13 = .ok (.aload_n 0, 1) := by decide +kernel
theorem d_prog_92_method_3_14 : decode prog_92_method_3_code 14 = .ok (.getfield 21, 3) := by decide +kernel
theorem d_prog_92_method_3_17 : decode prog_92_method_3_code 17 = .ok (.dconst 1, 1) := by decide +kernel
theorem d_prog_92_method_3_18 : decode prog_92_method_3_code 18 = .ok (.dadd, 1) := by decide +kernel
theorem d_prog_92_method_3_19 : decode prog_92_method_3_code 19 = .ok (.dmul, 1) := by decide +kernel
theorem d_prog_92_method_3_20 : decode prog_92_method_3_code 20 = .ok (.dload_n 3, 1) := by decide +kernel
theorem d_prog_92_method_3_21 : decode prog_92_method_3_code 21 = .ok (.aload_n 0, 1) := by decide +kernel
theorem d_prog_92_method_3_22 : decode prog_92_method_3_code 22 = .ok (.getfield 21, 3) := by decide +kernel
theorem d_prog_92_method_3_25 : decode prog_92_method_3_code 25 = .ok (.dconst 1, 1) := by decide +kernel
theorem d_prog_92_method_3_26 : decode prog_92_method_3_code 26 = .ok (.aload_n 0, 1) := by decide +kernel
theorem d_prog_92_method_3_27 : decode prog_92_method_3_code 27 = .ok (.getfield 27, 3) := by decide +kernel
theorem d_prog_92_method_3_30 : decode prog_92_method_3_code 30 = .ok (.dsub, 1) := by decide +kernel
theorem d_prog_92_method_3_31 : decode prog_92_method_3_code 31 = .ok (.aload_n 0, 1) := by decide +kernel
theorem d_prog_92_method_3_32 : decode prog_92_method_3_code 32 = .ok (.getfield 27, 3) := by decide +kernel
theorem d_prog_92_method_3_35 : decode prog_92_method_3_code 35 = .ok (.iload 5, 2) := by decide +kernel
theorem d_prog_92_method_3_37 : decode prog_92_method_3_code 37 = .ok (.i2d, 1) := by decide +kernel
theorem d_prog_92_method_3_38 : decode prog_92_method_3_code 38 = .ok (.dmul, 1) := by decide +kernel
theorem d_prog_92_method_3_39 : decode prog_92_method_3_code 39 = .ok (.dload 6, 2) := by decide +kernel
theorem d_prog_92_method_3_41 : decode prog_92_method_3_code 41 = .ok (.ddiv, 1) := by decide +kernel
theorem d_prog_92_method_3_42 : decode prog_92_method_3_code 42 = .ok (.dadd, 1) := by decide +kernel
theorem d_prog_92_method_3_43 : decode prog_92_method_3_code 43 = .ok (.dmul, 1) := by decide +kernel
theorem d_prog_92_method_3_44 : decode prog_92_method_3_code 44 = .ok (.dadd, 1) := by decide +kernel
theorem d_prog_92_method_3_45 : decode prog_92_method_3_code 45 = .ok (.ddiv, 1) := by decide +kernel
theorem d_prog_92_method_3_46 : decode prog_92_method_3_code 46 = .ok (.dreturn, 1) := by decide +kernel
set_option maxRecDepth 65536 in
set_option maxHeartbeats 40000000 in
theorem rmS (l : Launch) (Z : State) (a0 : Array Value) (hw : ∀ d ∈ tables_1, d.before a0 Z = true) (ws : List Jvm.Cond) (a : Addr) (idf : Int32) (f : Int32) (ln : Int32) (aa : Int32) (xk : UInt64) (xb : UInt64) (h0 : Heap) (n0 : Nat) (Z0 : n0 ≤ h0.size) (FK : Fld Z h0 a "com/example/haku/haku/search/Bm25" "k1" "D" (.double xk)) (FB : Fld Z h0 a "com/example/haku/haku/search/Bm25" "b" "D" (.double xb)) (m1 : Jvm.Free.Fl.NoNaN64 (FP.dmul (FP.l2d (idf.toInt64)) (FP.l2d (f.toInt64)))) (m2 : Jvm.Free.Fl.NoNaN64 (FP.dadd xk (FP.l2d (1 : Int64)))) (m3 : Jvm.Free.Fl.NoNaN64 (FP.dmul (FP.dmul (FP.l2d (idf.toInt64)) (FP.l2d (f.toInt64))) (FP.dadd xk (FP.l2d (1 : Int64))))) (m4 : Jvm.Free.Fl.NoNaN64 (FP.dsub (FP.l2d (1 : Int64)) xb)) (m5 : Jvm.Free.Fl.NoNaN64 (FP.dmul xb (FP.l2d (ln.toInt64)))) (m6 : Jvm.Free.Fl.NoNaN64 (FP.ddiv (FP.dmul xb (FP.l2d (ln.toInt64))) (FP.l2d (aa.toInt64)))) (m7 : Jvm.Free.Fl.NoNaN64 (FP.dadd (FP.dsub (FP.l2d (1 : Int64)) xb) (FP.ddiv (FP.dmul xb (FP.l2d (ln.toInt64))) (FP.l2d (aa.toInt64))))) (m8 : Jvm.Free.Fl.NoNaN64 (FP.dmul xk (FP.dadd (FP.dsub (FP.l2d (1 : Int64)) xb) (FP.ddiv (FP.dmul xb (FP.l2d (ln.toInt64))) (FP.l2d (aa.toInt64)))))) (m9 : Jvm.Free.Fl.NoNaN64 (FP.dadd (FP.l2d (f.toInt64)) (FP.dmul xk (FP.dadd (FP.dsub (FP.l2d (1 : Int64)) xb) (FP.ddiv (FP.dmul xb (FP.l2d (ln.toInt64))) (FP.l2d (aa.toInt64))))))) (m10 : Jvm.Free.Fl.NoNaN64 (FP.ddiv (FP.dmul (FP.dmul (FP.l2d (idf.toInt64)) (FP.l2d (f.toInt64))) (FP.dadd xk (FP.l2d (1 : Int64)))) (FP.dadd (FP.l2d (f.toInt64)) (FP.dmul xk (FP.dadd (FP.dsub (FP.l2d (1 : Int64)) xb) (FP.ddiv (FP.dmul xb (FP.l2d (ln.toInt64))) (FP.l2d (aa.toInt64)))))))) (hf0 : ¬ lcmpW (f.toInt64) (0 : Int64) = (0 : Int32)) :
    MetFree l (⟨"com/example/haku/haku/search/Bm25", "score", "(DDID)D"⟩ : MethodName) (head1 (Jvm.Cond.code (⟨"com/example/haku/haku/search/Bm25", "score", "(DDID)D"⟩ : MethodName) prog_92_method_3_code 8 (some .double) :: ws) ({ frames := 0, cells := 0, slots := 0, locals := 0 } : Room)) (fun a_ U_ => a_ = #[(.ref a), (.double (FP.l2d (idf.toInt64))), (.double (FP.l2d (f.toInt64))), (.int ln), (.double (FP.l2d (aa.toInt64)))] ∧ Z.Warmed39 U_.vm ∧ U_.heap = h0) (fun _ _ _ _ _ => True) (fun _ U_ o_ E_ => ∃ v_ L_, o_ = .returned v_ ∧ QS Z a idf f ln aa xk xb h0 n0 v_ E_.heap L_ ∧ FrameEnd U_ o_ E_ L_ ({ frames := 0, cells := 0, slots := 0, locals := 0 } : Room).cells ({ frames := 0, cells := 0, slots := 0, locals := 0 } : Room).slots) := by
  refine MetFree.of_bodySF (plainFor_of_name pn_Bm25) hisR ?_
  intro p e s m args below meth c s₁ Bd hml0 hP hK
  obtain ⟨rfl, hZ, hh⟩ := hP
  have hx := Bd.exec
  have hby := Bd.bytes
  have hml : c.maxLocals = 8 := hml0
  have hown : s.vm.findClass "com/example/haku/haku/search/Bm25" = some m.cls := findClass_of_methodNamed Bd.named
  have hnm := (name_of_methodNamed Bd.named Bd.method).1
  have X0 : Stand p l e ({ frames := 0, cells := 0, slots := 0, locals := 0 } : Room) s m #[(.ref a), (.double (FP.l2d (idf.toInt64))), (.double (FP.l2d (f.toInt64))), (.int ln), (.double (FP.l2d (aa.toInt64)))] below meth c s₁ [] 0 0 := Stand.of_body Bd
  have e0 : s₁.heap = h0 := by rw [← hh, Bd.state]; rfl
  have N0 := Fr.nil n0
  have Zn := Z0
  have pre0 : ∀ t, Steps p.tables e below (s₁.setTop (mkF m 0 #[.val (.ref a), .val (.double (FP.l2d (idf.toInt64))), .second, .val (.double (FP.l2d (f.toInt64))), .second, .val (.int ln), .val (.double (FP.l2d (aa.toInt64))), .second] [])) t → Steps p.tables e below (s₁.setTop (entryFrame m #[(.ref a), (.double (FP.l2d (idf.toInt64))), (.double (FP.l2d (f.toInt64))), (.int ln), (.double (FP.l2d (aa.toInt64)))] 8)) t := fun t q => castTop (ef_S m a (FP.l2d (idf.toInt64)) (FP.l2d (f.toInt64)) ln (FP.l2d (aa.toInt64))) q
  have k0 : ∀ t, Steps p.tables e below (s₁.setTop (mkF m 0 #[.val (.ref a), .val (.double (FP.l2d (idf.toInt64))), .second, .val (.double (FP.l2d (f.toInt64))), .second, .val (.int ln), .val (.double (FP.l2d (aa.toInt64))), .second] [])) t → Steps p.tables e below (s₁.setTop (mkF m 0 #[.val (.ref a), .val (.double (FP.l2d (idf.toInt64))), .second, .val (.double (FP.l2d (f.toInt64))), .second, .val (.int ln), .val (.double (FP.l2d (aa.toInt64))), .second] [])) t := fun t q => q
  have k1_ : ∀ t, Steps p.tables e below (s₁.setTop (mkF m 3 #[.val (.ref a), .val (.double (FP.l2d (idf.toInt64))), .second, .val (.double (FP.l2d (f.toInt64))), .second, .val (.int ln), .val (.double (FP.l2d (aa.toInt64))), .second] [(.int (lcmpW (f.toInt64) (0 : Int64)))])) t → Steps p.tables e below (s₁.setTop (mkF m 0 #[.val (.ref a), .val (.double (FP.l2d (idf.toInt64))), .second, .val (.double (FP.l2d (f.toInt64))), .second, .val (.int ln), .val (.double (FP.l2d (aa.toInt64))), .second] [])) t := by
    intro t q
    refine k0 _ ?_
    show Steps p.tables e below (s₁.setTop (mkF m 0 #[.val (.ref a), .val (.double (FP.l2d (idf.toInt64))), .second, .val (.double (FP.l2d (f.toInt64))), .second, .val (.int ln), .val (.double (FP.l2d (aa.toInt64))), .second] [])) _
    refine XS.dloadN X0.here hx rfl (hb hby d_prog_92_method_3_0) rfl ?_
    show Steps p.tables e below (s₁.setTop (mkF m 1 #[.val (.ref a), .val (.double (FP.l2d (idf.toInt64))), .second, .val (.double (FP.l2d (f.toInt64))), .second, .val (.int ln), .val (.double (FP.l2d (aa.toInt64))), .second] [(.double (FP.l2d (f.toInt64)))])) _
    refine XS.dconst0 X0.here hx rfl (hb hby d_prog_92_method_3_1) (v := FP.l2d (0 : Int64)) own_dc0 ?_
    show Steps p.tables e below (s₁.setTop (mkF m 2 #[.val (.ref a), .val (.double (FP.l2d (idf.toInt64))), .second, .val (.double (FP.l2d (f.toInt64))), .second, .val (.int ln), .val (.double (FP.l2d (aa.toInt64))), .second] [(.double (FP.l2d (0 : Int64))), (.double (FP.l2d (f.toInt64)))])) _
    refine XS.dcmpS X0.here hx rfl (hb hby d_prog_92_method_3_2) rfl (v := lcmpW (f.toInt64) (0 : Int64)) (dcmpV_w (own_b53 f) own_b0 _) ?_
    show Steps p.tables e below (s₁.setTop (mkF m 3 #[.val (.ref a), .val (.double (FP.l2d (idf.toInt64))), .second, .val (.double (FP.l2d (f.toInt64))), .second, .val (.int ln), .val (.double (FP.l2d (aa.toInt64))), .second] [(.int (lcmpW (f.toInt64) (0 : Int64)))])) _
    exact q
  have k2_ : ∀ t, Steps p.tables e below (s₁.setTop (mkF m 10 #[.val (.ref a), .val (.double (FP.l2d (idf.toInt64))), .second, .val (.double (FP.l2d (f.toInt64))), .second, .val (.int ln), .val (.double (FP.l2d (aa.toInt64))), .second] [])) t → Steps p.tables e below (s₁.setTop (mkF m 0 #[.val (.ref a), .val (.double (FP.l2d (idf.toInt64))), .second, .val (.double (FP.l2d (f.toInt64))), .second, .val (.int ln), .val (.double (FP.l2d (aa.toInt64))), .second] [])) t := by
    intro t q
    refine k1_ _ ?_
    show Steps p.tables e below (s₁.setTop (mkF m 3 #[.val (.ref a), .val (.double (FP.l2d (idf.toInt64))), .second, .val (.double (FP.l2d (f.toInt64))), .second, .val (.int ln), .val (.double (FP.l2d (aa.toInt64))), .second] [(.int (lcmpW (f.toInt64) (0 : Int64)))])) _
    refine XS.ifYes X0.here hx rfl (pc0 := 3) (pc' := 10) rfl (hb hby d_prog_92_method_3_3) rfl ((if0 _ _).trans (feq hf0).2) (by decide) (by decide) ?_
    show Steps p.tables e below (s₁.setTop (mkF m 10 #[.val (.ref a), .val (.double (FP.l2d (idf.toInt64))), .second, .val (.double (FP.l2d (f.toInt64))), .second, .val (.int ln), .val (.double (FP.l2d (aa.toInt64))), .second] [])) _
    exact q
  have k3_ : ∀ t, Steps p.tables e below (s₁.setTop (mkF m 14 #[.val (.ref a), .val (.double (FP.l2d (idf.toInt64))), .second, .val (.double (FP.l2d (f.toInt64))), .second, .val (.int ln), .val (.double (FP.l2d (aa.toInt64))), .second] [(.ref a), (.double (FP.dmul (FP.l2d (idf.toInt64)) (FP.l2d (f.toInt64))))])) t → Steps p.tables e below (s₁.setTop (mkF m 0 #[.val (.ref a), .val (.double (FP.l2d (idf.toInt64))), .second, .val (.double (FP.l2d (f.toInt64))), .second, .val (.int ln), .val (.double (FP.l2d (aa.toInt64))), .second] [])) t := by
    intro t q
    refine k2_ _ ?_
    show Steps p.tables e below (s₁.setTop (mkF m 10 #[.val (.ref a), .val (.double (FP.l2d (idf.toInt64))), .second, .val (.double (FP.l2d (f.toInt64))), .second, .val (.int ln), .val (.double (FP.l2d (aa.toInt64))), .second] [])) _
    refine XS.dloadN X0.here hx rfl (hb hby d_prog_92_method_3_10) rfl ?_
    show Steps p.tables e below (s₁.setTop (mkF m 11 #[.val (.ref a), .val (.double (FP.l2d (idf.toInt64))), .second, .val (.double (FP.l2d (f.toInt64))), .second, .val (.int ln), .val (.double (FP.l2d (aa.toInt64))), .second] [(.double (FP.l2d (idf.toInt64)))])) _
    refine XS.dloadN X0.here hx rfl (hb hby d_prog_92_method_3_11) rfl ?_
    show Steps p.tables e below (s₁.setTop (mkF m 12 #[.val (.ref a), .val (.double (FP.l2d (idf.toInt64))), .second, .val (.double (FP.l2d (f.toInt64))), .second, .val (.int ln), .val (.double (FP.l2d (aa.toInt64))), .second] [(.double (FP.l2d (f.toInt64))), (.double (FP.l2d (idf.toInt64)))])) _
    refine XS.dmulS X0.here hx rfl (hb hby d_prog_92_method_3_12) rfl m1 (v := (FP.dmul (FP.l2d (idf.toInt64)) (FP.l2d (f.toInt64)))) rfl ?_
    show Steps p.tables e below (s₁.setTop (mkF m 13 #[.val (.ref a), .val (.double (FP.l2d (idf.toInt64))), .second, .val (.double (FP.l2d (f.toInt64))), .second, .val (.int ln), .val (.double (FP.l2d (aa.toInt64))), .second] [(.double (FP.dmul (FP.l2d (idf.toInt64)) (FP.l2d (f.toInt64))))])) _
    refine XS.aloadN X0.here hx rfl (hb hby d_prog_92_method_3_13) rfl rfl ?_
    show Steps p.tables e below (s₁.setTop (mkF m 14 #[.val (.ref a), .val (.double (FP.l2d (idf.toInt64))), .second, .val (.double (FP.l2d (f.toInt64))), .second, .val (.int ln), .val (.double (FP.l2d (aa.toInt64))), .second] [(.ref a), (.double (FP.dmul (FP.l2d (idf.toInt64)) (FP.l2d (f.toInt64))))])) _
    exact q
  obtain ⟨T4, X4, e4, st4⟩ := getF X0 hx hZ hown (host := "") (Or.inl (hw _ (List.mem_of_getElem? (i := 17) rfl))) Via.refl e0 FK (g := (mkF m 14 #[.val (.ref a), .val (.double (FP.l2d (idf.toInt64))), .second, .val (.double (FP.l2d (f.toInt64))), .second, .val (.int ln), .val (.double (FP.l2d (aa.toInt64))), .second] [(.ref a), (.double (FP.dmul (FP.l2d (idf.toInt64)) (FP.l2d (f.toInt64))))])) rfl rfl (hb hby d_prog_92_method_3_14)
  have k5_ : ∀ t, Steps p.tables e below (T4.setTop (mkF m 17 #[.val (.ref a), .val (.double (FP.l2d (idf.toInt64))), .second, .val (.double (FP.l2d (f.toInt64))), .second, .val (.int ln), .val (.double (FP.l2d (aa.toInt64))), .second] [(.double xk), (.double (FP.dmul (FP.l2d (idf.toInt64)) (FP.l2d (f.toInt64))))])) t → Steps p.tables e below (s₁.setTop (mkF m 0 #[.val (.ref a), .val (.double (FP.l2d (idf.toInt64))), .second, .val (.double (FP.l2d (f.toInt64))), .second, .val (.int ln), .val (.double (FP.l2d (aa.toInt64))), .second] [])) t := fun t q => k3_ t (st4 t q)
  have k6_ : ∀ t, Steps p.tables e below (T4.setTop (mkF m 22 #[.val (.ref a), .val (.double (FP.l2d (idf.toInt64))), .second, .val (.double (FP.l2d (f.toInt64))), .second, .val (.int ln), .val (.double (FP.l2d (aa.toInt64))), .second] [(.ref a), (.double (FP.l2d (f.toInt64))), (.double (FP.dmul (FP.dmul (FP.l2d (idf.toInt64)) (FP.l2d (f.toInt64))) (FP.dadd xk (FP.l2d (1 : Int64)))))])) t → Steps p.tables e below (s₁.setTop (mkF m 0 #[.val (.ref a), .val (.double (FP.l2d (idf.toInt64))), .second, .val (.double (FP.l2d (f.toInt64))), .second, .val (.int ln), .val (.double (FP.l2d (aa.toInt64))), .second] [])) t := by
    intro t q
    refine k5_ _ ?_
    show Steps p.tables e below (T4.setTop (mkF m 17 #[.val (.ref a), .val (.double (FP.l2d (idf.toInt64))), .second, .val (.double (FP.l2d (f.toInt64))), .second, .val (.int ln), .val (.double (FP.l2d (aa.toInt64))), .second] [(.double xk), (.double (FP.dmul (FP.l2d (idf.toInt64)) (FP.l2d (f.toInt64))))])) _
    refine XS.dconst1 X4.here hx rfl (hb hby d_prog_92_method_3_17) (v := FP.l2d (1 : Int64)) own_dc1 ?_
    show Steps p.tables e below (T4.setTop (mkF m 18 #[.val (.ref a), .val (.double (FP.l2d (idf.toInt64))), .second, .val (.double (FP.l2d (f.toInt64))), .second, .val (.int ln), .val (.double (FP.l2d (aa.toInt64))), .second] [(.double (FP.l2d (1 : Int64))), (.double xk), (.double (FP.dmul (FP.l2d (idf.toInt64)) (FP.l2d (f.toInt64))))])) _
    refine XS.daddS X4.here hx rfl (hb hby d_prog_92_method_3_18) rfl m2 (v := (FP.dadd xk (FP.l2d (1 : Int64)))) rfl ?_
    show Steps p.tables e below (T4.setTop (mkF m 19 #[.val (.ref a), .val (.double (FP.l2d (idf.toInt64))), .second, .val (.double (FP.l2d (f.toInt64))), .second, .val (.int ln), .val (.double (FP.l2d (aa.toInt64))), .second] [(.double (FP.dadd xk (FP.l2d (1 : Int64)))), (.double (FP.dmul (FP.l2d (idf.toInt64)) (FP.l2d (f.toInt64))))])) _
    refine XS.dmulS X4.here hx rfl (hb hby d_prog_92_method_3_19) rfl m3 (v := (FP.dmul (FP.dmul (FP.l2d (idf.toInt64)) (FP.l2d (f.toInt64))) (FP.dadd xk (FP.l2d (1 : Int64))))) rfl ?_
    show Steps p.tables e below (T4.setTop (mkF m 20 #[.val (.ref a), .val (.double (FP.l2d (idf.toInt64))), .second, .val (.double (FP.l2d (f.toInt64))), .second, .val (.int ln), .val (.double (FP.l2d (aa.toInt64))), .second] [(.double (FP.dmul (FP.dmul (FP.l2d (idf.toInt64)) (FP.l2d (f.toInt64))) (FP.dadd xk (FP.l2d (1 : Int64)))))])) _
    refine XS.dloadN X4.here hx rfl (hb hby d_prog_92_method_3_20) rfl ?_
    show Steps p.tables e below (T4.setTop (mkF m 21 #[.val (.ref a), .val (.double (FP.l2d (idf.toInt64))), .second, .val (.double (FP.l2d (f.toInt64))), .second, .val (.int ln), .val (.double (FP.l2d (aa.toInt64))), .second] [(.double (FP.l2d (f.toInt64))), (.double (FP.dmul (FP.dmul (FP.l2d (idf.toInt64)) (FP.l2d (f.toInt64))) (FP.dadd xk (FP.l2d (1 : Int64)))))])) _
    refine XS.aloadN X4.here hx rfl (hb hby d_prog_92_method_3_21) rfl rfl ?_
    show Steps p.tables e below (T4.setTop (mkF m 22 #[.val (.ref a), .val (.double (FP.l2d (idf.toInt64))), .second, .val (.double (FP.l2d (f.toInt64))), .second, .val (.int ln), .val (.double (FP.l2d (aa.toInt64))), .second] [(.ref a), (.double (FP.l2d (f.toInt64))), (.double (FP.dmul (FP.dmul (FP.l2d (idf.toInt64)) (FP.l2d (f.toInt64))) (FP.dadd xk (FP.l2d (1 : Int64)))))])) _
    exact q
  obtain ⟨T7, X7, e7, st7⟩ := getF X4 hx hZ hown (host := "") (Or.inl (hw _ (List.mem_of_getElem? (i := 17) rfl))) Via.refl e4 FK (g := (mkF m 22 #[.val (.ref a), .val (.double (FP.l2d (idf.toInt64))), .second, .val (.double (FP.l2d (f.toInt64))), .second, .val (.int ln), .val (.double (FP.l2d (aa.toInt64))), .second] [(.ref a), (.double (FP.l2d (f.toInt64))), (.double (FP.dmul (FP.dmul (FP.l2d (idf.toInt64)) (FP.l2d (f.toInt64))) (FP.dadd xk (FP.l2d (1 : Int64)))))])) rfl rfl (hb hby d_prog_92_method_3_22)
  have k8_ : ∀ t, Steps p.tables e below (T7.setTop (mkF m 25 #[.val (.ref a), .val (.double (FP.l2d (idf.toInt64))), .second, .val (.double (FP.l2d (f.toInt64))), .second, .val (.int ln), .val (.double (FP.l2d (aa.toInt64))), .second] [(.double xk), (.double (FP.l2d (f.toInt64))), (.double (FP.dmul (FP.dmul (FP.l2d (idf.toInt64)) (FP.l2d (f.toInt64))) (FP.dadd xk (FP.l2d (1 : Int64)))))])) t → Steps p.tables e below (s₁.setTop (mkF m 0 #[.val (.ref a), .val (.double (FP.l2d (idf.toInt64))), .second, .val (.double (FP.l2d (f.toInt64))), .second, .val (.int ln), .val (.double (FP.l2d (aa.toInt64))), .second] [])) t := fun t q => k6_ t (st7 t q)
  have k9_ : ∀ t, Steps p.tables e below (T7.setTop (mkF m 27 #[.val (.ref a), .val (.double (FP.l2d (idf.toInt64))), .second, .val (.double (FP.l2d (f.toInt64))), .second, .val (.int ln), .val (.double (FP.l2d (aa.toInt64))), .second] [(.ref a), (.double (FP.l2d (1 : Int64))), (.double xk), (.double (FP.l2d (f.toInt64))), (.double (FP.dmul (FP.dmul (FP.l2d (idf.toInt64)) (FP.l2d (f.toInt64))) (FP.dadd xk (FP.l2d (1 : Int64)))))])) t → Steps p.tables e below (s₁.setTop (mkF m 0 #[.val (.ref a), .val (.double (FP.l2d (idf.toInt64))), .second, .val (.double (FP.l2d (f.toInt64))), .second, .val (.int ln), .val (.double (FP.l2d (aa.toInt64))), .second] [])) t := by
    intro t q
    refine k8_ _ ?_
    show Steps p.tables e below (T7.setTop (mkF m 25 #[.val (.ref a), .val (.double (FP.l2d (idf.toInt64))), .second, .val (.double (FP.l2d (f.toInt64))), .second, .val (.int ln), .val (.double (FP.l2d (aa.toInt64))), .second] [(.double xk), (.double (FP.l2d (f.toInt64))), (.double (FP.dmul (FP.dmul (FP.l2d (idf.toInt64)) (FP.l2d (f.toInt64))) (FP.dadd xk (FP.l2d (1 : Int64)))))])) _
    refine XS.dconst1 X7.here hx rfl (hb hby d_prog_92_method_3_25) (v := FP.l2d (1 : Int64)) own_dc1 ?_
    show Steps p.tables e below (T7.setTop (mkF m 26 #[.val (.ref a), .val (.double (FP.l2d (idf.toInt64))), .second, .val (.double (FP.l2d (f.toInt64))), .second, .val (.int ln), .val (.double (FP.l2d (aa.toInt64))), .second] [(.double (FP.l2d (1 : Int64))), (.double xk), (.double (FP.l2d (f.toInt64))), (.double (FP.dmul (FP.dmul (FP.l2d (idf.toInt64)) (FP.l2d (f.toInt64))) (FP.dadd xk (FP.l2d (1 : Int64)))))])) _
    refine XS.aloadN X7.here hx rfl (hb hby d_prog_92_method_3_26) rfl rfl ?_
    show Steps p.tables e below (T7.setTop (mkF m 27 #[.val (.ref a), .val (.double (FP.l2d (idf.toInt64))), .second, .val (.double (FP.l2d (f.toInt64))), .second, .val (.int ln), .val (.double (FP.l2d (aa.toInt64))), .second] [(.ref a), (.double (FP.l2d (1 : Int64))), (.double xk), (.double (FP.l2d (f.toInt64))), (.double (FP.dmul (FP.dmul (FP.l2d (idf.toInt64)) (FP.l2d (f.toInt64))) (FP.dadd xk (FP.l2d (1 : Int64)))))])) _
    exact q
  obtain ⟨T10, X10, e10, st10⟩ := getF X7 hx hZ hown (host := "") (Or.inl (hw _ (List.mem_of_getElem? (i := 19) rfl))) Via.refl e7 FB (g := (mkF m 27 #[.val (.ref a), .val (.double (FP.l2d (idf.toInt64))), .second, .val (.double (FP.l2d (f.toInt64))), .second, .val (.int ln), .val (.double (FP.l2d (aa.toInt64))), .second] [(.ref a), (.double (FP.l2d (1 : Int64))), (.double xk), (.double (FP.l2d (f.toInt64))), (.double (FP.dmul (FP.dmul (FP.l2d (idf.toInt64)) (FP.l2d (f.toInt64))) (FP.dadd xk (FP.l2d (1 : Int64)))))])) rfl rfl (hb hby d_prog_92_method_3_27)
  have k11_ : ∀ t, Steps p.tables e below (T10.setTop (mkF m 30 #[.val (.ref a), .val (.double (FP.l2d (idf.toInt64))), .second, .val (.double (FP.l2d (f.toInt64))), .second, .val (.int ln), .val (.double (FP.l2d (aa.toInt64))), .second] [(.double xb), (.double (FP.l2d (1 : Int64))), (.double xk), (.double (FP.l2d (f.toInt64))), (.double (FP.dmul (FP.dmul (FP.l2d (idf.toInt64)) (FP.l2d (f.toInt64))) (FP.dadd xk (FP.l2d (1 : Int64)))))])) t → Steps p.tables e below (s₁.setTop (mkF m 0 #[.val (.ref a), .val (.double (FP.l2d (idf.toInt64))), .second, .val (.double (FP.l2d (f.toInt64))), .second, .val (.int ln), .val (.double (FP.l2d (aa.toInt64))), .second] [])) t := fun t q => k9_ t (st10 t q)
  have k12_ : ∀ t, Steps p.tables e below (T10.setTop (mkF m 32 #[.val (.ref a), .val (.double (FP.l2d (idf.toInt64))), .second, .val (.double (FP.l2d (f.toInt64))), .second, .val (.int ln), .val (.double (FP.l2d (aa.toInt64))), .second] [(.ref a), (.double (FP.dsub (FP.l2d (1 : Int64)) xb)), (.double xk), (.double (FP.l2d (f.toInt64))), (.double (FP.dmul (FP.dmul (FP.l2d (idf.toInt64)) (FP.l2d (f.toInt64))) (FP.dadd xk (FP.l2d (1 : Int64)))))])) t → Steps p.tables e below (s₁.setTop (mkF m 0 #[.val (.ref a), .val (.double (FP.l2d (idf.toInt64))), .second, .val (.double (FP.l2d (f.toInt64))), .second, .val (.int ln), .val (.double (FP.l2d (aa.toInt64))), .second] [])) t := by
    intro t q
    refine k11_ _ ?_
    show Steps p.tables e below (T10.setTop (mkF m 30 #[.val (.ref a), .val (.double (FP.l2d (idf.toInt64))), .second, .val (.double (FP.l2d (f.toInt64))), .second, .val (.int ln), .val (.double (FP.l2d (aa.toInt64))), .second] [(.double xb), (.double (FP.l2d (1 : Int64))), (.double xk), (.double (FP.l2d (f.toInt64))), (.double (FP.dmul (FP.dmul (FP.l2d (idf.toInt64)) (FP.l2d (f.toInt64))) (FP.dadd xk (FP.l2d (1 : Int64)))))])) _
    refine XS.dsubS X10.here hx rfl (hb hby d_prog_92_method_3_30) rfl m4 (v := (FP.dsub (FP.l2d (1 : Int64)) xb)) rfl ?_
    show Steps p.tables e below (T10.setTop (mkF m 31 #[.val (.ref a), .val (.double (FP.l2d (idf.toInt64))), .second, .val (.double (FP.l2d (f.toInt64))), .second, .val (.int ln), .val (.double (FP.l2d (aa.toInt64))), .second] [(.double (FP.dsub (FP.l2d (1 : Int64)) xb)), (.double xk), (.double (FP.l2d (f.toInt64))), (.double (FP.dmul (FP.dmul (FP.l2d (idf.toInt64)) (FP.l2d (f.toInt64))) (FP.dadd xk (FP.l2d (1 : Int64)))))])) _
    refine XS.aloadN X10.here hx rfl (hb hby d_prog_92_method_3_31) rfl rfl ?_
    show Steps p.tables e below (T10.setTop (mkF m 32 #[.val (.ref a), .val (.double (FP.l2d (idf.toInt64))), .second, .val (.double (FP.l2d (f.toInt64))), .second, .val (.int ln), .val (.double (FP.l2d (aa.toInt64))), .second] [(.ref a), (.double (FP.dsub (FP.l2d (1 : Int64)) xb)), (.double xk), (.double (FP.l2d (f.toInt64))), (.double (FP.dmul (FP.dmul (FP.l2d (idf.toInt64)) (FP.l2d (f.toInt64))) (FP.dadd xk (FP.l2d (1 : Int64)))))])) _
    exact q
  obtain ⟨T13, X13, e13, st13⟩ := getF X10 hx hZ hown (host := "") (Or.inl (hw _ (List.mem_of_getElem? (i := 19) rfl))) Via.refl e10 FB (g := (mkF m 32 #[.val (.ref a), .val (.double (FP.l2d (idf.toInt64))), .second, .val (.double (FP.l2d (f.toInt64))), .second, .val (.int ln), .val (.double (FP.l2d (aa.toInt64))), .second] [(.ref a), (.double (FP.dsub (FP.l2d (1 : Int64)) xb)), (.double xk), (.double (FP.l2d (f.toInt64))), (.double (FP.dmul (FP.dmul (FP.l2d (idf.toInt64)) (FP.l2d (f.toInt64))) (FP.dadd xk (FP.l2d (1 : Int64)))))])) rfl rfl (hb hby d_prog_92_method_3_32)
  have k14_ : ∀ t, Steps p.tables e below (T13.setTop (mkF m 35 #[.val (.ref a), .val (.double (FP.l2d (idf.toInt64))), .second, .val (.double (FP.l2d (f.toInt64))), .second, .val (.int ln), .val (.double (FP.l2d (aa.toInt64))), .second] [(.double xb), (.double (FP.dsub (FP.l2d (1 : Int64)) xb)), (.double xk), (.double (FP.l2d (f.toInt64))), (.double (FP.dmul (FP.dmul (FP.l2d (idf.toInt64)) (FP.l2d (f.toInt64))) (FP.dadd xk (FP.l2d (1 : Int64)))))])) t → Steps p.tables e below (s₁.setTop (mkF m 0 #[.val (.ref a), .val (.double (FP.l2d (idf.toInt64))), .second, .val (.double (FP.l2d (f.toInt64))), .second, .val (.int ln), .val (.double (FP.l2d (aa.toInt64))), .second] [])) t := fun t q => k12_ t (st13 t q)
  have k15_ : ∀ t, Steps p.tables e below (T13.setTop (mkF m 46 #[.val (.ref a), .val (.double (FP.l2d (idf.toInt64))), .second, .val (.double (FP.l2d (f.toInt64))), .second, .val (.int ln), .val (.double (FP.l2d (aa.toInt64))), .second] [(.double (FP.ddiv (FP.dmul (FP.dmul (FP.l2d (idf.toInt64)) (FP.l2d (f.toInt64))) (FP.dadd xk (FP.l2d (1 : Int64)))) (FP.dadd (FP.l2d (f.toInt64)) (FP.dmul xk (FP.dadd (FP.dsub (FP.l2d (1 : Int64)) xb) (FP.ddiv (FP.dmul xb (FP.l2d (ln.toInt64))) (FP.l2d (aa.toInt64))))))))])) t → Steps p.tables e below (s₁.setTop (mkF m 0 #[.val (.ref a), .val (.double (FP.l2d (idf.toInt64))), .second, .val (.double (FP.l2d (f.toInt64))), .second, .val (.int ln), .val (.double (FP.l2d (aa.toInt64))), .second] [])) t := by
    intro t q
    refine k14_ _ ?_
    show Steps p.tables e below (T13.setTop (mkF m 35 #[.val (.ref a), .val (.double (FP.l2d (idf.toInt64))), .second, .val (.double (FP.l2d (f.toInt64))), .second, .val (.int ln), .val (.double (FP.l2d (aa.toInt64))), .second] [(.double xb), (.double (FP.dsub (FP.l2d (1 : Int64)) xb)), (.double xk), (.double (FP.l2d (f.toInt64))), (.double (FP.dmul (FP.dmul (FP.l2d (idf.toInt64)) (FP.l2d (f.toInt64))) (FP.dadd xk (FP.l2d (1 : Int64)))))])) _
    refine XS.iload X13.here hx rfl (hb hby d_prog_92_method_3_35) rfl ?_
    show Steps p.tables e below (T13.setTop (mkF m 37 #[.val (.ref a), .val (.double (FP.l2d (idf.toInt64))), .second, .val (.double (FP.l2d (f.toInt64))), .second, .val (.int ln), .val (.double (FP.l2d (aa.toInt64))), .second] [(.int ln), (.double xb), (.double (FP.dsub (FP.l2d (1 : Int64)) xb)), (.double xk), (.double (FP.l2d (f.toInt64))), (.double (FP.dmul (FP.dmul (FP.l2d (idf.toInt64)) (FP.l2d (f.toInt64))) (FP.dadd xk (FP.l2d (1 : Int64)))))])) _
    refine XS.i2dS X13.here hx rfl (hb hby d_prog_92_method_3_37) rfl (v := FP.l2d (ln.toInt64)) (i2d_w _) ?_
    show Steps p.tables e below (T13.setTop (mkF m 38 #[.val (.ref a), .val (.double (FP.l2d (idf.toInt64))), .second, .val (.double (FP.l2d (f.toInt64))), .second, .val (.int ln), .val (.double (FP.l2d (aa.toInt64))), .second] [(.double (FP.l2d (ln.toInt64))), (.double xb), (.double (FP.dsub (FP.l2d (1 : Int64)) xb)), (.double xk), (.double (FP.l2d (f.toInt64))), (.double (FP.dmul (FP.dmul (FP.l2d (idf.toInt64)) (FP.l2d (f.toInt64))) (FP.dadd xk (FP.l2d (1 : Int64)))))])) _
    refine XS.dmulS X13.here hx rfl (hb hby d_prog_92_method_3_38) rfl m5 (v := (FP.dmul xb (FP.l2d (ln.toInt64)))) rfl ?_
    show Steps p.tables e below (T13.setTop (mkF m 39 #[.val (.ref a), .val (.double (FP.l2d (idf.toInt64))), .second, .val (.double (FP.l2d (f.toInt64))), .second, .val (.int ln), .val (.double (FP.l2d (aa.toInt64))), .second] [(.double (FP.dmul xb (FP.l2d (ln.toInt64)))), (.double (FP.dsub (FP.l2d (1 : Int64)) xb)), (.double xk), (.double (FP.l2d (f.toInt64))), (.double (FP.dmul (FP.dmul (FP.l2d (idf.toInt64)) (FP.l2d (f.toInt64))) (FP.dadd xk (FP.l2d (1 : Int64)))))])) _
    refine XS.dload X13.here hx rfl (hb hby d_prog_92_method_3_39) rfl ?_
    show Steps p.tables e below (T13.setTop (mkF m 41 #[.val (.ref a), .val (.double (FP.l2d (idf.toInt64))), .second, .val (.double (FP.l2d (f.toInt64))), .second, .val (.int ln), .val (.double (FP.l2d (aa.toInt64))), .second] [(.double (FP.l2d (aa.toInt64))), (.double (FP.dmul xb (FP.l2d (ln.toInt64)))), (.double (FP.dsub (FP.l2d (1 : Int64)) xb)), (.double xk), (.double (FP.l2d (f.toInt64))), (.double (FP.dmul (FP.dmul (FP.l2d (idf.toInt64)) (FP.l2d (f.toInt64))) (FP.dadd xk (FP.l2d (1 : Int64)))))])) _
    refine XS.ddivS X13.here hx rfl (hb hby d_prog_92_method_3_41) rfl m6 (v := (FP.ddiv (FP.dmul xb (FP.l2d (ln.toInt64))) (FP.l2d (aa.toInt64)))) rfl ?_
    show Steps p.tables e below (T13.setTop (mkF m 42 #[.val (.ref a), .val (.double (FP.l2d (idf.toInt64))), .second, .val (.double (FP.l2d (f.toInt64))), .second, .val (.int ln), .val (.double (FP.l2d (aa.toInt64))), .second] [(.double (FP.ddiv (FP.dmul xb (FP.l2d (ln.toInt64))) (FP.l2d (aa.toInt64)))), (.double (FP.dsub (FP.l2d (1 : Int64)) xb)), (.double xk), (.double (FP.l2d (f.toInt64))), (.double (FP.dmul (FP.dmul (FP.l2d (idf.toInt64)) (FP.l2d (f.toInt64))) (FP.dadd xk (FP.l2d (1 : Int64)))))])) _
    refine XS.daddS X13.here hx rfl (hb hby d_prog_92_method_3_42) rfl m7 (v := (FP.dadd (FP.dsub (FP.l2d (1 : Int64)) xb) (FP.ddiv (FP.dmul xb (FP.l2d (ln.toInt64))) (FP.l2d (aa.toInt64))))) rfl ?_
    show Steps p.tables e below (T13.setTop (mkF m 43 #[.val (.ref a), .val (.double (FP.l2d (idf.toInt64))), .second, .val (.double (FP.l2d (f.toInt64))), .second, .val (.int ln), .val (.double (FP.l2d (aa.toInt64))), .second] [(.double (FP.dadd (FP.dsub (FP.l2d (1 : Int64)) xb) (FP.ddiv (FP.dmul xb (FP.l2d (ln.toInt64))) (FP.l2d (aa.toInt64))))), (.double xk), (.double (FP.l2d (f.toInt64))), (.double (FP.dmul (FP.dmul (FP.l2d (idf.toInt64)) (FP.l2d (f.toInt64))) (FP.dadd xk (FP.l2d (1 : Int64)))))])) _
    refine XS.dmulS X13.here hx rfl (hb hby d_prog_92_method_3_43) rfl m8 (v := (FP.dmul xk (FP.dadd (FP.dsub (FP.l2d (1 : Int64)) xb) (FP.ddiv (FP.dmul xb (FP.l2d (ln.toInt64))) (FP.l2d (aa.toInt64)))))) rfl ?_
    show Steps p.tables e below (T13.setTop (mkF m 44 #[.val (.ref a), .val (.double (FP.l2d (idf.toInt64))), .second, .val (.double (FP.l2d (f.toInt64))), .second, .val (.int ln), .val (.double (FP.l2d (aa.toInt64))), .second] [(.double (FP.dmul xk (FP.dadd (FP.dsub (FP.l2d (1 : Int64)) xb) (FP.ddiv (FP.dmul xb (FP.l2d (ln.toInt64))) (FP.l2d (aa.toInt64)))))), (.double (FP.l2d (f.toInt64))), (.double (FP.dmul (FP.dmul (FP.l2d (idf.toInt64)) (FP.l2d (f.toInt64))) (FP.dadd xk (FP.l2d (1 : Int64)))))])) _
    refine XS.daddS X13.here hx rfl (hb hby d_prog_92_method_3_44) rfl m9 (v := (FP.dadd (FP.l2d (f.toInt64)) (FP.dmul xk (FP.dadd (FP.dsub (FP.l2d (1 : Int64)) xb) (FP.ddiv (FP.dmul xb (FP.l2d (ln.toInt64))) (FP.l2d (aa.toInt64))))))) rfl ?_
    show Steps p.tables e below (T13.setTop (mkF m 45 #[.val (.ref a), .val (.double (FP.l2d (idf.toInt64))), .second, .val (.double (FP.l2d (f.toInt64))), .second, .val (.int ln), .val (.double (FP.l2d (aa.toInt64))), .second] [(.double (FP.dadd (FP.l2d (f.toInt64)) (FP.dmul xk (FP.dadd (FP.dsub (FP.l2d (1 : Int64)) xb) (FP.ddiv (FP.dmul xb (FP.l2d (ln.toInt64))) (FP.l2d (aa.toInt64))))))), (.double (FP.dmul (FP.dmul (FP.l2d (idf.toInt64)) (FP.l2d (f.toInt64))) (FP.dadd xk (FP.l2d (1 : Int64)))))])) _
    refine XS.ddivS X13.here hx rfl (hb hby d_prog_92_method_3_45) rfl m10 (v := (FP.ddiv (FP.dmul (FP.dmul (FP.l2d (idf.toInt64)) (FP.l2d (f.toInt64))) (FP.dadd xk (FP.l2d (1 : Int64)))) (FP.dadd (FP.l2d (f.toInt64)) (FP.dmul xk (FP.dadd (FP.dsub (FP.l2d (1 : Int64)) xb) (FP.ddiv (FP.dmul xb (FP.l2d (ln.toInt64))) (FP.l2d (aa.toInt64)))))))) rfl ?_
    show Steps p.tables e below (T13.setTop (mkF m 46 #[.val (.ref a), .val (.double (FP.l2d (idf.toInt64))), .second, .val (.double (FP.l2d (f.toInt64))), .second, .val (.int ln), .val (.double (FP.l2d (aa.toInt64))), .second] [(.double (FP.ddiv (FP.dmul (FP.dmul (FP.l2d (idf.toInt64)) (FP.l2d (f.toInt64))) (FP.dadd xk (FP.l2d (1 : Int64)))) (FP.dadd (FP.l2d (f.toInt64)) (FP.dmul xk (FP.dadd (FP.dsub (FP.l2d (1 : Int64)) xb) (FP.ddiv (FP.dmul xb (FP.l2d (ln.toInt64))) (FP.l2d (aa.toInt64))))))))])) _
    exact q
  obtain ⟨fs, hr, hrun, hended, hW, hsame⟩ := X13.leave (v := some (.double (FP.ddiv (FP.dmul (FP.dmul (FP.l2d (idf.toInt64)) (FP.l2d (f.toInt64))) (FP.dadd xk (FP.l2d (1 : Int64)))) (FP.dadd (FP.l2d (f.toInt64)) (FP.dmul xk (FP.dadd (FP.dsub (FP.l2d (1 : Int64)) xb) (FP.ddiv (FP.dmul xb (FP.l2d (ln.toInt64))) (FP.l2d (aa.toInt64))))))))) (fun h => by rw [Bd.returns] at h; cases h)
  refine ⟨_, _, pre0 _ (k15_ _ ?_), hrun, hended, _, _, rfl, ?_, ⟨_, rfl⟩, hW, hsame.mono (by decide) (by decide)⟩
  · show Steps p.tables e below (T13.setTop (mkF m 46 #[.val (.ref a), .val (.double (FP.l2d (idf.toInt64))), .second, .val (.double (FP.l2d (f.toInt64))), .second, .val (.int ln), .val (.double (FP.l2d (aa.toInt64))), .second] [(.double (FP.ddiv (FP.dmul (FP.dmul (FP.l2d (idf.toInt64)) (FP.l2d (f.toInt64))) (FP.dadd xk (FP.l2d (1 : Int64)))) (FP.dadd (FP.l2d (f.toInt64)) (FP.dmul xk (FP.dadd (FP.dsub (FP.l2d (1 : Int64)) xb) (FP.ddiv (FP.dmul xb (FP.l2d (ln.toInt64))) (FP.l2d (aa.toInt64))))))))])) _
    exact retD X13 hx Bd.returns (hb hby d_prog_92_method_3_46) hr
  · show QS Z a idf f ln aa xk xb h0 n0 _ T13.heap _
    rw [e13]
    exact ⟨rfl, N0, rfl⟩
def QT (Z : State) (a : Addr) (idf : Int32) (f : Int32) (ln : Int32) (aa : Int32) (xk : UInt64) (xb : UInt64) (h0 : Heap) (n0 : Nat) (v : Option Value) (h : Heap) (L : List Loc) : Prop := v = some (.double (FP.l2d (0 : Int64))) ∧ Fr n0 L ∧ h = h0
theorem ef_T (m : MethodId) (x0 : Addr) (x1 : UInt64) (x2 : UInt64) (x3 : Int32) (x4 : UInt64) : entryFrame m #[(.ref x0), (.double x1), (.double x2), (.int x3), (.double x4)] 8 = mkF m 0 #[.val (.ref x0), .val (.double x1), .second, .val (.double x2), .second, .val (.int x3), .val (.double x4), .second] [] := by first | (simp [entryFrame, mkF, argsToLocals, Value.category]; done) | rfl
theorem d_prog_92_method_3_6 : decode prog_92_method_3_code 6 = .ok (.dconst 0, 1) := by decide +kernel
theorem d_prog_92_method_3_7 : decode prog_92_method_3_code 7 = .ok (.goto 39, 3) := by decide +kernel
set_option maxRecDepth 65536 in
set_option maxHeartbeats 40000000 in
theorem rmT (l : Launch) (Z : State) (a0 : Array Value) (hw : ∀ d ∈ tables_1, d.before a0 Z = true) (ws : List Jvm.Cond) (a : Addr) (idf : Int32) (f : Int32) (ln : Int32) (aa : Int32) (xk : UInt64) (xb : UInt64) (h0 : Heap) (n0 : Nat) (Z0 : n0 ≤ h0.size) (hf0 : lcmpW (f.toInt64) (0 : Int64) = (0 : Int32)) :
    MetFree l (⟨"com/example/haku/haku/search/Bm25", "score", "(DDID)D"⟩ : MethodName) (head1 (Jvm.Cond.code (⟨"com/example/haku/haku/search/Bm25", "score", "(DDID)D"⟩ : MethodName) prog_92_method_3_code 8 (some .double) :: ws) ({ frames := 0, cells := 0, slots := 0, locals := 0 } : Room)) (fun a_ U_ => a_ = #[(.ref a), (.double (FP.l2d (idf.toInt64))), (.double (FP.l2d (f.toInt64))), (.int ln), (.double (FP.l2d (aa.toInt64)))] ∧ Z.Warmed39 U_.vm ∧ U_.heap = h0) (fun _ _ _ _ _ => True) (fun _ U_ o_ E_ => ∃ v_ L_, o_ = .returned v_ ∧ QT Z a idf f ln aa xk xb h0 n0 v_ E_.heap L_ ∧ FrameEnd U_ o_ E_ L_ ({ frames := 0, cells := 0, slots := 0, locals := 0 } : Room).cells ({ frames := 0, cells := 0, slots := 0, locals := 0 } : Room).slots) := by
  refine MetFree.of_bodySF (plainFor_of_name pn_Bm25) hisR ?_
  intro p e s m args below meth c s₁ Bd hml0 hP hK
  obtain ⟨rfl, hZ, hh⟩ := hP
  have hx := Bd.exec
  have hby := Bd.bytes
  have hml : c.maxLocals = 8 := hml0
  have hown : s.vm.findClass "com/example/haku/haku/search/Bm25" = some m.cls := findClass_of_methodNamed Bd.named
  have hnm := (name_of_methodNamed Bd.named Bd.method).1
  have X0 : Stand p l e ({ frames := 0, cells := 0, slots := 0, locals := 0 } : Room) s m #[(.ref a), (.double (FP.l2d (idf.toInt64))), (.double (FP.l2d (f.toInt64))), (.int ln), (.double (FP.l2d (aa.toInt64)))] below meth c s₁ [] 0 0 := Stand.of_body Bd
  have e0 : s₁.heap = h0 := by rw [← hh, Bd.state]; rfl
  have N0 := Fr.nil n0
  have Zn := Z0
  have pre0 : ∀ t, Steps p.tables e below (s₁.setTop (mkF m 0 #[.val (.ref a), .val (.double (FP.l2d (idf.toInt64))), .second, .val (.double (FP.l2d (f.toInt64))), .second, .val (.int ln), .val (.double (FP.l2d (aa.toInt64))), .second] [])) t → Steps p.tables e below (s₁.setTop (entryFrame m #[(.ref a), (.double (FP.l2d (idf.toInt64))), (.double (FP.l2d (f.toInt64))), (.int ln), (.double (FP.l2d (aa.toInt64)))] 8)) t := fun t q => castTop (ef_T m a (FP.l2d (idf.toInt64)) (FP.l2d (f.toInt64)) ln (FP.l2d (aa.toInt64))) q
  have k0 : ∀ t, Steps p.tables e below (s₁.setTop (mkF m 0 #[.val (.ref a), .val (.double (FP.l2d (idf.toInt64))), .second, .val (.double (FP.l2d (f.toInt64))), .second, .val (.int ln), .val (.double (FP.l2d (aa.toInt64))), .second] [])) t → Steps p.tables e below (s₁.setTop (mkF m 0 #[.val (.ref a), .val (.double (FP.l2d (idf.toInt64))), .second, .val (.double (FP.l2d (f.toInt64))), .second, .val (.int ln), .val (.double (FP.l2d (aa.toInt64))), .second] [])) t := fun t q => q
  have k1_ : ∀ t, Steps p.tables e below (s₁.setTop (mkF m 3 #[.val (.ref a), .val (.double (FP.l2d (idf.toInt64))), .second, .val (.double (FP.l2d (f.toInt64))), .second, .val (.int ln), .val (.double (FP.l2d (aa.toInt64))), .second] [(.int (lcmpW (f.toInt64) (0 : Int64)))])) t → Steps p.tables e below (s₁.setTop (mkF m 0 #[.val (.ref a), .val (.double (FP.l2d (idf.toInt64))), .second, .val (.double (FP.l2d (f.toInt64))), .second, .val (.int ln), .val (.double (FP.l2d (aa.toInt64))), .second] [])) t := by
    intro t q
    refine k0 _ ?_
    show Steps p.tables e below (s₁.setTop (mkF m 0 #[.val (.ref a), .val (.double (FP.l2d (idf.toInt64))), .second, .val (.double (FP.l2d (f.toInt64))), .second, .val (.int ln), .val (.double (FP.l2d (aa.toInt64))), .second] [])) _
    refine XS.dloadN X0.here hx rfl (hb hby d_prog_92_method_3_0) rfl ?_
    show Steps p.tables e below (s₁.setTop (mkF m 1 #[.val (.ref a), .val (.double (FP.l2d (idf.toInt64))), .second, .val (.double (FP.l2d (f.toInt64))), .second, .val (.int ln), .val (.double (FP.l2d (aa.toInt64))), .second] [(.double (FP.l2d (f.toInt64)))])) _
    refine XS.dconst0 X0.here hx rfl (hb hby d_prog_92_method_3_1) (v := FP.l2d (0 : Int64)) own_dc0 ?_
    show Steps p.tables e below (s₁.setTop (mkF m 2 #[.val (.ref a), .val (.double (FP.l2d (idf.toInt64))), .second, .val (.double (FP.l2d (f.toInt64))), .second, .val (.int ln), .val (.double (FP.l2d (aa.toInt64))), .second] [(.double (FP.l2d (0 : Int64))), (.double (FP.l2d (f.toInt64)))])) _
    refine XS.dcmpS X0.here hx rfl (hb hby d_prog_92_method_3_2) rfl (v := lcmpW (f.toInt64) (0 : Int64)) (dcmpV_w (own_b53 f) own_b0 _) ?_
    show Steps p.tables e below (s₁.setTop (mkF m 3 #[.val (.ref a), .val (.double (FP.l2d (idf.toInt64))), .second, .val (.double (FP.l2d (f.toInt64))), .second, .val (.int ln), .val (.double (FP.l2d (aa.toInt64))), .second] [(.int (lcmpW (f.toInt64) (0 : Int64)))])) _
    exact q
  have k2_ : ∀ t, Steps p.tables e below (s₁.setTop (mkF m 6 #[.val (.ref a), .val (.double (FP.l2d (idf.toInt64))), .second, .val (.double (FP.l2d (f.toInt64))), .second, .val (.int ln), .val (.double (FP.l2d (aa.toInt64))), .second] [])) t → Steps p.tables e below (s₁.setTop (mkF m 0 #[.val (.ref a), .val (.double (FP.l2d (idf.toInt64))), .second, .val (.double (FP.l2d (f.toInt64))), .second, .val (.int ln), .val (.double (FP.l2d (aa.toInt64))), .second] [])) t := by
    intro t q
    refine k1_ _ ?_
    show Steps p.tables e below (s₁.setTop (mkF m 3 #[.val (.ref a), .val (.double (FP.l2d (idf.toInt64))), .second, .val (.double (FP.l2d (f.toInt64))), .second, .val (.int ln), .val (.double (FP.l2d (aa.toInt64))), .second] [(.int (lcmpW (f.toInt64) (0 : Int64)))])) _
    refine XS.ifNo X0.here hx rfl (hb hby d_prog_92_method_3_3) rfl ((if0 _ _).trans (teq hf0).2) ?_
    show Steps p.tables e below (s₁.setTop (mkF m 6 #[.val (.ref a), .val (.double (FP.l2d (idf.toInt64))), .second, .val (.double (FP.l2d (f.toInt64))), .second, .val (.int ln), .val (.double (FP.l2d (aa.toInt64))), .second] [])) _
    exact q
  have k3_ : ∀ t, Steps p.tables e below (s₁.setTop (mkF m 46 #[.val (.ref a), .val (.double (FP.l2d (idf.toInt64))), .second, .val (.double (FP.l2d (f.toInt64))), .second, .val (.int ln), .val (.double (FP.l2d (aa.toInt64))), .second] [(.double (FP.l2d (0 : Int64)))])) t → Steps p.tables e below (s₁.setTop (mkF m 0 #[.val (.ref a), .val (.double (FP.l2d (idf.toInt64))), .second, .val (.double (FP.l2d (f.toInt64))), .second, .val (.int ln), .val (.double (FP.l2d (aa.toInt64))), .second] [])) t := by
    intro t q
    refine k2_ _ ?_
    show Steps p.tables e below (s₁.setTop (mkF m 6 #[.val (.ref a), .val (.double (FP.l2d (idf.toInt64))), .second, .val (.double (FP.l2d (f.toInt64))), .second, .val (.int ln), .val (.double (FP.l2d (aa.toInt64))), .second] [])) _
    refine XS.dconst0 X0.here hx rfl (hb hby d_prog_92_method_3_6) (v := FP.l2d (0 : Int64)) own_dc0 ?_
    show Steps p.tables e below (s₁.setTop (mkF m 7 #[.val (.ref a), .val (.double (FP.l2d (idf.toInt64))), .second, .val (.double (FP.l2d (f.toInt64))), .second, .val (.int ln), .val (.double (FP.l2d (aa.toInt64))), .second] [(.double (FP.l2d (0 : Int64)))])) _
    refine XS.goto X0.here hx rfl (pc0 := 7) (pc' := 46) rfl (hb hby d_prog_92_method_3_7) (by decide) (by decide) ?_
    show Steps p.tables e below (s₁.setTop (mkF m 46 #[.val (.ref a), .val (.double (FP.l2d (idf.toInt64))), .second, .val (.double (FP.l2d (f.toInt64))), .second, .val (.int ln), .val (.double (FP.l2d (aa.toInt64))), .second] [(.double (FP.l2d (0 : Int64)))])) _
    exact q
  obtain ⟨fs, hr, hrun, hended, hW, hsame⟩ := X0.leave (v := some (.double (FP.l2d (0 : Int64)))) (fun h => by rw [Bd.returns] at h; cases h)
  refine ⟨_, _, pre0 _ (k3_ _ ?_), hrun, hended, _, _, rfl, ?_, ⟨_, rfl⟩, hW, hsame.mono (by decide) (by decide)⟩
  · show Steps p.tables e below (s₁.setTop (mkF m 46 #[.val (.ref a), .val (.double (FP.l2d (idf.toInt64))), .second, .val (.double (FP.l2d (f.toInt64))), .second, .val (.int ln), .val (.double (FP.l2d (aa.toInt64))), .second] [(.double (FP.l2d (0 : Int64)))])) _
    exact retD X0 hx Bd.returns (hb hby d_prog_92_method_3_46) hr
  · show QT Z a idf f ln aa xk xb h0 n0 _ s₁.heap _
    rw [e0]
    exact ⟨rfl, N0, rfl⟩
def Q0 (Z : State) (p0 : Int32) (p1 : Int32) (p2 : Int32) (p3 : Int32) (p4 : Int32) (p5 : Int32) (h0 : Heap) (n0 : Nat) (v : Option Value) (h : Heap) (L : List Loc) : Prop := v = some (.int 1) ∧ Fr n0 L
theorem ef_0 (m : MethodId) (x0 : Int32) (x1 : Int32) (x2 : Int32) (x3 : Int32) (x4 : Int32) (x5 : Int32) : entryFrame m #[(.int x0), (.int x1), (.int x2), (.int x3), (.int x4), (.int x5)] maxLocals = mkF m 0 #[.val (.int x0), .val (.int x1), .val (.int x2), .val (.int x3), .val (.int x4), .val (.int x5), .unset, .unset, .unset, .unset, .unset, .unset, .unset, .unset, .unset, .unset, .unset, .unset, .unset, .unset, .unset, .unset, .unset, .unset] [] := by first | (simp [entryFrame, mkF, argsToLocals, Value.category, maxLocals]; done) | rfl
theorem pn_Bm25ScorePinLaw : plainName "com/example/haku/haku/search/Bm25ScorePinLaw" = true := by first | (simp [plainName, overriddenIn]; done) | decide +kernel
theorem pd_36673 : parseMethodDescriptor "(DD)V" = some ⟨[.double, .double], none⟩ := by decide +kernel
theorem pd_78846 : parseMethodDescriptor "(DDID)D" = some ⟨[.double, .double, .int, .double], some .double⟩ := by decide +kernel
set_option maxRecDepth 65536 in
set_option maxHeartbeats 40000000 in
theorem rm0 (l : Launch) (Z : State) (a0 : Array Value) (hw : ∀ d ∈ tables_1, d.before a0 Z = true) (ws : List Jvm.Cond) (p0 : Int32) (p1 : Int32) (p2 : Int32) (p3 : Int32) (p4 : Int32) (p5 : Int32) (h0 : Heap) (n0 : Nat) (Z0 : n0 ≤ h0.size) :
    MetFree l x (head1 (Jvm.Cond.code x code maxLocals ret :: ws) room_1) (fun a_ U_ => a_ = #[(.int p0), (.int p1), (.int p2), (.int p3), (.int p4), (.int p5)] ∧ Z.Warmed39 U_.vm ∧ U_.heap = h0) (fun _ _ _ _ _ => True) (fun _ U_ o_ E_ => ∃ v_ L_, o_ = .returned v_ ∧ Q0 Z p0 p1 p2 p3 p4 p5 h0 n0 v_ E_.heap L_ ∧ FrameEnd U_ o_ E_ L_ room_1.cells room_1.slots) := by
  refine MetFree.of_bodySF (plainFor_of_name pn_Bm25ScorePinLaw) hisR ?_
  intro p e s m args below meth c s₁ Bd hml0 hP hK
  obtain ⟨rfl, hZ, hh⟩ := hP
  have hx := Bd.exec
  have hby := Bd.bytes
  have hml : c.maxLocals = 24 := hml0
  have hown : s.vm.findClass "com/example/haku/haku/search/Bm25ScorePinLaw" = some m.cls := findClass_of_methodNamed Bd.named
  have hnm := (name_of_methodNamed Bd.named Bd.method).1
  have X0 : Stand p l e room_1 s m #[(.int p0), (.int p1), (.int p2), (.int p3), (.int p4), (.int p5)] below meth c s₁ [] 0 0 := Stand.of_body Bd
  have e0 : s₁.heap = h0 := by rw [← hh, Bd.state]; rfl
  have N0 := Fr.nil n0
  have Zn := Z0
  have pre0 : ∀ t, Steps p.tables e below (s₁.setTop (mkF m 0 #[.val (.int p0), .val (.int p1), .val (.int p2), .val (.int p3), .val (.int p4), .val (.int p5), .unset, .unset, .unset, .unset, .unset, .unset, .unset, .unset, .unset, .unset, .unset, .unset, .unset, .unset, .unset, .unset, .unset, .unset] [])) t → Steps p.tables e below (s₁.setTop (entryFrame m #[(.int p0), (.int p1), (.int p2), (.int p3), (.int p4), (.int p5)] maxLocals)) t := fun t q => castTop (ef_0 m p0 p1 p2 p3 p4 p5) q
  have k0 : ∀ t, Steps p.tables e below (s₁.setTop (mkF m 0 #[.val (.int p0), .val (.int p1), .val (.int p2), .val (.int p3), .val (.int p4), .val (.int p5), .unset, .unset, .unset, .unset, .unset, .unset, .unset, .unset, .unset, .unset, .unset, .unset, .unset, .unset, .unset, .unset, .unset, .unset] [])) t → Steps p.tables e below (s₁.setTop (mkF m 0 #[.val (.int p0), .val (.int p1), .val (.int p2), .val (.int p3), .val (.int p4), .val (.int p5), .unset, .unset, .unset, .unset, .unset, .unset, .unset, .unset, .unset, .unset, .unset, .unset, .unset, .unset, .unset, .unset, .unset, .unset] [])) t := fun t q => q
  have k1_ : ∀ t, Steps p.tables e below (s₁.setTop (mkF m 5 #[.val (.int p0), .val (.int p1), .val (.int p2), .val (.int p3), .val (.int p4), .val (.int p5), .unset, .unset, .unset, .unset, .unset, .unset, .unset, .unset, .unset, .unset, .unset, .unset, .unset, .unset, .unset, .unset, .unset, .unset] [(.int (p4 &&& (31 : Int32)))])) t → Steps p.tables e below (s₁.setTop (mkF m 0 #[.val (.int p0), .val (.int p1), .val (.int p2), .val (.int p3), .val (.int p4), .val (.int p5), .unset, .unset, .unset, .unset, .unset, .unset, .unset, .unset, .unset, .unset, .unset, .unset, .unset, .unset, .unset, .unset, .unset, .unset] [])) t := by
    intro t q
    refine k0 _ ?_
    show Steps p.tables e below (s₁.setTop (mkF m 0 #[.val (.int p0), .val (.int p1), .val (.int p2), .val (.int p3), .val (.int p4), .val (.int p5), .unset, .unset, .unset, .unset, .unset, .unset, .unset, .unset, .unset, .unset, .unset, .unset, .unset, .unset, .unset, .unset, .unset, .unset] [])) _
    refine XS.iload X0.here hx rfl (hb hby at_0) rfl ?_
    show Steps p.tables e below (s₁.setTop (mkF m 2 #[.val (.int p0), .val (.int p1), .val (.int p2), .val (.int p3), .val (.int p4), .val (.int p5), .unset, .unset, .unset, .unset, .unset, .unset, .unset, .unset, .unset, .unset, .unset, .unset, .unset, .unset, .unset, .unset, .unset, .unset] [(.int p4)])) _
    refine XS.bipush X0.here hx rfl (hb hby at_2) ?_
    show Steps p.tables e below (s₁.setTop (mkF m 4 #[.val (.int p0), .val (.int p1), .val (.int p2), .val (.int p3), .val (.int p4), .val (.int p5), .unset, .unset, .unset, .unset, .unset, .unset, .unset, .unset, .unset, .unset, .unset, .unset, .unset, .unset, .unset, .unset, .unset, .unset] [(.int (31 : Int32)), (.int p4)])) _
    refine XS.iand X0.here hx rfl (hb hby at_4) rfl ?_
    show Steps p.tables e below (s₁.setTop (mkF m 5 #[.val (.int p0), .val (.int p1), .val (.int p2), .val (.int p3), .val (.int p4), .val (.int p5), .unset, .unset, .unset, .unset, .unset, .unset, .unset, .unset, .unset, .unset, .unset, .unset, .unset, .unset, .unset, .unset, .unset, .unset] [(.int (p4 &&& (31 : Int32)))])) _
    exact q
  obtain ⟨kk, e_kk⟩ : ∃ z, z = (p4 &&& (31 : Int32)) := ⟨_, rfl⟩
  have k2_ : ∀ t, Steps p.tables e below (s₁.setTop (mkF m 5 #[.val (.int p0), .val (.int p1), .val (.int p2), .val (.int p3), .val (.int p4), .val (.int p5), .unset, .unset, .unset, .unset, .unset, .unset, .unset, .unset, .unset, .unset, .unset, .unset, .unset, .unset, .unset, .unset, .unset, .unset] [(.int kk)])) t → Steps p.tables e below (s₁.setTop (mkF m 0 #[.val (.int p0), .val (.int p1), .val (.int p2), .val (.int p3), .val (.int p4), .val (.int p5), .unset, .unset, .unset, .unset, .unset, .unset, .unset, .unset, .unset, .unset, .unset, .unset, .unset, .unset, .unset, .unset, .unset, .unset] [])) t := by rw [e_kk]; exact k1_
  have hk := own_and31 p4
  rw [← e_kk] at hk
  have k3_ : ∀ t, Steps p.tables e below (s₁.setTop (mkF m 14 #[.val (.int p0), .val (.int p1), .val (.int p2), .val (.int p3), .val (.int p4), .val (.int p5), .val (.int kk), .unset, .unset, .unset, .unset, .unset, .unset, .unset, .unset, .unset, .unset, .unset, .unset, .unset, .unset, .unset, .unset, .unset] [(.int (own_rem (p5 &&& (7 : Int32)) (5 : Int32)))])) t → Steps p.tables e below (s₁.setTop (mkF m 0 #[.val (.int p0), .val (.int p1), .val (.int p2), .val (.int p3), .val (.int p4), .val (.int p5), .unset, .unset, .unset, .unset, .unset, .unset, .unset, .unset, .unset, .unset, .unset, .unset, .unset, .unset, .unset, .unset, .unset, .unset] [])) t := by
    intro t q
    refine k2_ _ ?_
    show Steps p.tables e below (s₁.setTop (mkF m 5 #[.val (.int p0), .val (.int p1), .val (.int p2), .val (.int p3), .val (.int p4), .val (.int p5), .unset, .unset, .unset, .unset, .unset, .unset, .unset, .unset, .unset, .unset, .unset, .unset, .unset, .unset, .unset, .unset, .unset, .unset] [(.int kk)])) _
    refine XS.istore X0.here hx rfl (hb hby at_5) rfl (l' := #[.val (.int p0), .val (.int p1), .val (.int p2), .val (.int p3), .val (.int p4), .val (.int p5), .val (.int kk), .unset, .unset, .unset, .unset, .unset, .unset, .unset, .unset, .unset, .unset, .unset, .unset, .unset, .unset, .unset, .unset, .unset]) rfl ?_
    show Steps p.tables e below (s₁.setTop (mkF m 7 #[.val (.int p0), .val (.int p1), .val (.int p2), .val (.int p3), .val (.int p4), .val (.int p5), .val (.int kk), .unset, .unset, .unset, .unset, .unset, .unset, .unset, .unset, .unset, .unset, .unset, .unset, .unset, .unset, .unset, .unset, .unset] [])) _
    refine XS.iload X0.here hx rfl (hb hby at_7) rfl ?_
    show Steps p.tables e below (s₁.setTop (mkF m 9 #[.val (.int p0), .val (.int p1), .val (.int p2), .val (.int p3), .val (.int p4), .val (.int p5), .val (.int kk), .unset, .unset, .unset, .unset, .unset, .unset, .unset, .unset, .unset, .unset, .unset, .unset, .unset, .unset, .unset, .unset, .unset] [(.int p5)])) _
    refine XS.bipush X0.here hx rfl (hb hby at_9) ?_
    show Steps p.tables e below (s₁.setTop (mkF m 11 #[.val (.int p0), .val (.int p1), .val (.int p2), .val (.int p3), .val (.int p4), .val (.int p5), .val (.int kk), .unset, .unset, .unset, .unset, .unset, .unset, .unset, .unset, .unset, .unset, .unset, .unset, .unset, .unset, .unset, .unset, .unset] [(.int (7 : Int32)), (.int p5)])) _
    refine XS.iand X0.here hx rfl (hb hby at_11) rfl ?_
    show Steps p.tables e below (s₁.setTop (mkF m 12 #[.val (.int p0), .val (.int p1), .val (.int p2), .val (.int p3), .val (.int p4), .val (.int p5), .val (.int kk), .unset, .unset, .unset, .unset, .unset, .unset, .unset, .unset, .unset, .unset, .unset, .unset, .unset, .unset, .unset, .unset, .unset] [(.int (p5 &&& (7 : Int32)))])) _
    refine XS.iconst X0.here hx rfl (hb hby at_12) ?_
    show Steps p.tables e below (s₁.setTop (mkF m 13 #[.val (.int p0), .val (.int p1), .val (.int p2), .val (.int p3), .val (.int p4), .val (.int p5), .val (.int kk), .unset, .unset, .unset, .unset, .unset, .unset, .unset, .unset, .unset, .unset, .unset, .unset, .unset, .unset, .unset, .unset, .unset] [(.int (5 : Int32)), (.int (p5 &&& (7 : Int32)))])) _
    refine XS.irem X0.here hx rfl (hb hby at_13) rfl (by decide) ?_
    show Steps p.tables e below (s₁.setTop (mkF m 14 #[.val (.int p0), .val (.int p1), .val (.int p2), .val (.int p3), .val (.int p4), .val (.int p5), .val (.int kk), .unset, .unset, .unset, .unset, .unset, .unset, .unset, .unset, .unset, .unset, .unset, .unset, .unset, .unset, .unset, .unset, .unset] [(.int (own_rem (p5 &&& (7 : Int32)) (5 : Int32)))])) _
    exact q
  obtain ⟨jj, e_jj⟩ : ∃ z, z = (own_rem (p5 &&& (7 : Int32)) (5 : Int32)) := ⟨_, rfl⟩
  have k4_ : ∀ t, Steps p.tables e below (s₁.setTop (mkF m 14 #[.val (.int p0), .val (.int p1), .val (.int p2), .val (.int p3), .val (.int p4), .val (.int p5), .val (.int kk), .unset, .unset, .unset, .unset, .unset, .unset, .unset, .unset, .unset, .unset, .unset, .unset, .unset, .unset, .unset, .unset, .unset] [(.int jj)])) t → Steps p.tables e below (s₁.setTop (mkF m 0 #[.val (.int p0), .val (.int p1), .val (.int p2), .val (.int p3), .val (.int p4), .val (.int p5), .unset, .unset, .unset, .unset, .unset, .unset, .unset, .unset, .unset, .unset, .unset, .unset, .unset, .unset, .unset, .unset, .unset, .unset] [])) t := by rw [e_jj]; exact k3_
  have hj := own_rem5 p5
  rw [← e_jj] at hj
  have k5_ : ∀ t, Steps p.tables e below (s₁.setTop (mkF m 20 #[.val (.int p0), .val (.int p1), .val (.int p2), .val (.int p3), .val (.int p4), .val (.int p5), .val (.int kk), .val (.int jj), .unset, .unset, .unset, .unset, .unset, .unset, .unset, .unset, .unset, .unset, .unset, .unset, .unset, .unset, .unset, .unset] [(.int (p1 &&& (15 : Int32)))])) t → Steps p.tables e below (s₁.setTop (mkF m 0 #[.val (.int p0), .val (.int p1), .val (.int p2), .val (.int p3), .val (.int p4), .val (.int p5), .unset, .unset, .unset, .unset, .unset, .unset, .unset, .unset, .unset, .unset, .unset, .unset, .unset, .unset, .unset, .unset, .unset, .unset] [])) t := by
    intro t q
    refine k4_ _ ?_
    show Steps p.tables e below (s₁.setTop (mkF m 14 #[.val (.int p0), .val (.int p1), .val (.int p2), .val (.int p3), .val (.int p4), .val (.int p5), .val (.int kk), .unset, .unset, .unset, .unset, .unset, .unset, .unset, .unset, .unset, .unset, .unset, .unset, .unset, .unset, .unset, .unset, .unset] [(.int jj)])) _
    refine XS.istore X0.here hx rfl (hb hby at_14) rfl (l' := #[.val (.int p0), .val (.int p1), .val (.int p2), .val (.int p3), .val (.int p4), .val (.int p5), .val (.int kk), .val (.int jj), .unset, .unset, .unset, .unset, .unset, .unset, .unset, .unset, .unset, .unset, .unset, .unset, .unset, .unset, .unset, .unset]) rfl ?_
    show Steps p.tables e below (s₁.setTop (mkF m 16 #[.val (.int p0), .val (.int p1), .val (.int p2), .val (.int p3), .val (.int p4), .val (.int p5), .val (.int kk), .val (.int jj), .unset, .unset, .unset, .unset, .unset, .unset, .unset, .unset, .unset, .unset, .unset, .unset, .unset, .unset, .unset, .unset] [])) _
    refine XS.iloadN X0.here hx rfl (hb hby at_16) rfl ?_
    show Steps p.tables e below (s₁.setTop (mkF m 17 #[.val (.int p0), .val (.int p1), .val (.int p2), .val (.int p3), .val (.int p4), .val (.int p5), .val (.int kk), .val (.int jj), .unset, .unset, .unset, .unset, .unset, .unset, .unset, .unset, .unset, .unset, .unset, .unset, .unset, .unset, .unset, .unset] [(.int p1)])) _
    refine XS.bipush X0.here hx rfl (hb hby at_17) ?_
    show Steps p.tables e below (s₁.setTop (mkF m 19 #[.val (.int p0), .val (.int p1), .val (.int p2), .val (.int p3), .val (.int p4), .val (.int p5), .val (.int kk), .val (.int jj), .unset, .unset, .unset, .unset, .unset, .unset, .unset, .unset, .unset, .unset, .unset, .unset, .unset, .unset, .unset, .unset] [(.int (15 : Int32)), (.int p1)])) _
    refine XS.iand X0.here hx rfl (hb hby at_19) rfl ?_
    show Steps p.tables e below (s₁.setTop (mkF m 20 #[.val (.int p0), .val (.int p1), .val (.int p2), .val (.int p3), .val (.int p4), .val (.int p5), .val (.int kk), .val (.int jj), .unset, .unset, .unset, .unset, .unset, .unset, .unset, .unset, .unset, .unset, .unset, .unset, .unset, .unset, .unset, .unset] [(.int (p1 &&& (15 : Int32)))])) _
    exact q
  obtain ⟨ff, e_ff⟩ : ∃ z, z = (p1 &&& (15 : Int32)) := ⟨_, rfl⟩
  have k6_ : ∀ t, Steps p.tables e below (s₁.setTop (mkF m 20 #[.val (.int p0), .val (.int p1), .val (.int p2), .val (.int p3), .val (.int p4), .val (.int p5), .val (.int kk), .val (.int jj), .unset, .unset, .unset, .unset, .unset, .unset, .unset, .unset, .unset, .unset, .unset, .unset, .unset, .unset, .unset, .unset] [(.int ff)])) t → Steps p.tables e below (s₁.setTop (mkF m 0 #[.val (.int p0), .val (.int p1), .val (.int p2), .val (.int p3), .val (.int p4), .val (.int p5), .unset, .unset, .unset, .unset, .unset, .unset, .unset, .unset, .unset, .unset, .unset, .unset, .unset, .unset, .unset, .unset, .unset, .unset] [])) t := by rw [e_ff]; exact k5_
  have hf := own_and15 p1
  rw [← e_ff] at hf
  have k7_ : ∀ t, Steps p.tables e below (s₁.setTop (mkF m 26 #[.val (.int p0), .val (.int p1), .val (.int p2), .val (.int p3), .val (.int p4), .val (.int p5), .val (.int kk), .val (.int jj), .val (.int ff), .unset, .unset, .unset, .unset, .unset, .unset, .unset, .unset, .unset, .unset, .unset, .unset, .unset, .unset, .unset] [(.int (p2 &&& (2147483647 : Int32)))])) t → Steps p.tables e below (s₁.setTop (mkF m 0 #[.val (.int p0), .val (.int p1), .val (.int p2), .val (.int p3), .val (.int p4), .val (.int p5), .unset, .unset, .unset, .unset, .unset, .unset, .unset, .unset, .unset, .unset, .unset, .unset, .unset, .unset, .unset, .unset, .unset, .unset] [])) t := by
    intro t q
    refine k6_ _ ?_
    show Steps p.tables e below (s₁.setTop (mkF m 20 #[.val (.int p0), .val (.int p1), .val (.int p2), .val (.int p3), .val (.int p4), .val (.int p5), .val (.int kk), .val (.int jj), .unset, .unset, .unset, .unset, .unset, .unset, .unset, .unset, .unset, .unset, .unset, .unset, .unset, .unset, .unset, .unset] [(.int ff)])) _
    refine XS.istore X0.here hx rfl (hb hby at_20) rfl (l' := #[.val (.int p0), .val (.int p1), .val (.int p2), .val (.int p3), .val (.int p4), .val (.int p5), .val (.int kk), .val (.int jj), .val (.int ff), .unset, .unset, .unset, .unset, .unset, .unset, .unset, .unset, .unset, .unset, .unset, .unset, .unset, .unset, .unset]) rfl ?_
    show Steps p.tables e below (s₁.setTop (mkF m 22 #[.val (.int p0), .val (.int p1), .val (.int p2), .val (.int p3), .val (.int p4), .val (.int p5), .val (.int kk), .val (.int jj), .val (.int ff), .unset, .unset, .unset, .unset, .unset, .unset, .unset, .unset, .unset, .unset, .unset, .unset, .unset, .unset, .unset] [])) _
    refine XS.iloadN X0.here hx rfl (hb hby at_22) rfl ?_
    show Steps p.tables e below (s₁.setTop (mkF m 23 #[.val (.int p0), .val (.int p1), .val (.int p2), .val (.int p3), .val (.int p4), .val (.int p5), .val (.int kk), .val (.int jj), .val (.int ff), .unset, .unset, .unset, .unset, .unset, .unset, .unset, .unset, .unset, .unset, .unset, .unset, .unset, .unset, .unset] [(.int p2)])) _
    refine X0.ldcInt hx hown (mvT hZ (hw _ (List.mem_of_getElem? (i := 0) rfl))) (g := (mkF m 23 #[.val (.int p0), .val (.int p1), .val (.int p2), .val (.int p3), .val (.int p4), .val (.int p5), .val (.int kk), .val (.int jj), .val (.int ff), .unset, .unset, .unset, .unset, .unset, .unset, .unset, .unset, .unset, .unset, .unset, .unset, .unset, .unset, .unset] [(.int p2)])) rfl (hb hby at_23) _ ?_
    show Steps p.tables e below (s₁.setTop (mkF m 25 #[.val (.int p0), .val (.int p1), .val (.int p2), .val (.int p3), .val (.int p4), .val (.int p5), .val (.int kk), .val (.int jj), .val (.int ff), .unset, .unset, .unset, .unset, .unset, .unset, .unset, .unset, .unset, .unset, .unset, .unset, .unset, .unset, .unset] [(.int (2147483647 : Int32)), (.int p2)])) _
    refine XS.iand X0.here hx rfl (hb hby at_25) rfl ?_
    show Steps p.tables e below (s₁.setTop (mkF m 26 #[.val (.int p0), .val (.int p1), .val (.int p2), .val (.int p3), .val (.int p4), .val (.int p5), .val (.int kk), .val (.int jj), .val (.int ff), .unset, .unset, .unset, .unset, .unset, .unset, .unset, .unset, .unset, .unset, .unset, .unset, .unset, .unset, .unset] [(.int (p2 &&& (2147483647 : Int32)))])) _
    exact q
  obtain ⟨ln, e_ln⟩ : ∃ z, z = (p2 &&& (2147483647 : Int32)) := ⟨_, rfl⟩
  have k8_ : ∀ t, Steps p.tables e below (s₁.setTop (mkF m 26 #[.val (.int p0), .val (.int p1), .val (.int p2), .val (.int p3), .val (.int p4), .val (.int p5), .val (.int kk), .val (.int jj), .val (.int ff), .unset, .unset, .unset, .unset, .unset, .unset, .unset, .unset, .unset, .unset, .unset, .unset, .unset, .unset, .unset] [(.int ln)])) t → Steps p.tables e below (s₁.setTop (mkF m 0 #[.val (.int p0), .val (.int p1), .val (.int p2), .val (.int p3), .val (.int p4), .val (.int p5), .unset, .unset, .unset, .unset, .unset, .unset, .unset, .unset, .unset, .unset, .unset, .unset, .unset, .unset, .unset, .unset, .unset, .unset] [])) t := by rw [e_ln]; exact k7_
  have hl := own_pos p2
  rw [← e_ln] at hl
  have k9_ : ∀ t, Steps p.tables e below (s₁.setTop (mkF m 33 #[.val (.int p0), .val (.int p1), .val (.int p2), .val (.int p3), .val (.int p4), .val (.int p5), .val (.int kk), .val (.int jj), .val (.int ff), .val (.int ln), .unset, .unset, .unset, .unset, .unset, .unset, .unset, .unset, .unset, .unset, .unset, .unset, .unset, .unset] [(.int ((1 : Int32) <<< ((p3 &&& (3 : Int32)) &&& 31)))])) t → Steps p.tables e below (s₁.setTop (mkF m 0 #[.val (.int p0), .val (.int p1), .val (.int p2), .val (.int p3), .val (.int p4), .val (.int p5), .unset, .unset, .unset, .unset, .unset, .unset, .unset, .unset, .unset, .unset, .unset, .unset, .unset, .unset, .unset, .unset, .unset, .unset] [])) t := by
    intro t q
    refine k8_ _ ?_
    show Steps p.tables e below (s₁.setTop (mkF m 26 #[.val (.int p0), .val (.int p1), .val (.int p2), .val (.int p3), .val (.int p4), .val (.int p5), .val (.int kk), .val (.int jj), .val (.int ff), .unset, .unset, .unset, .unset, .unset, .unset, .unset, .unset, .unset, .unset, .unset, .unset, .unset, .unset, .unset] [(.int ln)])) _
    refine XS.istore X0.here hx rfl (hb hby at_26) rfl (l' := #[.val (.int p0), .val (.int p1), .val (.int p2), .val (.int p3), .val (.int p4), .val (.int p5), .val (.int kk), .val (.int jj), .val (.int ff), .val (.int ln), .unset, .unset, .unset, .unset, .unset, .unset, .unset, .unset, .unset, .unset, .unset, .unset, .unset, .unset]) rfl ?_
    show Steps p.tables e below (s₁.setTop (mkF m 28 #[.val (.int p0), .val (.int p1), .val (.int p2), .val (.int p3), .val (.int p4), .val (.int p5), .val (.int kk), .val (.int jj), .val (.int ff), .val (.int ln), .unset, .unset, .unset, .unset, .unset, .unset, .unset, .unset, .unset, .unset, .unset, .unset, .unset, .unset] [])) _
    refine XS.iconst X0.here hx rfl (hb hby at_28) ?_
    show Steps p.tables e below (s₁.setTop (mkF m 29 #[.val (.int p0), .val (.int p1), .val (.int p2), .val (.int p3), .val (.int p4), .val (.int p5), .val (.int kk), .val (.int jj), .val (.int ff), .val (.int ln), .unset, .unset, .unset, .unset, .unset, .unset, .unset, .unset, .unset, .unset, .unset, .unset, .unset, .unset] [(.int (1 : Int32))])) _
    refine XS.iloadN X0.here hx rfl (hb hby at_29) rfl ?_
    show Steps p.tables e below (s₁.setTop (mkF m 30 #[.val (.int p0), .val (.int p1), .val (.int p2), .val (.int p3), .val (.int p4), .val (.int p5), .val (.int kk), .val (.int jj), .val (.int ff), .val (.int ln), .unset, .unset, .unset, .unset, .unset, .unset, .unset, .unset, .unset, .unset, .unset, .unset, .unset, .unset] [(.int p3), (.int (1 : Int32))])) _
    refine XS.iconst X0.here hx rfl (hb hby at_30) ?_
    show Steps p.tables e below (s₁.setTop (mkF m 31 #[.val (.int p0), .val (.int p1), .val (.int p2), .val (.int p3), .val (.int p4), .val (.int p5), .val (.int kk), .val (.int jj), .val (.int ff), .val (.int ln), .unset, .unset, .unset, .unset, .unset, .unset, .unset, .unset, .unset, .unset, .unset, .unset, .unset, .unset] [(.int (3 : Int32)), (.int p3), (.int (1 : Int32))])) _
    refine XS.iand X0.here hx rfl (hb hby at_31) rfl ?_
    show Steps p.tables e below (s₁.setTop (mkF m 32 #[.val (.int p0), .val (.int p1), .val (.int p2), .val (.int p3), .val (.int p4), .val (.int p5), .val (.int kk), .val (.int jj), .val (.int ff), .val (.int ln), .unset, .unset, .unset, .unset, .unset, .unset, .unset, .unset, .unset, .unset, .unset, .unset, .unset, .unset] [(.int (p3 &&& (3 : Int32))), (.int (1 : Int32))])) _
    refine XS.ishl X0.here hx rfl (hb hby at_32) rfl ?_
    show Steps p.tables e below (s₁.setTop (mkF m 33 #[.val (.int p0), .val (.int p1), .val (.int p2), .val (.int p3), .val (.int p4), .val (.int p5), .val (.int kk), .val (.int jj), .val (.int ff), .val (.int ln), .unset, .unset, .unset, .unset, .unset, .unset, .unset, .unset, .unset, .unset, .unset, .unset, .unset, .unset] [(.int ((1 : Int32) <<< ((p3 &&& (3 : Int32)) &&& 31)))])) _
    exact q
  obtain ⟨aa, e_aa⟩ : ∃ z, z = ((1 : Int32) <<< ((p3 &&& (3 : Int32)) &&& 31)) := ⟨_, rfl⟩
  have k10_ : ∀ t, Steps p.tables e below (s₁.setTop (mkF m 33 #[.val (.int p0), .val (.int p1), .val (.int p2), .val (.int p3), .val (.int p4), .val (.int p5), .val (.int kk), .val (.int jj), .val (.int ff), .val (.int ln), .unset, .unset, .unset, .unset, .unset, .unset, .unset, .unset, .unset, .unset, .unset, .unset, .unset, .unset] [(.int aa)])) t → Steps p.tables e below (s₁.setTop (mkF m 0 #[.val (.int p0), .val (.int p1), .val (.int p2), .val (.int p3), .val (.int p4), .val (.int p5), .unset, .unset, .unset, .unset, .unset, .unset, .unset, .unset, .unset, .unset, .unset, .unset, .unset, .unset, .unset, .unset, .unset, .unset] [])) t := by rw [e_aa]; exact k9_
  have ha := own_shl p3
  rw [← e_aa] at ha
  obtain ⟨ii, hi, ha⟩ := ha
  have vk := own_Vp (own_Vi kk) own_V4 (by decide)
  have vb := own_Vp (own_Vi jj) own_V4 (by decide)
  have k11_ : ∀ t, Steps p.tables e below (s₁.setTop (mkF m 42 #[.val (.int p0), .val (.int p1), .val (.int p2), .val (.int p3), .val (.int p4), .val (.int p5), .val (.int kk), .val (.int jj), .val (.int ff), .val (.int ln), .val (.int aa), .unset, .unset, .unset, .unset, .unset, .unset, .unset, .unset, .unset, .unset, .unset, .unset, .unset] [(.double (FP.ddiv (FP.l2d (kk.toInt64)) (FP.l2d (4 : Int64))))])) t → Steps p.tables e below (s₁.setTop (mkF m 0 #[.val (.int p0), .val (.int p1), .val (.int p2), .val (.int p3), .val (.int p4), .val (.int p5), .unset, .unset, .unset, .unset, .unset, .unset, .unset, .unset, .unset, .unset, .unset, .unset, .unset, .unset, .unset, .unset, .unset, .unset] [])) t := by
    intro t q
    refine k10_ _ ?_
    show Steps p.tables e below (s₁.setTop (mkF m 33 #[.val (.int p0), .val (.int p1), .val (.int p2), .val (.int p3), .val (.int p4), .val (.int p5), .val (.int kk), .val (.int jj), .val (.int ff), .val (.int ln), .unset, .unset, .unset, .unset, .unset, .unset, .unset, .unset, .unset, .unset, .unset, .unset, .unset, .unset] [(.int aa)])) _
    refine XS.istore X0.here hx rfl (hb hby at_33) rfl (l' := #[.val (.int p0), .val (.int p1), .val (.int p2), .val (.int p3), .val (.int p4), .val (.int p5), .val (.int kk), .val (.int jj), .val (.int ff), .val (.int ln), .val (.int aa), .unset, .unset, .unset, .unset, .unset, .unset, .unset, .unset, .unset, .unset, .unset, .unset, .unset]) rfl ?_
    show Steps p.tables e below (s₁.setTop (mkF m 35 #[.val (.int p0), .val (.int p1), .val (.int p2), .val (.int p3), .val (.int p4), .val (.int p5), .val (.int kk), .val (.int jj), .val (.int ff), .val (.int ln), .val (.int aa), .unset, .unset, .unset, .unset, .unset, .unset, .unset, .unset, .unset, .unset, .unset, .unset, .unset] [])) _
    refine XS.iload X0.here hx rfl (hb hby at_35) rfl ?_
    show Steps p.tables e below (s₁.setTop (mkF m 37 #[.val (.int p0), .val (.int p1), .val (.int p2), .val (.int p3), .val (.int p4), .val (.int p5), .val (.int kk), .val (.int jj), .val (.int ff), .val (.int ln), .val (.int aa), .unset, .unset, .unset, .unset, .unset, .unset, .unset, .unset, .unset, .unset, .unset, .unset, .unset] [(.int kk)])) _
    refine XS.i2dS X0.here hx rfl (hb hby at_37) rfl (v := FP.l2d (kk.toInt64)) (i2d_w _) ?_
    show Steps p.tables e below (s₁.setTop (mkF m 38 #[.val (.int p0), .val (.int p1), .val (.int p2), .val (.int p3), .val (.int p4), .val (.int p5), .val (.int kk), .val (.int jj), .val (.int ff), .val (.int ln), .val (.int aa), .unset, .unset, .unset, .unset, .unset, .unset, .unset, .unset, .unset, .unset, .unset, .unset, .unset] [(.double (FP.l2d (kk.toInt64)))])) _
    refine X0.ldc2DoubleC hx hown (mvT hZ (hw _ (List.mem_of_getElem? (i := 1) rfl))) (g := (mkF m 38 #[.val (.int p0), .val (.int p1), .val (.int p2), .val (.int p3), .val (.int p4), .val (.int p5), .val (.int kk), .val (.int jj), .val (.int ff), .val (.int ln), .val (.int aa), .unset, .unset, .unset, .unset, .unset, .unset, .unset, .unset, .unset, .unset, .unset, .unset, .unset] [(.double (FP.l2d (kk.toInt64)))])) rfl (hb hby at_38) _ ?_
    rw [own_c4]
    show Steps p.tables e below (s₁.setTop (mkF m 41 #[.val (.int p0), .val (.int p1), .val (.int p2), .val (.int p3), .val (.int p4), .val (.int p5), .val (.int kk), .val (.int jj), .val (.int ff), .val (.int ln), .val (.int aa), .unset, .unset, .unset, .unset, .unset, .unset, .unset, .unset, .unset, .unset, .unset, .unset, .unset] [(.double (FP.l2d (4 : Int64))), (.double (FP.l2d (kk.toInt64)))])) _
    refine XS.ddivS X0.here hx rfl (hb hby at_41) rfl (own_nn vk) (v := (FP.ddiv (FP.l2d (kk.toInt64)) (FP.l2d (4 : Int64)))) rfl ?_
    show Steps p.tables e below (s₁.setTop (mkF m 42 #[.val (.int p0), .val (.int p1), .val (.int p2), .val (.int p3), .val (.int p4), .val (.int p5), .val (.int kk), .val (.int jj), .val (.int ff), .val (.int ln), .val (.int aa), .unset, .unset, .unset, .unset, .unset, .unset, .unset, .unset, .unset, .unset, .unset, .unset, .unset] [(.double (FP.ddiv (FP.l2d (kk.toInt64)) (FP.l2d (4 : Int64))))])) _
    exact q
  obtain ⟨xk, e_xk⟩ : ∃ z, z = (FP.ddiv (FP.l2d (kk.toInt64)) (FP.l2d (4 : Int64))) := ⟨_, rfl⟩
  have k12_ : ∀ t, Steps p.tables e below (s₁.setTop (mkF m 42 #[.val (.int p0), .val (.int p1), .val (.int p2), .val (.int p3), .val (.int p4), .val (.int p5), .val (.int kk), .val (.int jj), .val (.int ff), .val (.int ln), .val (.int aa), .unset, .unset, .unset, .unset, .unset, .unset, .unset, .unset, .unset, .unset, .unset, .unset, .unset] [(.double xk)])) t → Steps p.tables e below (s₁.setTop (mkF m 0 #[.val (.int p0), .val (.int p1), .val (.int p2), .val (.int p3), .val (.int p4), .val (.int p5), .unset, .unset, .unset, .unset, .unset, .unset, .unset, .unset, .unset, .unset, .unset, .unset, .unset, .unset, .unset, .unset, .unset, .unset] [])) t := by rw [e_xk]; exact k11_
  have k13_ : ∀ t, Steps p.tables e below (s₁.setTop (mkF m 51 #[.val (.int p0), .val (.int p1), .val (.int p2), .val (.int p3), .val (.int p4), .val (.int p5), .val (.int kk), .val (.int jj), .val (.int ff), .val (.int ln), .val (.int aa), .val (.double xk), .second, .unset, .unset, .unset, .unset, .unset, .unset, .unset, .unset, .unset, .unset, .unset] [(.double (FP.ddiv (FP.l2d (jj.toInt64)) (FP.l2d (4 : Int64))))])) t → Steps p.tables e below (s₁.setTop (mkF m 0 #[.val (.int p0), .val (.int p1), .val (.int p2), .val (.int p3), .val (.int p4), .val (.int p5), .unset, .unset, .unset, .unset, .unset, .unset, .unset, .unset, .unset, .unset, .unset, .unset, .unset, .unset, .unset, .unset, .unset, .unset] [])) t := by
    intro t q
    refine k12_ _ ?_
    show Steps p.tables e below (s₁.setTop (mkF m 42 #[.val (.int p0), .val (.int p1), .val (.int p2), .val (.int p3), .val (.int p4), .val (.int p5), .val (.int kk), .val (.int jj), .val (.int ff), .val (.int ln), .val (.int aa), .unset, .unset, .unset, .unset, .unset, .unset, .unset, .unset, .unset, .unset, .unset, .unset, .unset] [(.double xk)])) _
    refine XS.dstore X0.here hx rfl (hb hby at_42) rfl (l' := #[.val (.int p0), .val (.int p1), .val (.int p2), .val (.int p3), .val (.int p4), .val (.int p5), .val (.int kk), .val (.int jj), .val (.int ff), .val (.int ln), .val (.int aa), .val (.double xk), .second, .unset, .unset, .unset, .unset, .unset, .unset, .unset, .unset, .unset, .unset, .unset]) rfl ?_
    show Steps p.tables e below (s₁.setTop (mkF m 44 #[.val (.int p0), .val (.int p1), .val (.int p2), .val (.int p3), .val (.int p4), .val (.int p5), .val (.int kk), .val (.int jj), .val (.int ff), .val (.int ln), .val (.int aa), .val (.double xk), .second, .unset, .unset, .unset, .unset, .unset, .unset, .unset, .unset, .unset, .unset, .unset] [])) _
    refine XS.iload X0.here hx rfl (hb hby at_44) rfl ?_
    show Steps p.tables e below (s₁.setTop (mkF m 46 #[.val (.int p0), .val (.int p1), .val (.int p2), .val (.int p3), .val (.int p4), .val (.int p5), .val (.int kk), .val (.int jj), .val (.int ff), .val (.int ln), .val (.int aa), .val (.double xk), .second, .unset, .unset, .unset, .unset, .unset, .unset, .unset, .unset, .unset, .unset, .unset] [(.int jj)])) _
    refine XS.i2dS X0.here hx rfl (hb hby at_46) rfl (v := FP.l2d (jj.toInt64)) (i2d_w _) ?_
    show Steps p.tables e below (s₁.setTop (mkF m 47 #[.val (.int p0), .val (.int p1), .val (.int p2), .val (.int p3), .val (.int p4), .val (.int p5), .val (.int kk), .val (.int jj), .val (.int ff), .val (.int ln), .val (.int aa), .val (.double xk), .second, .unset, .unset, .unset, .unset, .unset, .unset, .unset, .unset, .unset, .unset, .unset] [(.double (FP.l2d (jj.toInt64)))])) _
    refine X0.ldc2DoubleC hx hown (mvT hZ (hw _ (List.mem_of_getElem? (i := 1) rfl))) (g := (mkF m 47 #[.val (.int p0), .val (.int p1), .val (.int p2), .val (.int p3), .val (.int p4), .val (.int p5), .val (.int kk), .val (.int jj), .val (.int ff), .val (.int ln), .val (.int aa), .val (.double xk), .second, .unset, .unset, .unset, .unset, .unset, .unset, .unset, .unset, .unset, .unset, .unset] [(.double (FP.l2d (jj.toInt64)))])) rfl (hb hby at_47) _ ?_
    rw [own_c4]
    show Steps p.tables e below (s₁.setTop (mkF m 50 #[.val (.int p0), .val (.int p1), .val (.int p2), .val (.int p3), .val (.int p4), .val (.int p5), .val (.int kk), .val (.int jj), .val (.int ff), .val (.int ln), .val (.int aa), .val (.double xk), .second, .unset, .unset, .unset, .unset, .unset, .unset, .unset, .unset, .unset, .unset, .unset] [(.double (FP.l2d (4 : Int64))), (.double (FP.l2d (jj.toInt64)))])) _
    refine XS.ddivS X0.here hx rfl (hb hby at_50) rfl (own_nn vb) (v := (FP.ddiv (FP.l2d (jj.toInt64)) (FP.l2d (4 : Int64)))) rfl ?_
    show Steps p.tables e below (s₁.setTop (mkF m 51 #[.val (.int p0), .val (.int p1), .val (.int p2), .val (.int p3), .val (.int p4), .val (.int p5), .val (.int kk), .val (.int jj), .val (.int ff), .val (.int ln), .val (.int aa), .val (.double xk), .second, .unset, .unset, .unset, .unset, .unset, .unset, .unset, .unset, .unset, .unset, .unset] [(.double (FP.ddiv (FP.l2d (jj.toInt64)) (FP.l2d (4 : Int64))))])) _
    exact q
  obtain ⟨xb, e_xb⟩ : ∃ z, z = (FP.ddiv (FP.l2d (jj.toInt64)) (FP.l2d (4 : Int64))) := ⟨_, rfl⟩
  have k14_ : ∀ t, Steps p.tables e below (s₁.setTop (mkF m 51 #[.val (.int p0), .val (.int p1), .val (.int p2), .val (.int p3), .val (.int p4), .val (.int p5), .val (.int kk), .val (.int jj), .val (.int ff), .val (.int ln), .val (.int aa), .val (.double xk), .second, .unset, .unset, .unset, .unset, .unset, .unset, .unset, .unset, .unset, .unset, .unset] [(.double xb)])) t → Steps p.tables e below (s₁.setTop (mkF m 0 #[.val (.int p0), .val (.int p1), .val (.int p2), .val (.int p3), .val (.int p4), .val (.int p5), .unset, .unset, .unset, .unset, .unset, .unset, .unset, .unset, .unset, .unset, .unset, .unset, .unset, .unset, .unset, .unset, .unset, .unset] [])) t := by rw [e_xb]; exact k13_
  obtain ⟨c1, c2, c3, c4⟩ := own_cmp hk hj
  rw [← e_xk] at c1 c2
  rw [← e_xb] at c3 c4
  have vk' : own_V xk kk.toInt 2 := by rw [e_xk]; exact vk
  have vb' : own_V xb jj.toInt 2 := by rw [e_xb]; exact vb
  have k15_ : ∀ t, Steps p.tables e below (s₁.setTop (mkF m 53 #[.val (.int p0), .val (.int p1), .val (.int p2), .val (.int p3), .val (.int p4), .val (.int p5), .val (.int kk), .val (.int jj), .val (.int ff), .val (.int ln), .val (.int aa), .val (.double xk), .second, .val (.double xb), .second, .unset, .unset, .unset, .unset, .unset, .unset, .unset, .unset, .unset] [])) t → Steps p.tables e below (s₁.setTop (mkF m 0 #[.val (.int p0), .val (.int p1), .val (.int p2), .val (.int p3), .val (.int p4), .val (.int p5), .unset, .unset, .unset, .unset, .unset, .unset, .unset, .unset, .unset, .unset, .unset, .unset, .unset, .unset, .unset, .unset, .unset, .unset] [])) t := by
    intro t q
    refine k14_ _ ?_
    show Steps p.tables e below (s₁.setTop (mkF m 51 #[.val (.int p0), .val (.int p1), .val (.int p2), .val (.int p3), .val (.int p4), .val (.int p5), .val (.int kk), .val (.int jj), .val (.int ff), .val (.int ln), .val (.int aa), .val (.double xk), .second, .unset, .unset, .unset, .unset, .unset, .unset, .unset, .unset, .unset, .unset, .unset] [(.double xb)])) _
    refine XS.dstore X0.here hx rfl (hb hby at_51) rfl (l' := #[.val (.int p0), .val (.int p1), .val (.int p2), .val (.int p3), .val (.int p4), .val (.int p5), .val (.int kk), .val (.int jj), .val (.int ff), .val (.int ln), .val (.int aa), .val (.double xk), .second, .val (.double xb), .second, .unset, .unset, .unset, .unset, .unset, .unset, .unset, .unset, .unset]) rfl ?_
    show Steps p.tables e below (s₁.setTop (mkF m 53 #[.val (.int p0), .val (.int p1), .val (.int p2), .val (.int p3), .val (.int p4), .val (.int p5), .val (.int kk), .val (.int jj), .val (.int ff), .val (.int ln), .val (.int aa), .val (.double xk), .second, .val (.double xb), .second, .unset, .unset, .unset, .unset, .unset, .unset, .unset, .unset, .unset] [])) _
    exact q
  obtain ⟨T16, h16, X16, e16, E16, A16, D16, -, st16⟩ := newO X0 hx hZ hown (hw _ (List.mem_of_getElem? (i := 2) rfl)) (hw _ (List.mem_of_getElem? (i := 3) rfl)) (hw _ (List.mem_of_getElem? (i := 4) rfl)) e0 (g := (mkF m 53 #[.val (.int p0), .val (.int p1), .val (.int p2), .val (.int p3), .val (.int p4), .val (.int p5), .val (.int kk), .val (.int jj), .val (.int ff), .val (.int ln), .val (.int aa), .val (.double xk), .second, .val (.double xb), .second, .unset, .unset, .unset, .unset, .unset, .unset, .unset, .unset, .unset] [])) rfl (hb hby at_53) (by decide) (by decide)
  obtain ⟨b16, g16⟩ : ∃ z, z = h0.size := ⟨_, rfl⟩
  rw [← g16] at A16 D16 st16
  have k17_ : ∀ t, Steps p.tables e below (T16.setTop (mkF m 56 #[.val (.int p0), .val (.int p1), .val (.int p2), .val (.int p3), .val (.int p4), .val (.int p5), .val (.int kk), .val (.int jj), .val (.int ff), .val (.int ln), .val (.int aa), .val (.double xk), .second, .val (.double xb), .second, .unset, .unset, .unset, .unset, .unset, .unset, .unset, .unset, .unset] [(.ref b16)])) t → Steps p.tables e below (s₁.setTop (mkF m 0 #[.val (.int p0), .val (.int p1), .val (.int p2), .val (.int p3), .val (.int p4), .val (.int p5), .unset, .unset, .unset, .unset, .unset, .unset, .unset, .unset, .unset, .unset, .unset, .unset, .unset, .unset, .unset, .unset, .unset, .unset] [])) t := fun t q => k15_ t (st16 t q)
  have g_b16 : n0 ≤ b16 := Nat.le_trans Zn (Nat.le_of_eq g16.symm)
  replace Zn := Nat.le_trans Zn E16.1
  have F_k1 : Fld Z h16 b16 "com/example/haku/haku/search/Bm25" "k1" "D" (.double 0) := D16 (Or.inr (hw _ (List.mem_of_getElem? (i := 18) rfl))) (ty := .double) (by decide)
  have F_b : Fld Z h16 b16 "com/example/haku/haku/search/Bm25" "b" "D" (.double 0) := D16 (Or.inr (hw _ (List.mem_of_getElem? (i := 20) rfl))) (ty := .double) (by decide)
  have k18_ : ∀ t, Steps p.tables e below (T16.setTop (mkF m 61 #[.val (.int p0), .val (.int p1), .val (.int p2), .val (.int p3), .val (.int p4), .val (.int p5), .val (.int kk), .val (.int jj), .val (.int ff), .val (.int ln), .val (.int aa), .val (.double xk), .second, .val (.double xb), .second, .unset, .unset, .unset, .unset, .unset, .unset, .unset, .unset, .unset] [(.double xb), (.double xk), (.ref b16), (.ref b16)])) t → Steps p.tables e below (s₁.setTop (mkF m 0 #[.val (.int p0), .val (.int p1), .val (.int p2), .val (.int p3), .val (.int p4), .val (.int p5), .unset, .unset, .unset, .unset, .unset, .unset, .unset, .unset, .unset, .unset, .unset, .unset, .unset, .unset, .unset, .unset, .unset, .unset] [])) t := by
    intro t q
    refine k17_ _ ?_
    show Steps p.tables e below (T16.setTop (mkF m 56 #[.val (.int p0), .val (.int p1), .val (.int p2), .val (.int p3), .val (.int p4), .val (.int p5), .val (.int kk), .val (.int jj), .val (.int ff), .val (.int ln), .val (.int aa), .val (.double xk), .second, .val (.double xb), .second, .unset, .unset, .unset, .unset, .unset, .unset, .unset, .unset, .unset] [(.ref b16)])) _
    refine XS.dup X16.here hx rfl (hb hby at_56) rfl rfl ?_
    show Steps p.tables e below (T16.setTop (mkF m 57 #[.val (.int p0), .val (.int p1), .val (.int p2), .val (.int p3), .val (.int p4), .val (.int p5), .val (.int kk), .val (.int jj), .val (.int ff), .val (.int ln), .val (.int aa), .val (.double xk), .second, .val (.double xb), .second, .unset, .unset, .unset, .unset, .unset, .unset, .unset, .unset, .unset] [(.ref b16), (.ref b16)])) _
    refine XS.dload X16.here hx rfl (hb hby at_57) rfl ?_
    show Steps p.tables e below (T16.setTop (mkF m 59 #[.val (.int p0), .val (.int p1), .val (.int p2), .val (.int p3), .val (.int p4), .val (.int p5), .val (.int kk), .val (.int jj), .val (.int ff), .val (.int ln), .val (.int aa), .val (.double xk), .second, .val (.double xb), .second, .unset, .unset, .unset, .unset, .unset, .unset, .unset, .unset, .unset] [(.double xk), (.ref b16), (.ref b16)])) _
    refine XS.dload X16.here hx rfl (hb hby at_59) rfl ?_
    show Steps p.tables e below (T16.setTop (mkF m 61 #[.val (.int p0), .val (.int p1), .val (.int p2), .val (.int p3), .val (.int p4), .val (.int p5), .val (.int kk), .val (.int jj), .val (.int ff), .val (.int ln), .val (.int aa), .val (.double xk), .second, .val (.double xb), .second, .unset, .unset, .unset, .unset, .unset, .unset, .unset, .unset, .unset] [(.double xb), (.double xk), (.ref b16), (.ref b16)])) _
    exact q
  obtain ⟨_, _, ⟨T19, L19, kk19, n19⟩, -, X19, ⟨Lc19, hQ19, l19, y19, z19⟩, st19⟩ := X16.specialBack hx (y := (⟨"com/example/haku/haku/search/Bm25", "<init>", "(DD)V"⟩ : MethodName)) rfl hown (mvT hZ (hw _ (List.mem_of_getElem? (i := 5) rfl))) (mvT hZ (hw _ (List.mem_of_getElem? (i := 6) rfl))) (mvT hZ (hw _ (List.mem_of_getElem? (i := 7) rfl))) (by decide) (backOf (W := 1) (rmI l Z a0 hw [] b16 xk xb h16 n0 Zn A16 F_k1 F_b g_b16 c1 c2 c3 c4) hZ (hw _ (List.mem_of_getElem? (i := 7) rfl)) (hw _ (List.mem_of_getElem? (i := 4) rfl)) (by decide) (by decide)) (g := (mkF m 61 #[.val (.int p0), .val (.int p1), .val (.int p2), .val (.int p3), .val (.int p4), .val (.int p5), .val (.int kk), .val (.int jj), .val (.int ff), .val (.int ln), .val (.int aa), .val (.double xk), .second, .val (.double xb), .second, .unset, .unset, .unset, .unset, .unset, .unset, .unset, .unset, .unset] [(.double xb), (.double xk), (.ref b16), (.ref b16)])) rfl (by rw [hml]; rfl) (Steps.refl _) (a := b16) (argsL := [(.double xk), (.double xb)]) (rest := [(.ref b16)]) (lenOf pd_36673 rfl) rfl (by show 2 * 0 + _ ≤ _; exact Nat.le_of_eq rfl) (hb hby at_61) (fun _ _ => ⟨rfl, e16, (by decide : 0 + 1 + 0 ≤ _), (by decide : 0 + 2 + 0 ≤ _)⟩)
  dsimp only [Pt.U, Pt.locs, Pt.cells, Pt.slots] at X19 l19 y19 z19 st19 hQ19
  rw [l19, y19, z19] at X19
  obtain ⟨rfl, Nq19, KI, EI, FK, FB⟩ := hQ19
  have N19 := Fr.app N0 Nq19
  have k20_ : ∀ t, Steps p.tables e below (T19.setTop (mkF m 64 #[.val (.int p0), .val (.int p1), .val (.int p2), .val (.int p3), .val (.int p4), .val (.int p5), .val (.int kk), .val (.int jj), .val (.int ff), .val (.int ln), .val (.int aa), .val (.double xk), .second, .val (.double xb), .second, .unset, .unset, .unset, .unset, .unset, .unset, .unset, .unset, .unset] [(.ref b16)])) t → Steps p.tables e below (s₁.setTop (mkF m 0 #[.val (.int p0), .val (.int p1), .val (.int p2), .val (.int p3), .val (.int p4), .val (.int p5), .unset, .unset, .unset, .unset, .unset, .unset, .unset, .unset, .unset, .unset, .unset, .unset, .unset, .unset, .unset, .unset, .unset, .unset] [])) t := fun t q => k18_ t (st19.trans q)
  replace Zn := Nat.le_trans Zn KI.1
  have k21_ : ∀ t, Steps p.tables e below (T19.setTop (mkF m 78 #[.val (.int p0), .val (.int p1), .val (.int p2), .val (.int p3), .val (.int p4), .val (.int p5), .val (.int kk), .val (.int jj), .val (.int ff), .val (.int ln), .val (.int aa), .val (.double xk), .second, .val (.double xb), .second, .val (.ref b16), .unset, .unset, .unset, .unset, .unset, .unset, .unset, .unset] [(.double (FP.l2d (aa.toInt64))), (.int ln), (.double (FP.l2d (ff.toInt64))), (.double (FP.l2d (p0.toInt64))), (.ref b16)])) t → Steps p.tables e below (s₁.setTop (mkF m 0 #[.val (.int p0), .val (.int p1), .val (.int p2), .val (.int p3), .val (.int p4), .val (.int p5), .unset, .unset, .unset, .unset, .unset, .unset, .unset, .unset, .unset, .unset, .unset, .unset, .unset, .unset, .unset, .unset, .unset, .unset] [])) t := by
    intro t q
    refine k20_ _ ?_
    show Steps p.tables e below (T19.setTop (mkF m 64 #[.val (.int p0), .val (.int p1), .val (.int p2), .val (.int p3), .val (.int p4), .val (.int p5), .val (.int kk), .val (.int jj), .val (.int ff), .val (.int ln), .val (.int aa), .val (.double xk), .second, .val (.double xb), .second, .unset, .unset, .unset, .unset, .unset, .unset, .unset, .unset, .unset] [(.ref b16)])) _
    refine XS.astore X19.here hx rfl (hb hby at_64) rfl rfl (l' := #[.val (.int p0), .val (.int p1), .val (.int p2), .val (.int p3), .val (.int p4), .val (.int p5), .val (.int kk), .val (.int jj), .val (.int ff), .val (.int ln), .val (.int aa), .val (.double xk), .second, .val (.double xb), .second, .val (.ref b16), .unset, .unset, .unset, .unset, .unset, .unset, .unset, .unset]) rfl ?_
    show Steps p.tables e below (T19.setTop (mkF m 66 #[.val (.int p0), .val (.int p1), .val (.int p2), .val (.int p3), .val (.int p4), .val (.int p5), .val (.int kk), .val (.int jj), .val (.int ff), .val (.int ln), .val (.int aa), .val (.double xk), .second, .val (.double xb), .second, .val (.ref b16), .unset, .unset, .unset, .unset, .unset, .unset, .unset, .unset] [])) _
    refine XS.aload X19.here hx rfl (hb hby at_66) rfl rfl ?_
    show Steps p.tables e below (T19.setTop (mkF m 68 #[.val (.int p0), .val (.int p1), .val (.int p2), .val (.int p3), .val (.int p4), .val (.int p5), .val (.int kk), .val (.int jj), .val (.int ff), .val (.int ln), .val (.int aa), .val (.double xk), .second, .val (.double xb), .second, .val (.ref b16), .unset, .unset, .unset, .unset, .unset, .unset, .unset, .unset] [(.ref b16)])) _
    refine XS.iloadN X19.here hx rfl (hb hby at_68) rfl ?_
    show Steps p.tables e below (T19.setTop (mkF m 69 #[.val (.int p0), .val (.int p1), .val (.int p2), .val (.int p3), .val (.int p4), .val (.int p5), .val (.int kk), .val (.int jj), .val (.int ff), .val (.int ln), .val (.int aa), .val (.double xk), .second, .val (.double xb), .second, .val (.ref b16), .unset, .unset, .unset, .unset, .unset, .unset, .unset, .unset] [(.int p0), (.ref b16)])) _
    refine XS.i2dS X19.here hx rfl (hb hby at_69) rfl (v := FP.l2d (p0.toInt64)) (i2d_w _) ?_
    show Steps p.tables e below (T19.setTop (mkF m 70 #[.val (.int p0), .val (.int p1), .val (.int p2), .val (.int p3), .val (.int p4), .val (.int p5), .val (.int kk), .val (.int jj), .val (.int ff), .val (.int ln), .val (.int aa), .val (.double xk), .second, .val (.double xb), .second, .val (.ref b16), .unset, .unset, .unset, .unset, .unset, .unset, .unset, .unset] [(.double (FP.l2d (p0.toInt64))), (.ref b16)])) _
    refine XS.iload X19.here hx rfl (hb hby at_70) rfl ?_
    show Steps p.tables e below (T19.setTop (mkF m 72 #[.val (.int p0), .val (.int p1), .val (.int p2), .val (.int p3), .val (.int p4), .val (.int p5), .val (.int kk), .val (.int jj), .val (.int ff), .val (.int ln), .val (.int aa), .val (.double xk), .second, .val (.double xb), .second, .val (.ref b16), .unset, .unset, .unset, .unset, .unset, .unset, .unset, .unset] [(.int ff), (.double (FP.l2d (p0.toInt64))), (.ref b16)])) _
    refine XS.i2dS X19.here hx rfl (hb hby at_72) rfl (v := FP.l2d (ff.toInt64)) (i2d_w _) ?_
    show Steps p.tables e below (T19.setTop (mkF m 73 #[.val (.int p0), .val (.int p1), .val (.int p2), .val (.int p3), .val (.int p4), .val (.int p5), .val (.int kk), .val (.int jj), .val (.int ff), .val (.int ln), .val (.int aa), .val (.double xk), .second, .val (.double xb), .second, .val (.ref b16), .unset, .unset, .unset, .unset, .unset, .unset, .unset, .unset] [(.double (FP.l2d (ff.toInt64))), (.double (FP.l2d (p0.toInt64))), (.ref b16)])) _
    refine XS.iload X19.here hx rfl (hb hby at_73) rfl ?_
    show Steps p.tables e below (T19.setTop (mkF m 75 #[.val (.int p0), .val (.int p1), .val (.int p2), .val (.int p3), .val (.int p4), .val (.int p5), .val (.int kk), .val (.int jj), .val (.int ff), .val (.int ln), .val (.int aa), .val (.double xk), .second, .val (.double xb), .second, .val (.ref b16), .unset, .unset, .unset, .unset, .unset, .unset, .unset, .unset] [(.int ln), (.double (FP.l2d (ff.toInt64))), (.double (FP.l2d (p0.toInt64))), (.ref b16)])) _
    refine XS.iload X19.here hx rfl (hb hby at_75) rfl ?_
    show Steps p.tables e below (T19.setTop (mkF m 77 #[.val (.int p0), .val (.int p1), .val (.int p2), .val (.int p3), .val (.int p4), .val (.int p5), .val (.int kk), .val (.int jj), .val (.int ff), .val (.int ln), .val (.int aa), .val (.double xk), .second, .val (.double xb), .second, .val (.ref b16), .unset, .unset, .unset, .unset, .unset, .unset, .unset, .unset] [(.int aa), (.int ln), (.double (FP.l2d (ff.toInt64))), (.double (FP.l2d (p0.toInt64))), (.ref b16)])) _
    refine XS.i2dS X19.here hx rfl (hb hby at_77) rfl (v := FP.l2d (aa.toInt64)) (i2d_w _) ?_
    show Steps p.tables e below (T19.setTop (mkF m 78 #[.val (.int p0), .val (.int p1), .val (.int p2), .val (.int p3), .val (.int p4), .val (.int p5), .val (.int kk), .val (.int jj), .val (.int ff), .val (.int ln), .val (.int aa), .val (.double xk), .second, .val (.double xb), .second, .val (.ref b16), .unset, .unset, .unset, .unset, .unset, .unset, .unset, .unset] [(.double (FP.l2d (aa.toInt64))), (.int ln), (.double (FP.l2d (ff.toInt64))), (.double (FP.l2d (p0.toInt64))), (.ref b16)])) _
    exact q
  by_cases hz : ff = (0 : Int32)
  · obtain ⟨cq22, kq22, q22a, q22b, q22c⟩ := isOf hZ rfl EI
    obtain ⟨_, _, ⟨T22, L22, kk22, n22⟩, -, X22, ⟨Lc22, hQ22, l22, y22, z22⟩, st22⟩ := X19.virtualBack hx (y := (⟨"com/example/haku/haku/search/Bm25", "score", "(DDID)D"⟩ : MethodName)) (z := (⟨"com/example/haku/haku/search/Bm25", "score", "(DDID)D"⟩ : MethodName)) hown (mvT hZ (hw _ (List.mem_of_getElem? (i := 21) rfl))) (mvT hZ (hw _ (List.mem_of_getElem? (i := 22) rfl))) (notFace_of_selects (args := #[]) (mvT hZ (hw _ (List.mem_of_getElem? (i := 24) rfl)))) (mvT hZ (hw _ (List.mem_of_getElem? (i := 24) rfl))) (mvT hZ (hw _ (List.mem_of_getElem? (i := 23) rfl))) (by decide) (backOf (W := 0) (rmT l Z a0 hw [] b16 p0 ff ln aa xk xb T19.heap n0 Zn ((lw_eq _ _).mpr (by rw [hz]; rfl))) hZ (hw _ (List.mem_of_getElem? (i := 25) rfl)) (hw _ (List.mem_of_getElem? (i := 4) rfl)) (by decide) (by decide)) q22a q22c (g := (mkF m 78 #[.val (.int p0), .val (.int p1), .val (.int p2), .val (.int p3), .val (.int p4), .val (.int p5), .val (.int kk), .val (.int jj), .val (.int ff), .val (.int ln), .val (.int aa), .val (.double xk), .second, .val (.double xb), .second, .val (.ref b16), .unset, .unset, .unset, .unset, .unset, .unset, .unset, .unset] [(.double (FP.l2d (aa.toInt64))), (.int ln), (.double (FP.l2d (ff.toInt64))), (.double (FP.l2d (p0.toInt64))), (.ref b16)])) rfl (by rw [hml]; rfl) (Steps.refl _) (argsL := [(.double (FP.l2d (p0.toInt64))), (.double (FP.l2d (ff.toInt64))), (.int ln), (.double (FP.l2d (aa.toInt64)))]) (rest := []) (lenOf pd_78846 rfl) rfl (by show 2 * 0 + _ ≤ _; exact Nat.le_of_eq rfl) (hb hby at_78) (fun _ _ => ⟨rfl, rfl, (by decide : 0 + 1 + 0 + 0 ≤ _), (by decide : 0 + 2 + 0 + 0 ≤ _)⟩)
    dsimp only [Pt.U, Pt.locs, Pt.cells, Pt.slots] at X22 l22 y22 z22 st22 hQ22
    rw [l22, y22, z22] at X22
    obtain ⟨rfl, Nq22, hq22⟩ := hQ22
    have N22 := Fr.app N19 Nq22
    have k23_ : ∀ t, Steps p.tables e below (T22.setTop (mkF m 81 #[.val (.int p0), .val (.int p1), .val (.int p2), .val (.int p3), .val (.int p4), .val (.int p5), .val (.int kk), .val (.int jj), .val (.int ff), .val (.int ln), .val (.int aa), .val (.double xk), .second, .val (.double xb), .second, .val (.ref b16), .unset, .unset, .unset, .unset, .unset, .unset, .unset, .unset] [(.double (FP.l2d (0 : Int64)))])) t → Steps p.tables e below (s₁.setTop (mkF m 0 #[.val (.int p0), .val (.int p1), .val (.int p2), .val (.int p3), .val (.int p4), .val (.int p5), .unset, .unset, .unset, .unset, .unset, .unset, .unset, .unset, .unset, .unset, .unset, .unset, .unset, .unset, .unset, .unset, .unset, .unset] [])) t := fun t q => k21_ t (st22.trans q)
    have k24_ : ∀ t, Steps p.tables e below (T22.setTop (mkF m 85 #[.val (.int p0), .val (.int p1), .val (.int p2), .val (.int p3), .val (.int p4), .val (.int p5), .val (.int kk), .val (.int jj), .val (.int ff), .val (.int ln), .val (.int aa), .val (.double xk), .second, .val (.double xb), .second, .val (.ref b16), .val (.double (FP.l2d (0 : Int64))), .second, .unset, .unset, .unset, .unset, .unset, .unset] [(.int ff)])) t → Steps p.tables e below (s₁.setTop (mkF m 0 #[.val (.int p0), .val (.int p1), .val (.int p2), .val (.int p3), .val (.int p4), .val (.int p5), .unset, .unset, .unset, .unset, .unset, .unset, .unset, .unset, .unset, .unset, .unset, .unset, .unset, .unset, .unset, .unset, .unset, .unset] [])) t := by
      intro t q
      refine k23_ _ ?_
      show Steps p.tables e below (T22.setTop (mkF m 81 #[.val (.int p0), .val (.int p1), .val (.int p2), .val (.int p3), .val (.int p4), .val (.int p5), .val (.int kk), .val (.int jj), .val (.int ff), .val (.int ln), .val (.int aa), .val (.double xk), .second, .val (.double xb), .second, .val (.ref b16), .unset, .unset, .unset, .unset, .unset, .unset, .unset, .unset] [(.double (FP.l2d (0 : Int64)))])) _
      refine XS.dstore X22.here hx rfl (hb hby at_81) rfl (l' := #[.val (.int p0), .val (.int p1), .val (.int p2), .val (.int p3), .val (.int p4), .val (.int p5), .val (.int kk), .val (.int jj), .val (.int ff), .val (.int ln), .val (.int aa), .val (.double xk), .second, .val (.double xb), .second, .val (.ref b16), .val (.double (FP.l2d (0 : Int64))), .second, .unset, .unset, .unset, .unset, .unset, .unset]) rfl ?_
      show Steps p.tables e below (T22.setTop (mkF m 83 #[.val (.int p0), .val (.int p1), .val (.int p2), .val (.int p3), .val (.int p4), .val (.int p5), .val (.int kk), .val (.int jj), .val (.int ff), .val (.int ln), .val (.int aa), .val (.double xk), .second, .val (.double xb), .second, .val (.ref b16), .val (.double (FP.l2d (0 : Int64))), .second, .unset, .unset, .unset, .unset, .unset, .unset] [])) _
      refine XS.iload X22.here hx rfl (hb hby at_83) rfl ?_
      show Steps p.tables e below (T22.setTop (mkF m 85 #[.val (.int p0), .val (.int p1), .val (.int p2), .val (.int p3), .val (.int p4), .val (.int p5), .val (.int kk), .val (.int jj), .val (.int ff), .val (.int ln), .val (.int aa), .val (.double xk), .second, .val (.double xb), .second, .val (.ref b16), .val (.double (FP.l2d (0 : Int64))), .second, .unset, .unset, .unset, .unset, .unset, .unset] [(.int ff)])) _
      exact q
    have k25_ : ∀ t, Steps p.tables e below (T22.setTop (mkF m 88 #[.val (.int p0), .val (.int p1), .val (.int p2), .val (.int p3), .val (.int p4), .val (.int p5), .val (.int kk), .val (.int jj), .val (.int ff), .val (.int ln), .val (.int aa), .val (.double xk), .second, .val (.double xb), .second, .val (.ref b16), .val (.double (FP.l2d (0 : Int64))), .second, .unset, .unset, .unset, .unset, .unset, .unset] [])) t → Steps p.tables e below (s₁.setTop (mkF m 0 #[.val (.int p0), .val (.int p1), .val (.int p2), .val (.int p3), .val (.int p4), .val (.int p5), .unset, .unset, .unset, .unset, .unset, .unset, .unset, .unset, .unset, .unset, .unset, .unset, .unset, .unset, .unset, .unset, .unset, .unset] [])) t := by
      intro t q
      refine k24_ _ ?_
      show Steps p.tables e below (T22.setTop (mkF m 85 #[.val (.int p0), .val (.int p1), .val (.int p2), .val (.int p3), .val (.int p4), .val (.int p5), .val (.int kk), .val (.int jj), .val (.int ff), .val (.int ln), .val (.int aa), .val (.double xk), .second, .val (.double xb), .second, .val (.ref b16), .val (.double (FP.l2d (0 : Int64))), .second, .unset, .unset, .unset, .unset, .unset, .unset] [(.int ff)])) _
      refine XS.ifNo X22.here hx rfl (hb hby at_85) rfl ((if0 _ _).trans (teq hz).2) ?_
      show Steps p.tables e below (T22.setTop (mkF m 88 #[.val (.int p0), .val (.int p1), .val (.int p2), .val (.int p3), .val (.int p4), .val (.int p5), .val (.int kk), .val (.int jj), .val (.int ff), .val (.int ln), .val (.int aa), .val (.double xk), .second, .val (.double xb), .second, .val (.ref b16), .val (.double (FP.l2d (0 : Int64))), .second, .unset, .unset, .unset, .unset, .unset, .unset] [])) _
      exact q
    have k26_ : ∀ t, Steps p.tables e below (T22.setTop (mkF m 92 #[.val (.int p0), .val (.int p1), .val (.int p2), .val (.int p3), .val (.int p4), .val (.int p5), .val (.int kk), .val (.int jj), .val (.int ff), .val (.int ln), .val (.int aa), .val (.double xk), .second, .val (.double xb), .second, .val (.ref b16), .val (.double (FP.l2d (0 : Int64))), .second, .unset, .unset, .unset, .unset, .unset, .unset] [(.int (0 : Int32))])) t → Steps p.tables e below (s₁.setTop (mkF m 0 #[.val (.int p0), .val (.int p1), .val (.int p2), .val (.int p3), .val (.int p4), .val (.int p5), .unset, .unset, .unset, .unset, .unset, .unset, .unset, .unset, .unset, .unset, .unset, .unset, .unset, .unset, .unset, .unset, .unset, .unset] [])) t := by
      intro t q
      refine k25_ _ ?_
      show Steps p.tables e below (T22.setTop (mkF m 88 #[.val (.int p0), .val (.int p1), .val (.int p2), .val (.int p3), .val (.int p4), .val (.int p5), .val (.int kk), .val (.int jj), .val (.int ff), .val (.int ln), .val (.int aa), .val (.double xk), .second, .val (.double xb), .second, .val (.ref b16), .val (.double (FP.l2d (0 : Int64))), .second, .unset, .unset, .unset, .unset, .unset, .unset] [])) _
      refine XS.dload X22.here hx rfl (hb hby at_88) rfl ?_
      show Steps p.tables e below (T22.setTop (mkF m 90 #[.val (.int p0), .val (.int p1), .val (.int p2), .val (.int p3), .val (.int p4), .val (.int p5), .val (.int kk), .val (.int jj), .val (.int ff), .val (.int ln), .val (.int aa), .val (.double xk), .second, .val (.double xb), .second, .val (.ref b16), .val (.double (FP.l2d (0 : Int64))), .second, .unset, .unset, .unset, .unset, .unset, .unset] [(.double (FP.l2d (0 : Int64)))])) _
      refine XS.dconst0 X22.here hx rfl (hb hby at_90) (v := FP.l2d (0 : Int64)) own_dc0 ?_
      show Steps p.tables e below (T22.setTop (mkF m 91 #[.val (.int p0), .val (.int p1), .val (.int p2), .val (.int p3), .val (.int p4), .val (.int p5), .val (.int kk), .val (.int jj), .val (.int ff), .val (.int ln), .val (.int aa), .val (.double xk), .second, .val (.double xb), .second, .val (.ref b16), .val (.double (FP.l2d (0 : Int64))), .second, .unset, .unset, .unset, .unset, .unset, .unset] [(.double (FP.l2d (0 : Int64))), (.double (FP.l2d (0 : Int64)))])) _
      refine XS.dcmpS X22.here hx rfl (hb hby at_91) rfl (v := (0 : Int32)) (dcmpV_self (nn_w rfl) _) ?_
      show Steps p.tables e below (T22.setTop (mkF m 92 #[.val (.int p0), .val (.int p1), .val (.int p2), .val (.int p3), .val (.int p4), .val (.int p5), .val (.int kk), .val (.int jj), .val (.int ff), .val (.int ln), .val (.int aa), .val (.double xk), .second, .val (.double xb), .second, .val (.ref b16), .val (.double (FP.l2d (0 : Int64))), .second, .unset, .unset, .unset, .unset, .unset, .unset] [(.int (0 : Int32))])) _
      exact q
    have k27_ : ∀ t, Steps p.tables e below (T22.setTop (mkF m 95 #[.val (.int p0), .val (.int p1), .val (.int p2), .val (.int p3), .val (.int p4), .val (.int p5), .val (.int kk), .val (.int jj), .val (.int ff), .val (.int ln), .val (.int aa), .val (.double xk), .second, .val (.double xb), .second, .val (.ref b16), .val (.double (FP.l2d (0 : Int64))), .second, .unset, .unset, .unset, .unset, .unset, .unset] [])) t → Steps p.tables e below (s₁.setTop (mkF m 0 #[.val (.int p0), .val (.int p1), .val (.int p2), .val (.int p3), .val (.int p4), .val (.int p5), .unset, .unset, .unset, .unset, .unset, .unset, .unset, .unset, .unset, .unset, .unset, .unset, .unset, .unset, .unset, .unset, .unset, .unset] [])) t := by
      intro t q
      refine k26_ _ ?_
      show Steps p.tables e below (T22.setTop (mkF m 92 #[.val (.int p0), .val (.int p1), .val (.int p2), .val (.int p3), .val (.int p4), .val (.int p5), .val (.int kk), .val (.int jj), .val (.int ff), .val (.int ln), .val (.int aa), .val (.double xk), .second, .val (.double xb), .second, .val (.ref b16), .val (.double (FP.l2d (0 : Int64))), .second, .unset, .unset, .unset, .unset, .unset, .unset] [(.int (0 : Int32))])) _
      refine XS.ifNo X22.here hx rfl (hb hby at_92) rfl ((if0 _ _).trans (teq rfl).2) ?_
      show Steps p.tables e below (T22.setTop (mkF m 95 #[.val (.int p0), .val (.int p1), .val (.int p2), .val (.int p3), .val (.int p4), .val (.int p5), .val (.int kk), .val (.int jj), .val (.int ff), .val (.int ln), .val (.int aa), .val (.double xk), .second, .val (.double xb), .second, .val (.ref b16), .val (.double (FP.l2d (0 : Int64))), .second, .unset, .unset, .unset, .unset, .unset, .unset] [])) _
      exact q
    have k28_ : ∀ t, Steps p.tables e below (T22.setTop (mkF m 100 #[.val (.int p0), .val (.int p1), .val (.int p2), .val (.int p3), .val (.int p4), .val (.int p5), .val (.int kk), .val (.int jj), .val (.int ff), .val (.int ln), .val (.int aa), .val (.double xk), .second, .val (.double xb), .second, .val (.ref b16), .val (.double (FP.l2d (0 : Int64))), .second, .unset, .unset, .unset, .unset, .unset, .unset] [(.int (1 : Int32))])) t → Steps p.tables e below (s₁.setTop (mkF m 0 #[.val (.int p0), .val (.int p1), .val (.int p2), .val (.int p3), .val (.int p4), .val (.int p5), .unset, .unset, .unset, .unset, .unset, .unset, .unset, .unset, .unset, .unset, .unset, .unset, .unset, .unset, .unset, .unset, .unset, .unset] [])) t := by
      intro t q
      refine k27_ _ ?_
      show Steps p.tables e below (T22.setTop (mkF m 95 #[.val (.int p0), .val (.int p1), .val (.int p2), .val (.int p3), .val (.int p4), .val (.int p5), .val (.int kk), .val (.int jj), .val (.int ff), .val (.int ln), .val (.int aa), .val (.double xk), .second, .val (.double xb), .second, .val (.ref b16), .val (.double (FP.l2d (0 : Int64))), .second, .unset, .unset, .unset, .unset, .unset, .unset] [])) _
      refine XS.iconst X22.here hx rfl (hb hby at_95) ?_
      show Steps p.tables e below (T22.setTop (mkF m 96 #[.val (.int p0), .val (.int p1), .val (.int p2), .val (.int p3), .val (.int p4), .val (.int p5), .val (.int kk), .val (.int jj), .val (.int ff), .val (.int ln), .val (.int aa), .val (.double xk), .second, .val (.double xb), .second, .val (.ref b16), .val (.double (FP.l2d (0 : Int64))), .second, .unset, .unset, .unset, .unset, .unset, .unset] [(.int (1 : Int32))])) _
      refine XS.goto X22.here hx rfl (pc0 := 96) (pc' := 100) rfl (hb hby at_96) (by decide) (by decide) ?_
      show Steps p.tables e below (T22.setTop (mkF m 100 #[.val (.int p0), .val (.int p1), .val (.int p2), .val (.int p3), .val (.int p4), .val (.int p5), .val (.int kk), .val (.int jj), .val (.int ff), .val (.int ln), .val (.int aa), .val (.double xk), .second, .val (.double xb), .second, .val (.ref b16), .val (.double (FP.l2d (0 : Int64))), .second, .unset, .unset, .unset, .unset, .unset, .unset] [(.int (1 : Int32))])) _
      exact q
    obtain ⟨fs, hr, hrun, hended, hW, hsame⟩ := X22.leave (v := some (.int (1 : Int32))) (fun h => by rw [Bd.returns] at h; cases h)
    refine ⟨_, _, pre0 _ (k28_ _ ?_), hrun, hended, _, _, rfl, ?_, ⟨_, rfl⟩, hW, hsame.mono (by decide) (by decide)⟩
    · show Steps p.tables e below (T22.setTop (mkF m 100 #[.val (.int p0), .val (.int p1), .val (.int p2), .val (.int p3), .val (.int p4), .val (.int p5), .val (.int kk), .val (.int jj), .val (.int ff), .val (.int ln), .val (.int aa), .val (.double xk), .second, .val (.double xb), .second, .val (.ref b16), .val (.double (FP.l2d (0 : Int64))), .second, .unset, .unset, .unset, .unset, .unset, .unset] [(.int (1 : Int32))])) _
      exact retN X22 hx (t := .boolean) Bd.returns (by simp) (hb hby at_100) hr
    · show Q0 Z p0 p1 p2 p3 p4 p5 h0 n0 _ T22.heap _
      exact ⟨rfl, N22⟩
  · obtain ⟨w1, w2, w3, w4, w5, w6, w7, w8, w9⟩ := own_chain p0 ff ln aa hk hj hf hl hi ha hz vk' vb'
    have wD := own_want p0 ff ln aa kk jj hk hj hf hl hi ha hz
    have w10 := own_got p0 ff ln aa hk hj hf hl hi ha hz w3 w9
    obtain ⟨cq29, kq29, q29a, q29b, q29c⟩ := isOf hZ rfl EI
    obtain ⟨_, _, ⟨T29, L29, kk29, n29⟩, -, X29, ⟨Lc29, hQ29, l29, y29, z29⟩, st29⟩ := X19.virtualBack hx (y := (⟨"com/example/haku/haku/search/Bm25", "score", "(DDID)D"⟩ : MethodName)) (z := (⟨"com/example/haku/haku/search/Bm25", "score", "(DDID)D"⟩ : MethodName)) hown (mvT hZ (hw _ (List.mem_of_getElem? (i := 21) rfl))) (mvT hZ (hw _ (List.mem_of_getElem? (i := 22) rfl))) (notFace_of_selects (args := #[]) (mvT hZ (hw _ (List.mem_of_getElem? (i := 24) rfl)))) (mvT hZ (hw _ (List.mem_of_getElem? (i := 24) rfl))) (mvT hZ (hw _ (List.mem_of_getElem? (i := 23) rfl))) (by decide) (backOf (W := 0) (rmS l Z a0 hw [] b16 p0 ff ln aa xk xb T19.heap n0 Zn FK FB (own_nn w1) (own_nn w2) (own_nn w3) (own_nn w4) (own_nn w5) (own_nn w6) (own_nn w7) (own_nn w8) (own_nn w9) w10.1 (own_fne hz)) hZ (hw _ (List.mem_of_getElem? (i := 25) rfl)) (hw _ (List.mem_of_getElem? (i := 4) rfl)) (by decide) (by decide)) q29a q29c (g := (mkF m 78 #[.val (.int p0), .val (.int p1), .val (.int p2), .val (.int p3), .val (.int p4), .val (.int p5), .val (.int kk), .val (.int jj), .val (.int ff), .val (.int ln), .val (.int aa), .val (.double xk), .second, .val (.double xb), .second, .val (.ref b16), .unset, .unset, .unset, .unset, .unset, .unset, .unset, .unset] [(.double (FP.l2d (aa.toInt64))), (.int ln), (.double (FP.l2d (ff.toInt64))), (.double (FP.l2d (p0.toInt64))), (.ref b16)])) rfl (by rw [hml]; rfl) (Steps.refl _) (argsL := [(.double (FP.l2d (p0.toInt64))), (.double (FP.l2d (ff.toInt64))), (.int ln), (.double (FP.l2d (aa.toInt64)))]) (rest := []) (lenOf pd_78846 rfl) rfl (by show 2 * 0 + _ ≤ _; exact Nat.le_of_eq rfl) (hb hby at_78) (fun _ _ => ⟨rfl, rfl, (by decide : 0 + 1 + 0 + 0 ≤ _), (by decide : 0 + 2 + 0 + 0 ≤ _)⟩)
    dsimp only [Pt.U, Pt.locs, Pt.cells, Pt.slots] at X29 l29 y29 z29 st29 hQ29
    rw [l29, y29, z29] at X29
    obtain ⟨rfl, Nq29, hq29⟩ := hQ29
    have N29 := Fr.app N19 Nq29
    have k30_ : ∀ t, Steps p.tables e below (T29.setTop (mkF m 81 #[.val (.int p0), .val (.int p1), .val (.int p2), .val (.int p3), .val (.int p4), .val (.int p5), .val (.int kk), .val (.int jj), .val (.int ff), .val (.int ln), .val (.int aa), .val (.double xk), .second, .val (.double xb), .second, .val (.ref b16), .unset, .unset, .unset, .unset, .unset, .unset, .unset, .unset] [(.double (FP.ddiv (FP.dmul (FP.dmul (FP.l2d (p0.toInt64)) (FP.l2d (ff.toInt64))) (FP.dadd xk (FP.l2d (1 : Int64)))) (FP.dadd (FP.l2d (ff.toInt64)) (FP.dmul xk (FP.dadd (FP.dsub (FP.l2d (1 : Int64)) xb) (FP.ddiv (FP.dmul xb (FP.l2d (ln.toInt64))) (FP.l2d (aa.toInt64))))))))])) t → Steps p.tables e below (s₁.setTop (mkF m 0 #[.val (.int p0), .val (.int p1), .val (.int p2), .val (.int p3), .val (.int p4), .val (.int p5), .unset, .unset, .unset, .unset, .unset, .unset, .unset, .unset, .unset, .unset, .unset, .unset, .unset, .unset, .unset, .unset, .unset, .unset] [])) t := fun t q => k21_ t (st29.trans q)
    have k31_ : ∀ t, Steps p.tables e below (T29.setTop (mkF m 85 #[.val (.int p0), .val (.int p1), .val (.int p2), .val (.int p3), .val (.int p4), .val (.int p5), .val (.int kk), .val (.int jj), .val (.int ff), .val (.int ln), .val (.int aa), .val (.double xk), .second, .val (.double xb), .second, .val (.ref b16), .val (.double (FP.ddiv (FP.dmul (FP.dmul (FP.l2d (p0.toInt64)) (FP.l2d (ff.toInt64))) (FP.dadd xk (FP.l2d (1 : Int64)))) (FP.dadd (FP.l2d (ff.toInt64)) (FP.dmul xk (FP.dadd (FP.dsub (FP.l2d (1 : Int64)) xb) (FP.ddiv (FP.dmul xb (FP.l2d (ln.toInt64))) (FP.l2d (aa.toInt64)))))))), .second, .unset, .unset, .unset, .unset, .unset, .unset] [(.int ff)])) t → Steps p.tables e below (s₁.setTop (mkF m 0 #[.val (.int p0), .val (.int p1), .val (.int p2), .val (.int p3), .val (.int p4), .val (.int p5), .unset, .unset, .unset, .unset, .unset, .unset, .unset, .unset, .unset, .unset, .unset, .unset, .unset, .unset, .unset, .unset, .unset, .unset] [])) t := by
      intro t q
      refine k30_ _ ?_
      show Steps p.tables e below (T29.setTop (mkF m 81 #[.val (.int p0), .val (.int p1), .val (.int p2), .val (.int p3), .val (.int p4), .val (.int p5), .val (.int kk), .val (.int jj), .val (.int ff), .val (.int ln), .val (.int aa), .val (.double xk), .second, .val (.double xb), .second, .val (.ref b16), .unset, .unset, .unset, .unset, .unset, .unset, .unset, .unset] [(.double (FP.ddiv (FP.dmul (FP.dmul (FP.l2d (p0.toInt64)) (FP.l2d (ff.toInt64))) (FP.dadd xk (FP.l2d (1 : Int64)))) (FP.dadd (FP.l2d (ff.toInt64)) (FP.dmul xk (FP.dadd (FP.dsub (FP.l2d (1 : Int64)) xb) (FP.ddiv (FP.dmul xb (FP.l2d (ln.toInt64))) (FP.l2d (aa.toInt64))))))))])) _
      refine XS.dstore X29.here hx rfl (hb hby at_81) rfl (l' := #[.val (.int p0), .val (.int p1), .val (.int p2), .val (.int p3), .val (.int p4), .val (.int p5), .val (.int kk), .val (.int jj), .val (.int ff), .val (.int ln), .val (.int aa), .val (.double xk), .second, .val (.double xb), .second, .val (.ref b16), .val (.double (FP.ddiv (FP.dmul (FP.dmul (FP.l2d (p0.toInt64)) (FP.l2d (ff.toInt64))) (FP.dadd xk (FP.l2d (1 : Int64)))) (FP.dadd (FP.l2d (ff.toInt64)) (FP.dmul xk (FP.dadd (FP.dsub (FP.l2d (1 : Int64)) xb) (FP.ddiv (FP.dmul xb (FP.l2d (ln.toInt64))) (FP.l2d (aa.toInt64)))))))), .second, .unset, .unset, .unset, .unset, .unset, .unset]) rfl ?_
      show Steps p.tables e below (T29.setTop (mkF m 83 #[.val (.int p0), .val (.int p1), .val (.int p2), .val (.int p3), .val (.int p4), .val (.int p5), .val (.int kk), .val (.int jj), .val (.int ff), .val (.int ln), .val (.int aa), .val (.double xk), .second, .val (.double xb), .second, .val (.ref b16), .val (.double (FP.ddiv (FP.dmul (FP.dmul (FP.l2d (p0.toInt64)) (FP.l2d (ff.toInt64))) (FP.dadd xk (FP.l2d (1 : Int64)))) (FP.dadd (FP.l2d (ff.toInt64)) (FP.dmul xk (FP.dadd (FP.dsub (FP.l2d (1 : Int64)) xb) (FP.ddiv (FP.dmul xb (FP.l2d (ln.toInt64))) (FP.l2d (aa.toInt64)))))))), .second, .unset, .unset, .unset, .unset, .unset, .unset] [])) _
      refine XS.iload X29.here hx rfl (hb hby at_83) rfl ?_
      show Steps p.tables e below (T29.setTop (mkF m 85 #[.val (.int p0), .val (.int p1), .val (.int p2), .val (.int p3), .val (.int p4), .val (.int p5), .val (.int kk), .val (.int jj), .val (.int ff), .val (.int ln), .val (.int aa), .val (.double xk), .second, .val (.double xb), .second, .val (.ref b16), .val (.double (FP.ddiv (FP.dmul (FP.dmul (FP.l2d (p0.toInt64)) (FP.l2d (ff.toInt64))) (FP.dadd xk (FP.l2d (1 : Int64)))) (FP.dadd (FP.l2d (ff.toInt64)) (FP.dmul xk (FP.dadd (FP.dsub (FP.l2d (1 : Int64)) xb) (FP.ddiv (FP.dmul xb (FP.l2d (ln.toInt64))) (FP.l2d (aa.toInt64)))))))), .second, .unset, .unset, .unset, .unset, .unset, .unset] [(.int ff)])) _
      exact q
    have k32_ : ∀ t, Steps p.tables e below (T29.setTop (mkF m 101 #[.val (.int p0), .val (.int p1), .val (.int p2), .val (.int p3), .val (.int p4), .val (.int p5), .val (.int kk), .val (.int jj), .val (.int ff), .val (.int ln), .val (.int aa), .val (.double xk), .second, .val (.double xb), .second, .val (.ref b16), .val (.double (FP.ddiv (FP.dmul (FP.dmul (FP.l2d (p0.toInt64)) (FP.l2d (ff.toInt64))) (FP.dadd xk (FP.l2d (1 : Int64)))) (FP.dadd (FP.l2d (ff.toInt64)) (FP.dmul xk (FP.dadd (FP.dsub (FP.l2d (1 : Int64)) xb) (FP.ddiv (FP.dmul xb (FP.l2d (ln.toInt64))) (FP.l2d (aa.toInt64)))))))), .second, .unset, .unset, .unset, .unset, .unset, .unset] [])) t → Steps p.tables e below (s₁.setTop (mkF m 0 #[.val (.int p0), .val (.int p1), .val (.int p2), .val (.int p3), .val (.int p4), .val (.int p5), .unset, .unset, .unset, .unset, .unset, .unset, .unset, .unset, .unset, .unset, .unset, .unset, .unset, .unset, .unset, .unset, .unset, .unset] [])) t := by
      intro t q
      refine k31_ _ ?_
      show Steps p.tables e below (T29.setTop (mkF m 85 #[.val (.int p0), .val (.int p1), .val (.int p2), .val (.int p3), .val (.int p4), .val (.int p5), .val (.int kk), .val (.int jj), .val (.int ff), .val (.int ln), .val (.int aa), .val (.double xk), .second, .val (.double xb), .second, .val (.ref b16), .val (.double (FP.ddiv (FP.dmul (FP.dmul (FP.l2d (p0.toInt64)) (FP.l2d (ff.toInt64))) (FP.dadd xk (FP.l2d (1 : Int64)))) (FP.dadd (FP.l2d (ff.toInt64)) (FP.dmul xk (FP.dadd (FP.dsub (FP.l2d (1 : Int64)) xb) (FP.ddiv (FP.dmul xb (FP.l2d (ln.toInt64))) (FP.l2d (aa.toInt64)))))))), .second, .unset, .unset, .unset, .unset, .unset, .unset] [(.int ff)])) _
      refine XS.ifYes X29.here hx rfl (pc0 := 85) (pc' := 101) rfl (hb hby at_85) rfl ((if0 _ _).trans (feq hz).2) (by decide) (by decide) ?_
      show Steps p.tables e below (T29.setTop (mkF m 101 #[.val (.int p0), .val (.int p1), .val (.int p2), .val (.int p3), .val (.int p4), .val (.int p5), .val (.int kk), .val (.int jj), .val (.int ff), .val (.int ln), .val (.int aa), .val (.double xk), .second, .val (.double xb), .second, .val (.ref b16), .val (.double (FP.ddiv (FP.dmul (FP.dmul (FP.l2d (p0.toInt64)) (FP.l2d (ff.toInt64))) (FP.dadd xk (FP.l2d (1 : Int64)))) (FP.dadd (FP.l2d (ff.toInt64)) (FP.dmul xk (FP.dadd (FP.dsub (FP.l2d (1 : Int64)) xb) (FP.ddiv (FP.dmul xb (FP.l2d (ln.toInt64))) (FP.l2d (aa.toInt64)))))))), .second, .unset, .unset, .unset, .unset, .unset, .unset] [])) _
      exact q
    have k33_ : ∀ t, Steps p.tables e below (T29.setTop (mkF m 168 #[.val (.int p0), .val (.int p1), .val (.int p2), .val (.int p3), .val (.int p4), .val (.int p5), .val (.int kk), .val (.int jj), .val (.int ff), .val (.int ln), .val (.int aa), .val (.double xk), .second, .val (.double xb), .second, .val (.ref b16), .val (.double (FP.ddiv (FP.dmul (FP.dmul (FP.l2d (p0.toInt64)) (FP.l2d (ff.toInt64))) (FP.dadd xk (FP.l2d (1 : Int64)))) (FP.dadd (FP.l2d (ff.toInt64)) (FP.dmul xk (FP.dadd (FP.dsub (FP.l2d (1 : Int64)) xb) (FP.ddiv (FP.dmul xb (FP.l2d (ln.toInt64))) (FP.l2d (aa.toInt64)))))))), .second, .val (.long ((((32 : Int64) * (p0.toInt64)) * (ff.toInt64)) * ((kk + (4 : Int32)).toInt64))), .second, .val (.long ((((128 : Int64) * (ff.toInt64)) + ((kk.toInt64) * (((32 : Int32) - ((8 : Int32) * jj)).toInt64))) + ((((kk.toInt64) * (((8 : Int32) / aa).toInt64)) * (jj.toInt64)) * (ln.toInt64)))), .second, .unset, .unset] [(.double (FP.ddiv (FP.l2d ((((32 : Int64) * (p0.toInt64)) * (ff.toInt64)) * ((kk + (4 : Int32)).toInt64))) (FP.l2d ((((128 : Int64) * (ff.toInt64)) + ((kk.toInt64) * (((32 : Int32) - ((8 : Int32) * jj)).toInt64))) + ((((kk.toInt64) * (((8 : Int32) / aa).toInt64)) * (jj.toInt64)) * (ln.toInt64))))))])) t → Steps p.tables e below (s₁.setTop (mkF m 0 #[.val (.int p0), .val (.int p1), .val (.int p2), .val (.int p3), .val (.int p4), .val (.int p5), .unset, .unset, .unset, .unset, .unset, .unset, .unset, .unset, .unset, .unset, .unset, .unset, .unset, .unset, .unset, .unset, .unset, .unset] [])) t := by
      intro t q
      refine k32_ _ ?_
      show Steps p.tables e below (T29.setTop (mkF m 101 #[.val (.int p0), .val (.int p1), .val (.int p2), .val (.int p3), .val (.int p4), .val (.int p5), .val (.int kk), .val (.int jj), .val (.int ff), .val (.int ln), .val (.int aa), .val (.double xk), .second, .val (.double xb), .second, .val (.ref b16), .val (.double (FP.ddiv (FP.dmul (FP.dmul (FP.l2d (p0.toInt64)) (FP.l2d (ff.toInt64))) (FP.dadd xk (FP.l2d (1 : Int64)))) (FP.dadd (FP.l2d (ff.toInt64)) (FP.dmul xk (FP.dadd (FP.dsub (FP.l2d (1 : Int64)) xb) (FP.ddiv (FP.dmul xb (FP.l2d (ln.toInt64))) (FP.l2d (aa.toInt64)))))))), .second, .unset, .unset, .unset, .unset, .unset, .unset] [])) _
      refine X29.ldc2Long hx hown (mvT hZ (hw _ (List.mem_of_getElem? (i := 26) rfl))) (g := (mkF m 101 #[.val (.int p0), .val (.int p1), .val (.int p2), .val (.int p3), .val (.int p4), .val (.int p5), .val (.int kk), .val (.int jj), .val (.int ff), .val (.int ln), .val (.int aa), .val (.double xk), .second, .val (.double xb), .second, .val (.ref b16), .val (.double (FP.ddiv (FP.dmul (FP.dmul (FP.l2d (p0.toInt64)) (FP.l2d (ff.toInt64))) (FP.dadd xk (FP.l2d (1 : Int64)))) (FP.dadd (FP.l2d (ff.toInt64)) (FP.dmul xk (FP.dadd (FP.dsub (FP.l2d (1 : Int64)) xb) (FP.ddiv (FP.dmul xb (FP.l2d (ln.toInt64))) (FP.l2d (aa.toInt64)))))))), .second, .unset, .unset, .unset, .unset, .unset, .unset] [])) rfl (hb hby at_101) _ ?_
      show Steps p.tables e below (T29.setTop (mkF m 104 #[.val (.int p0), .val (.int p1), .val (.int p2), .val (.int p3), .val (.int p4), .val (.int p5), .val (.int kk), .val (.int jj), .val (.int ff), .val (.int ln), .val (.int aa), .val (.double xk), .second, .val (.double xb), .second, .val (.ref b16), .val (.double (FP.ddiv (FP.dmul (FP.dmul (FP.l2d (p0.toInt64)) (FP.l2d (ff.toInt64))) (FP.dadd xk (FP.l2d (1 : Int64)))) (FP.dadd (FP.l2d (ff.toInt64)) (FP.dmul xk (FP.dadd (FP.dsub (FP.l2d (1 : Int64)) xb) (FP.ddiv (FP.dmul xb (FP.l2d (ln.toInt64))) (FP.l2d (aa.toInt64)))))))), .second, .unset, .unset, .unset, .unset, .unset, .unset] [(.long (32 : Int64))])) _
      refine XS.iloadN X29.here hx rfl (hb hby at_104) rfl ?_
      show Steps p.tables e below (T29.setTop (mkF m 105 #[.val (.int p0), .val (.int p1), .val (.int p2), .val (.int p3), .val (.int p4), .val (.int p5), .val (.int kk), .val (.int jj), .val (.int ff), .val (.int ln), .val (.int aa), .val (.double xk), .second, .val (.double xb), .second, .val (.ref b16), .val (.double (FP.ddiv (FP.dmul (FP.dmul (FP.l2d (p0.toInt64)) (FP.l2d (ff.toInt64))) (FP.dadd xk (FP.l2d (1 : Int64)))) (FP.dadd (FP.l2d (ff.toInt64)) (FP.dmul xk (FP.dadd (FP.dsub (FP.l2d (1 : Int64)) xb) (FP.ddiv (FP.dmul xb (FP.l2d (ln.toInt64))) (FP.l2d (aa.toInt64)))))))), .second, .unset, .unset, .unset, .unset, .unset, .unset] [(.int p0), (.long (32 : Int64))])) _
      refine XS.i2l X29.here hx rfl (hb hby at_105) rfl ?_
      show Steps p.tables e below (T29.setTop (mkF m 106 #[.val (.int p0), .val (.int p1), .val (.int p2), .val (.int p3), .val (.int p4), .val (.int p5), .val (.int kk), .val (.int jj), .val (.int ff), .val (.int ln), .val (.int aa), .val (.double xk), .second, .val (.double xb), .second, .val (.ref b16), .val (.double (FP.ddiv (FP.dmul (FP.dmul (FP.l2d (p0.toInt64)) (FP.l2d (ff.toInt64))) (FP.dadd xk (FP.l2d (1 : Int64)))) (FP.dadd (FP.l2d (ff.toInt64)) (FP.dmul xk (FP.dadd (FP.dsub (FP.l2d (1 : Int64)) xb) (FP.ddiv (FP.dmul xb (FP.l2d (ln.toInt64))) (FP.l2d (aa.toInt64)))))))), .second, .unset, .unset, .unset, .unset, .unset, .unset] [(.long (p0.toInt64)), (.long (32 : Int64))])) _
      refine XS.lmul X29.here hx rfl (hb hby at_106) rfl ?_
      show Steps p.tables e below (T29.setTop (mkF m 107 #[.val (.int p0), .val (.int p1), .val (.int p2), .val (.int p3), .val (.int p4), .val (.int p5), .val (.int kk), .val (.int jj), .val (.int ff), .val (.int ln), .val (.int aa), .val (.double xk), .second, .val (.double xb), .second, .val (.ref b16), .val (.double (FP.ddiv (FP.dmul (FP.dmul (FP.l2d (p0.toInt64)) (FP.l2d (ff.toInt64))) (FP.dadd xk (FP.l2d (1 : Int64)))) (FP.dadd (FP.l2d (ff.toInt64)) (FP.dmul xk (FP.dadd (FP.dsub (FP.l2d (1 : Int64)) xb) (FP.ddiv (FP.dmul xb (FP.l2d (ln.toInt64))) (FP.l2d (aa.toInt64)))))))), .second, .unset, .unset, .unset, .unset, .unset, .unset] [(.long ((32 : Int64) * (p0.toInt64)))])) _
      refine XS.iload X29.here hx rfl (hb hby at_107) rfl ?_
      show Steps p.tables e below (T29.setTop (mkF m 109 #[.val (.int p0), .val (.int p1), .val (.int p2), .val (.int p3), .val (.int p4), .val (.int p5), .val (.int kk), .val (.int jj), .val (.int ff), .val (.int ln), .val (.int aa), .val (.double xk), .second, .val (.double xb), .second, .val (.ref b16), .val (.double (FP.ddiv (FP.dmul (FP.dmul (FP.l2d (p0.toInt64)) (FP.l2d (ff.toInt64))) (FP.dadd xk (FP.l2d (1 : Int64)))) (FP.dadd (FP.l2d (ff.toInt64)) (FP.dmul xk (FP.dadd (FP.dsub (FP.l2d (1 : Int64)) xb) (FP.ddiv (FP.dmul xb (FP.l2d (ln.toInt64))) (FP.l2d (aa.toInt64)))))))), .second, .unset, .unset, .unset, .unset, .unset, .unset] [(.int ff), (.long ((32 : Int64) * (p0.toInt64)))])) _
      refine XS.i2l X29.here hx rfl (hb hby at_109) rfl ?_
      show Steps p.tables e below (T29.setTop (mkF m 110 #[.val (.int p0), .val (.int p1), .val (.int p2), .val (.int p3), .val (.int p4), .val (.int p5), .val (.int kk), .val (.int jj), .val (.int ff), .val (.int ln), .val (.int aa), .val (.double xk), .second, .val (.double xb), .second, .val (.ref b16), .val (.double (FP.ddiv (FP.dmul (FP.dmul (FP.l2d (p0.toInt64)) (FP.l2d (ff.toInt64))) (FP.dadd xk (FP.l2d (1 : Int64)))) (FP.dadd (FP.l2d (ff.toInt64)) (FP.dmul xk (FP.dadd (FP.dsub (FP.l2d (1 : Int64)) xb) (FP.ddiv (FP.dmul xb (FP.l2d (ln.toInt64))) (FP.l2d (aa.toInt64)))))))), .second, .unset, .unset, .unset, .unset, .unset, .unset] [(.long (ff.toInt64)), (.long ((32 : Int64) * (p0.toInt64)))])) _
      refine XS.lmul X29.here hx rfl (hb hby at_110) rfl ?_
      show Steps p.tables e below (T29.setTop (mkF m 111 #[.val (.int p0), .val (.int p1), .val (.int p2), .val (.int p3), .val (.int p4), .val (.int p5), .val (.int kk), .val (.int jj), .val (.int ff), .val (.int ln), .val (.int aa), .val (.double xk), .second, .val (.double xb), .second, .val (.ref b16), .val (.double (FP.ddiv (FP.dmul (FP.dmul (FP.l2d (p0.toInt64)) (FP.l2d (ff.toInt64))) (FP.dadd xk (FP.l2d (1 : Int64)))) (FP.dadd (FP.l2d (ff.toInt64)) (FP.dmul xk (FP.dadd (FP.dsub (FP.l2d (1 : Int64)) xb) (FP.ddiv (FP.dmul xb (FP.l2d (ln.toInt64))) (FP.l2d (aa.toInt64)))))))), .second, .unset, .unset, .unset, .unset, .unset, .unset] [(.long (((32 : Int64) * (p0.toInt64)) * (ff.toInt64)))])) _
      refine XS.iload X29.here hx rfl (hb hby at_111) rfl ?_
      show Steps p.tables e below (T29.setTop (mkF m 113 #[.val (.int p0), .val (.int p1), .val (.int p2), .val (.int p3), .val (.int p4), .val (.int p5), .val (.int kk), .val (.int jj), .val (.int ff), .val (.int ln), .val (.int aa), .val (.double xk), .second, .val (.double xb), .second, .val (.ref b16), .val (.double (FP.ddiv (FP.dmul (FP.dmul (FP.l2d (p0.toInt64)) (FP.l2d (ff.toInt64))) (FP.dadd xk (FP.l2d (1 : Int64)))) (FP.dadd (FP.l2d (ff.toInt64)) (FP.dmul xk (FP.dadd (FP.dsub (FP.l2d (1 : Int64)) xb) (FP.ddiv (FP.dmul xb (FP.l2d (ln.toInt64))) (FP.l2d (aa.toInt64)))))))), .second, .unset, .unset, .unset, .unset, .unset, .unset] [(.int kk), (.long (((32 : Int64) * (p0.toInt64)) * (ff.toInt64)))])) _
      refine XS.iconst X29.here hx rfl (hb hby at_113) ?_
      show Steps p.tables e below (T29.setTop (mkF m 114 #[.val (.int p0), .val (.int p1), .val (.int p2), .val (.int p3), .val (.int p4), .val (.int p5), .val (.int kk), .val (.int jj), .val (.int ff), .val (.int ln), .val (.int aa), .val (.double xk), .second, .val (.double xb), .second, .val (.ref b16), .val (.double (FP.ddiv (FP.dmul (FP.dmul (FP.l2d (p0.toInt64)) (FP.l2d (ff.toInt64))) (FP.dadd xk (FP.l2d (1 : Int64)))) (FP.dadd (FP.l2d (ff.toInt64)) (FP.dmul xk (FP.dadd (FP.dsub (FP.l2d (1 : Int64)) xb) (FP.ddiv (FP.dmul xb (FP.l2d (ln.toInt64))) (FP.l2d (aa.toInt64)))))))), .second, .unset, .unset, .unset, .unset, .unset, .unset] [(.int (4 : Int32)), (.int kk), (.long (((32 : Int64) * (p0.toInt64)) * (ff.toInt64)))])) _
      refine XS.iadd X29.here hx rfl (hb hby at_114) rfl ?_
      show Steps p.tables e below (T29.setTop (mkF m 115 #[.val (.int p0), .val (.int p1), .val (.int p2), .val (.int p3), .val (.int p4), .val (.int p5), .val (.int kk), .val (.int jj), .val (.int ff), .val (.int ln), .val (.int aa), .val (.double xk), .second, .val (.double xb), .second, .val (.ref b16), .val (.double (FP.ddiv (FP.dmul (FP.dmul (FP.l2d (p0.toInt64)) (FP.l2d (ff.toInt64))) (FP.dadd xk (FP.l2d (1 : Int64)))) (FP.dadd (FP.l2d (ff.toInt64)) (FP.dmul xk (FP.dadd (FP.dsub (FP.l2d (1 : Int64)) xb) (FP.ddiv (FP.dmul xb (FP.l2d (ln.toInt64))) (FP.l2d (aa.toInt64)))))))), .second, .unset, .unset, .unset, .unset, .unset, .unset] [(.int (kk + (4 : Int32))), (.long (((32 : Int64) * (p0.toInt64)) * (ff.toInt64)))])) _
      refine XS.i2l X29.here hx rfl (hb hby at_115) rfl ?_
      show Steps p.tables e below (T29.setTop (mkF m 116 #[.val (.int p0), .val (.int p1), .val (.int p2), .val (.int p3), .val (.int p4), .val (.int p5), .val (.int kk), .val (.int jj), .val (.int ff), .val (.int ln), .val (.int aa), .val (.double xk), .second, .val (.double xb), .second, .val (.ref b16), .val (.double (FP.ddiv (FP.dmul (FP.dmul (FP.l2d (p0.toInt64)) (FP.l2d (ff.toInt64))) (FP.dadd xk (FP.l2d (1 : Int64)))) (FP.dadd (FP.l2d (ff.toInt64)) (FP.dmul xk (FP.dadd (FP.dsub (FP.l2d (1 : Int64)) xb) (FP.ddiv (FP.dmul xb (FP.l2d (ln.toInt64))) (FP.l2d (aa.toInt64)))))))), .second, .unset, .unset, .unset, .unset, .unset, .unset] [(.long ((kk + (4 : Int32)).toInt64)), (.long (((32 : Int64) * (p0.toInt64)) * (ff.toInt64)))])) _
      refine XS.lmul X29.here hx rfl (hb hby at_116) rfl ?_
      show Steps p.tables e below (T29.setTop (mkF m 117 #[.val (.int p0), .val (.int p1), .val (.int p2), .val (.int p3), .val (.int p4), .val (.int p5), .val (.int kk), .val (.int jj), .val (.int ff), .val (.int ln), .val (.int aa), .val (.double xk), .second, .val (.double xb), .second, .val (.ref b16), .val (.double (FP.ddiv (FP.dmul (FP.dmul (FP.l2d (p0.toInt64)) (FP.l2d (ff.toInt64))) (FP.dadd xk (FP.l2d (1 : Int64)))) (FP.dadd (FP.l2d (ff.toInt64)) (FP.dmul xk (FP.dadd (FP.dsub (FP.l2d (1 : Int64)) xb) (FP.ddiv (FP.dmul xb (FP.l2d (ln.toInt64))) (FP.l2d (aa.toInt64)))))))), .second, .unset, .unset, .unset, .unset, .unset, .unset] [(.long ((((32 : Int64) * (p0.toInt64)) * (ff.toInt64)) * ((kk + (4 : Int32)).toInt64)))])) _
      refine XS.lstore X29.here hx rfl (hb hby at_117) rfl (l' := #[.val (.int p0), .val (.int p1), .val (.int p2), .val (.int p3), .val (.int p4), .val (.int p5), .val (.int kk), .val (.int jj), .val (.int ff), .val (.int ln), .val (.int aa), .val (.double xk), .second, .val (.double xb), .second, .val (.ref b16), .val (.double (FP.ddiv (FP.dmul (FP.dmul (FP.l2d (p0.toInt64)) (FP.l2d (ff.toInt64))) (FP.dadd xk (FP.l2d (1 : Int64)))) (FP.dadd (FP.l2d (ff.toInt64)) (FP.dmul xk (FP.dadd (FP.dsub (FP.l2d (1 : Int64)) xb) (FP.ddiv (FP.dmul xb (FP.l2d (ln.toInt64))) (FP.l2d (aa.toInt64)))))))), .second, .val (.long ((((32 : Int64) * (p0.toInt64)) * (ff.toInt64)) * ((kk + (4 : Int32)).toInt64))), .second, .unset, .unset, .unset, .unset]) rfl ?_
      show Steps p.tables e below (T29.setTop (mkF m 119 #[.val (.int p0), .val (.int p1), .val (.int p2), .val (.int p3), .val (.int p4), .val (.int p5), .val (.int kk), .val (.int jj), .val (.int ff), .val (.int ln), .val (.int aa), .val (.double xk), .second, .val (.double xb), .second, .val (.ref b16), .val (.double (FP.ddiv (FP.dmul (FP.dmul (FP.l2d (p0.toInt64)) (FP.l2d (ff.toInt64))) (FP.dadd xk (FP.l2d (1 : Int64)))) (FP.dadd (FP.l2d (ff.toInt64)) (FP.dmul xk (FP.dadd (FP.dsub (FP.l2d (1 : Int64)) xb) (FP.ddiv (FP.dmul xb (FP.l2d (ln.toInt64))) (FP.l2d (aa.toInt64)))))))), .second, .val (.long ((((32 : Int64) * (p0.toInt64)) * (ff.toInt64)) * ((kk + (4 : Int32)).toInt64))), .second, .unset, .unset, .unset, .unset] [])) _
      refine X29.ldc2Long hx hown (mvT hZ (hw _ (List.mem_of_getElem? (i := 27) rfl))) (g := (mkF m 119 #[.val (.int p0), .val (.int p1), .val (.int p2), .val (.int p3), .val (.int p4), .val (.int p5), .val (.int kk), .val (.int jj), .val (.int ff), .val (.int ln), .val (.int aa), .val (.double xk), .second, .val (.double xb), .second, .val (.ref b16), .val (.double (FP.ddiv (FP.dmul (FP.dmul (FP.l2d (p0.toInt64)) (FP.l2d (ff.toInt64))) (FP.dadd xk (FP.l2d (1 : Int64)))) (FP.dadd (FP.l2d (ff.toInt64)) (FP.dmul xk (FP.dadd (FP.dsub (FP.l2d (1 : Int64)) xb) (FP.ddiv (FP.dmul xb (FP.l2d (ln.toInt64))) (FP.l2d (aa.toInt64)))))))), .second, .val (.long ((((32 : Int64) * (p0.toInt64)) * (ff.toInt64)) * ((kk + (4 : Int32)).toInt64))), .second, .unset, .unset, .unset, .unset] [])) rfl (hb hby at_119) _ ?_
      show Steps p.tables e below (T29.setTop (mkF m 122 #[.val (.int p0), .val (.int p1), .val (.int p2), .val (.int p3), .val (.int p4), .val (.int p5), .val (.int kk), .val (.int jj), .val (.int ff), .val (.int ln), .val (.int aa), .val (.double xk), .second, .val (.double xb), .second, .val (.ref b16), .val (.double (FP.ddiv (FP.dmul (FP.dmul (FP.l2d (p0.toInt64)) (FP.l2d (ff.toInt64))) (FP.dadd xk (FP.l2d (1 : Int64)))) (FP.dadd (FP.l2d (ff.toInt64)) (FP.dmul xk (FP.dadd (FP.dsub (FP.l2d (1 : Int64)) xb) (FP.ddiv (FP.dmul xb (FP.l2d (ln.toInt64))) (FP.l2d (aa.toInt64)))))))), .second, .val (.long ((((32 : Int64) * (p0.toInt64)) * (ff.toInt64)) * ((kk + (4 : Int32)).toInt64))), .second, .unset, .unset, .unset, .unset] [(.long (128 : Int64))])) _
      refine XS.iload X29.here hx rfl (hb hby at_122) rfl ?_
      show Steps p.tables e below (T29.setTop (mkF m 124 #[.val (.int p0), .val (.int p1), .val (.int p2), .val (.int p3), .val (.int p4), .val (.int p5), .val (.int kk), .val (.int jj), .val (.int ff), .val (.int ln), .val (.int aa), .val (.double xk), .second, .val (.double xb), .second, .val (.ref b16), .val (.double (FP.ddiv (FP.dmul (FP.dmul (FP.l2d (p0.toInt64)) (FP.l2d (ff.toInt64))) (FP.dadd xk (FP.l2d (1 : Int64)))) (FP.dadd (FP.l2d (ff.toInt64)) (FP.dmul xk (FP.dadd (FP.dsub (FP.l2d (1 : Int64)) xb) (FP.ddiv (FP.dmul xb (FP.l2d (ln.toInt64))) (FP.l2d (aa.toInt64)))))))), .second, .val (.long ((((32 : Int64) * (p0.toInt64)) * (ff.toInt64)) * ((kk + (4 : Int32)).toInt64))), .second, .unset, .unset, .unset, .unset] [(.int ff), (.long (128 : Int64))])) _
      refine XS.i2l X29.here hx rfl (hb hby at_124) rfl ?_
      show Steps p.tables e below (T29.setTop (mkF m 125 #[.val (.int p0), .val (.int p1), .val (.int p2), .val (.int p3), .val (.int p4), .val (.int p5), .val (.int kk), .val (.int jj), .val (.int ff), .val (.int ln), .val (.int aa), .val (.double xk), .second, .val (.double xb), .second, .val (.ref b16), .val (.double (FP.ddiv (FP.dmul (FP.dmul (FP.l2d (p0.toInt64)) (FP.l2d (ff.toInt64))) (FP.dadd xk (FP.l2d (1 : Int64)))) (FP.dadd (FP.l2d (ff.toInt64)) (FP.dmul xk (FP.dadd (FP.dsub (FP.l2d (1 : Int64)) xb) (FP.ddiv (FP.dmul xb (FP.l2d (ln.toInt64))) (FP.l2d (aa.toInt64)))))))), .second, .val (.long ((((32 : Int64) * (p0.toInt64)) * (ff.toInt64)) * ((kk + (4 : Int32)).toInt64))), .second, .unset, .unset, .unset, .unset] [(.long (ff.toInt64)), (.long (128 : Int64))])) _
      refine XS.lmul X29.here hx rfl (hb hby at_125) rfl ?_
      show Steps p.tables e below (T29.setTop (mkF m 126 #[.val (.int p0), .val (.int p1), .val (.int p2), .val (.int p3), .val (.int p4), .val (.int p5), .val (.int kk), .val (.int jj), .val (.int ff), .val (.int ln), .val (.int aa), .val (.double xk), .second, .val (.double xb), .second, .val (.ref b16), .val (.double (FP.ddiv (FP.dmul (FP.dmul (FP.l2d (p0.toInt64)) (FP.l2d (ff.toInt64))) (FP.dadd xk (FP.l2d (1 : Int64)))) (FP.dadd (FP.l2d (ff.toInt64)) (FP.dmul xk (FP.dadd (FP.dsub (FP.l2d (1 : Int64)) xb) (FP.ddiv (FP.dmul xb (FP.l2d (ln.toInt64))) (FP.l2d (aa.toInt64)))))))), .second, .val (.long ((((32 : Int64) * (p0.toInt64)) * (ff.toInt64)) * ((kk + (4 : Int32)).toInt64))), .second, .unset, .unset, .unset, .unset] [(.long ((128 : Int64) * (ff.toInt64)))])) _
      refine XS.iload X29.here hx rfl (hb hby at_126) rfl ?_
      show Steps p.tables e below (T29.setTop (mkF m 128 #[.val (.int p0), .val (.int p1), .val (.int p2), .val (.int p3), .val (.int p4), .val (.int p5), .val (.int kk), .val (.int jj), .val (.int ff), .val (.int ln), .val (.int aa), .val (.double xk), .second, .val (.double xb), .second, .val (.ref b16), .val (.double (FP.ddiv (FP.dmul (FP.dmul (FP.l2d (p0.toInt64)) (FP.l2d (ff.toInt64))) (FP.dadd xk (FP.l2d (1 : Int64)))) (FP.dadd (FP.l2d (ff.toInt64)) (FP.dmul xk (FP.dadd (FP.dsub (FP.l2d (1 : Int64)) xb) (FP.ddiv (FP.dmul xb (FP.l2d (ln.toInt64))) (FP.l2d (aa.toInt64)))))))), .second, .val (.long ((((32 : Int64) * (p0.toInt64)) * (ff.toInt64)) * ((kk + (4 : Int32)).toInt64))), .second, .unset, .unset, .unset, .unset] [(.int kk), (.long ((128 : Int64) * (ff.toInt64)))])) _
      refine XS.i2l X29.here hx rfl (hb hby at_128) rfl ?_
      show Steps p.tables e below (T29.setTop (mkF m 129 #[.val (.int p0), .val (.int p1), .val (.int p2), .val (.int p3), .val (.int p4), .val (.int p5), .val (.int kk), .val (.int jj), .val (.int ff), .val (.int ln), .val (.int aa), .val (.double xk), .second, .val (.double xb), .second, .val (.ref b16), .val (.double (FP.ddiv (FP.dmul (FP.dmul (FP.l2d (p0.toInt64)) (FP.l2d (ff.toInt64))) (FP.dadd xk (FP.l2d (1 : Int64)))) (FP.dadd (FP.l2d (ff.toInt64)) (FP.dmul xk (FP.dadd (FP.dsub (FP.l2d (1 : Int64)) xb) (FP.ddiv (FP.dmul xb (FP.l2d (ln.toInt64))) (FP.l2d (aa.toInt64)))))))), .second, .val (.long ((((32 : Int64) * (p0.toInt64)) * (ff.toInt64)) * ((kk + (4 : Int32)).toInt64))), .second, .unset, .unset, .unset, .unset] [(.long (kk.toInt64)), (.long ((128 : Int64) * (ff.toInt64)))])) _
      refine XS.bipush X29.here hx rfl (hb hby at_129) ?_
      show Steps p.tables e below (T29.setTop (mkF m 131 #[.val (.int p0), .val (.int p1), .val (.int p2), .val (.int p3), .val (.int p4), .val (.int p5), .val (.int kk), .val (.int jj), .val (.int ff), .val (.int ln), .val (.int aa), .val (.double xk), .second, .val (.double xb), .second, .val (.ref b16), .val (.double (FP.ddiv (FP.dmul (FP.dmul (FP.l2d (p0.toInt64)) (FP.l2d (ff.toInt64))) (FP.dadd xk (FP.l2d (1 : Int64)))) (FP.dadd (FP.l2d (ff.toInt64)) (FP.dmul xk (FP.dadd (FP.dsub (FP.l2d (1 : Int64)) xb) (FP.ddiv (FP.dmul xb (FP.l2d (ln.toInt64))) (FP.l2d (aa.toInt64)))))))), .second, .val (.long ((((32 : Int64) * (p0.toInt64)) * (ff.toInt64)) * ((kk + (4 : Int32)).toInt64))), .second, .unset, .unset, .unset, .unset] [(.int (32 : Int32)), (.long (kk.toInt64)), (.long ((128 : Int64) * (ff.toInt64)))])) _
      refine XS.bipush X29.here hx rfl (hb hby at_131) ?_
      show Steps p.tables e below (T29.setTop (mkF m 133 #[.val (.int p0), .val (.int p1), .val (.int p2), .val (.int p3), .val (.int p4), .val (.int p5), .val (.int kk), .val (.int jj), .val (.int ff), .val (.int ln), .val (.int aa), .val (.double xk), .second, .val (.double xb), .second, .val (.ref b16), .val (.double (FP.ddiv (FP.dmul (FP.dmul (FP.l2d (p0.toInt64)) (FP.l2d (ff.toInt64))) (FP.dadd xk (FP.l2d (1 : Int64)))) (FP.dadd (FP.l2d (ff.toInt64)) (FP.dmul xk (FP.dadd (FP.dsub (FP.l2d (1 : Int64)) xb) (FP.ddiv (FP.dmul xb (FP.l2d (ln.toInt64))) (FP.l2d (aa.toInt64)))))))), .second, .val (.long ((((32 : Int64) * (p0.toInt64)) * (ff.toInt64)) * ((kk + (4 : Int32)).toInt64))), .second, .unset, .unset, .unset, .unset] [(.int (8 : Int32)), (.int (32 : Int32)), (.long (kk.toInt64)), (.long ((128 : Int64) * (ff.toInt64)))])) _
      refine XS.iload X29.here hx rfl (hb hby at_133) rfl ?_
      show Steps p.tables e below (T29.setTop (mkF m 135 #[.val (.int p0), .val (.int p1), .val (.int p2), .val (.int p3), .val (.int p4), .val (.int p5), .val (.int kk), .val (.int jj), .val (.int ff), .val (.int ln), .val (.int aa), .val (.double xk), .second, .val (.double xb), .second, .val (.ref b16), .val (.double (FP.ddiv (FP.dmul (FP.dmul (FP.l2d (p0.toInt64)) (FP.l2d (ff.toInt64))) (FP.dadd xk (FP.l2d (1 : Int64)))) (FP.dadd (FP.l2d (ff.toInt64)) (FP.dmul xk (FP.dadd (FP.dsub (FP.l2d (1 : Int64)) xb) (FP.ddiv (FP.dmul xb (FP.l2d (ln.toInt64))) (FP.l2d (aa.toInt64)))))))), .second, .val (.long ((((32 : Int64) * (p0.toInt64)) * (ff.toInt64)) * ((kk + (4 : Int32)).toInt64))), .second, .unset, .unset, .unset, .unset] [(.int jj), (.int (8 : Int32)), (.int (32 : Int32)), (.long (kk.toInt64)), (.long ((128 : Int64) * (ff.toInt64)))])) _
      refine XS.imul X29.here hx rfl (hb hby at_135) rfl ?_
      show Steps p.tables e below (T29.setTop (mkF m 136 #[.val (.int p0), .val (.int p1), .val (.int p2), .val (.int p3), .val (.int p4), .val (.int p5), .val (.int kk), .val (.int jj), .val (.int ff), .val (.int ln), .val (.int aa), .val (.double xk), .second, .val (.double xb), .second, .val (.ref b16), .val (.double (FP.ddiv (FP.dmul (FP.dmul (FP.l2d (p0.toInt64)) (FP.l2d (ff.toInt64))) (FP.dadd xk (FP.l2d (1 : Int64)))) (FP.dadd (FP.l2d (ff.toInt64)) (FP.dmul xk (FP.dadd (FP.dsub (FP.l2d (1 : Int64)) xb) (FP.ddiv (FP.dmul xb (FP.l2d (ln.toInt64))) (FP.l2d (aa.toInt64)))))))), .second, .val (.long ((((32 : Int64) * (p0.toInt64)) * (ff.toInt64)) * ((kk + (4 : Int32)).toInt64))), .second, .unset, .unset, .unset, .unset] [(.int ((8 : Int32) * jj)), (.int (32 : Int32)), (.long (kk.toInt64)), (.long ((128 : Int64) * (ff.toInt64)))])) _
      refine XS.isub X29.here hx rfl (hb hby at_136) rfl ?_
      show Steps p.tables e below (T29.setTop (mkF m 137 #[.val (.int p0), .val (.int p1), .val (.int p2), .val (.int p3), .val (.int p4), .val (.int p5), .val (.int kk), .val (.int jj), .val (.int ff), .val (.int ln), .val (.int aa), .val (.double xk), .second, .val (.double xb), .second, .val (.ref b16), .val (.double (FP.ddiv (FP.dmul (FP.dmul (FP.l2d (p0.toInt64)) (FP.l2d (ff.toInt64))) (FP.dadd xk (FP.l2d (1 : Int64)))) (FP.dadd (FP.l2d (ff.toInt64)) (FP.dmul xk (FP.dadd (FP.dsub (FP.l2d (1 : Int64)) xb) (FP.ddiv (FP.dmul xb (FP.l2d (ln.toInt64))) (FP.l2d (aa.toInt64)))))))), .second, .val (.long ((((32 : Int64) * (p0.toInt64)) * (ff.toInt64)) * ((kk + (4 : Int32)).toInt64))), .second, .unset, .unset, .unset, .unset] [(.int ((32 : Int32) - ((8 : Int32) * jj))), (.long (kk.toInt64)), (.long ((128 : Int64) * (ff.toInt64)))])) _
      refine XS.i2l X29.here hx rfl (hb hby at_137) rfl ?_
      show Steps p.tables e below (T29.setTop (mkF m 138 #[.val (.int p0), .val (.int p1), .val (.int p2), .val (.int p3), .val (.int p4), .val (.int p5), .val (.int kk), .val (.int jj), .val (.int ff), .val (.int ln), .val (.int aa), .val (.double xk), .second, .val (.double xb), .second, .val (.ref b16), .val (.double (FP.ddiv (FP.dmul (FP.dmul (FP.l2d (p0.toInt64)) (FP.l2d (ff.toInt64))) (FP.dadd xk (FP.l2d (1 : Int64)))) (FP.dadd (FP.l2d (ff.toInt64)) (FP.dmul xk (FP.dadd (FP.dsub (FP.l2d (1 : Int64)) xb) (FP.ddiv (FP.dmul xb (FP.l2d (ln.toInt64))) (FP.l2d (aa.toInt64)))))))), .second, .val (.long ((((32 : Int64) * (p0.toInt64)) * (ff.toInt64)) * ((kk + (4 : Int32)).toInt64))), .second, .unset, .unset, .unset, .unset] [(.long (((32 : Int32) - ((8 : Int32) * jj)).toInt64)), (.long (kk.toInt64)), (.long ((128 : Int64) * (ff.toInt64)))])) _
      refine XS.lmul X29.here hx rfl (hb hby at_138) rfl ?_
      show Steps p.tables e below (T29.setTop (mkF m 139 #[.val (.int p0), .val (.int p1), .val (.int p2), .val (.int p3), .val (.int p4), .val (.int p5), .val (.int kk), .val (.int jj), .val (.int ff), .val (.int ln), .val (.int aa), .val (.double xk), .second, .val (.double xb), .second, .val (.ref b16), .val (.double (FP.ddiv (FP.dmul (FP.dmul (FP.l2d (p0.toInt64)) (FP.l2d (ff.toInt64))) (FP.dadd xk (FP.l2d (1 : Int64)))) (FP.dadd (FP.l2d (ff.toInt64)) (FP.dmul xk (FP.dadd (FP.dsub (FP.l2d (1 : Int64)) xb) (FP.ddiv (FP.dmul xb (FP.l2d (ln.toInt64))) (FP.l2d (aa.toInt64)))))))), .second, .val (.long ((((32 : Int64) * (p0.toInt64)) * (ff.toInt64)) * ((kk + (4 : Int32)).toInt64))), .second, .unset, .unset, .unset, .unset] [(.long ((kk.toInt64) * (((32 : Int32) - ((8 : Int32) * jj)).toInt64))), (.long ((128 : Int64) * (ff.toInt64)))])) _
      refine XS.ladd X29.here hx rfl (hb hby at_139) rfl ?_
      show Steps p.tables e below (T29.setTop (mkF m 140 #[.val (.int p0), .val (.int p1), .val (.int p2), .val (.int p3), .val (.int p4), .val (.int p5), .val (.int kk), .val (.int jj), .val (.int ff), .val (.int ln), .val (.int aa), .val (.double xk), .second, .val (.double xb), .second, .val (.ref b16), .val (.double (FP.ddiv (FP.dmul (FP.dmul (FP.l2d (p0.toInt64)) (FP.l2d (ff.toInt64))) (FP.dadd xk (FP.l2d (1 : Int64)))) (FP.dadd (FP.l2d (ff.toInt64)) (FP.dmul xk (FP.dadd (FP.dsub (FP.l2d (1 : Int64)) xb) (FP.ddiv (FP.dmul xb (FP.l2d (ln.toInt64))) (FP.l2d (aa.toInt64)))))))), .second, .val (.long ((((32 : Int64) * (p0.toInt64)) * (ff.toInt64)) * ((kk + (4 : Int32)).toInt64))), .second, .unset, .unset, .unset, .unset] [(.long (((128 : Int64) * (ff.toInt64)) + ((kk.toInt64) * (((32 : Int32) - ((8 : Int32) * jj)).toInt64))))])) _
      refine XS.iload X29.here hx rfl (hb hby at_140) rfl ?_
      show Steps p.tables e below (T29.setTop (mkF m 142 #[.val (.int p0), .val (.int p1), .val (.int p2), .val (.int p3), .val (.int p4), .val (.int p5), .val (.int kk), .val (.int jj), .val (.int ff), .val (.int ln), .val (.int aa), .val (.double xk), .second, .val (.double xb), .second, .val (.ref b16), .val (.double (FP.ddiv (FP.dmul (FP.dmul (FP.l2d (p0.toInt64)) (FP.l2d (ff.toInt64))) (FP.dadd xk (FP.l2d (1 : Int64)))) (FP.dadd (FP.l2d (ff.toInt64)) (FP.dmul xk (FP.dadd (FP.dsub (FP.l2d (1 : Int64)) xb) (FP.ddiv (FP.dmul xb (FP.l2d (ln.toInt64))) (FP.l2d (aa.toInt64)))))))), .second, .val (.long ((((32 : Int64) * (p0.toInt64)) * (ff.toInt64)) * ((kk + (4 : Int32)).toInt64))), .second, .unset, .unset, .unset, .unset] [(.int kk), (.long (((128 : Int64) * (ff.toInt64)) + ((kk.toInt64) * (((32 : Int32) - ((8 : Int32) * jj)).toInt64))))])) _
      refine XS.i2l X29.here hx rfl (hb hby at_142) rfl ?_
      show Steps p.tables e below (T29.setTop (mkF m 143 #[.val (.int p0), .val (.int p1), .val (.int p2), .val (.int p3), .val (.int p4), .val (.int p5), .val (.int kk), .val (.int jj), .val (.int ff), .val (.int ln), .val (.int aa), .val (.double xk), .second, .val (.double xb), .second, .val (.ref b16), .val (.double (FP.ddiv (FP.dmul (FP.dmul (FP.l2d (p0.toInt64)) (FP.l2d (ff.toInt64))) (FP.dadd xk (FP.l2d (1 : Int64)))) (FP.dadd (FP.l2d (ff.toInt64)) (FP.dmul xk (FP.dadd (FP.dsub (FP.l2d (1 : Int64)) xb) (FP.ddiv (FP.dmul xb (FP.l2d (ln.toInt64))) (FP.l2d (aa.toInt64)))))))), .second, .val (.long ((((32 : Int64) * (p0.toInt64)) * (ff.toInt64)) * ((kk + (4 : Int32)).toInt64))), .second, .unset, .unset, .unset, .unset] [(.long (kk.toInt64)), (.long (((128 : Int64) * (ff.toInt64)) + ((kk.toInt64) * (((32 : Int32) - ((8 : Int32) * jj)).toInt64))))])) _
      refine XS.bipush X29.here hx rfl (hb hby at_143) ?_
      show Steps p.tables e below (T29.setTop (mkF m 145 #[.val (.int p0), .val (.int p1), .val (.int p2), .val (.int p3), .val (.int p4), .val (.int p5), .val (.int kk), .val (.int jj), .val (.int ff), .val (.int ln), .val (.int aa), .val (.double xk), .second, .val (.double xb), .second, .val (.ref b16), .val (.double (FP.ddiv (FP.dmul (FP.dmul (FP.l2d (p0.toInt64)) (FP.l2d (ff.toInt64))) (FP.dadd xk (FP.l2d (1 : Int64)))) (FP.dadd (FP.l2d (ff.toInt64)) (FP.dmul xk (FP.dadd (FP.dsub (FP.l2d (1 : Int64)) xb) (FP.ddiv (FP.dmul xb (FP.l2d (ln.toInt64))) (FP.l2d (aa.toInt64)))))))), .second, .val (.long ((((32 : Int64) * (p0.toInt64)) * (ff.toInt64)) * ((kk + (4 : Int32)).toInt64))), .second, .unset, .unset, .unset, .unset] [(.int (8 : Int32)), (.long (kk.toInt64)), (.long (((128 : Int64) * (ff.toInt64)) + ((kk.toInt64) * (((32 : Int32) - ((8 : Int32) * jj)).toInt64))))])) _
      refine XS.iload X29.here hx rfl (hb hby at_145) rfl ?_
      show Steps p.tables e below (T29.setTop (mkF m 147 #[.val (.int p0), .val (.int p1), .val (.int p2), .val (.int p3), .val (.int p4), .val (.int p5), .val (.int kk), .val (.int jj), .val (.int ff), .val (.int ln), .val (.int aa), .val (.double xk), .second, .val (.double xb), .second, .val (.ref b16), .val (.double (FP.ddiv (FP.dmul (FP.dmul (FP.l2d (p0.toInt64)) (FP.l2d (ff.toInt64))) (FP.dadd xk (FP.l2d (1 : Int64)))) (FP.dadd (FP.l2d (ff.toInt64)) (FP.dmul xk (FP.dadd (FP.dsub (FP.l2d (1 : Int64)) xb) (FP.ddiv (FP.dmul xb (FP.l2d (ln.toInt64))) (FP.l2d (aa.toInt64)))))))), .second, .val (.long ((((32 : Int64) * (p0.toInt64)) * (ff.toInt64)) * ((kk + (4 : Int32)).toInt64))), .second, .unset, .unset, .unset, .unset] [(.int aa), (.int (8 : Int32)), (.long (kk.toInt64)), (.long (((128 : Int64) * (ff.toInt64)) + ((kk.toInt64) * (((32 : Int32) - ((8 : Int32) * jj)).toInt64))))])) _
      refine XS.idiv X29.here hx rfl (hb hby at_147) rfl (own_ane hi ha) ?_
      show Steps p.tables e below (T29.setTop (mkF m 148 #[.val (.int p0), .val (.int p1), .val (.int p2), .val (.int p3), .val (.int p4), .val (.int p5), .val (.int kk), .val (.int jj), .val (.int ff), .val (.int ln), .val (.int aa), .val (.double xk), .second, .val (.double xb), .second, .val (.ref b16), .val (.double (FP.ddiv (FP.dmul (FP.dmul (FP.l2d (p0.toInt64)) (FP.l2d (ff.toInt64))) (FP.dadd xk (FP.l2d (1 : Int64)))) (FP.dadd (FP.l2d (ff.toInt64)) (FP.dmul xk (FP.dadd (FP.dsub (FP.l2d (1 : Int64)) xb) (FP.ddiv (FP.dmul xb (FP.l2d (ln.toInt64))) (FP.l2d (aa.toInt64)))))))), .second, .val (.long ((((32 : Int64) * (p0.toInt64)) * (ff.toInt64)) * ((kk + (4 : Int32)).toInt64))), .second, .unset, .unset, .unset, .unset] [(.int ((8 : Int32) / aa)), (.long (kk.toInt64)), (.long (((128 : Int64) * (ff.toInt64)) + ((kk.toInt64) * (((32 : Int32) - ((8 : Int32) * jj)).toInt64))))])) _
      refine XS.i2l X29.here hx rfl (hb hby at_148) rfl ?_
      show Steps p.tables e below (T29.setTop (mkF m 149 #[.val (.int p0), .val (.int p1), .val (.int p2), .val (.int p3), .val (.int p4), .val (.int p5), .val (.int kk), .val (.int jj), .val (.int ff), .val (.int ln), .val (.int aa), .val (.double xk), .second, .val (.double xb), .second, .val (.ref b16), .val (.double (FP.ddiv (FP.dmul (FP.dmul (FP.l2d (p0.toInt64)) (FP.l2d (ff.toInt64))) (FP.dadd xk (FP.l2d (1 : Int64)))) (FP.dadd (FP.l2d (ff.toInt64)) (FP.dmul xk (FP.dadd (FP.dsub (FP.l2d (1 : Int64)) xb) (FP.ddiv (FP.dmul xb (FP.l2d (ln.toInt64))) (FP.l2d (aa.toInt64)))))))), .second, .val (.long ((((32 : Int64) * (p0.toInt64)) * (ff.toInt64)) * ((kk + (4 : Int32)).toInt64))), .second, .unset, .unset, .unset, .unset] [(.long (((8 : Int32) / aa).toInt64)), (.long (kk.toInt64)), (.long (((128 : Int64) * (ff.toInt64)) + ((kk.toInt64) * (((32 : Int32) - ((8 : Int32) * jj)).toInt64))))])) _
      refine XS.lmul X29.here hx rfl (hb hby at_149) rfl ?_
      show Steps p.tables e below (T29.setTop (mkF m 150 #[.val (.int p0), .val (.int p1), .val (.int p2), .val (.int p3), .val (.int p4), .val (.int p5), .val (.int kk), .val (.int jj), .val (.int ff), .val (.int ln), .val (.int aa), .val (.double xk), .second, .val (.double xb), .second, .val (.ref b16), .val (.double (FP.ddiv (FP.dmul (FP.dmul (FP.l2d (p0.toInt64)) (FP.l2d (ff.toInt64))) (FP.dadd xk (FP.l2d (1 : Int64)))) (FP.dadd (FP.l2d (ff.toInt64)) (FP.dmul xk (FP.dadd (FP.dsub (FP.l2d (1 : Int64)) xb) (FP.ddiv (FP.dmul xb (FP.l2d (ln.toInt64))) (FP.l2d (aa.toInt64)))))))), .second, .val (.long ((((32 : Int64) * (p0.toInt64)) * (ff.toInt64)) * ((kk + (4 : Int32)).toInt64))), .second, .unset, .unset, .unset, .unset] [(.long ((kk.toInt64) * (((8 : Int32) / aa).toInt64))), (.long (((128 : Int64) * (ff.toInt64)) + ((kk.toInt64) * (((32 : Int32) - ((8 : Int32) * jj)).toInt64))))])) _
      refine XS.iload X29.here hx rfl (hb hby at_150) rfl ?_
      show Steps p.tables e below (T29.setTop (mkF m 152 #[.val (.int p0), .val (.int p1), .val (.int p2), .val (.int p3), .val (.int p4), .val (.int p5), .val (.int kk), .val (.int jj), .val (.int ff), .val (.int ln), .val (.int aa), .val (.double xk), .second, .val (.double xb), .second, .val (.ref b16), .val (.double (FP.ddiv (FP.dmul (FP.dmul (FP.l2d (p0.toInt64)) (FP.l2d (ff.toInt64))) (FP.dadd xk (FP.l2d (1 : Int64)))) (FP.dadd (FP.l2d (ff.toInt64)) (FP.dmul xk (FP.dadd (FP.dsub (FP.l2d (1 : Int64)) xb) (FP.ddiv (FP.dmul xb (FP.l2d (ln.toInt64))) (FP.l2d (aa.toInt64)))))))), .second, .val (.long ((((32 : Int64) * (p0.toInt64)) * (ff.toInt64)) * ((kk + (4 : Int32)).toInt64))), .second, .unset, .unset, .unset, .unset] [(.int jj), (.long ((kk.toInt64) * (((8 : Int32) / aa).toInt64))), (.long (((128 : Int64) * (ff.toInt64)) + ((kk.toInt64) * (((32 : Int32) - ((8 : Int32) * jj)).toInt64))))])) _
      refine XS.i2l X29.here hx rfl (hb hby at_152) rfl ?_
      show Steps p.tables e below (T29.setTop (mkF m 153 #[.val (.int p0), .val (.int p1), .val (.int p2), .val (.int p3), .val (.int p4), .val (.int p5), .val (.int kk), .val (.int jj), .val (.int ff), .val (.int ln), .val (.int aa), .val (.double xk), .second, .val (.double xb), .second, .val (.ref b16), .val (.double (FP.ddiv (FP.dmul (FP.dmul (FP.l2d (p0.toInt64)) (FP.l2d (ff.toInt64))) (FP.dadd xk (FP.l2d (1 : Int64)))) (FP.dadd (FP.l2d (ff.toInt64)) (FP.dmul xk (FP.dadd (FP.dsub (FP.l2d (1 : Int64)) xb) (FP.ddiv (FP.dmul xb (FP.l2d (ln.toInt64))) (FP.l2d (aa.toInt64)))))))), .second, .val (.long ((((32 : Int64) * (p0.toInt64)) * (ff.toInt64)) * ((kk + (4 : Int32)).toInt64))), .second, .unset, .unset, .unset, .unset] [(.long (jj.toInt64)), (.long ((kk.toInt64) * (((8 : Int32) / aa).toInt64))), (.long (((128 : Int64) * (ff.toInt64)) + ((kk.toInt64) * (((32 : Int32) - ((8 : Int32) * jj)).toInt64))))])) _
      refine XS.lmul X29.here hx rfl (hb hby at_153) rfl ?_
      show Steps p.tables e below (T29.setTop (mkF m 154 #[.val (.int p0), .val (.int p1), .val (.int p2), .val (.int p3), .val (.int p4), .val (.int p5), .val (.int kk), .val (.int jj), .val (.int ff), .val (.int ln), .val (.int aa), .val (.double xk), .second, .val (.double xb), .second, .val (.ref b16), .val (.double (FP.ddiv (FP.dmul (FP.dmul (FP.l2d (p0.toInt64)) (FP.l2d (ff.toInt64))) (FP.dadd xk (FP.l2d (1 : Int64)))) (FP.dadd (FP.l2d (ff.toInt64)) (FP.dmul xk (FP.dadd (FP.dsub (FP.l2d (1 : Int64)) xb) (FP.ddiv (FP.dmul xb (FP.l2d (ln.toInt64))) (FP.l2d (aa.toInt64)))))))), .second, .val (.long ((((32 : Int64) * (p0.toInt64)) * (ff.toInt64)) * ((kk + (4 : Int32)).toInt64))), .second, .unset, .unset, .unset, .unset] [(.long (((kk.toInt64) * (((8 : Int32) / aa).toInt64)) * (jj.toInt64))), (.long (((128 : Int64) * (ff.toInt64)) + ((kk.toInt64) * (((32 : Int32) - ((8 : Int32) * jj)).toInt64))))])) _
      refine XS.iload X29.here hx rfl (hb hby at_154) rfl ?_
      show Steps p.tables e below (T29.setTop (mkF m 156 #[.val (.int p0), .val (.int p1), .val (.int p2), .val (.int p3), .val (.int p4), .val (.int p5), .val (.int kk), .val (.int jj), .val (.int ff), .val (.int ln), .val (.int aa), .val (.double xk), .second, .val (.double xb), .second, .val (.ref b16), .val (.double (FP.ddiv (FP.dmul (FP.dmul (FP.l2d (p0.toInt64)) (FP.l2d (ff.toInt64))) (FP.dadd xk (FP.l2d (1 : Int64)))) (FP.dadd (FP.l2d (ff.toInt64)) (FP.dmul xk (FP.dadd (FP.dsub (FP.l2d (1 : Int64)) xb) (FP.ddiv (FP.dmul xb (FP.l2d (ln.toInt64))) (FP.l2d (aa.toInt64)))))))), .second, .val (.long ((((32 : Int64) * (p0.toInt64)) * (ff.toInt64)) * ((kk + (4 : Int32)).toInt64))), .second, .unset, .unset, .unset, .unset] [(.int ln), (.long (((kk.toInt64) * (((8 : Int32) / aa).toInt64)) * (jj.toInt64))), (.long (((128 : Int64) * (ff.toInt64)) + ((kk.toInt64) * (((32 : Int32) - ((8 : Int32) * jj)).toInt64))))])) _
      refine XS.i2l X29.here hx rfl (hb hby at_156) rfl ?_
      show Steps p.tables e below (T29.setTop (mkF m 157 #[.val (.int p0), .val (.int p1), .val (.int p2), .val (.int p3), .val (.int p4), .val (.int p5), .val (.int kk), .val (.int jj), .val (.int ff), .val (.int ln), .val (.int aa), .val (.double xk), .second, .val (.double xb), .second, .val (.ref b16), .val (.double (FP.ddiv (FP.dmul (FP.dmul (FP.l2d (p0.toInt64)) (FP.l2d (ff.toInt64))) (FP.dadd xk (FP.l2d (1 : Int64)))) (FP.dadd (FP.l2d (ff.toInt64)) (FP.dmul xk (FP.dadd (FP.dsub (FP.l2d (1 : Int64)) xb) (FP.ddiv (FP.dmul xb (FP.l2d (ln.toInt64))) (FP.l2d (aa.toInt64)))))))), .second, .val (.long ((((32 : Int64) * (p0.toInt64)) * (ff.toInt64)) * ((kk + (4 : Int32)).toInt64))), .second, .unset, .unset, .unset, .unset] [(.long (ln.toInt64)), (.long (((kk.toInt64) * (((8 : Int32) / aa).toInt64)) * (jj.toInt64))), (.long (((128 : Int64) * (ff.toInt64)) + ((kk.toInt64) * (((32 : Int32) - ((8 : Int32) * jj)).toInt64))))])) _
      refine XS.lmul X29.here hx rfl (hb hby at_157) rfl ?_
      show Steps p.tables e below (T29.setTop (mkF m 158 #[.val (.int p0), .val (.int p1), .val (.int p2), .val (.int p3), .val (.int p4), .val (.int p5), .val (.int kk), .val (.int jj), .val (.int ff), .val (.int ln), .val (.int aa), .val (.double xk), .second, .val (.double xb), .second, .val (.ref b16), .val (.double (FP.ddiv (FP.dmul (FP.dmul (FP.l2d (p0.toInt64)) (FP.l2d (ff.toInt64))) (FP.dadd xk (FP.l2d (1 : Int64)))) (FP.dadd (FP.l2d (ff.toInt64)) (FP.dmul xk (FP.dadd (FP.dsub (FP.l2d (1 : Int64)) xb) (FP.ddiv (FP.dmul xb (FP.l2d (ln.toInt64))) (FP.l2d (aa.toInt64)))))))), .second, .val (.long ((((32 : Int64) * (p0.toInt64)) * (ff.toInt64)) * ((kk + (4 : Int32)).toInt64))), .second, .unset, .unset, .unset, .unset] [(.long ((((kk.toInt64) * (((8 : Int32) / aa).toInt64)) * (jj.toInt64)) * (ln.toInt64))), (.long (((128 : Int64) * (ff.toInt64)) + ((kk.toInt64) * (((32 : Int32) - ((8 : Int32) * jj)).toInt64))))])) _
      refine XS.ladd X29.here hx rfl (hb hby at_158) rfl ?_
      show Steps p.tables e below (T29.setTop (mkF m 159 #[.val (.int p0), .val (.int p1), .val (.int p2), .val (.int p3), .val (.int p4), .val (.int p5), .val (.int kk), .val (.int jj), .val (.int ff), .val (.int ln), .val (.int aa), .val (.double xk), .second, .val (.double xb), .second, .val (.ref b16), .val (.double (FP.ddiv (FP.dmul (FP.dmul (FP.l2d (p0.toInt64)) (FP.l2d (ff.toInt64))) (FP.dadd xk (FP.l2d (1 : Int64)))) (FP.dadd (FP.l2d (ff.toInt64)) (FP.dmul xk (FP.dadd (FP.dsub (FP.l2d (1 : Int64)) xb) (FP.ddiv (FP.dmul xb (FP.l2d (ln.toInt64))) (FP.l2d (aa.toInt64)))))))), .second, .val (.long ((((32 : Int64) * (p0.toInt64)) * (ff.toInt64)) * ((kk + (4 : Int32)).toInt64))), .second, .unset, .unset, .unset, .unset] [(.long ((((128 : Int64) * (ff.toInt64)) + ((kk.toInt64) * (((32 : Int32) - ((8 : Int32) * jj)).toInt64))) + ((((kk.toInt64) * (((8 : Int32) / aa).toInt64)) * (jj.toInt64)) * (ln.toInt64))))])) _
      refine XS.lstore X29.here hx rfl (hb hby at_159) rfl (l' := #[.val (.int p0), .val (.int p1), .val (.int p2), .val (.int p3), .val (.int p4), .val (.int p5), .val (.int kk), .val (.int jj), .val (.int ff), .val (.int ln), .val (.int aa), .val (.double xk), .second, .val (.double xb), .second, .val (.ref b16), .val (.double (FP.ddiv (FP.dmul (FP.dmul (FP.l2d (p0.toInt64)) (FP.l2d (ff.toInt64))) (FP.dadd xk (FP.l2d (1 : Int64)))) (FP.dadd (FP.l2d (ff.toInt64)) (FP.dmul xk (FP.dadd (FP.dsub (FP.l2d (1 : Int64)) xb) (FP.ddiv (FP.dmul xb (FP.l2d (ln.toInt64))) (FP.l2d (aa.toInt64)))))))), .second, .val (.long ((((32 : Int64) * (p0.toInt64)) * (ff.toInt64)) * ((kk + (4 : Int32)).toInt64))), .second, .val (.long ((((128 : Int64) * (ff.toInt64)) + ((kk.toInt64) * (((32 : Int32) - ((8 : Int32) * jj)).toInt64))) + ((((kk.toInt64) * (((8 : Int32) / aa).toInt64)) * (jj.toInt64)) * (ln.toInt64)))), .second, .unset, .unset]) rfl ?_
      show Steps p.tables e below (T29.setTop (mkF m 161 #[.val (.int p0), .val (.int p1), .val (.int p2), .val (.int p3), .val (.int p4), .val (.int p5), .val (.int kk), .val (.int jj), .val (.int ff), .val (.int ln), .val (.int aa), .val (.double xk), .second, .val (.double xb), .second, .val (.ref b16), .val (.double (FP.ddiv (FP.dmul (FP.dmul (FP.l2d (p0.toInt64)) (FP.l2d (ff.toInt64))) (FP.dadd xk (FP.l2d (1 : Int64)))) (FP.dadd (FP.l2d (ff.toInt64)) (FP.dmul xk (FP.dadd (FP.dsub (FP.l2d (1 : Int64)) xb) (FP.ddiv (FP.dmul xb (FP.l2d (ln.toInt64))) (FP.l2d (aa.toInt64)))))))), .second, .val (.long ((((32 : Int64) * (p0.toInt64)) * (ff.toInt64)) * ((kk + (4 : Int32)).toInt64))), .second, .val (.long ((((128 : Int64) * (ff.toInt64)) + ((kk.toInt64) * (((32 : Int32) - ((8 : Int32) * jj)).toInt64))) + ((((kk.toInt64) * (((8 : Int32) / aa).toInt64)) * (jj.toInt64)) * (ln.toInt64)))), .second, .unset, .unset] [])) _
      refine XS.lload X29.here hx rfl (hb hby at_161) rfl ?_
      show Steps p.tables e below (T29.setTop (mkF m 163 #[.val (.int p0), .val (.int p1), .val (.int p2), .val (.int p3), .val (.int p4), .val (.int p5), .val (.int kk), .val (.int jj), .val (.int ff), .val (.int ln), .val (.int aa), .val (.double xk), .second, .val (.double xb), .second, .val (.ref b16), .val (.double (FP.ddiv (FP.dmul (FP.dmul (FP.l2d (p0.toInt64)) (FP.l2d (ff.toInt64))) (FP.dadd xk (FP.l2d (1 : Int64)))) (FP.dadd (FP.l2d (ff.toInt64)) (FP.dmul xk (FP.dadd (FP.dsub (FP.l2d (1 : Int64)) xb) (FP.ddiv (FP.dmul xb (FP.l2d (ln.toInt64))) (FP.l2d (aa.toInt64)))))))), .second, .val (.long ((((32 : Int64) * (p0.toInt64)) * (ff.toInt64)) * ((kk + (4 : Int32)).toInt64))), .second, .val (.long ((((128 : Int64) * (ff.toInt64)) + ((kk.toInt64) * (((32 : Int32) - ((8 : Int32) * jj)).toInt64))) + ((((kk.toInt64) * (((8 : Int32) / aa).toInt64)) * (jj.toInt64)) * (ln.toInt64)))), .second, .unset, .unset] [(.long ((((32 : Int64) * (p0.toInt64)) * (ff.toInt64)) * ((kk + (4 : Int32)).toInt64)))])) _
      refine XS.l2dS X29.here hx rfl (hb hby at_163) rfl (v := FP.l2d ((((32 : Int64) * (p0.toInt64)) * (ff.toInt64)) * ((kk + (4 : Int32)).toInt64))) rfl ?_
      show Steps p.tables e below (T29.setTop (mkF m 164 #[.val (.int p0), .val (.int p1), .val (.int p2), .val (.int p3), .val (.int p4), .val (.int p5), .val (.int kk), .val (.int jj), .val (.int ff), .val (.int ln), .val (.int aa), .val (.double xk), .second, .val (.double xb), .second, .val (.ref b16), .val (.double (FP.ddiv (FP.dmul (FP.dmul (FP.l2d (p0.toInt64)) (FP.l2d (ff.toInt64))) (FP.dadd xk (FP.l2d (1 : Int64)))) (FP.dadd (FP.l2d (ff.toInt64)) (FP.dmul xk (FP.dadd (FP.dsub (FP.l2d (1 : Int64)) xb) (FP.ddiv (FP.dmul xb (FP.l2d (ln.toInt64))) (FP.l2d (aa.toInt64)))))))), .second, .val (.long ((((32 : Int64) * (p0.toInt64)) * (ff.toInt64)) * ((kk + (4 : Int32)).toInt64))), .second, .val (.long ((((128 : Int64) * (ff.toInt64)) + ((kk.toInt64) * (((32 : Int32) - ((8 : Int32) * jj)).toInt64))) + ((((kk.toInt64) * (((8 : Int32) / aa).toInt64)) * (jj.toInt64)) * (ln.toInt64)))), .second, .unset, .unset] [(.double (FP.l2d ((((32 : Int64) * (p0.toInt64)) * (ff.toInt64)) * ((kk + (4 : Int32)).toInt64))))])) _
      refine XS.lload X29.here hx rfl (hb hby at_164) rfl ?_
      show Steps p.tables e below (T29.setTop (mkF m 166 #[.val (.int p0), .val (.int p1), .val (.int p2), .val (.int p3), .val (.int p4), .val (.int p5), .val (.int kk), .val (.int jj), .val (.int ff), .val (.int ln), .val (.int aa), .val (.double xk), .second, .val (.double xb), .second, .val (.ref b16), .val (.double (FP.ddiv (FP.dmul (FP.dmul (FP.l2d (p0.toInt64)) (FP.l2d (ff.toInt64))) (FP.dadd xk (FP.l2d (1 : Int64)))) (FP.dadd (FP.l2d (ff.toInt64)) (FP.dmul xk (FP.dadd (FP.dsub (FP.l2d (1 : Int64)) xb) (FP.ddiv (FP.dmul xb (FP.l2d (ln.toInt64))) (FP.l2d (aa.toInt64)))))))), .second, .val (.long ((((32 : Int64) * (p0.toInt64)) * (ff.toInt64)) * ((kk + (4 : Int32)).toInt64))), .second, .val (.long ((((128 : Int64) * (ff.toInt64)) + ((kk.toInt64) * (((32 : Int32) - ((8 : Int32) * jj)).toInt64))) + ((((kk.toInt64) * (((8 : Int32) / aa).toInt64)) * (jj.toInt64)) * (ln.toInt64)))), .second, .unset, .unset] [(.long ((((128 : Int64) * (ff.toInt64)) + ((kk.toInt64) * (((32 : Int32) - ((8 : Int32) * jj)).toInt64))) + ((((kk.toInt64) * (((8 : Int32) / aa).toInt64)) * (jj.toInt64)) * (ln.toInt64)))), (.double (FP.l2d ((((32 : Int64) * (p0.toInt64)) * (ff.toInt64)) * ((kk + (4 : Int32)).toInt64))))])) _
      refine XS.l2dS X29.here hx rfl (hb hby at_166) rfl (v := FP.l2d ((((128 : Int64) * (ff.toInt64)) + ((kk.toInt64) * (((32 : Int32) - ((8 : Int32) * jj)).toInt64))) + ((((kk.toInt64) * (((8 : Int32) / aa).toInt64)) * (jj.toInt64)) * (ln.toInt64)))) rfl ?_
      show Steps p.tables e below (T29.setTop (mkF m 167 #[.val (.int p0), .val (.int p1), .val (.int p2), .val (.int p3), .val (.int p4), .val (.int p5), .val (.int kk), .val (.int jj), .val (.int ff), .val (.int ln), .val (.int aa), .val (.double xk), .second, .val (.double xb), .second, .val (.ref b16), .val (.double (FP.ddiv (FP.dmul (FP.dmul (FP.l2d (p0.toInt64)) (FP.l2d (ff.toInt64))) (FP.dadd xk (FP.l2d (1 : Int64)))) (FP.dadd (FP.l2d (ff.toInt64)) (FP.dmul xk (FP.dadd (FP.dsub (FP.l2d (1 : Int64)) xb) (FP.ddiv (FP.dmul xb (FP.l2d (ln.toInt64))) (FP.l2d (aa.toInt64)))))))), .second, .val (.long ((((32 : Int64) * (p0.toInt64)) * (ff.toInt64)) * ((kk + (4 : Int32)).toInt64))), .second, .val (.long ((((128 : Int64) * (ff.toInt64)) + ((kk.toInt64) * (((32 : Int32) - ((8 : Int32) * jj)).toInt64))) + ((((kk.toInt64) * (((8 : Int32) / aa).toInt64)) * (jj.toInt64)) * (ln.toInt64)))), .second, .unset, .unset] [(.double (FP.l2d ((((128 : Int64) * (ff.toInt64)) + ((kk.toInt64) * (((32 : Int32) - ((8 : Int32) * jj)).toInt64))) + ((((kk.toInt64) * (((8 : Int32) / aa).toInt64)) * (jj.toInt64)) * (ln.toInt64))))), (.double (FP.l2d ((((32 : Int64) * (p0.toInt64)) * (ff.toInt64)) * ((kk + (4 : Int32)).toInt64))))])) _
      refine XS.ddivS X29.here hx rfl (hb hby at_167) rfl wD (v := (FP.ddiv (FP.l2d ((((32 : Int64) * (p0.toInt64)) * (ff.toInt64)) * ((kk + (4 : Int32)).toInt64))) (FP.l2d ((((128 : Int64) * (ff.toInt64)) + ((kk.toInt64) * (((32 : Int32) - ((8 : Int32) * jj)).toInt64))) + ((((kk.toInt64) * (((8 : Int32) / aa).toInt64)) * (jj.toInt64)) * (ln.toInt64)))))) rfl ?_
      show Steps p.tables e below (T29.setTop (mkF m 168 #[.val (.int p0), .val (.int p1), .val (.int p2), .val (.int p3), .val (.int p4), .val (.int p5), .val (.int kk), .val (.int jj), .val (.int ff), .val (.int ln), .val (.int aa), .val (.double xk), .second, .val (.double xb), .second, .val (.ref b16), .val (.double (FP.ddiv (FP.dmul (FP.dmul (FP.l2d (p0.toInt64)) (FP.l2d (ff.toInt64))) (FP.dadd xk (FP.l2d (1 : Int64)))) (FP.dadd (FP.l2d (ff.toInt64)) (FP.dmul xk (FP.dadd (FP.dsub (FP.l2d (1 : Int64)) xb) (FP.ddiv (FP.dmul xb (FP.l2d (ln.toInt64))) (FP.l2d (aa.toInt64)))))))), .second, .val (.long ((((32 : Int64) * (p0.toInt64)) * (ff.toInt64)) * ((kk + (4 : Int32)).toInt64))), .second, .val (.long ((((128 : Int64) * (ff.toInt64)) + ((kk.toInt64) * (((32 : Int32) - ((8 : Int32) * jj)).toInt64))) + ((((kk.toInt64) * (((8 : Int32) / aa).toInt64)) * (jj.toInt64)) * (ln.toInt64)))), .second, .unset, .unset] [(.double (FP.ddiv (FP.l2d ((((32 : Int64) * (p0.toInt64)) * (ff.toInt64)) * ((kk + (4 : Int32)).toInt64))) (FP.l2d ((((128 : Int64) * (ff.toInt64)) + ((kk.toInt64) * (((32 : Int32) - ((8 : Int32) * jj)).toInt64))) + ((((kk.toInt64) * (((8 : Int32) / aa).toInt64)) * (jj.toInt64)) * (ln.toInt64))))))])) _
      exact q
    have k34_ : ∀ t, Steps p.tables e below (T29.setTop (mkF m 175 #[.val (.int p0), .val (.int p1), .val (.int p2), .val (.int p3), .val (.int p4), .val (.int p5), .val (.int kk), .val (.int jj), .val (.int ff), .val (.int ln), .val (.int aa), .val (.double xk), .second, .val (.double xb), .second, .val (.ref b16), .val (.double (FP.ddiv (FP.dmul (FP.dmul (FP.l2d (p0.toInt64)) (FP.l2d (ff.toInt64))) (FP.dadd xk (FP.l2d (1 : Int64)))) (FP.dadd (FP.l2d (ff.toInt64)) (FP.dmul xk (FP.dadd (FP.dsub (FP.l2d (1 : Int64)) xb) (FP.ddiv (FP.dmul xb (FP.l2d (ln.toInt64))) (FP.l2d (aa.toInt64)))))))), .second, .val (.long ((((32 : Int64) * (p0.toInt64)) * (ff.toInt64)) * ((kk + (4 : Int32)).toInt64))), .second, .val (.long ((((128 : Int64) * (ff.toInt64)) + ((kk.toInt64) * (((32 : Int32) - ((8 : Int32) * jj)).toInt64))) + ((((kk.toInt64) * (((8 : Int32) / aa).toInt64)) * (jj.toInt64)) * (ln.toInt64)))), .second, .val (.double (FP.ddiv (FP.l2d ((((32 : Int64) * (p0.toInt64)) * (ff.toInt64)) * ((kk + (4 : Int32)).toInt64))) (FP.l2d ((((128 : Int64) * (ff.toInt64)) + ((kk.toInt64) * (((32 : Int32) - ((8 : Int32) * jj)).toInt64))) + ((((kk.toInt64) * (((8 : Int32) / aa).toInt64)) * (jj.toInt64)) * (ln.toInt64)))))), .second] [(.int (cmpValue (FP.dcmp (FP.ddiv (FP.dmul (FP.dmul (FP.l2d (p0.toInt64)) (FP.l2d (ff.toInt64))) (FP.dadd xk (FP.l2d (1 : Int64)))) (FP.dadd (FP.l2d (ff.toInt64)) (FP.dmul xk (FP.dadd (FP.dsub (FP.l2d (1 : Int64)) xb) (FP.ddiv (FP.dmul xb (FP.l2d (ln.toInt64))) (FP.l2d (aa.toInt64))))))) (FP.ddiv (FP.l2d ((((32 : Int64) * (p0.toInt64)) * (ff.toInt64)) * ((kk + (4 : Int32)).toInt64))) (FP.l2d ((((128 : Int64) * (ff.toInt64)) + ((kk.toInt64) * (((32 : Int32) - ((8 : Int32) * jj)).toInt64))) + ((((kk.toInt64) * (((8 : Int32) / aa).toInt64)) * (jj.toInt64)) * (ln.toInt64)))))) .l))])) t → Steps p.tables e below (s₁.setTop (mkF m 0 #[.val (.int p0), .val (.int p1), .val (.int p2), .val (.int p3), .val (.int p4), .val (.int p5), .unset, .unset, .unset, .unset, .unset, .unset, .unset, .unset, .unset, .unset, .unset, .unset, .unset, .unset, .unset, .unset, .unset, .unset] [])) t := by
      intro t q
      refine k33_ _ ?_
      show Steps p.tables e below (T29.setTop (mkF m 168 #[.val (.int p0), .val (.int p1), .val (.int p2), .val (.int p3), .val (.int p4), .val (.int p5), .val (.int kk), .val (.int jj), .val (.int ff), .val (.int ln), .val (.int aa), .val (.double xk), .second, .val (.double xb), .second, .val (.ref b16), .val (.double (FP.ddiv (FP.dmul (FP.dmul (FP.l2d (p0.toInt64)) (FP.l2d (ff.toInt64))) (FP.dadd xk (FP.l2d (1 : Int64)))) (FP.dadd (FP.l2d (ff.toInt64)) (FP.dmul xk (FP.dadd (FP.dsub (FP.l2d (1 : Int64)) xb) (FP.ddiv (FP.dmul xb (FP.l2d (ln.toInt64))) (FP.l2d (aa.toInt64)))))))), .second, .val (.long ((((32 : Int64) * (p0.toInt64)) * (ff.toInt64)) * ((kk + (4 : Int32)).toInt64))), .second, .val (.long ((((128 : Int64) * (ff.toInt64)) + ((kk.toInt64) * (((32 : Int32) - ((8 : Int32) * jj)).toInt64))) + ((((kk.toInt64) * (((8 : Int32) / aa).toInt64)) * (jj.toInt64)) * (ln.toInt64)))), .second, .unset, .unset] [(.double (FP.ddiv (FP.l2d ((((32 : Int64) * (p0.toInt64)) * (ff.toInt64)) * ((kk + (4 : Int32)).toInt64))) (FP.l2d ((((128 : Int64) * (ff.toInt64)) + ((kk.toInt64) * (((32 : Int32) - ((8 : Int32) * jj)).toInt64))) + ((((kk.toInt64) * (((8 : Int32) / aa).toInt64)) * (jj.toInt64)) * (ln.toInt64))))))])) _
      refine XS.dstore X29.here hx rfl (hb hby at_168) rfl (l' := #[.val (.int p0), .val (.int p1), .val (.int p2), .val (.int p3), .val (.int p4), .val (.int p5), .val (.int kk), .val (.int jj), .val (.int ff), .val (.int ln), .val (.int aa), .val (.double xk), .second, .val (.double xb), .second, .val (.ref b16), .val (.double (FP.ddiv (FP.dmul (FP.dmul (FP.l2d (p0.toInt64)) (FP.l2d (ff.toInt64))) (FP.dadd xk (FP.l2d (1 : Int64)))) (FP.dadd (FP.l2d (ff.toInt64)) (FP.dmul xk (FP.dadd (FP.dsub (FP.l2d (1 : Int64)) xb) (FP.ddiv (FP.dmul xb (FP.l2d (ln.toInt64))) (FP.l2d (aa.toInt64)))))))), .second, .val (.long ((((32 : Int64) * (p0.toInt64)) * (ff.toInt64)) * ((kk + (4 : Int32)).toInt64))), .second, .val (.long ((((128 : Int64) * (ff.toInt64)) + ((kk.toInt64) * (((32 : Int32) - ((8 : Int32) * jj)).toInt64))) + ((((kk.toInt64) * (((8 : Int32) / aa).toInt64)) * (jj.toInt64)) * (ln.toInt64)))), .second, .val (.double (FP.ddiv (FP.l2d ((((32 : Int64) * (p0.toInt64)) * (ff.toInt64)) * ((kk + (4 : Int32)).toInt64))) (FP.l2d ((((128 : Int64) * (ff.toInt64)) + ((kk.toInt64) * (((32 : Int32) - ((8 : Int32) * jj)).toInt64))) + ((((kk.toInt64) * (((8 : Int32) / aa).toInt64)) * (jj.toInt64)) * (ln.toInt64)))))), .second]) rfl ?_
      show Steps p.tables e below (T29.setTop (mkF m 170 #[.val (.int p0), .val (.int p1), .val (.int p2), .val (.int p3), .val (.int p4), .val (.int p5), .val (.int kk), .val (.int jj), .val (.int ff), .val (.int ln), .val (.int aa), .val (.double xk), .second, .val (.double xb), .second, .val (.ref b16), .val (.double (FP.ddiv (FP.dmul (FP.dmul (FP.l2d (p0.toInt64)) (FP.l2d (ff.toInt64))) (FP.dadd xk (FP.l2d (1 : Int64)))) (FP.dadd (FP.l2d (ff.toInt64)) (FP.dmul xk (FP.dadd (FP.dsub (FP.l2d (1 : Int64)) xb) (FP.ddiv (FP.dmul xb (FP.l2d (ln.toInt64))) (FP.l2d (aa.toInt64)))))))), .second, .val (.long ((((32 : Int64) * (p0.toInt64)) * (ff.toInt64)) * ((kk + (4 : Int32)).toInt64))), .second, .val (.long ((((128 : Int64) * (ff.toInt64)) + ((kk.toInt64) * (((32 : Int32) - ((8 : Int32) * jj)).toInt64))) + ((((kk.toInt64) * (((8 : Int32) / aa).toInt64)) * (jj.toInt64)) * (ln.toInt64)))), .second, .val (.double (FP.ddiv (FP.l2d ((((32 : Int64) * (p0.toInt64)) * (ff.toInt64)) * ((kk + (4 : Int32)).toInt64))) (FP.l2d ((((128 : Int64) * (ff.toInt64)) + ((kk.toInt64) * (((32 : Int32) - ((8 : Int32) * jj)).toInt64))) + ((((kk.toInt64) * (((8 : Int32) / aa).toInt64)) * (jj.toInt64)) * (ln.toInt64)))))), .second] [])) _
      refine XS.dload X29.here hx rfl (hb hby at_170) rfl ?_
      show Steps p.tables e below (T29.setTop (mkF m 172 #[.val (.int p0), .val (.int p1), .val (.int p2), .val (.int p3), .val (.int p4), .val (.int p5), .val (.int kk), .val (.int jj), .val (.int ff), .val (.int ln), .val (.int aa), .val (.double xk), .second, .val (.double xb), .second, .val (.ref b16), .val (.double (FP.ddiv (FP.dmul (FP.dmul (FP.l2d (p0.toInt64)) (FP.l2d (ff.toInt64))) (FP.dadd xk (FP.l2d (1 : Int64)))) (FP.dadd (FP.l2d (ff.toInt64)) (FP.dmul xk (FP.dadd (FP.dsub (FP.l2d (1 : Int64)) xb) (FP.ddiv (FP.dmul xb (FP.l2d (ln.toInt64))) (FP.l2d (aa.toInt64)))))))), .second, .val (.long ((((32 : Int64) * (p0.toInt64)) * (ff.toInt64)) * ((kk + (4 : Int32)).toInt64))), .second, .val (.long ((((128 : Int64) * (ff.toInt64)) + ((kk.toInt64) * (((32 : Int32) - ((8 : Int32) * jj)).toInt64))) + ((((kk.toInt64) * (((8 : Int32) / aa).toInt64)) * (jj.toInt64)) * (ln.toInt64)))), .second, .val (.double (FP.ddiv (FP.l2d ((((32 : Int64) * (p0.toInt64)) * (ff.toInt64)) * ((kk + (4 : Int32)).toInt64))) (FP.l2d ((((128 : Int64) * (ff.toInt64)) + ((kk.toInt64) * (((32 : Int32) - ((8 : Int32) * jj)).toInt64))) + ((((kk.toInt64) * (((8 : Int32) / aa).toInt64)) * (jj.toInt64)) * (ln.toInt64)))))), .second] [(.double (FP.ddiv (FP.dmul (FP.dmul (FP.l2d (p0.toInt64)) (FP.l2d (ff.toInt64))) (FP.dadd xk (FP.l2d (1 : Int64)))) (FP.dadd (FP.l2d (ff.toInt64)) (FP.dmul xk (FP.dadd (FP.dsub (FP.l2d (1 : Int64)) xb) (FP.ddiv (FP.dmul xb (FP.l2d (ln.toInt64))) (FP.l2d (aa.toInt64))))))))])) _
      refine XS.dload X29.here hx rfl (hb hby at_172) rfl ?_
      show Steps p.tables e below (T29.setTop (mkF m 174 #[.val (.int p0), .val (.int p1), .val (.int p2), .val (.int p3), .val (.int p4), .val (.int p5), .val (.int kk), .val (.int jj), .val (.int ff), .val (.int ln), .val (.int aa), .val (.double xk), .second, .val (.double xb), .second, .val (.ref b16), .val (.double (FP.ddiv (FP.dmul (FP.dmul (FP.l2d (p0.toInt64)) (FP.l2d (ff.toInt64))) (FP.dadd xk (FP.l2d (1 : Int64)))) (FP.dadd (FP.l2d (ff.toInt64)) (FP.dmul xk (FP.dadd (FP.dsub (FP.l2d (1 : Int64)) xb) (FP.ddiv (FP.dmul xb (FP.l2d (ln.toInt64))) (FP.l2d (aa.toInt64)))))))), .second, .val (.long ((((32 : Int64) * (p0.toInt64)) * (ff.toInt64)) * ((kk + (4 : Int32)).toInt64))), .second, .val (.long ((((128 : Int64) * (ff.toInt64)) + ((kk.toInt64) * (((32 : Int32) - ((8 : Int32) * jj)).toInt64))) + ((((kk.toInt64) * (((8 : Int32) / aa).toInt64)) * (jj.toInt64)) * (ln.toInt64)))), .second, .val (.double (FP.ddiv (FP.l2d ((((32 : Int64) * (p0.toInt64)) * (ff.toInt64)) * ((kk + (4 : Int32)).toInt64))) (FP.l2d ((((128 : Int64) * (ff.toInt64)) + ((kk.toInt64) * (((32 : Int32) - ((8 : Int32) * jj)).toInt64))) + ((((kk.toInt64) * (((8 : Int32) / aa).toInt64)) * (jj.toInt64)) * (ln.toInt64)))))), .second] [(.double (FP.ddiv (FP.l2d ((((32 : Int64) * (p0.toInt64)) * (ff.toInt64)) * ((kk + (4 : Int32)).toInt64))) (FP.l2d ((((128 : Int64) * (ff.toInt64)) + ((kk.toInt64) * (((32 : Int32) - ((8 : Int32) * jj)).toInt64))) + ((((kk.toInt64) * (((8 : Int32) / aa).toInt64)) * (jj.toInt64)) * (ln.toInt64)))))), (.double (FP.ddiv (FP.dmul (FP.dmul (FP.l2d (p0.toInt64)) (FP.l2d (ff.toInt64))) (FP.dadd xk (FP.l2d (1 : Int64)))) (FP.dadd (FP.l2d (ff.toInt64)) (FP.dmul xk (FP.dadd (FP.dsub (FP.l2d (1 : Int64)) xb) (FP.ddiv (FP.dmul xb (FP.l2d (ln.toInt64))) (FP.l2d (aa.toInt64))))))))])) _
      refine XS.dcmpS X29.here hx rfl (hb hby at_174) rfl (v := (cmpValue (FP.dcmp (FP.ddiv (FP.dmul (FP.dmul (FP.l2d (p0.toInt64)) (FP.l2d (ff.toInt64))) (FP.dadd xk (FP.l2d (1 : Int64)))) (FP.dadd (FP.l2d (ff.toInt64)) (FP.dmul xk (FP.dadd (FP.dsub (FP.l2d (1 : Int64)) xb) (FP.ddiv (FP.dmul xb (FP.l2d (ln.toInt64))) (FP.l2d (aa.toInt64))))))) (FP.ddiv (FP.l2d ((((32 : Int64) * (p0.toInt64)) * (ff.toInt64)) * ((kk + (4 : Int32)).toInt64))) (FP.l2d ((((128 : Int64) * (ff.toInt64)) + ((kk.toInt64) * (((32 : Int32) - ((8 : Int32) * jj)).toInt64))) + ((((kk.toInt64) * (((8 : Int32) / aa).toInt64)) * (jj.toInt64)) * (ln.toInt64)))))) .l)) rfl ?_
      show Steps p.tables e below (T29.setTop (mkF m 175 #[.val (.int p0), .val (.int p1), .val (.int p2), .val (.int p3), .val (.int p4), .val (.int p5), .val (.int kk), .val (.int jj), .val (.int ff), .val (.int ln), .val (.int aa), .val (.double xk), .second, .val (.double xb), .second, .val (.ref b16), .val (.double (FP.ddiv (FP.dmul (FP.dmul (FP.l2d (p0.toInt64)) (FP.l2d (ff.toInt64))) (FP.dadd xk (FP.l2d (1 : Int64)))) (FP.dadd (FP.l2d (ff.toInt64)) (FP.dmul xk (FP.dadd (FP.dsub (FP.l2d (1 : Int64)) xb) (FP.ddiv (FP.dmul xb (FP.l2d (ln.toInt64))) (FP.l2d (aa.toInt64)))))))), .second, .val (.long ((((32 : Int64) * (p0.toInt64)) * (ff.toInt64)) * ((kk + (4 : Int32)).toInt64))), .second, .val (.long ((((128 : Int64) * (ff.toInt64)) + ((kk.toInt64) * (((32 : Int32) - ((8 : Int32) * jj)).toInt64))) + ((((kk.toInt64) * (((8 : Int32) / aa).toInt64)) * (jj.toInt64)) * (ln.toInt64)))), .second, .val (.double (FP.ddiv (FP.l2d ((((32 : Int64) * (p0.toInt64)) * (ff.toInt64)) * ((kk + (4 : Int32)).toInt64))) (FP.l2d ((((128 : Int64) * (ff.toInt64)) + ((kk.toInt64) * (((32 : Int32) - ((8 : Int32) * jj)).toInt64))) + ((((kk.toInt64) * (((8 : Int32) / aa).toInt64)) * (jj.toInt64)) * (ln.toInt64)))))), .second] [(.int (cmpValue (FP.dcmp (FP.ddiv (FP.dmul (FP.dmul (FP.l2d (p0.toInt64)) (FP.l2d (ff.toInt64))) (FP.dadd xk (FP.l2d (1 : Int64)))) (FP.dadd (FP.l2d (ff.toInt64)) (FP.dmul xk (FP.dadd (FP.dsub (FP.l2d (1 : Int64)) xb) (FP.ddiv (FP.dmul xb (FP.l2d (ln.toInt64))) (FP.l2d (aa.toInt64))))))) (FP.ddiv (FP.l2d ((((32 : Int64) * (p0.toInt64)) * (ff.toInt64)) * ((kk + (4 : Int32)).toInt64))) (FP.l2d ((((128 : Int64) * (ff.toInt64)) + ((kk.toInt64) * (((32 : Int32) - ((8 : Int32) * jj)).toInt64))) + ((((kk.toInt64) * (((8 : Int32) / aa).toInt64)) * (jj.toInt64)) * (ln.toInt64)))))) .l))])) _
      exact q
    have k35_ : ∀ t, Steps p.tables e below (T29.setTop (mkF m 178 #[.val (.int p0), .val (.int p1), .val (.int p2), .val (.int p3), .val (.int p4), .val (.int p5), .val (.int kk), .val (.int jj), .val (.int ff), .val (.int ln), .val (.int aa), .val (.double xk), .second, .val (.double xb), .second, .val (.ref b16), .val (.double (FP.ddiv (FP.dmul (FP.dmul (FP.l2d (p0.toInt64)) (FP.l2d (ff.toInt64))) (FP.dadd xk (FP.l2d (1 : Int64)))) (FP.dadd (FP.l2d (ff.toInt64)) (FP.dmul xk (FP.dadd (FP.dsub (FP.l2d (1 : Int64)) xb) (FP.ddiv (FP.dmul xb (FP.l2d (ln.toInt64))) (FP.l2d (aa.toInt64)))))))), .second, .val (.long ((((32 : Int64) * (p0.toInt64)) * (ff.toInt64)) * ((kk + (4 : Int32)).toInt64))), .second, .val (.long ((((128 : Int64) * (ff.toInt64)) + ((kk.toInt64) * (((32 : Int32) - ((8 : Int32) * jj)).toInt64))) + ((((kk.toInt64) * (((8 : Int32) / aa).toInt64)) * (jj.toInt64)) * (ln.toInt64)))), .second, .val (.double (FP.ddiv (FP.l2d ((((32 : Int64) * (p0.toInt64)) * (ff.toInt64)) * ((kk + (4 : Int32)).toInt64))) (FP.l2d ((((128 : Int64) * (ff.toInt64)) + ((kk.toInt64) * (((32 : Int32) - ((8 : Int32) * jj)).toInt64))) + ((((kk.toInt64) * (((8 : Int32) / aa).toInt64)) * (jj.toInt64)) * (ln.toInt64)))))), .second] [])) t → Steps p.tables e below (s₁.setTop (mkF m 0 #[.val (.int p0), .val (.int p1), .val (.int p2), .val (.int p3), .val (.int p4), .val (.int p5), .unset, .unset, .unset, .unset, .unset, .unset, .unset, .unset, .unset, .unset, .unset, .unset, .unset, .unset, .unset, .unset, .unset, .unset] [])) t := by
      intro t q
      refine k34_ _ ?_
      show Steps p.tables e below (T29.setTop (mkF m 175 #[.val (.int p0), .val (.int p1), .val (.int p2), .val (.int p3), .val (.int p4), .val (.int p5), .val (.int kk), .val (.int jj), .val (.int ff), .val (.int ln), .val (.int aa), .val (.double xk), .second, .val (.double xb), .second, .val (.ref b16), .val (.double (FP.ddiv (FP.dmul (FP.dmul (FP.l2d (p0.toInt64)) (FP.l2d (ff.toInt64))) (FP.dadd xk (FP.l2d (1 : Int64)))) (FP.dadd (FP.l2d (ff.toInt64)) (FP.dmul xk (FP.dadd (FP.dsub (FP.l2d (1 : Int64)) xb) (FP.ddiv (FP.dmul xb (FP.l2d (ln.toInt64))) (FP.l2d (aa.toInt64)))))))), .second, .val (.long ((((32 : Int64) * (p0.toInt64)) * (ff.toInt64)) * ((kk + (4 : Int32)).toInt64))), .second, .val (.long ((((128 : Int64) * (ff.toInt64)) + ((kk.toInt64) * (((32 : Int32) - ((8 : Int32) * jj)).toInt64))) + ((((kk.toInt64) * (((8 : Int32) / aa).toInt64)) * (jj.toInt64)) * (ln.toInt64)))), .second, .val (.double (FP.ddiv (FP.l2d ((((32 : Int64) * (p0.toInt64)) * (ff.toInt64)) * ((kk + (4 : Int32)).toInt64))) (FP.l2d ((((128 : Int64) * (ff.toInt64)) + ((kk.toInt64) * (((32 : Int32) - ((8 : Int32) * jj)).toInt64))) + ((((kk.toInt64) * (((8 : Int32) / aa).toInt64)) * (jj.toInt64)) * (ln.toInt64)))))), .second] [(.int (cmpValue (FP.dcmp (FP.ddiv (FP.dmul (FP.dmul (FP.l2d (p0.toInt64)) (FP.l2d (ff.toInt64))) (FP.dadd xk (FP.l2d (1 : Int64)))) (FP.dadd (FP.l2d (ff.toInt64)) (FP.dmul xk (FP.dadd (FP.dsub (FP.l2d (1 : Int64)) xb) (FP.ddiv (FP.dmul xb (FP.l2d (ln.toInt64))) (FP.l2d (aa.toInt64))))))) (FP.ddiv (FP.l2d ((((32 : Int64) * (p0.toInt64)) * (ff.toInt64)) * ((kk + (4 : Int32)).toInt64))) (FP.l2d ((((128 : Int64) * (ff.toInt64)) + ((kk.toInt64) * (((32 : Int32) - ((8 : Int32) * jj)).toInt64))) + ((((kk.toInt64) * (((8 : Int32) / aa).toInt64)) * (jj.toInt64)) * (ln.toInt64)))))) .l))])) _
      refine XS.ifNo X29.here hx rfl (hb hby at_175) rfl ((if0 _ _).trans (teq (dcmpV_eq w10.2 w10.1 _)).2) ?_
      show Steps p.tables e below (T29.setTop (mkF m 178 #[.val (.int p0), .val (.int p1), .val (.int p2), .val (.int p3), .val (.int p4), .val (.int p5), .val (.int kk), .val (.int jj), .val (.int ff), .val (.int ln), .val (.int aa), .val (.double xk), .second, .val (.double xb), .second, .val (.ref b16), .val (.double (FP.ddiv (FP.dmul (FP.dmul (FP.l2d (p0.toInt64)) (FP.l2d (ff.toInt64))) (FP.dadd xk (FP.l2d (1 : Int64)))) (FP.dadd (FP.l2d (ff.toInt64)) (FP.dmul xk (FP.dadd (FP.dsub (FP.l2d (1 : Int64)) xb) (FP.ddiv (FP.dmul xb (FP.l2d (ln.toInt64))) (FP.l2d (aa.toInt64)))))))), .second, .val (.long ((((32 : Int64) * (p0.toInt64)) * (ff.toInt64)) * ((kk + (4 : Int32)).toInt64))), .second, .val (.long ((((128 : Int64) * (ff.toInt64)) + ((kk.toInt64) * (((32 : Int32) - ((8 : Int32) * jj)).toInt64))) + ((((kk.toInt64) * (((8 : Int32) / aa).toInt64)) * (jj.toInt64)) * (ln.toInt64)))), .second, .val (.double (FP.ddiv (FP.l2d ((((32 : Int64) * (p0.toInt64)) * (ff.toInt64)) * ((kk + (4 : Int32)).toInt64))) (FP.l2d ((((128 : Int64) * (ff.toInt64)) + ((kk.toInt64) * (((32 : Int32) - ((8 : Int32) * jj)).toInt64))) + ((((kk.toInt64) * (((8 : Int32) / aa).toInt64)) * (jj.toInt64)) * (ln.toInt64)))))), .second] [])) _
      exact q
    have k36_ : ∀ t, Steps p.tables e below (T29.setTop (mkF m 183 #[.val (.int p0), .val (.int p1), .val (.int p2), .val (.int p3), .val (.int p4), .val (.int p5), .val (.int kk), .val (.int jj), .val (.int ff), .val (.int ln), .val (.int aa), .val (.double xk), .second, .val (.double xb), .second, .val (.ref b16), .val (.double (FP.ddiv (FP.dmul (FP.dmul (FP.l2d (p0.toInt64)) (FP.l2d (ff.toInt64))) (FP.dadd xk (FP.l2d (1 : Int64)))) (FP.dadd (FP.l2d (ff.toInt64)) (FP.dmul xk (FP.dadd (FP.dsub (FP.l2d (1 : Int64)) xb) (FP.ddiv (FP.dmul xb (FP.l2d (ln.toInt64))) (FP.l2d (aa.toInt64)))))))), .second, .val (.long ((((32 : Int64) * (p0.toInt64)) * (ff.toInt64)) * ((kk + (4 : Int32)).toInt64))), .second, .val (.long ((((128 : Int64) * (ff.toInt64)) + ((kk.toInt64) * (((32 : Int32) - ((8 : Int32) * jj)).toInt64))) + ((((kk.toInt64) * (((8 : Int32) / aa).toInt64)) * (jj.toInt64)) * (ln.toInt64)))), .second, .val (.double (FP.ddiv (FP.l2d ((((32 : Int64) * (p0.toInt64)) * (ff.toInt64)) * ((kk + (4 : Int32)).toInt64))) (FP.l2d ((((128 : Int64) * (ff.toInt64)) + ((kk.toInt64) * (((32 : Int32) - ((8 : Int32) * jj)).toInt64))) + ((((kk.toInt64) * (((8 : Int32) / aa).toInt64)) * (jj.toInt64)) * (ln.toInt64)))))), .second] [(.int (1 : Int32))])) t → Steps p.tables e below (s₁.setTop (mkF m 0 #[.val (.int p0), .val (.int p1), .val (.int p2), .val (.int p3), .val (.int p4), .val (.int p5), .unset, .unset, .unset, .unset, .unset, .unset, .unset, .unset, .unset, .unset, .unset, .unset, .unset, .unset, .unset, .unset, .unset, .unset] [])) t := by
      intro t q
      refine k35_ _ ?_
      show Steps p.tables e below (T29.setTop (mkF m 178 #[.val (.int p0), .val (.int p1), .val (.int p2), .val (.int p3), .val (.int p4), .val (.int p5), .val (.int kk), .val (.int jj), .val (.int ff), .val (.int ln), .val (.int aa), .val (.double xk), .second, .val (.double xb), .second, .val (.ref b16), .val (.double (FP.ddiv (FP.dmul (FP.dmul (FP.l2d (p0.toInt64)) (FP.l2d (ff.toInt64))) (FP.dadd xk (FP.l2d (1 : Int64)))) (FP.dadd (FP.l2d (ff.toInt64)) (FP.dmul xk (FP.dadd (FP.dsub (FP.l2d (1 : Int64)) xb) (FP.ddiv (FP.dmul xb (FP.l2d (ln.toInt64))) (FP.l2d (aa.toInt64)))))))), .second, .val (.long ((((32 : Int64) * (p0.toInt64)) * (ff.toInt64)) * ((kk + (4 : Int32)).toInt64))), .second, .val (.long ((((128 : Int64) * (ff.toInt64)) + ((kk.toInt64) * (((32 : Int32) - ((8 : Int32) * jj)).toInt64))) + ((((kk.toInt64) * (((8 : Int32) / aa).toInt64)) * (jj.toInt64)) * (ln.toInt64)))), .second, .val (.double (FP.ddiv (FP.l2d ((((32 : Int64) * (p0.toInt64)) * (ff.toInt64)) * ((kk + (4 : Int32)).toInt64))) (FP.l2d ((((128 : Int64) * (ff.toInt64)) + ((kk.toInt64) * (((32 : Int32) - ((8 : Int32) * jj)).toInt64))) + ((((kk.toInt64) * (((8 : Int32) / aa).toInt64)) * (jj.toInt64)) * (ln.toInt64)))))), .second] [])) _
      refine XS.iconst X29.here hx rfl (hb hby at_178) ?_
      show Steps p.tables e below (T29.setTop (mkF m 179 #[.val (.int p0), .val (.int p1), .val (.int p2), .val (.int p3), .val (.int p4), .val (.int p5), .val (.int kk), .val (.int jj), .val (.int ff), .val (.int ln), .val (.int aa), .val (.double xk), .second, .val (.double xb), .second, .val (.ref b16), .val (.double (FP.ddiv (FP.dmul (FP.dmul (FP.l2d (p0.toInt64)) (FP.l2d (ff.toInt64))) (FP.dadd xk (FP.l2d (1 : Int64)))) (FP.dadd (FP.l2d (ff.toInt64)) (FP.dmul xk (FP.dadd (FP.dsub (FP.l2d (1 : Int64)) xb) (FP.ddiv (FP.dmul xb (FP.l2d (ln.toInt64))) (FP.l2d (aa.toInt64)))))))), .second, .val (.long ((((32 : Int64) * (p0.toInt64)) * (ff.toInt64)) * ((kk + (4 : Int32)).toInt64))), .second, .val (.long ((((128 : Int64) * (ff.toInt64)) + ((kk.toInt64) * (((32 : Int32) - ((8 : Int32) * jj)).toInt64))) + ((((kk.toInt64) * (((8 : Int32) / aa).toInt64)) * (jj.toInt64)) * (ln.toInt64)))), .second, .val (.double (FP.ddiv (FP.l2d ((((32 : Int64) * (p0.toInt64)) * (ff.toInt64)) * ((kk + (4 : Int32)).toInt64))) (FP.l2d ((((128 : Int64) * (ff.toInt64)) + ((kk.toInt64) * (((32 : Int32) - ((8 : Int32) * jj)).toInt64))) + ((((kk.toInt64) * (((8 : Int32) / aa).toInt64)) * (jj.toInt64)) * (ln.toInt64)))))), .second] [(.int (1 : Int32))])) _
      refine XS.goto X29.here hx rfl (pc0 := 179) (pc' := 183) rfl (hb hby at_179) (by decide) (by decide) ?_
      show Steps p.tables e below (T29.setTop (mkF m 183 #[.val (.int p0), .val (.int p1), .val (.int p2), .val (.int p3), .val (.int p4), .val (.int p5), .val (.int kk), .val (.int jj), .val (.int ff), .val (.int ln), .val (.int aa), .val (.double xk), .second, .val (.double xb), .second, .val (.ref b16), .val (.double (FP.ddiv (FP.dmul (FP.dmul (FP.l2d (p0.toInt64)) (FP.l2d (ff.toInt64))) (FP.dadd xk (FP.l2d (1 : Int64)))) (FP.dadd (FP.l2d (ff.toInt64)) (FP.dmul xk (FP.dadd (FP.dsub (FP.l2d (1 : Int64)) xb) (FP.ddiv (FP.dmul xb (FP.l2d (ln.toInt64))) (FP.l2d (aa.toInt64)))))))), .second, .val (.long ((((32 : Int64) * (p0.toInt64)) * (ff.toInt64)) * ((kk + (4 : Int32)).toInt64))), .second, .val (.long ((((128 : Int64) * (ff.toInt64)) + ((kk.toInt64) * (((32 : Int32) - ((8 : Int32) * jj)).toInt64))) + ((((kk.toInt64) * (((8 : Int32) / aa).toInt64)) * (jj.toInt64)) * (ln.toInt64)))), .second, .val (.double (FP.ddiv (FP.l2d ((((32 : Int64) * (p0.toInt64)) * (ff.toInt64)) * ((kk + (4 : Int32)).toInt64))) (FP.l2d ((((128 : Int64) * (ff.toInt64)) + ((kk.toInt64) * (((32 : Int32) - ((8 : Int32) * jj)).toInt64))) + ((((kk.toInt64) * (((8 : Int32) / aa).toInt64)) * (jj.toInt64)) * (ln.toInt64)))))), .second] [(.int (1 : Int32))])) _
      exact q
    obtain ⟨fs, hr, hrun, hended, hW, hsame⟩ := X29.leave (v := some (.int (1 : Int32))) (fun h => by rw [Bd.returns] at h; cases h)
    refine ⟨_, _, pre0 _ (k36_ _ ?_), hrun, hended, _, _, rfl, ?_, ⟨_, rfl⟩, hW, hsame.mono (by decide) (by decide)⟩
    · show Steps p.tables e below (T29.setTop (mkF m 183 #[.val (.int p0), .val (.int p1), .val (.int p2), .val (.int p3), .val (.int p4), .val (.int p5), .val (.int kk), .val (.int jj), .val (.int ff), .val (.int ln), .val (.int aa), .val (.double xk), .second, .val (.double xb), .second, .val (.ref b16), .val (.double (FP.ddiv (FP.dmul (FP.dmul (FP.l2d (p0.toInt64)) (FP.l2d (ff.toInt64))) (FP.dadd xk (FP.l2d (1 : Int64)))) (FP.dadd (FP.l2d (ff.toInt64)) (FP.dmul xk (FP.dadd (FP.dsub (FP.l2d (1 : Int64)) xb) (FP.ddiv (FP.dmul xb (FP.l2d (ln.toInt64))) (FP.l2d (aa.toInt64)))))))), .second, .val (.long ((((32 : Int64) * (p0.toInt64)) * (ff.toInt64)) * ((kk + (4 : Int32)).toInt64))), .second, .val (.long ((((128 : Int64) * (ff.toInt64)) + ((kk.toInt64) * (((32 : Int32) - ((8 : Int32) * jj)).toInt64))) + ((((kk.toInt64) * (((8 : Int32) / aa).toInt64)) * (jj.toInt64)) * (ln.toInt64)))), .second, .val (.double (FP.ddiv (FP.l2d ((((32 : Int64) * (p0.toInt64)) * (ff.toInt64)) * ((kk + (4 : Int32)).toInt64))) (FP.l2d ((((128 : Int64) * (ff.toInt64)) + ((kk.toInt64) * (((32 : Int32) - ((8 : Int32) * jj)).toInt64))) + ((((kk.toInt64) * (((8 : Int32) / aa).toInt64)) * (jj.toInt64)) * (ln.toInt64)))))), .second] [(.int (1 : Int32))])) _
      exact retN X29 hx (t := .boolean) Bd.returns (by simp) (hb hby at_183) hr
    · show Q0 Z p0 p1 p2 p3 p4 p5 h0 n0 _ T29.heap _
      exact ⟨rfl, N29⟩
set_option maxRecDepth 65536 in
set_option maxHeartbeats 40000000 in
theorem comes_1 {Post : Tables → Env → Array Value → State → Outcome → State → Prop} (hpost : ∀ tb e args s v u, (limb_1_1.after args s (.returned v) u = true ∧ limb_1_2.after args s (.returned v) u = true ∧ True) → FrameEnd s (.returned v) u (Jvm.fieldLocs frame_1_writes args s ++ Jvm.arrayLocs frame_1_arrays args s ++ Jvm.staticLocs frame_1_statics s) 16 128 → Post tb e args s (.returned v) u) :
    ArmFor flags0 classFile x code maxLocals ret World_1 tables_1 room_1 Calls_1 rest_1 Pre_1 Post := by
  intro l hfl _ _ p e ha hc hk s m args below hf hA hF happ hP
  obtain ⟨hcalls, hrest, hpre⟩ := hP
  obtain ⟨-, -, -, hnamed, -, -, -, hat⟩ := (Spec.applies_iff hf).mp happ
  obtain ⟨hg, hn⟩ := and_e (Cond.before_iff.mp (show (Jvm.Cond.and given_1 narrow_1).before args s = true from hpre))
  obtain ⟨hcnt, hg0⟩ := and_e hg
  obtain ⟨hi0, hg1⟩ := and_e hg0
  obtain ⟨hi1, hg2⟩ := and_e hg1
  obtain ⟨hi2, hg3⟩ := and_e hg2
  obtain ⟨hi3, hg4⟩ := and_e hg3
  obtain ⟨hi4, hg5⟩ := and_e hg4
  have hi5 := hg5
  obtain ⟨w0, w1, w2, w3, w4, w5, rfl⟩ : ∃ w0 w1 w2 w3 w4 w5 : Value, args = #[w0, w1, w2, w3, w4, w5] := by
    have hs : args.size = 6 := by simpa [Cond.value, given_1] using hcnt
    obtain ⟨L⟩ := args
    match L, hs with
    | [w0, w1, w2, w3, w4, w5], _ => exact ⟨w0, w1, w2, w3, w4, w5, rfl⟩
  have hw := fun d (hd : d ∈ tables_1) => atoms_spec (ws := Jvm.Cond.code x code maxLocals ret :: tables_1) hat d (List.mem_cons_of_mem _ hd)
  have hfit : Fit s := fun {y c} hc i hi => by
    obtain ⟨ha, rfl⟩ := Array.getElem?_eq_some_iff.mp hc
    have q := List.all_eq_true.mp ((Array.all_eq_true_iff_forall_mem.mp hF) _ (Array.getElem_mem ha)) i (List.mem_range.mpr hi)
    simpa [Array.getElem?_eq_getElem hi] using q
  obtain ⟨i0, ei0⟩ := is_v hi0
  obtain rfl : w0 = (.int i0) := Option.some.inj ei0
  obtain ⟨i1, ei1⟩ := is_v hi1
  obtain rfl : w1 = (.int i1) := Option.some.inj ei1
  obtain ⟨i2, ei2⟩ := is_v hi2
  obtain rfl : w2 = (.int i2) := Option.some.inj ei2
  obtain ⟨i3, ei3⟩ := is_v hi3
  obtain rfl : w3 = (.int i3) := Option.some.inj ei3
  obtain ⟨i4, ei4⟩ := is_v hi4
  obtain rfl : w4 = (.int i4) := Option.some.inj ei4
  obtain ⟨i5, ei5⟩ := is_v hi5
  obtain rfl : w5 = (.int i5) := Option.some.inj ei5
  obtain ⟨n, o, h1, h2, h3, _, L, rfl, ⟨rfl, N⟩, hq⟩ := rm0 l s _ hw tables_1 i0 i1 i2 i3 i4 i5  s.heap s.heap.size (Nat.le_refl _)  p e ha hc hk s m _ below hf ((Spec.applies_iff_loose hf).mp happ).1 ⟨rfl, State.Warmed39.refl s, rfl⟩ trivial
  refine ⟨n, _, h1, h2, h3, hpost _ _ _ _ _ _ ⟨Cond.after_iff.mpr rfl, Cond.after_iff.mpr (eq_i res_at (Term.int_eval (1)) rfl), trivial⟩ ⟨hq.1, hq.2.1, (hq.2.2.sift fun y hy => Or.inr (N y hy)).mono (by decide) (by decide)⟩⟩
theorem main_1_1 : Claimed_1_1 := comes_1 fun _ _ _ _ _ _ h hF => ⟨h.1, hF⟩
theorem main_1_2 : Claimed_1_2 := comes_1 fun _ _ _ _ _ _ h hF => ⟨h.2.1, hF⟩
end Jvm.Pilot.@@N@@
namespace Jvm.Pilot.@@N@@
open Jvm Jvm.ClassFile Sem Op Lib Jvm.Free Jvm.Stand Jvm.Pilot.@@N@@.Jvm.D
/-! MADE BY PROGRAM (witnessworld.py) out of the Statement's table words and the real class files: 10 classes; the members and pool entries that the words name. The judged class is class 1, her method 1. -/
namespace start1
open Jvm.ClassFile
def u (s : String) : CpInfo := .utf8 (stringToUtf16 s)
/-- a pool by its gaps: so many unusable entries, then the entry; so many at the end -/
def gap : Nat → List CpInfo → List CpInfo
  | 0, r => r
  | n + 1, r => .unusable :: gap n r
def poolList (es : List (Nat × CpInfo)) (last : Nat) : List CpInfo := es.foldr (fun e r => gap e.1 (e.2 :: r)) (gap last [])
def pool (es : List (Nat × CpInfo)) (last : Nat) : Array CpInfo := ⟨poolList es last⟩
def fileOf (pool : Array CpInfo) (this : Nat) (attrs : Array Attribute := #[]) (ms : Array MethodInfo := #[]) (fl : Nat := 33) (sup : Nat := 0) (ifs : Array Nat := #[]) (fds : Array FieldInfo := #[]) : ClassFile where
  minorVersion := 0
  majorVersion := 65
  constantPool := pool
  accessFlags := fl
  thisClass := this
  superClass := sup
  interfaces := ifs
  fields := fds
  methods := ms
  attributes := attrs
def plain (name : String) (sup : Option ClassId) : Class where
  name := name
  kind := .ordinary
  loader := none
  accessFlags := 33
  super := sup
  interfaces := #[]
  cf := none
  fields := #[]
  methods := #[]
  instanceTypes := #[]
  staticTypes := #[]
  resolved := #[]
  callSites := []
  init := .initialized
  statics := none
  mirror := none

def pool0 : Array CpInfo := pool [(5, u "<init>"), (0, u "()V"), (1, .class_ 10), (1, u "java/lang/Object")] 113

def k0c0 : Code := { maxStack := 0, maxLocals := 1, code := object_method_1_code, exceptionTable := #[], attributes := #[] }
def k0m0 : Method := { name := "<init>", desc := "()V", sig := { parameters := [], returnType := none }, accessFlags := 1, code := some k0c0 }
/-- java/lang/Object -/
def k0 : Class := { plain "java/lang/Object" none with
  accessFlags := 33
  interfaces := #[]
  cf := some (fileOf pool0 8 #[] #[{ accessFlags := 1, nameIndex := 5, descriptorIndex := 6, attributes := #[] }] 33 0 #[] #[])
  fields := #[]
  methods := #[k0m0]
  instanceTypes := #[]
  staticTypes := #[]
  resolved := Array.replicate 124 none
  statics := none }

def pool1 : Array CpInfo := pool [(2, .class_ 4), (1, u "java/lang/Object"), (0, u "<init>"), (0, u "()V"), (0, .integer 2147483647), (0, .double 4616189618054758400), (1, .class_ 11), (0, u "com/example/haku/haku/search/Bm25"), (0, .methodref 10 13), (0, .nameAndType 5 14), (0, u "(DD)V"), (0, .methodref 10 16), (0, .nameAndType 17 18), (0, u "score"), (0, u "(DDID)D"), (0, .long 32), (1, .long 128), (1, .class_ 24), (0, u "com/example/haku/haku/search/Bm25ScorePinLaw"), (2, u "law"), (0, u "(IIIIII)Z")] 3

def k1m0 : Method := { name := "<init>", desc := "()V", sig := { parameters := [], returnType := none }, accessFlags := 1, code := none }
def k1c1 : Code := { maxStack := 8, maxLocals := 24, code := code, exceptionTable := #[], attributes := #[] }
def k1m1 : Method := { name := "law", desc := "(IIIIII)Z", sig := { parameters := [.int, .int, .int, .int, .int, .int], returnType := some .boolean }, accessFlags := 9, code := some k1c1 }
/-- com/example/haku/haku/search/Bm25ScorePinLaw -/
def k1 : Class := { plain "com/example/haku/haku/search/Bm25ScorePinLaw" (some 0) with
  accessFlags := 49
  interfaces := #[]
  cf := some (fileOf pool1 23 #[] #[{ accessFlags := 1, nameIndex := 5, descriptorIndex := 6, attributes := #[] }, { accessFlags := 9, nameIndex := 27, descriptorIndex := 28, attributes := #[] }] 49 2 #[] #[])
  fields := #[]
  methods := #[k1m0, k1m1]
  instanceTypes := #[]
  staticTypes := #[]
  resolved := Array.replicate 32 none
  statics := none }

def pool2 : Array CpInfo := pool [(1, .methodref 2 3), (0, .class_ 4), (0, .nameAndType 5 6), (0, u "java/lang/Object"), (0, u "<init>"), (0, u "()V"), (0, .class_ 8), (0, u "java/lang/Record")] 13

def k2c0 : Code := { maxStack := 1, maxLocals := 1, code := jdk_30_method_1_code, exceptionTable := #[], attributes := #[] }
def k2m0 : Method := { name := "<init>", desc := "()V", sig := { parameters := [], returnType := none }, accessFlags := 4, code := some k2c0 }
/-- java/lang/Record -/
def k2 : Class := { plain "java/lang/Record" (some 0) with
  accessFlags := 1057
  interfaces := #[]
  cf := some (fileOf pool2 7 #[] #[{ accessFlags := 4, nameIndex := 5, descriptorIndex := 6, attributes := #[] }] 1057 2 #[] #[])
  fields := #[]
  methods := #[k2m0]
  instanceTypes := #[]
  staticTypes := #[]
  resolved := Array.replicate 22 none
  statics := none }

def pool3 : Array CpInfo := pool [(1, .methodref 2 3), (0, .class_ 4), (0, .nameAndType 5 6), (0, u "java/lang/Record"), (0, u "<init>"), (0, u "()V"), (2, .double 9218868437227405312), (11, .fieldref 22 23), (0, .class_ 24), (0, .nameAndType 25 26), (0, u "com/example/haku/haku/search/Bm25"), (0, u "k1"), (0, u "D"), (0, .fieldref 22 28), (0, .nameAndType 29 26), (0, u "b"), (20, u "DEFAULT_K1"), (3, u "DEFAULT_B"), (2, u "(DD)V"), (6, u "score"), (0, u "(DDID)D")] 35

def k3c0 : Code := { maxStack := 4, maxLocals := 5, code := prog_92_method_1_code, exceptionTable := #[], attributes := #[] }
def k3m0 : Method := { name := "<init>", desc := "(DD)V", sig := { parameters := [.double, .double], returnType := none }, accessFlags := 1, code := some k3c0 }
def k3c1 : Code := { maxStack := 12, maxLocals := 8, code := prog_92_method_3_code, exceptionTable := #[], attributes := #[] }
def k3m1 : Method := { name := "score", desc := "(DDID)D", sig := { parameters := [.double, .double, .int, .double], returnType := some .double }, accessFlags := 1, code := some k3c1 }
/-- com/example/haku/haku/search/Bm25 -/
def k3 : Class := { plain "com/example/haku/haku/search/Bm25" (some 2) with
  accessFlags := 49
  interfaces := #[]
  cf := some (fileOf pool3 22 #[] #[{ accessFlags := 1, nameIndex := 5, descriptorIndex := 57, attributes := #[] }, { accessFlags := 1, nameIndex := 64, descriptorIndex := 65, attributes := #[] }] 49 2 #[] #[{ accessFlags := 18, nameIndex := 25, descriptorIndex := 26, attributes := #[] }, { accessFlags := 18, nameIndex := 29, descriptorIndex := 26, attributes := #[] }, { accessFlags := 25, nameIndex := 50, descriptorIndex := 26, attributes := #[] }, { accessFlags := 25, nameIndex := 54, descriptorIndex := 26, attributes := #[] }])
  fields := #[{ name := "k1", type := .double, accessFlags := 18, slot := 0, constantValue := 0 }, { name := "b", type := .double, accessFlags := 18, slot := 1, constantValue := 0 }, { name := "DEFAULT_K1", type := .double, accessFlags := 25, slot := 0, constantValue := 0 }, { name := "DEFAULT_B", type := .double, accessFlags := 25, slot := 1, constantValue := 0 }]
  methods := #[k3m0, k3m1]
  instanceTypes := #[.double, .double]
  staticTypes := #[.double, .double]
  resolved := Array.replicate 101 none
  statics := none }

def pool4 : Array CpInfo := pool [(1, u "java/lang/Cloneable"), (0, .class_ 1), (0, u "java/lang/Object"), (0, .class_ 3)] 3

/-- java/lang/Cloneable -/
def k4 : Class := { plain "java/lang/Cloneable" (some 0) with
  accessFlags := 1537
  interfaces := #[]
  cf := some (fileOf pool4 2 #[] #[] 1537 4 #[] #[])
  fields := #[]
  methods := #[]
  instanceTypes := #[]
  staticTypes := #[]
  resolved := Array.replicate 8 none
  statics := none }

def pool5 : Array CpInfo := pool [(1, u "java/io/Serializable"), (0, .class_ 1), (0, u "java/lang/Object"), (0, .class_ 3)] 3

/-- java/io/Serializable -/
def k5 : Class := { plain "java/io/Serializable" (some 0) with
  accessFlags := 1537
  interfaces := #[]
  cf := some (fileOf pool5 2 #[] #[] 1537 4 #[] #[])
  fields := #[]
  methods := #[]
  instanceTypes := #[]
  staticTypes := #[]
  resolved := Array.replicate 8 none
  statics := none }

/-- the primitive byte -/
def k6 : Class := { plain "byte" none with kind := .primitive 'B', accessFlags := 0x411 }
/-- [B -/
def k7 : Class := { plain "[B" (some 0) with kind := .array 6 .byte, interfaces := #[4, 5], accessFlags := 1041 }

/-- the primitive int -/
def k8 : Class := { plain "int" none with kind := .primitive 'I', accessFlags := 0x411 }
/-- [I -/
def k9 : Class := { plain "[I" (some 0) with kind := .array 8 .int, interfaces := #[4, 5], accessFlags := 1041 }

def heap : Heap := #[]
def classes : Array Class := #[k0, k1, k2, k3, k4, k5, k6, k7, k8, k9]
def interned : List (Array UInt16 × Addr) := []
def slotsUsed : Nat := 0
def theMethod : MethodId := ⟨1, 1⟩
def args0 : Array Value := #[.int 5, .int 5, .int 5, .int 5, .int 5, .int 5]
def aboutOver (below : List Frame) : State where
  vm := { classes := classes, interned := interned.toArray }
  heap := heap
  slotsUsed := slotsUsed
  threads := #[{ frames := .invoking theMethod args0 :: below }]
def below0 : List Frame := [.native { method := ⟨0, 0⟩, args := #[] }]
def about1 : State := aboutOver below0
def p0 : Program := .bare "" "" ""
def e0 : Env := launch0.env 0 0 0
theorem w_frames : about1.frames = Frame.invoking theMethod args0 :: below0 := rfl
set_option maxRecDepth 65536 in
theorem w_args : argsFit about1.vm theMethod args0 = true := by decide +kernel
set_option maxRecDepth 65536 in
theorem w_heap : heapFits about1 = true := by decide +kernel
set_option maxRecDepth 65536 in
theorem w_runnable : about1.curStatus? = some .runnable := by decide +kernel
set_option maxRecDepth 65536 in
theorem w_alone : about1.alone = true := by decide +kernel
set_option maxRecDepth 65536 in
theorem w_named : about1.methodNamed? x = some theMethod := by decide +kernel
set_option maxRecDepth 65536 in
theorem w_hears : about1.hears theMethod below0 = true := by decide +kernel
set_option maxRecDepth 65536 in
theorem w_ripe : about1.ripe theMethod args0 below0 = true := by decide +kernel
theorem w_running : about1.status = .running := rfl
set_option maxRecDepth 65536 in
theorem w_room : about1.hasRoom e0.platform room_1 = true :=
  launch0.hasRoom_least _ room_1 (by decide +kernel) (by decide +kernel) (by decide +kernel) (by decide +kernel) (by decide +kernel) (by decide +kernel)
theorem allAtoms_all (ts : List Jvm.Cond) (a : Array Jvm.Value) (st : Jvm.State) : (allAtoms ts).before a st = ts.all (fun c => c.before a st) := by
  induction ts with
  | nil => rfl
  | cons c t ih =>
    show (Jvm.Cond.and c (allAtoms t)).before a st = _
    rw [Jvm.Cond.before_and, ih, List.all_cons]
def words1 : List Jvm.Cond := Jvm.Cond.code x code maxLocals ret :: tables_1
/-- a 'code' word, met by the world's own term for the bytes: nothing is compared byte by byte -/
theorem code_word {y : MethodName} {bytes : ByteArray} {mx : Nat} {rt : Option FieldType} {a : Array Value} {s : State} {m : MethodId} {meth : Method} {c : Code} (h1 : s.methodNamed? y = some m) (h2 : s.vm.method? m = some meth) (h3 : meth.code = some c) (h4 : c.code = bytes)
    (h5 : (c.maxLocals == mx && c.exceptionTable.isEmpty && decide (c.maxStack ≤ mostOperands) && decide (meth.sig.returnType = rt) && !meth.locks && decide (parseMethodDescriptor y.desc = some meth.sig)) = true) : (Jvm.Cond.code y bytes mx rt).before a s = true := by
  simp only [Bool.and_eq_true, beq_iff_eq, Bool.not_eq_true', decide_eq_true_eq] at h5
  obtain ⟨⟨⟨⟨⟨g1, g2⟩, g3⟩, g4⟩, g5⟩, g6⟩ := h5
  simp [Cond.before, Cond.holds, Cond.value, h1, h2, h3, h4, g1, g2, g3, g4, g5, g6]
def isCode : Jvm.Cond → Bool
  | .code _ _ _ _ => true
  | _ => false
theorem all_split {L : List Jvm.Cond} {P : Jvm.Cond → Bool} (h1 : L.all (fun c => isCode c || P c) = true) (h2 : ∀ c ∈ L.filter isCode, P c = true) : L.all P = true := by
  refine List.all_eq_true.mpr fun c hc => ?_
  have h := List.all_eq_true.mp h1 c hc
  rcases Bool.eq_false_or_eq_true (isCode c) with hi | hi
  · exact h2 c (List.mem_filter.mpr ⟨hc, hi⟩)
  · simpa [hi] using h
set_option maxRecDepth 65536 in
theorem w_c0 : (Jvm.Cond.code x code maxLocals ret).before args0 about1 = true := code_word (m := ⟨1, 1⟩) (meth := k1m1) (c := k1c1) (by decide +kernel) rfl rfl rfl (by decide +kernel)
set_option maxRecDepth 65536 in
theorem w_c1 : (Jvm.Cond.code ({ cls := "com/example/haku/haku/search/Bm25", name := "<init>", desc := "(DD)V" } : Jvm.MethodName) prog_92_method_1_code (5 : Nat) (Option.none : Option Jvm.ClassFile.FieldType)).before args0 about1 = true := code_word (m := ⟨3, 0⟩) (meth := k3m0) (c := k3c0) (by decide +kernel) rfl rfl rfl (by decide +kernel)
set_option maxRecDepth 65536 in
theorem w_c2 : (Jvm.Cond.code ({ cls := "java/lang/Record", name := "<init>", desc := "()V" } : Jvm.MethodName) jdk_30_method_1_code (1 : Nat) (Option.none : Option Jvm.ClassFile.FieldType)).before args0 about1 = true := code_word (m := ⟨2, 0⟩) (meth := k2m0) (c := k2c0) (by decide +kernel) rfl rfl rfl (by decide +kernel)
set_option maxRecDepth 65536 in
theorem w_c3 : (Jvm.Cond.code ({ cls := "java/lang/Object", name := "<init>", desc := "()V" } : Jvm.MethodName) object_method_1_code (1 : Nat) (Option.none : Option Jvm.ClassFile.FieldType)).before args0 about1 = true := code_word (m := ⟨0, 0⟩) (meth := k0m0) (c := k0c0) (by decide +kernel) rfl rfl rfl (by decide +kernel)
set_option maxRecDepth 65536 in
theorem w_c4 : (Jvm.Cond.code ({ cls := "com/example/haku/haku/search/Bm25", name := "score", desc := "(DDID)D" } : Jvm.MethodName) prog_92_method_3_code (8 : Nat) (Option.some Jvm.ClassFile.FieldType.double)).before args0 about1 = true := code_word (m := ⟨3, 1⟩) (meth := k3m1) (c := k3c1) (by decide +kernel) rfl rfl rfl (by decide +kernel)
def codes1 : List Jvm.Cond := [Jvm.Cond.code x code maxLocals ret, Jvm.Cond.code ({ cls := "com/example/haku/haku/search/Bm25", name := "<init>", desc := "(DD)V" } : Jvm.MethodName) prog_92_method_1_code (5 : Nat) (Option.none : Option Jvm.ClassFile.FieldType), Jvm.Cond.code ({ cls := "java/lang/Record", name := "<init>", desc := "()V" } : Jvm.MethodName) jdk_30_method_1_code (1 : Nat) (Option.none : Option Jvm.ClassFile.FieldType), Jvm.Cond.code ({ cls := "java/lang/Object", name := "<init>", desc := "()V" } : Jvm.MethodName) object_method_1_code (1 : Nat) (Option.none : Option Jvm.ClassFile.FieldType), Jvm.Cond.code ({ cls := "com/example/haku/haku/search/Bm25", name := "score", desc := "(DDID)D" } : Jvm.MethodName) prog_92_method_3_code (8 : Nat) (Option.some Jvm.ClassFile.FieldType.double)]
set_option maxRecDepth 65536 in
theorem codes_eq : words1.filter isCode = codes1 := rfl
theorem w_codes : ∀ c ∈ words1.filter isCode, c.before args0 about1 = true := by
  rw [codes_eq]
  intro c hc
  simp only [codes1, List.mem_cons, List.not_mem_nil, or_false] at hc
  rcases hc with rfl | rfl | rfl | rfl | rfl
  · exact w_c0
  · exact w_c1
  · exact w_c2
  · exact w_c3
  · exact w_c4
set_option maxRecDepth 65536 in
theorem w_t1 : (words1.take 24).all (fun c => isCode c || c.before args0 about1) = true := by decide +kernel
set_option maxRecDepth 65536 in
theorem w_t2 : (words1.drop 24).all (fun c => isCode c || c.before args0 about1) = true := by decide +kernel
theorem w_tables : (allAtoms (Jvm.Cond.code x code maxLocals ret :: tables_1)).before args0 about1 = true := by
  rw [allAtoms_all]
  show words1.all (fun c => c.before args0 about1) = true
  refine all_split ?_ w_codes
  rw [← List.take_append_drop 24 words1, List.all_append, w_t1, w_t2]
  rfl
set_option maxRecDepth 65536 in
theorem w_case : (Jvm.Cond.and given_1 narrow_1).before args0 about1 = true := by decide +kernel
theorem w_applies : (headSpec (Jvm.Cond.code x code maxLocals ret :: tables_1) room_1).applies x e0.platform about1 = true :=
  (Spec.applies_iff w_frames).mpr ⟨w_running, w_runnable, w_alone, w_named, w_hears, w_ripe, w_room, w_tables⟩
theorem atStart : AtStart classFile x code maxLocals ret World_1 tables_1 room_1 Calls_1 rest_1 Pre_1 launch0 p0 e0 about1 theMethod args0 below0 :=
  ⟨lists_1, trivial, launch0.admits_env _ _ _, launch0.least_env, fairChoices_fair.cas, fairChoices_fair.clock, w_frames, w_args, w_heap, w_applies, trivial, trivial, w_case⟩
end start1
theorem witness_1 : WitnessClaimed_1 := ⟨start1.p0, start1.e0, start1.about1, start1.theMethod, start1.args0, start1.below0, start1.atStart⟩
end Jvm.Pilot.@@N@@
