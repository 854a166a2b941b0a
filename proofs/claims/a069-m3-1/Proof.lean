import JvmDerived
import JvmDerived.Pilot.@@N@@Statement
import JvmDerived.Pilot.@@N@@Code
set_option linter.unusedVariables false
set_option linter.unusedSimpArgs false
namespace Jvm.RoadKit
open Sem ClassFile Op Lib Jvm.Stand Jvm.Free Jvm.LawKit
section New
variable {p : Program} {l : Launch} {e : Env} {R : Room} {s : State} {m : MethodId} {args : Array Value} {below : List Frame} {meth : Method} {c : Code} {T : State} {locs : List Loc} {cells slots : Nat}
theorem retI (X : Stand p l e R s m args below meth c T locs cells slots) (hx : p.tables.exec = Jvm.exec) {pc : Nat} {Ls : Array Slot} {z : Int32} {rest : List Value} (hret : meth.sig.returnType = some .int) (hd : decode c.code pc = .ok (.ireturn, 1)) {fs : List Frame}
    (hl : ∀ (f : JFrame) (acts : List Action), f.method = m → f.locked = none → f.entered = [] → (doReturn e (T.setTop f) acts (some (.int z))).1 = T.setFrames fs) : Steps p.tables e below (T.setTop (mkF m pc Ls (.int z :: rest))) (T.setFrames fs) := by
  have hm' : T.vm.method? m = some meth := X.method'
  have hn : narrow .int (.int z) = .int z := rfl
  show Steps p.tables e below (T.setTop { method := m, pc := pc, locals := Ls, stack := _ :: rest, locked := none }) _
  jvm_step X.here [X.here.top, hx, hd, hm', hret, hn]
  first | (intro acts; rw [hl _ acts rfl rfl rfl]) | rw [hl _ _ rfl rfl rfl]
  exact Steps.refl _
end New
end Jvm.RoadKit
namespace Jvm.RoadKit
open Sem ClassFile Op Lib Jvm.Stand Jvm.Free Jvm.LawKit
theorem own_lsw {tb : Tables} [Ours tb] {e : Env} {below : List Frame} {T target : State} {m : MethodId} {c : Code} {g : JFrame} (h : At T m c below) (hx : tb.exec = Jvm.exec) (hg : g.method = m) {dflt : Int} {pairs : Array (Int × Int)} {len : Nat} {pc0 pc' : Nat} (hpc : g.pc = pc0) (hd : decode c.code g.pc = .ok (.lookupswitch dflt pairs, len)) {i : Int32} {rest : List Value} (hs : g.stack = .int i :: rest) {o : Int}
    (hoff : lookupswitch.offset pairs.toList dflt i.toInt = o) (hso : (pairs.toList.zip (pairs.toList.drop 1)).all (fun (a, next) => a.1 < next.1) = true) (ho : 0 ≤ (pc0 : Int) + o) (hp : ((pc0 : Int) + o).toNat = pc')
    (hr : Steps tb e below (T.setTop { g with pc := pc', stack := rest }) target) : Steps tb e below (T.setTop g) target := by
  subst hg hpc hp
  jvm_step h [h.top, hx, hd, hs, hoff, ho, lookupswitch.wp_chain]
  exact ⟨by simpa using hso, hr⟩
theorem own_off_no {k d : Int} : ∀ {L : List (Int × Int)}, (∀ q ∈ L, ¬ q.1 = k) → lookupswitch.offset L d k = d
  | [], _ => rfl
  | (a, o) :: r, h => by rw [lookupswitch.offset_cons, if_neg (h (a, o) (List.mem_cons_self ..))]; exact own_off_no fun q hq => h q (List.mem_cons_of_mem _ hq)
theorem own_ne_lit {x k : Int32} (h : ¬ x = k) {z : Int} (hz : k.toInt = z) : ¬ z = x.toInt := fun q => h (Int32.toInt_inj.mp (by rw [← q, hz]))
def own_rem (x y : Int32) : Int32 := x - (x / y) * y
def bi (P : Prop) [Decidable P] : Int32 := if P then 1 else 0
theorem bi_t {P : Prop} [Decidable P] (h : P) : bi P = 1 := if_pos h
theorem bi_f {P : Prop} [Decidable P] (h : ¬ P) : bi P = 0 := if_neg h
theorem bi_nar {P : Prop} [Decidable P] : nar .boolean (bi P) = bi P := by unfold bi; split <;> rfl
theorem bi_0 {P : Prop} [Decidable P] : (bi P = 0) ↔ ¬ P := by unfold bi; split <;> simp_all
theorem bi_inj {P Q : Prop} [Decidable P] [Decidable Q] (h : P ↔ Q) : bi P = bi Q := by unfold bi; simp only [h]
end Jvm.RoadKit
namespace Jvm.RoadKit
open Sem ClassFile Op Lib Jvm.Stand Jvm.Free Jvm.LawKit
section OwnWords
variable {args : Array Value} {s : State} {idx : List Nat} {t i : Term} {aT : Addr} {cl : Cell} {b k A B z : Int32}
theorem own_or {G Y : Cond} (h : (Cond.or G Y).value args s none s idx = some true) (hg : G.value args s none s idx = some false) : Y.value args s none s idx = some true := by
  simpa only [Cond.value, hg] using h
theorem own_el (h : (Cond.eq (.elem t i) (.int b)).value args s none s idx = some true) (ht : t.eval args s none idx s = some (.ref aT)) (hi : i.eval args s none idx s = some (.int k)) (hc : s.heap[aT]? = some cl) : atv cl k = b := by
  obtain ⟨x, y, e1, e2, -, -⟩ := cmp_v (Or.inl h)
  obtain ⟨-, e3⟩ := elem_in e1 ht hi hc
  have e4 : (Term.int b).eval args s none idx s = some (.int b) := rfl
  cases e4.symm.trans e2
  have e5 : x = .int b := by cases x <;> simp [Cond.value, e1, e4] at h; rw [h]
  subst e5
  exact atv_of e3
theorem own_r1 (h : (Cond.all t (.or (.le (.int A) (.index 0)) (.eq (.elem t (.index 0)) (.int b)))).value args s none s [] = some true) (ht : ∀ idx, t.eval args s none idx s = some (.ref aT)) (hc : s.heap[aT]? = some cl) (ha : s.arrayAt? aT = some cl) {n : Nat} (hn : n < cl.slots.size) (h1 : ¬ A ≤ n.toInt32) : atv cl n.toInt32 = b := by
  have q := Cond.all_elim (ht []) ha h n hn
  exact own_el (own_or q (by simp [Cond.value, Term.eval, h1])) (ht _) (by simp [Term.eval]) hc
theorem own_r2 (h : (Cond.all t (.or (.lt (.index 0) (.int A)) (.or (.le (.int B) (.index 0)) (.eq (.elem t (.index 0)) (.int b))))).value args s none s [] = some true) (ht : ∀ idx, t.eval args s none idx s = some (.ref aT)) (hc : s.heap[aT]? = some cl) (ha : s.arrayAt? aT = some cl) {n : Nat} (hn : n < cl.slots.size) (h1 : ¬ n.toInt32 < A) (h2 : ¬ B ≤ n.toInt32) : atv cl n.toInt32 = b := by
  have q := Cond.all_elim (ht []) ha h n hn
  exact own_el (own_or (own_or q (by simp [Cond.value, Term.eval, h1])) (by simp [Cond.value, Term.eval, h2])) (ht _) (by simp [Term.eval]) hc
theorem own_len (h : (Cond.eq (.length t) (.int z)).value args s none s idx = some true) (ht : t.eval args s none idx s = some (.ref aT)) (ha : s.arrayAt? aT = some cl) : cl.slots.size < 2 ^ 31 ∧ cl.slots.size.toInt32 = z := by
  by_cases q : cl.slots.size < 2 ^ 31
  · simp [Cond.value, Term.eval, ht, ha, q] at h; exact ⟨q, h⟩
  · simp [Cond.value, Term.eval, ht, ha, q] at h
theorem own_sta_idx {C n d : String} {v : Value} (h : (Term.static C n d).eval args s none [] s = some v) (idx : List Nat) : (Term.static C n d).eval args s none idx s = some v := by
  simp only [Term.eval] at h ⊢; exact h
end OwnWords
theorem own_toInt_ofNat {n : Nat} (h : n < 2147483648) : (Int32.ofNat n).toInt = n := Int32.toInt_ofNat_small h
theorem own_of_rng {c : Int32} (h0 : ¬ c < 0) : c = Int32.ofNat c.toInt.toNat := by
  have h0' : 0 ≤ c.toInt := by rw [Int32.lt_iff_toInt_lt] at h0; have : (0 : Int32).toInt = 0 := rfl; omega
  have := c.toInt_lt
  apply Int32.toInt_inj.mp
  rw [own_toInt_ofNat (by omega)]; omega
end Jvm.RoadKit
namespace Jvm.RoadKit
open Sem ClassFile Op Lib Jvm.Stand Jvm.Free Jvm.LawKit
theorem own_ord {args : Array Value} {s : State} {t : Term} {a : Addr} {k : Int32} {C n d : String} (h : (Cond.eq (.field t C n d) (.int k)).value args s none s [] = some true) (ht : t.eval args s none [] s = some (.ref a)) : s.fieldOf? a C n d = some (.int k) := by
  obtain ⟨x, y, e1, e2, -, -⟩ := cmp_v (Or.inl h)
  have e4 : (Term.int k).eval args s none [] s = some (.int k) := rfl
  have e5 : x = .int k := by cases x <;> simp [Cond.value, e1, e4] at h; rw [h]
  rw [fld_at ht] at e1
  rw [e1, e5]
theorem own_ord_ne {o : Addr → Option Value} {a b : Addr} {j k : Int32} (h1 : o a = some (.int j)) (h2 : o b = some (.int k)) (hjk : ¬ j = k) : ¬ a = b := fun e => by
  subst e; exact hjk (Value.int.inj (Option.some.inj (h1.symm.trans h2)))
theorem own_and7 (x : Int32) : (x &&& 7).toInt = 0 ∨ (x &&& 7).toInt = 1 ∨ (x &&& 7).toInt = 2 ∨ (x &&& 7).toInt = 3 ∨ (x &&& 7).toInt = 4 ∨ (x &&& 7).toInt = 5 ∨ (x &&& 7).toInt = 6 ∨ (x &&& 7).toInt = 7 := by
  have h := c_mask x 7 3 (by decide) (by decide)
  have : ((2 ^ 3 : Nat) : Int) = 8 := rfl
  omega
theorem own_i32 {x k : Int32} {z : Int} (h : x.toInt = z) (hk : k.toInt = z) : x = k := Int32.toInt_inj.mp (h.trans hk.symm)
end Jvm.RoadKit
namespace Jvm.Pilot.@@N@@
open Jvm Jvm.ClassFile Sem Op Lib Jvm.Free Jvm.Stand Jvm.LawKit Jvm.RoadKit Bundle Jvm.Pilot.@@N@@.Jvm.D
theorem own_dc1 : FP.dconst1 = FP.l2d (1 : Int64) := by decide +kernel
theorem own_c2 : (4611686018427387904 : UInt64) = FP.l2d (2 : Int64) := by decide +kernel
theorem own_c3 : (4613937818241073152 : UInt64) = FP.l2d (3 : Int64) := by decide +kernel
theorem own_c4 : (4616189618054758400 : UInt64) = FP.l2d (4 : Int64) := by decide +kernel
def own_dv (z : Int64) : Value := .double (FP.l2d z)
theorem own_getD (L : List Int32) (n : Nat) : (L.map Value.int).getD n (.int (0 : Int32)) = .int (L.getD n 0) := by
  simp only [List.getD, List.getElem?_map]; cases L[n]? <;> rfl
theorem own_getDd (L : List Int64) (n : Nat) : (L.map own_dv).getD n (.double (FP.l2d (0 : Int64))) = .double (FP.l2d (L.getD n 0)) := by
  simp only [List.getD, List.getElem?_map]; cases L[n]? <;> rfl
theorem own_ix {α β : Type} {j : Int32} (h0 : ¬ j < 0) (h4 : j < 4) {xs : List α} {f : α → β} (hl : xs.length = 4) : j.toNatClampNeg < (xs.map f).length := by
  have := nat_of h0; rw [Int32.lt_iff_toInt_lt] at h4; have e : (4 : Int32).toInt = 4 := rfl
  rw [List.length_map, hl]; omega
theorem own_set_get {xs : List Int32} (hl : xs.length = 4) {j v : Int32} (h0 : ¬ j < 0) (h4 : j < 4) : (xs.set j.toNatClampNeg v).getD j.toNatClampNeg 0 = v := by
  have h := own_ix (f := id) h0 h4 hl
  rw [List.length_map] at h
  simp [List.getD, h]
def own_x0 : List Int32 := [-1, -2, -3, -4]
def own_n0 : List Int32 := [20, 21, 22, 23]
def own_d0 : List Int64 := [1, 2, 3, 4]
theorem own_b53 (x : Int32) : B53 x.toInt64 := by
  have h := c_i2l x; have := rng32 x
  unfold B53; omega
theorem own_d0b : ∀ n : Fin 4, B53 (own_d0.getD (Int32.ofNat n.val).toNatClampNeg 0) ∧ own_d0.getD (Int32.ofNat n.val).toNatClampNeg 0 = ((Int32.ofNat n.val) + (1 : Int32)).toInt64 := by unfold B53; decide +kernel
theorem own_near4 {c : Int32} (h0 : ¬ c < 0) (h1 : c < 4) : ∃ n : Fin 4, c = Int32.ofNat n.val := by
  have e := own_of_rng h0
  have hn : c.toInt.toNat < 4 := by rw [Int32.lt_iff_toInt_lt] at h0 h1; have : (4 : Int32).toInt = 4 := rfl; have : (0 : Int32).toInt = 0 := rfl; omega
  exact ⟨⟨_, hn⟩, e⟩
theorem own_d0s {s : Int32} (h0 : ¬ s < 0) (h1 : s < 4) : B53 (own_d0.getD s.toNatClampNeg 0) ∧ own_d0.getD s.toNatClampNeg 0 = (s + (1 : Int32)).toInt64 := by
  obtain ⟨n, rfl⟩ := own_near4 h0 h1; exact own_d0b n
theorem own_and3 (x : Int32) : ¬ (x &&& (3 : Int32)) < (0 : Int32) ∧ (x &&& (3 : Int32)) < (4 : Int32) := by
  have h := c_mask x 3 2 (by decide) (by decide)
  have : ((2 ^ 2 : Nat) : Int) = 4 := rfl
  rw [Int32.lt_iff_toInt_lt, Int32.lt_iff_toInt_lt]
  have : (0 : Int32).toInt = 0 := rfl; have : (4 : Int32).toInt = 4 := rfl; omega
theorem own_rem_rng (x y : Int32) (hx : 0 ≤ x.toInt) (hy : 0 < y.toInt) : 0 ≤ (own_rem x y).toInt ∧ (own_rem x y).toInt < y.toInt := by
  have h2 : (own_rem x y).toInt = x.toInt.tmod y.toInt := rem_toInt _ _
  have h4 := tmod_bounds (a := x.toInt) hy
  have h5 : 0 ≤ x.toInt.tmod y.toInt := Int.tmod_nonneg _ hx
  omega
theorem own_pos (x : Int32) : 0 ≤ (x &&& (2147483647 : Int32)).toInt := (c_and x 2147483647 (by decide)).1
theorem own_sub4 {r : Int32} (h : ¬ r < (0 : Int32) ∧ r < (4 : Int32)) : ((4 : Int32) - r).toInt = 4 - r.toInt := by
  have h1 := h.1; have h2 := h.2; rw [Int32.lt_iff_toInt_lt] at h1 h2
  have a := c_isub 4 r; have b := rng32 ((4 : Int32) - r); have e : (4 : Int32).toInt = 4 := rfl; have e0 : (0 : Int32).toInt = 0 := rfl; omega
theorem own_ne0 {x : Int32} (h : 0 < x.toInt) : x ≠ 0 := fun q => by rw [q] at h; exact absurd h (by decide)
theorem own_o {r d : Int32} (h : ¬ r < (0 : Int32) ∧ r < (4 : Int32)) : r.toInt ≤ (r + own_rem (d &&& (2147483647 : Int32)) ((4 : Int32) - r)).toInt ∧ (r + own_rem (d &&& (2147483647 : Int32)) ((4 : Int32) - r)).toInt < 4 := by
  have e := own_sub4 h
  have h1 := h.1; have h2 := h.2; rw [Int32.lt_iff_toInt_lt] at h1 h2
  have e4 : (4 : Int32).toInt = 4 := rfl; have e0 : (0 : Int32).toInt = 0 := rfl
  have q := own_rem_rng (d &&& 2147483647) (4 - r) (own_pos d) (by omega)
  have a := c_iadd r (own_rem (d &&& (2147483647 : Int32)) ((4 : Int32) - r)); have b := rng32 (r + own_rem (d &&& (2147483647 : Int32)) ((4 : Int32) - r)); omega
theorem own_sub {r o : Int32} (h : r < o) (h0 : 0 ≤ r.toInt) : (o - r).toInt = o.toInt - r.toInt ∧ 0 < (o - r).toInt := by
  rw [Int32.lt_iff_toInt_lt] at h
  have a := c_isub o r; have b := rng32 (o - r); have c := rng32 o; omega
def own_s (b r o : Int32) : Int32 := if b < r then b else if r < o then (r + own_rem (b &&& (2147483647 : Int32)) (o - r)) else -1
def own_in (b r o : Int32) : Int32 := if b < r then 0 else if r < o then 1 else 0
theorem own_si {b r o : Int32} (hr : ¬ r < (0 : Int32) ∧ r < (4 : Int32)) (ho : r.toInt ≤ o.toInt ∧ o.toInt < 4) : (own_in b r o = 0 ∧ own_s b r o < r) ∨ (own_in b r o = 1 ∧ ¬ own_s b r o < r ∧ ¬ own_s b r o < (0 : Int32) ∧ own_s b r o < (4 : Int32)) := by
  have h1 := hr.1; have h2 := hr.2; rw [Int32.lt_iff_toInt_lt] at h1 h2
  have e4 : (4 : Int32).toInt = 4 := rfl; have e0 : (0 : Int32).toInt = 0 := rfl
  unfold own_in own_s
  by_cases c1 : b < r
  · rw [if_pos c1, if_pos c1]; exact Or.inl ⟨rfl, c1⟩
  · rw [if_neg c1, if_neg c1]
    by_cases c2 : r < o
    · rw [if_pos c2, if_pos c2]
      have q := own_sub c2 (by omega)
      have w := own_rem_rng (b &&& 2147483647) (o - r) (own_pos b) q.2
      have a := c_iadd r (own_rem (b &&& (2147483647 : Int32)) (o - r)); have b' := rng32 (r + own_rem (b &&& (2147483647 : Int32)) (o - r))
      refine Or.inr ⟨rfl, ?_, ?_, ?_⟩ <;> rw [Int32.lt_iff_toInt_lt] <;> omega
    · rw [if_neg c2, if_neg c2]
      refine Or.inl ⟨rfl, ?_⟩
      rw [Int32.lt_iff_toInt_lt]; have : (-1 : Int32).toInt = -1 := rfl; omega
def QA (Z : State) (a : Addr) (r : Int32) (o : Int32) (u : Int32) (ew : Int64) (nb : Addr) (wt : Addr) (ka : ClassId) (kn : ClassId) (kw : ClassId) (xs : List Int32) (ns : List Int32) (ds : List Int64) (j : Int32) (h0 : Heap) (n0 : Nat) (v : Option Value) (h : Heap) (L : List Loc) : Prop := v = some (.int o) ∧ Fr n0 L ∧ Keep h0 h [wt] ∧ Arv Z h wt kw .double (4 : Int32) ((ds.set j.toNatClampNeg ((ds.getD j.toNatClampNeg 0) + ew)).map own_dv) (.double (FP.l2d (0 : Int64)))
theorem ef_A (m : MethodId) (x0 : Addr) (x1 : Int32) (x2 : Int32) (x3 : Int32) (x4 : UInt64) (x5 : Addr) (x6 : Addr) : entryFrame m #[(.ref x0), (.int x1), (.int x2), (.int x3), (.double x4), (.ref x5), (.ref x6)] 8 = mkF m 0 #[.val (.ref x0), .val (.int x1), .val (.int x2), .val (.int x3), .val (.double x4), .second, .val (.ref x5), .val (.ref x6)] [] := by first | (simp [entryFrame, mkF, argsToLocals, Value.category]; done) | rfl
theorem pn_Graph : plainName "com/example/weir/weir/kway/Graph" = true := by first | (simp [plainName, overriddenIn]; done) | decide +kernel
theorem d_prog_45_method_19_0 : decode prog_45_method_19_code 0 = .ok (.aload_n 0, 1) := by decide +kernel
theorem d_prog_45_method_19_1 : decode prog_45_method_19_code 1 = .ok (.iload_n 3, 1) := by decide +kernel
theorem d_prog_45_method_19_2 : decode prog_45_method_19_code 2 = .ok (.iaload, 1) := by decide +kernel
theorem d_prog_45_method_19_3 : decode prog_45_method_19_code 3 = .ok (.iload_n 1, 1) := by decide +kernel
theorem d_prog_45_method_19_4 : decode prog_45_method_19_code 4 = .ok (.if_icmp .lt 16, 3) := by decide +kernel
theorem d_prog_45_method_19_7 : decode prog_45_method_19_code 7 = .ok (.aload 7, 2) := by decide +kernel
theorem d_prog_45_method_19_9 : decode prog_45_method_19_code 9 = .ok (.aload_n 0, 1) := by decide +kernel
theorem d_prog_45_method_19_10 : decode prog_45_method_19_code 10 = .ok (.iload_n 3, 1) := by decide +kernel
theorem d_prog_45_method_19_11 : decode prog_45_method_19_code 11 = .ok (.iaload, 1) := by decide +kernel
theorem d_prog_45_method_19_12 : decode prog_45_method_19_code 12 = .ok (.dup2, 1) := by decide +kernel
theorem d_prog_45_method_19_13 : decode prog_45_method_19_code 13 = .ok (.daload, 1) := by decide +kernel
theorem d_prog_45_method_19_14 : decode prog_45_method_19_code 14 = .ok (.dload 4, 2) := by decide +kernel
theorem d_prog_45_method_19_16 : decode prog_45_method_19_code 16 = .ok (.dadd, 1) := by decide +kernel
theorem d_prog_45_method_19_17 : decode prog_45_method_19_code 17 = .ok (.dastore, 1) := by decide +kernel
theorem d_prog_45_method_19_18 : decode prog_45_method_19_code 18 = .ok (.iload_n 2, 1) := by decide +kernel
theorem d_prog_45_method_19_19 : decode prog_45_method_19_code 19 = .ok (.ireturn, 1) := by decide +kernel
set_option maxRecDepth 65536 in
set_option maxHeartbeats 40000000 in
theorem rmA (l : Launch) (Z : State) (a0 : Array Value) (hw : ∀ d ∈ tables_1, d.before a0 Z = true) (ws : List Jvm.Cond) (a : Addr) (r : Int32) (o : Int32) (u : Int32) (ew : Int64) (nb : Addr) (wt : Addr) (ka : ClassId) (kn : ClassId) (kw : ClassId) (xs : List Int32) (ns : List Int32) (ds : List Int64) (j : Int32) (h0 : Heap) (n0 : Nat) (Z0 : n0 ≤ h0.size) (VA : Arv Z h0 a ka .int (4 : Int32) (xs.map Value.int) (.int (0 : Int32))) (VN : Arv Z h0 nb kn .int (4 : Int32) (ns.map Value.int) (.int (0 : Int32))) (VW : Arv Z h0 wt kw .double (4 : Int32) (ds.map own_dv) (.double (FP.l2d (0 : Int64)))) (hxl : xs.length = 4) (hnl : ns.length = 4) (hdl : ds.length = 4) (hu0 : ¬ u < (0 : Int32)) (hu4 : u < (4 : Int32)) (hj : xs.getD u.toNatClampNeg 0 = j) (hjr : ¬ j < r) (hj0 : ¬ j < (0 : Int32)) (hj4 : j < (4 : Int32)) (hb1 : B53 (ds.getD j.toNatClampNeg 0)) (hb2 : B53 ew) (gw : n0 ≤ wt) :
    MetFree l (⟨"com/example/weir/weir/kway/Graph", "addToRow", "([IIIID[I[D)I"⟩ : MethodName) (head1 (Jvm.Cond.code (⟨"com/example/weir/weir/kway/Graph", "addToRow", "([IIIID[I[D)I"⟩ : MethodName) prog_45_method_19_code 8 (some .int) :: ws) ({ frames := 0, cells := 0, slots := 0, locals := 0 } : Room)) (fun a_ U_ => a_ = #[(.ref a), (.int r), (.int o), (.int u), (.double (FP.l2d ew)), (.ref nb), (.ref wt)] ∧ Z.Warmed39 U_.vm ∧ U_.heap = h0) (fun _ _ _ _ _ => True) (fun _ U_ o_ E_ => ∃ v_ L_, o_ = .returned v_ ∧ QA Z a r o u ew nb wt ka kn kw xs ns ds j h0 n0 v_ E_.heap L_ ∧ FrameEnd U_ o_ E_ L_ ({ frames := 0, cells := 0, slots := 0, locals := 0 } : Room).cells ({ frames := 0, cells := 0, slots := 0, locals := 0 } : Room).slots) := by
  refine MetFree.of_bodySF (plainFor_of_name pn_Graph) hisR ?_
  intro p e s m args below meth c s₁ Bd hml0 hP hK
  obtain ⟨rfl, hZ, hh⟩ := hP
  have hx := Bd.exec
  have hby := Bd.bytes
  have hml : c.maxLocals = 8 := hml0
  have hown : s.vm.findClass "com/example/weir/weir/kway/Graph" = some m.cls := findClass_of_methodNamed Bd.named
  have hnm := (name_of_methodNamed Bd.named Bd.method).1
  have X0 : Stand p l e ({ frames := 0, cells := 0, slots := 0, locals := 0 } : Room) s m #[(.ref a), (.int r), (.int o), (.int u), (.double (FP.l2d ew)), (.ref nb), (.ref wt)] below meth c s₁ [] 0 0 := Stand.of_body Bd
  have e0 : s₁.heap = h0 := by rw [← hh, Bd.state]; rfl
  have N0 := Fr.nil n0
  have Zn := Z0
  have pre0 : ∀ t, Steps p.tables e below (s₁.setTop (mkF m 0 #[.val (.ref a), .val (.int r), .val (.int o), .val (.int u), .val (.double (FP.l2d ew)), .second, .val (.ref nb), .val (.ref wt)] [])) t → Steps p.tables e below (s₁.setTop (entryFrame m #[(.ref a), (.int r), (.int o), (.int u), (.double (FP.l2d ew)), (.ref nb), (.ref wt)] 8)) t := fun t q => castTop (ef_A m a r o u (FP.l2d ew) nb wt) q
  have k0 : ∀ t, Steps p.tables e below (s₁.setTop (mkF m 0 #[.val (.ref a), .val (.int r), .val (.int o), .val (.int u), .val (.double (FP.l2d ew)), .second, .val (.ref nb), .val (.ref wt)] [])) t → Steps p.tables e below (s₁.setTop (mkF m 0 #[.val (.ref a), .val (.int r), .val (.int o), .val (.int u), .val (.double (FP.l2d ew)), .second, .val (.ref nb), .val (.ref wt)] [])) t := fun t q => q
  obtain ⟨cA, ArA, qA, SA, MA, HA, GA⟩ := id VA
  obtain ⟨cW, ArW, qW, SW, MW, HW, GW⟩ := id VW
  have KP := Keep.refl h0 [wt]
  have V_wt := VW
  have k1_ : ∀ t, Steps p.tables e below (s₁.setTop (mkF m 4 #[.val (.ref a), .val (.int r), .val (.int o), .val (.int u), .val (.double (FP.l2d ew)), .second, .val (.ref nb), .val (.ref wt)] [(.int r), (.int j)])) t → Steps p.tables e below (s₁.setTop (mkF m 0 #[.val (.ref a), .val (.int r), .val (.int o), .val (.int u), .val (.double (FP.l2d ew)), .second, .val (.ref nb), .val (.ref wt)] [])) t := by
    intro t q
    refine k0 _ ?_
    show Steps p.tables e below (s₁.setTop (mkF m 0 #[.val (.ref a), .val (.int r), .val (.int o), .val (.int u), .val (.double (FP.l2d ew)), .second, .val (.ref nb), .val (.ref wt)] [])) _
    refine XS.aloadN X0.here hx rfl (hb hby d_prog_45_method_19_0) rfl rfl ?_
    show Steps p.tables e below (s₁.setTop (mkF m 1 #[.val (.ref a), .val (.int r), .val (.int o), .val (.int u), .val (.double (FP.l2d ew)), .second, .val (.ref nb), .val (.ref wt)] [(.ref a)])) _
    refine XS.iloadN X0.here hx rfl (hb hby d_prog_45_method_19_1) rfl ?_
    show Steps p.tables e below (s₁.setTop (mkF m 2 #[.val (.ref a), .val (.int r), .val (.int o), .val (.int u), .val (.double (FP.l2d ew)), .second, .val (.ref nb), .val (.ref wt)] [(.int u), (.ref a)])) _
    refine X0.iaload hx (j := u) (v := (.int j)) (by rw [e0]; exact ArA.1) (State.isArrayOf_alike hZ.alike ArA.2.1) ArA.2.2 (inb_of SA ⟨hu0, hu4⟩) (HA.at (inb_of SA ⟨hu0, hu4⟩) (by rw [own_getD, hj])) (g := (mkF m 2 #[.val (.ref a), .val (.int r), .val (.int o), .val (.int u), .val (.double (FP.l2d ew)), .second, .val (.ref nb), .val (.ref wt)] [(.int u), (.ref a)])) rfl rfl (hb hby d_prog_45_method_19_2) _ ?_
    show Steps p.tables e below (s₁.setTop (mkF m 3 #[.val (.ref a), .val (.int r), .val (.int o), .val (.int u), .val (.double (FP.l2d ew)), .second, .val (.ref nb), .val (.ref wt)] [(.int j)])) _
    refine XS.iloadN X0.here hx rfl (hb hby d_prog_45_method_19_3) rfl ?_
    show Steps p.tables e below (s₁.setTop (mkF m 4 #[.val (.ref a), .val (.int r), .val (.int o), .val (.int u), .val (.double (FP.l2d ew)), .second, .val (.ref nb), .val (.ref wt)] [(.int r), (.int j)])) _
    exact q
  have k2_ : ∀ t, Steps p.tables e below (s₁.setTop (mkF m 7 #[.val (.ref a), .val (.int r), .val (.int o), .val (.int u), .val (.double (FP.l2d ew)), .second, .val (.ref nb), .val (.ref wt)] [])) t → Steps p.tables e below (s₁.setTop (mkF m 0 #[.val (.ref a), .val (.int r), .val (.int o), .val (.int u), .val (.double (FP.l2d ew)), .second, .val (.ref nb), .val (.ref wt)] [])) t := by
    intro t q
    refine k1_ _ ?_
    show Steps p.tables e below (s₁.setTop (mkF m 4 #[.val (.ref a), .val (.int r), .val (.int o), .val (.int u), .val (.double (FP.l2d ew)), .second, .val (.ref nb), .val (.ref wt)] [(.int r), (.int j)])) _
    refine XS.icmpNo X0.here hx rfl (hb hby d_prog_45_method_19_4) rfl (flt hjr).1 ?_
    show Steps p.tables e below (s₁.setTop (mkF m 7 #[.val (.ref a), .val (.int r), .val (.int o), .val (.int u), .val (.double (FP.l2d ew)), .second, .val (.ref nb), .val (.ref wt)] [])) _
    exact q
  have k3_ : ∀ t, Steps p.tables e below (s₁.setTop (mkF m 17 #[.val (.ref a), .val (.int r), .val (.int o), .val (.int u), .val (.double (FP.l2d ew)), .second, .val (.ref nb), .val (.ref wt)] [(.double (FP.l2d ((ds.getD j.toNatClampNeg 0) + ew))), (.int j), (.ref wt)])) t → Steps p.tables e below (s₁.setTop (mkF m 0 #[.val (.ref a), .val (.int r), .val (.int o), .val (.int u), .val (.double (FP.l2d ew)), .second, .val (.ref nb), .val (.ref wt)] [])) t := by
    intro t q
    refine k2_ _ ?_
    show Steps p.tables e below (s₁.setTop (mkF m 7 #[.val (.ref a), .val (.int r), .val (.int o), .val (.int u), .val (.double (FP.l2d ew)), .second, .val (.ref nb), .val (.ref wt)] [])) _
    refine XS.aload X0.here hx rfl (hb hby d_prog_45_method_19_7) rfl rfl ?_
    show Steps p.tables e below (s₁.setTop (mkF m 9 #[.val (.ref a), .val (.int r), .val (.int o), .val (.int u), .val (.double (FP.l2d ew)), .second, .val (.ref nb), .val (.ref wt)] [(.ref wt)])) _
    refine XS.aloadN X0.here hx rfl (hb hby d_prog_45_method_19_9) rfl rfl ?_
    show Steps p.tables e below (s₁.setTop (mkF m 10 #[.val (.ref a), .val (.int r), .val (.int o), .val (.int u), .val (.double (FP.l2d ew)), .second, .val (.ref nb), .val (.ref wt)] [(.ref a), (.ref wt)])) _
    refine XS.iloadN X0.here hx rfl (hb hby d_prog_45_method_19_10) rfl ?_
    show Steps p.tables e below (s₁.setTop (mkF m 11 #[.val (.ref a), .val (.int r), .val (.int o), .val (.int u), .val (.double (FP.l2d ew)), .second, .val (.ref nb), .val (.ref wt)] [(.int u), (.ref a), (.ref wt)])) _
    refine X0.iaload hx (j := u) (v := (.int j)) (by rw [e0]; exact ArA.1) (State.isArrayOf_alike hZ.alike ArA.2.1) ArA.2.2 (inb_of SA ⟨hu0, hu4⟩) (HA.at (inb_of SA ⟨hu0, hu4⟩) (by rw [own_getD, hj])) (g := (mkF m 11 #[.val (.ref a), .val (.int r), .val (.int o), .val (.int u), .val (.double (FP.l2d ew)), .second, .val (.ref nb), .val (.ref wt)] [(.int u), (.ref a), (.ref wt)])) rfl rfl (hb hby d_prog_45_method_19_11) _ ?_
    show Steps p.tables e below (s₁.setTop (mkF m 12 #[.val (.ref a), .val (.int r), .val (.int o), .val (.int u), .val (.double (FP.l2d ew)), .second, .val (.ref nb), .val (.ref wt)] [(.int j), (.ref wt)])) _
    refine XT.dup2 X0.here hx rfl (hb hby d_prog_45_method_19_12) rfl rfl rfl ?_
    show Steps p.tables e below (s₁.setTop (mkF m 13 #[.val (.ref a), .val (.int r), .val (.int o), .val (.int u), .val (.double (FP.l2d ew)), .second, .val (.ref nb), .val (.ref wt)] [(.int j), (.ref wt), (.int j), (.ref wt)])) _
    refine X0.daload hx (j := j) (v := (.double (FP.l2d (ds.getD j.toNatClampNeg 0)))) (by rw [e0]; exact ArW.1) (State.isArrayOf_alike hZ.alike ArW.2.1) ArW.2.2 (inb_of SW ⟨hj0, hj4⟩) (HW.at (inb_of SW ⟨hj0, hj4⟩) (own_getDd ds _)) (g := (mkF m 13 #[.val (.ref a), .val (.int r), .val (.int o), .val (.int u), .val (.double (FP.l2d ew)), .second, .val (.ref nb), .val (.ref wt)] [(.int j), (.ref wt), (.int j), (.ref wt)])) rfl rfl (hb hby d_prog_45_method_19_13) _ ?_
    show Steps p.tables e below (s₁.setTop (mkF m 14 #[.val (.ref a), .val (.int r), .val (.int o), .val (.int u), .val (.double (FP.l2d ew)), .second, .val (.ref nb), .val (.ref wt)] [(.double (FP.l2d (ds.getD j.toNatClampNeg 0))), (.int j), (.ref wt)])) _
    refine XS.dload X0.here hx rfl (hb hby d_prog_45_method_19_14) rfl ?_
    show Steps p.tables e below (s₁.setTop (mkF m 16 #[.val (.ref a), .val (.int r), .val (.int o), .val (.int u), .val (.double (FP.l2d ew)), .second, .val (.ref nb), .val (.ref wt)] [(.double (FP.l2d ew)), (.double (FP.l2d (ds.getD j.toNatClampNeg 0))), (.int j), (.ref wt)])) _
    refine XS.daddS X0.here hx rfl (hb hby d_prog_45_method_19_16) rfl (nn_w (dadd_w hb1 hb2)) (v := FP.l2d ((ds.getD j.toNatClampNeg 0) + ew)) (dadd_w hb1 hb2) ?_
    show Steps p.tables e below (s₁.setTop (mkF m 17 #[.val (.ref a), .val (.int r), .val (.int o), .val (.int u), .val (.double (FP.l2d ew)), .second, .val (.ref nb), .val (.ref wt)] [(.double (FP.l2d ((ds.getD j.toNatClampNeg 0) + ew))), (.int j), (.ref wt)])) _
    exact q
  obtain ⟨cl4, Ar4, q4, S4, M4, H4, G4⟩ := V_wt
  obtain ⟨T5, h5, X5, e5, W5, st5⟩ := stD X0 hx hZ e0 Ar4 (j := j) (inb_of S4 ⟨hj0, hj4⟩) (g := (mkF m 17 #[.val (.ref a), .val (.int r), .val (.int o), .val (.int u), .val (.double (FP.l2d ew)), .second, .val (.ref nb), .val (.ref wt)] [(.double (FP.l2d ((ds.getD j.toNatClampNeg 0) + ew))), (.int j), (.ref wt)])) rfl rfl (hb hby d_prog_45_method_19_17)
  have k6_ : ∀ t, Steps p.tables e below (T5.setTop (mkF m 18 #[.val (.ref a), .val (.int r), .val (.int o), .val (.int u), .val (.double (FP.l2d ew)), .second, .val (.ref nb), .val (.ref wt)] [])) t → Steps p.tables e below (s₁.setTop (mkF m 0 #[.val (.ref a), .val (.int r), .val (.int o), .val (.int u), .val (.double (FP.l2d ew)), .second, .val (.ref nb), .val (.ref wt)] [])) t := fun t q => k3_ t (st5 t q)
  have N5 := Fr.snoc X5 N0 gw
  replace Zn := Nat.le_trans Zn (Keep.of_wr W5).1
  have V_wt : Arv Z h5 wt kw .double (4 : Int32) ((ds.set (j).toNatClampNeg ((ds.getD j.toNatClampNeg 0) + ew)).map own_dv) (.double (FP.l2d (0 : Int64))) := by rw [List.map_set]; exact Arv.set Ar4 q4 S4 M4 H4 G4 rfl W5 _ rfl (own_ix hj0 hj4 hdl)
  replace KP := KP.wr W5 (Or.inl (List.mem_of_getElem? (i := 0) rfl))
  have k7_ : ∀ t, Steps p.tables e below (T5.setTop (mkF m 19 #[.val (.ref a), .val (.int r), .val (.int o), .val (.int u), .val (.double (FP.l2d ew)), .second, .val (.ref nb), .val (.ref wt)] [(.int o)])) t → Steps p.tables e below (s₁.setTop (mkF m 0 #[.val (.ref a), .val (.int r), .val (.int o), .val (.int u), .val (.double (FP.l2d ew)), .second, .val (.ref nb), .val (.ref wt)] [])) t := by
    intro t q
    refine k6_ _ ?_
    show Steps p.tables e below (T5.setTop (mkF m 18 #[.val (.ref a), .val (.int r), .val (.int o), .val (.int u), .val (.double (FP.l2d ew)), .second, .val (.ref nb), .val (.ref wt)] [])) _
    refine XS.iloadN X5.here hx rfl (hb hby d_prog_45_method_19_18) rfl ?_
    show Steps p.tables e below (T5.setTop (mkF m 19 #[.val (.ref a), .val (.int r), .val (.int o), .val (.int u), .val (.double (FP.l2d ew)), .second, .val (.ref nb), .val (.ref wt)] [(.int o)])) _
    exact q
  obtain ⟨fs, hr, hrun, hended, hW, hsame⟩ := X5.leave (v := some (.int o)) (fun h => by rw [Bd.returns] at h; cases h)
  refine ⟨_, _, pre0 _ (k7_ _ ?_), hrun, hended, _, _, rfl, ?_, ⟨_, rfl⟩, hW, hsame.mono (by decide) (by decide)⟩
  · show Steps p.tables e below (T5.setTop (mkF m 19 #[.val (.ref a), .val (.int r), .val (.int o), .val (.int u), .val (.double (FP.l2d ew)), .second, .val (.ref nb), .val (.ref wt)] [(.int o)])) _
    exact retI X5 hx Bd.returns (hb hby d_prog_45_method_19_19) hr
  · show QA Z a r o u ew nb wt ka kn kw xs ns ds j h0 n0 _ T5.heap _
    rw [e5]
    exact ⟨rfl, N5, KP, V_wt⟩
def QB (Z : State) (a : Addr) (r : Int32) (o : Int32) (u : Int32) (ew : Int64) (nb : Addr) (wt : Addr) (ka : ClassId) (kn : ClassId) (kw : ClassId) (xs : List Int32) (ns : List Int32) (ds : List Int64) (j : Int32) (h0 : Heap) (n0 : Nat) (v : Option Value) (h : Heap) (L : List Loc) : Prop := v = some (.int (o + (1 : Int32))) ∧ Fr n0 L ∧ Keep h0 h [a, nb, wt] ∧ Arv Z h a ka .int (4 : Int32) ((xs.set u.toNatClampNeg o).map Value.int) (.int (0 : Int32)) ∧ Arv Z h nb kn .int (4 : Int32) ((ns.set o.toNatClampNeg u).map Value.int) (.int (0 : Int32)) ∧ Arv Z h wt kw .double (4 : Int32) ((ds.set o.toNatClampNeg ew).map own_dv) (.double (FP.l2d (0 : Int64)))
theorem ef_B (m : MethodId) (x0 : Addr) (x1 : Int32) (x2 : Int32) (x3 : Int32) (x4 : UInt64) (x5 : Addr) (x6 : Addr) : entryFrame m #[(.ref x0), (.int x1), (.int x2), (.int x3), (.double x4), (.ref x5), (.ref x6)] 8 = mkF m 0 #[.val (.ref x0), .val (.int x1), .val (.int x2), .val (.int x3), .val (.double x4), .second, .val (.ref x5), .val (.ref x6)] [] := by first | (simp [entryFrame, mkF, argsToLocals, Value.category]; done) | rfl
theorem d_prog_45_method_19_20 : decode prog_45_method_19_code 20 = .ok (.aload_n 0, 1) := by decide +kernel
theorem d_prog_45_method_19_21 : decode prog_45_method_19_code 21 = .ok (.iload_n 3, 1) := by decide +kernel
theorem d_prog_45_method_19_22 : decode prog_45_method_19_code 22 = .ok (.iload_n 2, 1) := by decide +kernel
theorem d_prog_45_method_19_23 : decode prog_45_method_19_code 23 = .ok (.iastore, 1) := by decide +kernel
theorem d_prog_45_method_19_24 : decode prog_45_method_19_code 24 = .ok (.aload 6, 2) := by decide +kernel
theorem d_prog_45_method_19_26 : decode prog_45_method_19_code 26 = .ok (.iload_n 2, 1) := by decide +kernel
theorem d_prog_45_method_19_27 : decode prog_45_method_19_code 27 = .ok (.iload_n 3, 1) := by decide +kernel
theorem d_prog_45_method_19_28 : decode prog_45_method_19_code 28 = .ok (.iastore, 1) := by decide +kernel
theorem d_prog_45_method_19_29 : decode prog_45_method_19_code 29 = .ok (.aload 7, 2) := by decide +kernel
theorem d_prog_45_method_19_31 : decode prog_45_method_19_code 31 = .ok (.iload_n 2, 1) := by decide +kernel
theorem d_prog_45_method_19_32 : decode prog_45_method_19_code 32 = .ok (.dload 4, 2) := by decide +kernel
theorem d_prog_45_method_19_34 : decode prog_45_method_19_code 34 = .ok (.dastore, 1) := by decide +kernel
theorem d_prog_45_method_19_35 : decode prog_45_method_19_code 35 = .ok (.iload_n 2, 1) := by decide +kernel
theorem d_prog_45_method_19_36 : decode prog_45_method_19_code 36 = .ok (.iconst 1, 1) := by decide +kernel
theorem d_prog_45_method_19_37 : decode prog_45_method_19_code 37 = .ok (.iadd, 1) := by decide +kernel
theorem d_prog_45_method_19_38 : decode prog_45_method_19_code 38 = .ok (.ireturn, 1) := by decide +kernel
set_option maxRecDepth 65536 in
set_option maxHeartbeats 40000000 in
theorem rmB (l : Launch) (Z : State) (a0 : Array Value) (hw : ∀ d ∈ tables_1, d.before a0 Z = true) (ws : List Jvm.Cond) (a : Addr) (r : Int32) (o : Int32) (u : Int32) (ew : Int64) (nb : Addr) (wt : Addr) (ka : ClassId) (kn : ClassId) (kw : ClassId) (xs : List Int32) (ns : List Int32) (ds : List Int64) (j : Int32) (h0 : Heap) (n0 : Nat) (Z0 : n0 ≤ h0.size) (VA : Arv Z h0 a ka .int (4 : Int32) (xs.map Value.int) (.int (0 : Int32))) (VN : Arv Z h0 nb kn .int (4 : Int32) (ns.map Value.int) (.int (0 : Int32))) (VW : Arv Z h0 wt kw .double (4 : Int32) (ds.map own_dv) (.double (FP.l2d (0 : Int64)))) (hxl : xs.length = 4) (hnl : ns.length = 4) (hdl : ds.length = 4) (hu0 : ¬ u < (0 : Int32)) (hu4 : u < (4 : Int32)) (hj : xs.getD u.toNatClampNeg 0 = j) (hjr : j < r) (ho0 : ¬ o < (0 : Int32)) (ho4 : o < (4 : Int32)) (ga : n0 ≤ a) (gn : n0 ≤ nb) (gw : n0 ≤ wt) (n1 : a ≠ nb) (n2 : a ≠ wt) (n3 : nb ≠ wt) :
    MetFree l (⟨"com/example/weir/weir/kway/Graph", "addToRow", "([IIIID[I[D)I"⟩ : MethodName) (head1 (Jvm.Cond.code (⟨"com/example/weir/weir/kway/Graph", "addToRow", "([IIIID[I[D)I"⟩ : MethodName) prog_45_method_19_code 8 (some .int) :: ws) ({ frames := 0, cells := 0, slots := 0, locals := 0 } : Room)) (fun a_ U_ => a_ = #[(.ref a), (.int r), (.int o), (.int u), (.double (FP.l2d ew)), (.ref nb), (.ref wt)] ∧ Z.Warmed39 U_.vm ∧ U_.heap = h0) (fun _ _ _ _ _ => True) (fun _ U_ o_ E_ => ∃ v_ L_, o_ = .returned v_ ∧ QB Z a r o u ew nb wt ka kn kw xs ns ds j h0 n0 v_ E_.heap L_ ∧ FrameEnd U_ o_ E_ L_ ({ frames := 0, cells := 0, slots := 0, locals := 0 } : Room).cells ({ frames := 0, cells := 0, slots := 0, locals := 0 } : Room).slots) := by
  refine MetFree.of_bodySF (plainFor_of_name pn_Graph) hisR ?_
  intro p e s m args below meth c s₁ Bd hml0 hP hK
  obtain ⟨rfl, hZ, hh⟩ := hP
  have hx := Bd.exec
  have hby := Bd.bytes
  have hml : c.maxLocals = 8 := hml0
  have hown : s.vm.findClass "com/example/weir/weir/kway/Graph" = some m.cls := findClass_of_methodNamed Bd.named
  have hnm := (name_of_methodNamed Bd.named Bd.method).1
  have X0 : Stand p l e ({ frames := 0, cells := 0, slots := 0, locals := 0 } : Room) s m #[(.ref a), (.int r), (.int o), (.int u), (.double (FP.l2d ew)), (.ref nb), (.ref wt)] below meth c s₁ [] 0 0 := Stand.of_body Bd
  have e0 : s₁.heap = h0 := by rw [← hh, Bd.state]; rfl
  have N0 := Fr.nil n0
  have Zn := Z0
  have pre0 : ∀ t, Steps p.tables e below (s₁.setTop (mkF m 0 #[.val (.ref a), .val (.int r), .val (.int o), .val (.int u), .val (.double (FP.l2d ew)), .second, .val (.ref nb), .val (.ref wt)] [])) t → Steps p.tables e below (s₁.setTop (entryFrame m #[(.ref a), (.int r), (.int o), (.int u), (.double (FP.l2d ew)), (.ref nb), (.ref wt)] 8)) t := fun t q => castTop (ef_B m a r o u (FP.l2d ew) nb wt) q
  have k0 : ∀ t, Steps p.tables e below (s₁.setTop (mkF m 0 #[.val (.ref a), .val (.int r), .val (.int o), .val (.int u), .val (.double (FP.l2d ew)), .second, .val (.ref nb), .val (.ref wt)] [])) t → Steps p.tables e below (s₁.setTop (mkF m 0 #[.val (.ref a), .val (.int r), .val (.int o), .val (.int u), .val (.double (FP.l2d ew)), .second, .val (.ref nb), .val (.ref wt)] [])) t := fun t q => q
  obtain ⟨cA, ArA, qA, SA, MA, HA, GA⟩ := id VA
  have KP := Keep.refl h0 [a, nb, wt]
  have V_a := VA
  have V_nb := VN
  have V_wt := VW
  have k1_ : ∀ t, Steps p.tables e below (s₁.setTop (mkF m 4 #[.val (.ref a), .val (.int r), .val (.int o), .val (.int u), .val (.double (FP.l2d ew)), .second, .val (.ref nb), .val (.ref wt)] [(.int r), (.int j)])) t → Steps p.tables e below (s₁.setTop (mkF m 0 #[.val (.ref a), .val (.int r), .val (.int o), .val (.int u), .val (.double (FP.l2d ew)), .second, .val (.ref nb), .val (.ref wt)] [])) t := by
    intro t q
    refine k0 _ ?_
    show Steps p.tables e below (s₁.setTop (mkF m 0 #[.val (.ref a), .val (.int r), .val (.int o), .val (.int u), .val (.double (FP.l2d ew)), .second, .val (.ref nb), .val (.ref wt)] [])) _
    refine XS.aloadN X0.here hx rfl (hb hby d_prog_45_method_19_0) rfl rfl ?_
    show Steps p.tables e below (s₁.setTop (mkF m 1 #[.val (.ref a), .val (.int r), .val (.int o), .val (.int u), .val (.double (FP.l2d ew)), .second, .val (.ref nb), .val (.ref wt)] [(.ref a)])) _
    refine XS.iloadN X0.here hx rfl (hb hby d_prog_45_method_19_1) rfl ?_
    show Steps p.tables e below (s₁.setTop (mkF m 2 #[.val (.ref a), .val (.int r), .val (.int o), .val (.int u), .val (.double (FP.l2d ew)), .second, .val (.ref nb), .val (.ref wt)] [(.int u), (.ref a)])) _
    refine X0.iaload hx (j := u) (v := (.int j)) (by rw [e0]; exact ArA.1) (State.isArrayOf_alike hZ.alike ArA.2.1) ArA.2.2 (inb_of SA ⟨hu0, hu4⟩) (HA.at (inb_of SA ⟨hu0, hu4⟩) (by rw [own_getD, hj])) (g := (mkF m 2 #[.val (.ref a), .val (.int r), .val (.int o), .val (.int u), .val (.double (FP.l2d ew)), .second, .val (.ref nb), .val (.ref wt)] [(.int u), (.ref a)])) rfl rfl (hb hby d_prog_45_method_19_2) _ ?_
    show Steps p.tables e below (s₁.setTop (mkF m 3 #[.val (.ref a), .val (.int r), .val (.int o), .val (.int u), .val (.double (FP.l2d ew)), .second, .val (.ref nb), .val (.ref wt)] [(.int j)])) _
    refine XS.iloadN X0.here hx rfl (hb hby d_prog_45_method_19_3) rfl ?_
    show Steps p.tables e below (s₁.setTop (mkF m 4 #[.val (.ref a), .val (.int r), .val (.int o), .val (.int u), .val (.double (FP.l2d ew)), .second, .val (.ref nb), .val (.ref wt)] [(.int r), (.int j)])) _
    exact q
  have k2_ : ∀ t, Steps p.tables e below (s₁.setTop (mkF m 20 #[.val (.ref a), .val (.int r), .val (.int o), .val (.int u), .val (.double (FP.l2d ew)), .second, .val (.ref nb), .val (.ref wt)] [])) t → Steps p.tables e below (s₁.setTop (mkF m 0 #[.val (.ref a), .val (.int r), .val (.int o), .val (.int u), .val (.double (FP.l2d ew)), .second, .val (.ref nb), .val (.ref wt)] [])) t := by
    intro t q
    refine k1_ _ ?_
    show Steps p.tables e below (s₁.setTop (mkF m 4 #[.val (.ref a), .val (.int r), .val (.int o), .val (.int u), .val (.double (FP.l2d ew)), .second, .val (.ref nb), .val (.ref wt)] [(.int r), (.int j)])) _
    refine XS.icmpYes X0.here hx rfl (pc0 := 4) (pc' := 20) rfl (hb hby d_prog_45_method_19_4) rfl (tlt hjr).1 (by decide) (by decide) ?_
    show Steps p.tables e below (s₁.setTop (mkF m 20 #[.val (.ref a), .val (.int r), .val (.int o), .val (.int u), .val (.double (FP.l2d ew)), .second, .val (.ref nb), .val (.ref wt)] [])) _
    exact q
  have k3_ : ∀ t, Steps p.tables e below (s₁.setTop (mkF m 23 #[.val (.ref a), .val (.int r), .val (.int o), .val (.int u), .val (.double (FP.l2d ew)), .second, .val (.ref nb), .val (.ref wt)] [(.int o), (.int u), (.ref a)])) t → Steps p.tables e below (s₁.setTop (mkF m 0 #[.val (.ref a), .val (.int r), .val (.int o), .val (.int u), .val (.double (FP.l2d ew)), .second, .val (.ref nb), .val (.ref wt)] [])) t := by
    intro t q
    refine k2_ _ ?_
    show Steps p.tables e below (s₁.setTop (mkF m 20 #[.val (.ref a), .val (.int r), .val (.int o), .val (.int u), .val (.double (FP.l2d ew)), .second, .val (.ref nb), .val (.ref wt)] [])) _
    refine XS.aloadN X0.here hx rfl (hb hby d_prog_45_method_19_20) rfl rfl ?_
    show Steps p.tables e below (s₁.setTop (mkF m 21 #[.val (.ref a), .val (.int r), .val (.int o), .val (.int u), .val (.double (FP.l2d ew)), .second, .val (.ref nb), .val (.ref wt)] [(.ref a)])) _
    refine XS.iloadN X0.here hx rfl (hb hby d_prog_45_method_19_21) rfl ?_
    show Steps p.tables e below (s₁.setTop (mkF m 22 #[.val (.ref a), .val (.int r), .val (.int o), .val (.int u), .val (.double (FP.l2d ew)), .second, .val (.ref nb), .val (.ref wt)] [(.int u), (.ref a)])) _
    refine XS.iloadN X0.here hx rfl (hb hby d_prog_45_method_19_22) rfl ?_
    show Steps p.tables e below (s₁.setTop (mkF m 23 #[.val (.ref a), .val (.int r), .val (.int o), .val (.int u), .val (.double (FP.l2d ew)), .second, .val (.ref nb), .val (.ref wt)] [(.int o), (.int u), (.ref a)])) _
    exact q
  obtain ⟨cl4, Ar4, q4, S4, M4, H4, G4⟩ := V_a
  obtain ⟨T5, h5, X5, e5, W5, st5⟩ := stI X0 hx hZ e0 Ar4 (j := u) (inb_of S4 ⟨hu0, hu4⟩) (g := (mkF m 23 #[.val (.ref a), .val (.int r), .val (.int o), .val (.int u), .val (.double (FP.l2d ew)), .second, .val (.ref nb), .val (.ref wt)] [(.int o), (.int u), (.ref a)])) rfl rfl (hb hby d_prog_45_method_19_23)
  have k6_ : ∀ t, Steps p.tables e below (T5.setTop (mkF m 24 #[.val (.ref a), .val (.int r), .val (.int o), .val (.int u), .val (.double (FP.l2d ew)), .second, .val (.ref nb), .val (.ref wt)] [])) t → Steps p.tables e below (s₁.setTop (mkF m 0 #[.val (.ref a), .val (.int r), .val (.int o), .val (.int u), .val (.double (FP.l2d ew)), .second, .val (.ref nb), .val (.ref wt)] [])) t := fun t q => k3_ t (st5 t q)
  have N5 := Fr.snoc X5 N0 ga
  replace Zn := Nat.le_trans Zn (Keep.of_wr W5).1
  replace V_nb := V_nb.other W5 (Ne.symm n1)
  replace V_wt := V_wt.other W5 (Ne.symm n2)
  have V_a : Arv Z h5 a ka .int (4 : Int32) ((xs.set (u).toNatClampNeg o).map Value.int) (.int (0 : Int32)) := by rw [List.map_set]; exact Arv.set Ar4 q4 S4 M4 H4 G4 rfl W5 _ rfl (own_ix hu0 hu4 hxl)
  replace KP := KP.wr W5 (Or.inl (List.mem_of_getElem? (i := 0) rfl))
  have k7_ : ∀ t, Steps p.tables e below (T5.setTop (mkF m 28 #[.val (.ref a), .val (.int r), .val (.int o), .val (.int u), .val (.double (FP.l2d ew)), .second, .val (.ref nb), .val (.ref wt)] [(.int u), (.int o), (.ref nb)])) t → Steps p.tables e below (s₁.setTop (mkF m 0 #[.val (.ref a), .val (.int r), .val (.int o), .val (.int u), .val (.double (FP.l2d ew)), .second, .val (.ref nb), .val (.ref wt)] [])) t := by
    intro t q
    refine k6_ _ ?_
    show Steps p.tables e below (T5.setTop (mkF m 24 #[.val (.ref a), .val (.int r), .val (.int o), .val (.int u), .val (.double (FP.l2d ew)), .second, .val (.ref nb), .val (.ref wt)] [])) _
    refine XS.aload X5.here hx rfl (hb hby d_prog_45_method_19_24) rfl rfl ?_
    show Steps p.tables e below (T5.setTop (mkF m 26 #[.val (.ref a), .val (.int r), .val (.int o), .val (.int u), .val (.double (FP.l2d ew)), .second, .val (.ref nb), .val (.ref wt)] [(.ref nb)])) _
    refine XS.iloadN X5.here hx rfl (hb hby d_prog_45_method_19_26) rfl ?_
    show Steps p.tables e below (T5.setTop (mkF m 27 #[.val (.ref a), .val (.int r), .val (.int o), .val (.int u), .val (.double (FP.l2d ew)), .second, .val (.ref nb), .val (.ref wt)] [(.int o), (.ref nb)])) _
    refine XS.iloadN X5.here hx rfl (hb hby d_prog_45_method_19_27) rfl ?_
    show Steps p.tables e below (T5.setTop (mkF m 28 #[.val (.ref a), .val (.int r), .val (.int o), .val (.int u), .val (.double (FP.l2d ew)), .second, .val (.ref nb), .val (.ref wt)] [(.int u), (.int o), (.ref nb)])) _
    exact q
  obtain ⟨cl8, Ar8, q8, S8, M8, H8, G8⟩ := V_nb
  obtain ⟨T9, h9, X9, e9, W9, st9⟩ := stI X5 hx hZ e5 Ar8 (j := o) (inb_of S8 ⟨ho0, ho4⟩) (g := (mkF m 28 #[.val (.ref a), .val (.int r), .val (.int o), .val (.int u), .val (.double (FP.l2d ew)), .second, .val (.ref nb), .val (.ref wt)] [(.int u), (.int o), (.ref nb)])) rfl rfl (hb hby d_prog_45_method_19_28)
  have k10_ : ∀ t, Steps p.tables e below (T9.setTop (mkF m 29 #[.val (.ref a), .val (.int r), .val (.int o), .val (.int u), .val (.double (FP.l2d ew)), .second, .val (.ref nb), .val (.ref wt)] [])) t → Steps p.tables e below (s₁.setTop (mkF m 0 #[.val (.ref a), .val (.int r), .val (.int o), .val (.int u), .val (.double (FP.l2d ew)), .second, .val (.ref nb), .val (.ref wt)] [])) t := fun t q => k7_ t (st9 t q)
  have N9 := Fr.snoc X9 N5 gn
  replace Zn := Nat.le_trans Zn (Keep.of_wr W9).1
  replace V_a := V_a.other W9 n1
  replace V_wt := V_wt.other W9 (Ne.symm n3)
  have V_nb : Arv Z h9 nb kn .int (4 : Int32) ((ns.set (o).toNatClampNeg u).map Value.int) (.int (0 : Int32)) := by rw [List.map_set]; exact Arv.set Ar8 q8 S8 M8 H8 G8 rfl W9 _ rfl (own_ix ho0 ho4 hnl)
  replace KP := KP.wr W9 (Or.inl (List.mem_of_getElem? (i := 1) rfl))
  have k11_ : ∀ t, Steps p.tables e below (T9.setTop (mkF m 34 #[.val (.ref a), .val (.int r), .val (.int o), .val (.int u), .val (.double (FP.l2d ew)), .second, .val (.ref nb), .val (.ref wt)] [(.double (FP.l2d ew)), (.int o), (.ref wt)])) t → Steps p.tables e below (s₁.setTop (mkF m 0 #[.val (.ref a), .val (.int r), .val (.int o), .val (.int u), .val (.double (FP.l2d ew)), .second, .val (.ref nb), .val (.ref wt)] [])) t := by
    intro t q
    refine k10_ _ ?_
    show Steps p.tables e below (T9.setTop (mkF m 29 #[.val (.ref a), .val (.int r), .val (.int o), .val (.int u), .val (.double (FP.l2d ew)), .second, .val (.ref nb), .val (.ref wt)] [])) _
    refine XS.aload X9.here hx rfl (hb hby d_prog_45_method_19_29) rfl rfl ?_
    show Steps p.tables e below (T9.setTop (mkF m 31 #[.val (.ref a), .val (.int r), .val (.int o), .val (.int u), .val (.double (FP.l2d ew)), .second, .val (.ref nb), .val (.ref wt)] [(.ref wt)])) _
    refine XS.iloadN X9.here hx rfl (hb hby d_prog_45_method_19_31) rfl ?_
    show Steps p.tables e below (T9.setTop (mkF m 32 #[.val (.ref a), .val (.int r), .val (.int o), .val (.int u), .val (.double (FP.l2d ew)), .second, .val (.ref nb), .val (.ref wt)] [(.int o), (.ref wt)])) _
    refine XS.dload X9.here hx rfl (hb hby d_prog_45_method_19_32) rfl ?_
    show Steps p.tables e below (T9.setTop (mkF m 34 #[.val (.ref a), .val (.int r), .val (.int o), .val (.int u), .val (.double (FP.l2d ew)), .second, .val (.ref nb), .val (.ref wt)] [(.double (FP.l2d ew)), (.int o), (.ref wt)])) _
    exact q
  obtain ⟨cl12, Ar12, q12, S12, M12, H12, G12⟩ := V_wt
  obtain ⟨T13, h13, X13, e13, W13, st13⟩ := stD X9 hx hZ e9 Ar12 (j := o) (inb_of S12 ⟨ho0, ho4⟩) (g := (mkF m 34 #[.val (.ref a), .val (.int r), .val (.int o), .val (.int u), .val (.double (FP.l2d ew)), .second, .val (.ref nb), .val (.ref wt)] [(.double (FP.l2d ew)), (.int o), (.ref wt)])) rfl rfl (hb hby d_prog_45_method_19_34)
  have k14_ : ∀ t, Steps p.tables e below (T13.setTop (mkF m 35 #[.val (.ref a), .val (.int r), .val (.int o), .val (.int u), .val (.double (FP.l2d ew)), .second, .val (.ref nb), .val (.ref wt)] [])) t → Steps p.tables e below (s₁.setTop (mkF m 0 #[.val (.ref a), .val (.int r), .val (.int o), .val (.int u), .val (.double (FP.l2d ew)), .second, .val (.ref nb), .val (.ref wt)] [])) t := fun t q => k11_ t (st13 t q)
  have N13 := Fr.snoc X13 N9 gw
  replace Zn := Nat.le_trans Zn (Keep.of_wr W13).1
  replace V_a := V_a.other W13 n2
  replace V_nb := V_nb.other W13 n3
  have V_wt : Arv Z h13 wt kw .double (4 : Int32) ((ds.set (o).toNatClampNeg ew).map own_dv) (.double (FP.l2d (0 : Int64))) := by rw [List.map_set]; exact Arv.set Ar12 q12 S12 M12 H12 G12 rfl W13 _ rfl (own_ix ho0 ho4 hdl)
  replace KP := KP.wr W13 (Or.inl (List.mem_of_getElem? (i := 2) rfl))
  have k15_ : ∀ t, Steps p.tables e below (T13.setTop (mkF m 38 #[.val (.ref a), .val (.int r), .val (.int o), .val (.int u), .val (.double (FP.l2d ew)), .second, .val (.ref nb), .val (.ref wt)] [(.int (o + (1 : Int32)))])) t → Steps p.tables e below (s₁.setTop (mkF m 0 #[.val (.ref a), .val (.int r), .val (.int o), .val (.int u), .val (.double (FP.l2d ew)), .second, .val (.ref nb), .val (.ref wt)] [])) t := by
    intro t q
    refine k14_ _ ?_
    show Steps p.tables e below (T13.setTop (mkF m 35 #[.val (.ref a), .val (.int r), .val (.int o), .val (.int u), .val (.double (FP.l2d ew)), .second, .val (.ref nb), .val (.ref wt)] [])) _
    refine XS.iloadN X13.here hx rfl (hb hby d_prog_45_method_19_35) rfl ?_
    show Steps p.tables e below (T13.setTop (mkF m 36 #[.val (.ref a), .val (.int r), .val (.int o), .val (.int u), .val (.double (FP.l2d ew)), .second, .val (.ref nb), .val (.ref wt)] [(.int o)])) _
    refine XS.iconst X13.here hx rfl (hb hby d_prog_45_method_19_36) ?_
    show Steps p.tables e below (T13.setTop (mkF m 37 #[.val (.ref a), .val (.int r), .val (.int o), .val (.int u), .val (.double (FP.l2d ew)), .second, .val (.ref nb), .val (.ref wt)] [(.int (1 : Int32)), (.int o)])) _
    refine XS.iadd X13.here hx rfl (hb hby d_prog_45_method_19_37) rfl ?_
    show Steps p.tables e below (T13.setTop (mkF m 38 #[.val (.ref a), .val (.int r), .val (.int o), .val (.int u), .val (.double (FP.l2d ew)), .second, .val (.ref nb), .val (.ref wt)] [(.int (o + (1 : Int32)))])) _
    exact q
  obtain ⟨fs, hr, hrun, hended, hW, hsame⟩ := X13.leave (v := some (.int (o + (1 : Int32)))) (fun h => by rw [Bd.returns] at h; cases h)
  refine ⟨_, _, pre0 _ (k15_ _ ?_), hrun, hended, _, _, rfl, ?_, ⟨_, rfl⟩, hW, hsame.mono (by decide) (by decide)⟩
  · show Steps p.tables e below (T13.setTop (mkF m 38 #[.val (.ref a), .val (.int r), .val (.int o), .val (.int u), .val (.double (FP.l2d ew)), .second, .val (.ref nb), .val (.ref wt)] [(.int (o + (1 : Int32)))])) _
    exact retI X13 hx Bd.returns (hb hby d_prog_45_method_19_38) hr
  · show QB Z a r o u ew nb wt ka kn kw xs ns ds j h0 n0 _ T13.heap _
    rw [e13]
    exact ⟨rfl, N13, KP, V_a, V_nb, V_wt⟩
def QS (Z : State) (a : Addr) (b : Addr) (ka : ClassId) (kb : ClassId) (xs : List Int32) (h0 : Heap) (n0 : Nat) (v : Option Value) (h : Heap) (L : List Loc) : Prop := v = some (.int 1) ∧ Fr n0 L ∧ h = h0
theorem ef_S (m : MethodId) (x0 : Addr) (x1 : Addr) : entryFrame m #[(.ref x0), (.ref x1)] 2 = mkF m 0 #[.val (.ref x0), .val (.ref x1)] [] := by first | (simp [entryFrame, mkF, argsToLocals, Value.category]; done) | rfl
theorem pn_GraphAddToRowPinLaw : plainName "com/example/weir/weir/kway/GraphAddToRowPinLaw" = true := by first | (simp [plainName, overriddenIn]; done) | decide +kernel
theorem d_method_3_0 : decode method_3_code 0 = .ok (.aload_n 0, 1) := by decide +kernel
theorem d_method_3_1 : decode method_3_code 1 = .ok (.iconst 0, 1) := by decide +kernel
theorem d_method_3_2 : decode method_3_code 2 = .ok (.iaload, 1) := by decide +kernel
theorem d_method_3_3 : decode method_3_code 3 = .ok (.aload_n 1, 1) := by decide +kernel
theorem d_method_3_4 : decode method_3_code 4 = .ok (.iconst 0, 1) := by decide +kernel
theorem d_method_3_5 : decode method_3_code 5 = .ok (.iaload, 1) := by decide +kernel
theorem d_method_3_6 : decode method_3_code 6 = .ok (.if_icmp .ne 34, 3) := by decide +kernel
theorem d_method_3_9 : decode method_3_code 9 = .ok (.aload_n 0, 1) := by decide +kernel
theorem d_method_3_10 : decode method_3_code 10 = .ok (.iconst 1, 1) := by decide +kernel
theorem d_method_3_11 : decode method_3_code 11 = .ok (.iaload, 1) := by decide +kernel
theorem d_method_3_12 : decode method_3_code 12 = .ok (.aload_n 1, 1) := by decide +kernel
theorem d_method_3_13 : decode method_3_code 13 = .ok (.iconst 1, 1) := by decide +kernel
theorem d_method_3_14 : decode method_3_code 14 = .ok (.iaload, 1) := by decide +kernel
theorem d_method_3_15 : decode method_3_code 15 = .ok (.if_icmp .ne 25, 3) := by decide +kernel
theorem d_method_3_18 : decode method_3_code 18 = .ok (.aload_n 0, 1) := by decide +kernel
theorem d_method_3_19 : decode method_3_code 19 = .ok (.iconst 2, 1) := by decide +kernel
theorem d_method_3_20 : decode method_3_code 20 = .ok (.iaload, 1) := by decide +kernel
theorem d_method_3_21 : decode method_3_code 21 = .ok (.aload_n 1, 1) := by decide +kernel
theorem d_method_3_22 : decode method_3_code 22 = .ok (.iconst 2, 1) := by decide +kernel
theorem d_method_3_23 : decode method_3_code 23 = .ok (.iaload, 1) := by decide +kernel
theorem d_method_3_24 : decode method_3_code 24 = .ok (.if_icmp .ne 16, 3) := by decide +kernel
theorem d_method_3_27 : decode method_3_code 27 = .ok (.aload_n 0, 1) := by decide +kernel
theorem d_method_3_28 : decode method_3_code 28 = .ok (.iconst 3, 1) := by decide +kernel
theorem d_method_3_29 : decode method_3_code 29 = .ok (.iaload, 1) := by decide +kernel
theorem d_method_3_30 : decode method_3_code 30 = .ok (.aload_n 1, 1) := by decide +kernel
theorem d_method_3_31 : decode method_3_code 31 = .ok (.iconst 3, 1) := by decide +kernel
theorem d_method_3_32 : decode method_3_code 32 = .ok (.iaload, 1) := by decide +kernel
theorem d_method_3_33 : decode method_3_code 33 = .ok (.if_icmp .ne 7, 3) := by decide +kernel
theorem d_method_3_36 : decode method_3_code 36 = .ok (.iconst 1, 1) := by decide +kernel
theorem d_method_3_37 : decode method_3_code 37 = .ok (.goto 4, 3) := by decide +kernel
theorem d_method_3_41 : decode method_3_code 41 = .ok (.ireturn, 1) := by decide +kernel
set_option maxRecDepth 65536 in
set_option maxHeartbeats 40000000 in
theorem rmS (l : Launch) (Z : State) (a0 : Array Value) (hw : ∀ d ∈ tables_1, d.before a0 Z = true) (ws : List Jvm.Cond) (a : Addr) (b : Addr) (ka : ClassId) (kb : ClassId) (xs : List Int32) (h0 : Heap) (n0 : Nat) (Z0 : n0 ≤ h0.size) (VA : Arv Z h0 a ka .int (4 : Int32) (xs.map Value.int) (.int (0 : Int32))) (VB : Arv Z h0 b kb .int (4 : Int32) (xs.map Value.int) (.int (0 : Int32))) :
    MetFree l (⟨"com/example/weir/weir/kway/GraphAddToRowPinLaw", "sameInts", "([I[I)Z"⟩ : MethodName) (head1 (Jvm.Cond.code (⟨"com/example/weir/weir/kway/GraphAddToRowPinLaw", "sameInts", "([I[I)Z"⟩ : MethodName) method_3_code 2 (some .boolean) :: ws) ({ frames := 0, cells := 0, slots := 0, locals := 0 } : Room)) (fun a_ U_ => a_ = #[(.ref a), (.ref b)] ∧ Z.Warmed39 U_.vm ∧ U_.heap = h0) (fun _ _ _ _ _ => True) (fun _ U_ o_ E_ => ∃ v_ L_, o_ = .returned v_ ∧ QS Z a b ka kb xs h0 n0 v_ E_.heap L_ ∧ FrameEnd U_ o_ E_ L_ ({ frames := 0, cells := 0, slots := 0, locals := 0 } : Room).cells ({ frames := 0, cells := 0, slots := 0, locals := 0 } : Room).slots) := by
  refine MetFree.of_bodySF (plainFor_of_name pn_GraphAddToRowPinLaw) hisR ?_
  intro p e s m args below meth c s₁ Bd hml0 hP hK
  obtain ⟨rfl, hZ, hh⟩ := hP
  have hx := Bd.exec
  have hby := Bd.bytes
  have hml : c.maxLocals = 2 := hml0
  have hown : s.vm.findClass "com/example/weir/weir/kway/GraphAddToRowPinLaw" = some m.cls := findClass_of_methodNamed Bd.named
  have hnm := (name_of_methodNamed Bd.named Bd.method).1
  have X0 : Stand p l e ({ frames := 0, cells := 0, slots := 0, locals := 0 } : Room) s m #[(.ref a), (.ref b)] below meth c s₁ [] 0 0 := Stand.of_body Bd
  have e0 : s₁.heap = h0 := by rw [← hh, Bd.state]; rfl
  have N0 := Fr.nil n0
  have Zn := Z0
  have pre0 : ∀ t, Steps p.tables e below (s₁.setTop (mkF m 0 #[.val (.ref a), .val (.ref b)] [])) t → Steps p.tables e below (s₁.setTop (entryFrame m #[(.ref a), (.ref b)] 2)) t := fun t q => castTop (ef_S m a b) q
  have k0 : ∀ t, Steps p.tables e below (s₁.setTop (mkF m 0 #[.val (.ref a), .val (.ref b)] [])) t → Steps p.tables e below (s₁.setTop (mkF m 0 #[.val (.ref a), .val (.ref b)] [])) t := fun t q => q
  obtain ⟨cA, ArA, qA, SA, MA, HA, GA⟩ := id VA
  obtain ⟨cB, ArB, qB, SB, MB, HB, GB⟩ := id VB
  have k1_ : ∀ t, Steps p.tables e below (s₁.setTop (mkF m 6 #[.val (.ref a), .val (.ref b)] [(.int (xs.getD (0 : Int32).toNatClampNeg 0)), (.int (xs.getD (0 : Int32).toNatClampNeg 0))])) t → Steps p.tables e below (s₁.setTop (mkF m 0 #[.val (.ref a), .val (.ref b)] [])) t := by
    intro t q
    refine k0 _ ?_
    show Steps p.tables e below (s₁.setTop (mkF m 0 #[.val (.ref a), .val (.ref b)] [])) _
    refine XS.aloadN X0.here hx rfl (hb hby d_method_3_0) rfl rfl ?_
    show Steps p.tables e below (s₁.setTop (mkF m 1 #[.val (.ref a), .val (.ref b)] [(.ref a)])) _
    refine XS.iconst X0.here hx rfl (hb hby d_method_3_1) ?_
    show Steps p.tables e below (s₁.setTop (mkF m 2 #[.val (.ref a), .val (.ref b)] [(.int (0 : Int32)), (.ref a)])) _
    refine X0.iaload hx (j := (0 : Int32)) (v := (.int (xs.getD (0 : Int32).toNatClampNeg 0))) (by rw [e0]; exact ArA.1) (State.isArrayOf_alike hZ.alike ArA.2.1) ArA.2.2 (inb_of SA ⟨by decide, by decide⟩) (HA.at (inb_of SA ⟨by decide, by decide⟩) (own_getD xs _)) (g := (mkF m 2 #[.val (.ref a), .val (.ref b)] [(.int (0 : Int32)), (.ref a)])) rfl rfl (hb hby d_method_3_2) _ ?_
    show Steps p.tables e below (s₁.setTop (mkF m 3 #[.val (.ref a), .val (.ref b)] [(.int (xs.getD (0 : Int32).toNatClampNeg 0))])) _
    refine XS.aloadN X0.here hx rfl (hb hby d_method_3_3) rfl rfl ?_
    show Steps p.tables e below (s₁.setTop (mkF m 4 #[.val (.ref a), .val (.ref b)] [(.ref b), (.int (xs.getD (0 : Int32).toNatClampNeg 0))])) _
    refine XS.iconst X0.here hx rfl (hb hby d_method_3_4) ?_
    show Steps p.tables e below (s₁.setTop (mkF m 5 #[.val (.ref a), .val (.ref b)] [(.int (0 : Int32)), (.ref b), (.int (xs.getD (0 : Int32).toNatClampNeg 0))])) _
    refine X0.iaload hx (j := (0 : Int32)) (v := (.int (xs.getD (0 : Int32).toNatClampNeg 0))) (by rw [e0]; exact ArB.1) (State.isArrayOf_alike hZ.alike ArB.2.1) ArB.2.2 (inb_of SB ⟨by decide, by decide⟩) (HB.at (inb_of SB ⟨by decide, by decide⟩) (own_getD xs _)) (g := (mkF m 5 #[.val (.ref a), .val (.ref b)] [(.int (0 : Int32)), (.ref b), (.int (xs.getD (0 : Int32).toNatClampNeg 0))])) rfl rfl (hb hby d_method_3_5) _ ?_
    show Steps p.tables e below (s₁.setTop (mkF m 6 #[.val (.ref a), .val (.ref b)] [(.int (xs.getD (0 : Int32).toNatClampNeg 0)), (.int (xs.getD (0 : Int32).toNatClampNeg 0))])) _
    exact q
  have k2_ : ∀ t, Steps p.tables e below (s₁.setTop (mkF m 9 #[.val (.ref a), .val (.ref b)] [])) t → Steps p.tables e below (s₁.setTop (mkF m 0 #[.val (.ref a), .val (.ref b)] [])) t := by
    intro t q
    refine k1_ _ ?_
    show Steps p.tables e below (s₁.setTop (mkF m 6 #[.val (.ref a), .val (.ref b)] [(.int (xs.getD (0 : Int32).toNatClampNeg 0)), (.int (xs.getD (0 : Int32).toNatClampNeg 0))])) _
    refine XS.icmpNo X0.here hx rfl (hb hby d_method_3_6) rfl (teq rfl).2 ?_
    show Steps p.tables e below (s₁.setTop (mkF m 9 #[.val (.ref a), .val (.ref b)] [])) _
    exact q
  have k3_ : ∀ t, Steps p.tables e below (s₁.setTop (mkF m 15 #[.val (.ref a), .val (.ref b)] [(.int (xs.getD (1 : Int32).toNatClampNeg 0)), (.int (xs.getD (1 : Int32).toNatClampNeg 0))])) t → Steps p.tables e below (s₁.setTop (mkF m 0 #[.val (.ref a), .val (.ref b)] [])) t := by
    intro t q
    refine k2_ _ ?_
    show Steps p.tables e below (s₁.setTop (mkF m 9 #[.val (.ref a), .val (.ref b)] [])) _
    refine XS.aloadN X0.here hx rfl (hb hby d_method_3_9) rfl rfl ?_
    show Steps p.tables e below (s₁.setTop (mkF m 10 #[.val (.ref a), .val (.ref b)] [(.ref a)])) _
    refine XS.iconst X0.here hx rfl (hb hby d_method_3_10) ?_
    show Steps p.tables e below (s₁.setTop (mkF m 11 #[.val (.ref a), .val (.ref b)] [(.int (1 : Int32)), (.ref a)])) _
    refine X0.iaload hx (j := (1 : Int32)) (v := (.int (xs.getD (1 : Int32).toNatClampNeg 0))) (by rw [e0]; exact ArA.1) (State.isArrayOf_alike hZ.alike ArA.2.1) ArA.2.2 (inb_of SA ⟨by decide, by decide⟩) (HA.at (inb_of SA ⟨by decide, by decide⟩) (own_getD xs _)) (g := (mkF m 11 #[.val (.ref a), .val (.ref b)] [(.int (1 : Int32)), (.ref a)])) rfl rfl (hb hby d_method_3_11) _ ?_
    show Steps p.tables e below (s₁.setTop (mkF m 12 #[.val (.ref a), .val (.ref b)] [(.int (xs.getD (1 : Int32).toNatClampNeg 0))])) _
    refine XS.aloadN X0.here hx rfl (hb hby d_method_3_12) rfl rfl ?_
    show Steps p.tables e below (s₁.setTop (mkF m 13 #[.val (.ref a), .val (.ref b)] [(.ref b), (.int (xs.getD (1 : Int32).toNatClampNeg 0))])) _
    refine XS.iconst X0.here hx rfl (hb hby d_method_3_13) ?_
    show Steps p.tables e below (s₁.setTop (mkF m 14 #[.val (.ref a), .val (.ref b)] [(.int (1 : Int32)), (.ref b), (.int (xs.getD (1 : Int32).toNatClampNeg 0))])) _
    refine X0.iaload hx (j := (1 : Int32)) (v := (.int (xs.getD (1 : Int32).toNatClampNeg 0))) (by rw [e0]; exact ArB.1) (State.isArrayOf_alike hZ.alike ArB.2.1) ArB.2.2 (inb_of SB ⟨by decide, by decide⟩) (HB.at (inb_of SB ⟨by decide, by decide⟩) (own_getD xs _)) (g := (mkF m 14 #[.val (.ref a), .val (.ref b)] [(.int (1 : Int32)), (.ref b), (.int (xs.getD (1 : Int32).toNatClampNeg 0))])) rfl rfl (hb hby d_method_3_14) _ ?_
    show Steps p.tables e below (s₁.setTop (mkF m 15 #[.val (.ref a), .val (.ref b)] [(.int (xs.getD (1 : Int32).toNatClampNeg 0)), (.int (xs.getD (1 : Int32).toNatClampNeg 0))])) _
    exact q
  have k4_ : ∀ t, Steps p.tables e below (s₁.setTop (mkF m 18 #[.val (.ref a), .val (.ref b)] [])) t → Steps p.tables e below (s₁.setTop (mkF m 0 #[.val (.ref a), .val (.ref b)] [])) t := by
    intro t q
    refine k3_ _ ?_
    show Steps p.tables e below (s₁.setTop (mkF m 15 #[.val (.ref a), .val (.ref b)] [(.int (xs.getD (1 : Int32).toNatClampNeg 0)), (.int (xs.getD (1 : Int32).toNatClampNeg 0))])) _
    refine XS.icmpNo X0.here hx rfl (hb hby d_method_3_15) rfl (teq rfl).2 ?_
    show Steps p.tables e below (s₁.setTop (mkF m 18 #[.val (.ref a), .val (.ref b)] [])) _
    exact q
  have k5_ : ∀ t, Steps p.tables e below (s₁.setTop (mkF m 24 #[.val (.ref a), .val (.ref b)] [(.int (xs.getD (2 : Int32).toNatClampNeg 0)), (.int (xs.getD (2 : Int32).toNatClampNeg 0))])) t → Steps p.tables e below (s₁.setTop (mkF m 0 #[.val (.ref a), .val (.ref b)] [])) t := by
    intro t q
    refine k4_ _ ?_
    show Steps p.tables e below (s₁.setTop (mkF m 18 #[.val (.ref a), .val (.ref b)] [])) _
    refine XS.aloadN X0.here hx rfl (hb hby d_method_3_18) rfl rfl ?_
    show Steps p.tables e below (s₁.setTop (mkF m 19 #[.val (.ref a), .val (.ref b)] [(.ref a)])) _
    refine XS.iconst X0.here hx rfl (hb hby d_method_3_19) ?_
    show Steps p.tables e below (s₁.setTop (mkF m 20 #[.val (.ref a), .val (.ref b)] [(.int (2 : Int32)), (.ref a)])) _
    refine X0.iaload hx (j := (2 : Int32)) (v := (.int (xs.getD (2 : Int32).toNatClampNeg 0))) (by rw [e0]; exact ArA.1) (State.isArrayOf_alike hZ.alike ArA.2.1) ArA.2.2 (inb_of SA ⟨by decide, by decide⟩) (HA.at (inb_of SA ⟨by decide, by decide⟩) (own_getD xs _)) (g := (mkF m 20 #[.val (.ref a), .val (.ref b)] [(.int (2 : Int32)), (.ref a)])) rfl rfl (hb hby d_method_3_20) _ ?_
    show Steps p.tables e below (s₁.setTop (mkF m 21 #[.val (.ref a), .val (.ref b)] [(.int (xs.getD (2 : Int32).toNatClampNeg 0))])) _
    refine XS.aloadN X0.here hx rfl (hb hby d_method_3_21) rfl rfl ?_
    show Steps p.tables e below (s₁.setTop (mkF m 22 #[.val (.ref a), .val (.ref b)] [(.ref b), (.int (xs.getD (2 : Int32).toNatClampNeg 0))])) _
    refine XS.iconst X0.here hx rfl (hb hby d_method_3_22) ?_
    show Steps p.tables e below (s₁.setTop (mkF m 23 #[.val (.ref a), .val (.ref b)] [(.int (2 : Int32)), (.ref b), (.int (xs.getD (2 : Int32).toNatClampNeg 0))])) _
    refine X0.iaload hx (j := (2 : Int32)) (v := (.int (xs.getD (2 : Int32).toNatClampNeg 0))) (by rw [e0]; exact ArB.1) (State.isArrayOf_alike hZ.alike ArB.2.1) ArB.2.2 (inb_of SB ⟨by decide, by decide⟩) (HB.at (inb_of SB ⟨by decide, by decide⟩) (own_getD xs _)) (g := (mkF m 23 #[.val (.ref a), .val (.ref b)] [(.int (2 : Int32)), (.ref b), (.int (xs.getD (2 : Int32).toNatClampNeg 0))])) rfl rfl (hb hby d_method_3_23) _ ?_
    show Steps p.tables e below (s₁.setTop (mkF m 24 #[.val (.ref a), .val (.ref b)] [(.int (xs.getD (2 : Int32).toNatClampNeg 0)), (.int (xs.getD (2 : Int32).toNatClampNeg 0))])) _
    exact q
  have k6_ : ∀ t, Steps p.tables e below (s₁.setTop (mkF m 27 #[.val (.ref a), .val (.ref b)] [])) t → Steps p.tables e below (s₁.setTop (mkF m 0 #[.val (.ref a), .val (.ref b)] [])) t := by
    intro t q
    refine k5_ _ ?_
    show Steps p.tables e below (s₁.setTop (mkF m 24 #[.val (.ref a), .val (.ref b)] [(.int (xs.getD (2 : Int32).toNatClampNeg 0)), (.int (xs.getD (2 : Int32).toNatClampNeg 0))])) _
    refine XS.icmpNo X0.here hx rfl (hb hby d_method_3_24) rfl (teq rfl).2 ?_
    show Steps p.tables e below (s₁.setTop (mkF m 27 #[.val (.ref a), .val (.ref b)] [])) _
    exact q
  have k7_ : ∀ t, Steps p.tables e below (s₁.setTop (mkF m 33 #[.val (.ref a), .val (.ref b)] [(.int (xs.getD (3 : Int32).toNatClampNeg 0)), (.int (xs.getD (3 : Int32).toNatClampNeg 0))])) t → Steps p.tables e below (s₁.setTop (mkF m 0 #[.val (.ref a), .val (.ref b)] [])) t := by
    intro t q
    refine k6_ _ ?_
    show Steps p.tables e below (s₁.setTop (mkF m 27 #[.val (.ref a), .val (.ref b)] [])) _
    refine XS.aloadN X0.here hx rfl (hb hby d_method_3_27) rfl rfl ?_
    show Steps p.tables e below (s₁.setTop (mkF m 28 #[.val (.ref a), .val (.ref b)] [(.ref a)])) _
    refine XS.iconst X0.here hx rfl (hb hby d_method_3_28) ?_
    show Steps p.tables e below (s₁.setTop (mkF m 29 #[.val (.ref a), .val (.ref b)] [(.int (3 : Int32)), (.ref a)])) _
    refine X0.iaload hx (j := (3 : Int32)) (v := (.int (xs.getD (3 : Int32).toNatClampNeg 0))) (by rw [e0]; exact ArA.1) (State.isArrayOf_alike hZ.alike ArA.2.1) ArA.2.2 (inb_of SA ⟨by decide, by decide⟩) (HA.at (inb_of SA ⟨by decide, by decide⟩) (own_getD xs _)) (g := (mkF m 29 #[.val (.ref a), .val (.ref b)] [(.int (3 : Int32)), (.ref a)])) rfl rfl (hb hby d_method_3_29) _ ?_
    show Steps p.tables e below (s₁.setTop (mkF m 30 #[.val (.ref a), .val (.ref b)] [(.int (xs.getD (3 : Int32).toNatClampNeg 0))])) _
    refine XS.aloadN X0.here hx rfl (hb hby d_method_3_30) rfl rfl ?_
    show Steps p.tables e below (s₁.setTop (mkF m 31 #[.val (.ref a), .val (.ref b)] [(.ref b), (.int (xs.getD (3 : Int32).toNatClampNeg 0))])) _
    refine XS.iconst X0.here hx rfl (hb hby d_method_3_31) ?_
    show Steps p.tables e below (s₁.setTop (mkF m 32 #[.val (.ref a), .val (.ref b)] [(.int (3 : Int32)), (.ref b), (.int (xs.getD (3 : Int32).toNatClampNeg 0))])) _
    refine X0.iaload hx (j := (3 : Int32)) (v := (.int (xs.getD (3 : Int32).toNatClampNeg 0))) (by rw [e0]; exact ArB.1) (State.isArrayOf_alike hZ.alike ArB.2.1) ArB.2.2 (inb_of SB ⟨by decide, by decide⟩) (HB.at (inb_of SB ⟨by decide, by decide⟩) (own_getD xs _)) (g := (mkF m 32 #[.val (.ref a), .val (.ref b)] [(.int (3 : Int32)), (.ref b), (.int (xs.getD (3 : Int32).toNatClampNeg 0))])) rfl rfl (hb hby d_method_3_32) _ ?_
    show Steps p.tables e below (s₁.setTop (mkF m 33 #[.val (.ref a), .val (.ref b)] [(.int (xs.getD (3 : Int32).toNatClampNeg 0)), (.int (xs.getD (3 : Int32).toNatClampNeg 0))])) _
    exact q
  have k8_ : ∀ t, Steps p.tables e below (s₁.setTop (mkF m 36 #[.val (.ref a), .val (.ref b)] [])) t → Steps p.tables e below (s₁.setTop (mkF m 0 #[.val (.ref a), .val (.ref b)] [])) t := by
    intro t q
    refine k7_ _ ?_
    show Steps p.tables e below (s₁.setTop (mkF m 33 #[.val (.ref a), .val (.ref b)] [(.int (xs.getD (3 : Int32).toNatClampNeg 0)), (.int (xs.getD (3 : Int32).toNatClampNeg 0))])) _
    refine XS.icmpNo X0.here hx rfl (hb hby d_method_3_33) rfl (teq rfl).2 ?_
    show Steps p.tables e below (s₁.setTop (mkF m 36 #[.val (.ref a), .val (.ref b)] [])) _
    exact q
  have k9_ : ∀ t, Steps p.tables e below (s₁.setTop (mkF m 41 #[.val (.ref a), .val (.ref b)] [(.int (1 : Int32))])) t → Steps p.tables e below (s₁.setTop (mkF m 0 #[.val (.ref a), .val (.ref b)] [])) t := by
    intro t q
    refine k8_ _ ?_
    show Steps p.tables e below (s₁.setTop (mkF m 36 #[.val (.ref a), .val (.ref b)] [])) _
    refine XS.iconst X0.here hx rfl (hb hby d_method_3_36) ?_
    show Steps p.tables e below (s₁.setTop (mkF m 37 #[.val (.ref a), .val (.ref b)] [(.int (1 : Int32))])) _
    refine XS.goto X0.here hx rfl (pc0 := 37) (pc' := 41) rfl (hb hby d_method_3_37) (by decide) (by decide) ?_
    show Steps p.tables e below (s₁.setTop (mkF m 41 #[.val (.ref a), .val (.ref b)] [(.int (1 : Int32))])) _
    exact q
  obtain ⟨fs, hr, hrun, hended, hW, hsame⟩ := X0.leave (v := some (.int (1 : Int32))) (fun h => by rw [Bd.returns] at h; cases h)
  refine ⟨_, _, pre0 _ (k9_ _ ?_), hrun, hended, _, _, rfl, ?_, ⟨_, rfl⟩, hW, hsame.mono (by decide) (by decide)⟩
  · show Steps p.tables e below (s₁.setTop (mkF m 41 #[.val (.ref a), .val (.ref b)] [(.int (1 : Int32))])) _
    exact retN X0 hx (t := .boolean) Bd.returns (by simp) (hb hby d_method_3_41) hr
  · show QS Z a b ka kb xs h0 n0 _ s₁.heap _
    rw [e0]
    exact ⟨rfl, N0, rfl⟩
def QT (Z : State) (a : Addr) (b : Addr) (ka : ClassId) (kb : ClassId) (xs : List Int64) (h0 : Heap) (n0 : Nat) (v : Option Value) (h : Heap) (L : List Loc) : Prop := v = some (.int 1) ∧ Fr n0 L ∧ h = h0
theorem ef_T (m : MethodId) (x0 : Addr) (x1 : Addr) : entryFrame m #[(.ref x0), (.ref x1)] 2 = mkF m 0 #[.val (.ref x0), .val (.ref x1)] [] := by first | (simp [entryFrame, mkF, argsToLocals, Value.category]; done) | rfl
theorem d_method_4_0 : decode method_4_code 0 = .ok (.aload_n 0, 1) := by decide +kernel
theorem d_method_4_1 : decode method_4_code 1 = .ok (.iconst 0, 1) := by decide +kernel
theorem d_method_4_2 : decode method_4_code 2 = .ok (.daload, 1) := by decide +kernel
theorem d_method_4_3 : decode method_4_code 3 = .ok (.aload_n 1, 1) := by decide +kernel
theorem d_method_4_4 : decode method_4_code 4 = .ok (.iconst 0, 1) := by decide +kernel
theorem d_method_4_5 : decode method_4_code 5 = .ok (.daload, 1) := by decide +kernel
theorem d_method_4_6 : decode method_4_code 6 = .ok (.dcmp .l, 1) := by decide +kernel
theorem d_method_4_7 : decode method_4_code 7 = .ok (.ifCond .ne 37, 3) := by decide +kernel
theorem d_method_4_10 : decode method_4_code 10 = .ok (.aload_n 0, 1) := by decide +kernel
theorem d_method_4_11 : decode method_4_code 11 = .ok (.iconst 1, 1) := by decide +kernel
theorem d_method_4_12 : decode method_4_code 12 = .ok (.daload, 1) := by decide +kernel
theorem d_method_4_13 : decode method_4_code 13 = .ok (.aload_n 1, 1) := by decide +kernel
theorem d_method_4_14 : decode method_4_code 14 = .ok (.iconst 1, 1) := by decide +kernel
theorem d_method_4_15 : decode method_4_code 15 = .ok (.daload, 1) := by decide +kernel
theorem d_method_4_16 : decode method_4_code 16 = .ok (.dcmp .l, 1) := by decide +kernel
theorem d_method_4_17 : decode method_4_code 17 = .ok (.ifCond .ne 27, 3) := by decide +kernel
theorem d_method_4_20 : decode method_4_code 20 = .ok (.aload_n 0, 1) := by decide +kernel
theorem d_method_4_21 : decode method_4_code 21 = .ok (.iconst 2, 1) := by decide +kernel
theorem d_method_4_22 : decode method_4_code 22 = .ok (.daload, 1) := by decide +kernel
theorem d_method_4_23 : decode method_4_code 23 = .ok (.aload_n 1, 1) := by decide +kernel
theorem d_method_4_24 : decode method_4_code 24 = .ok (.iconst 2, 1) := by decide +kernel
theorem d_method_4_25 : decode method_4_code 25 = .ok (.daload, 1) := by decide +kernel
theorem d_method_4_26 : decode method_4_code 26 = .ok (.dcmp .l, 1) := by decide +kernel
theorem d_method_4_27 : decode method_4_code 27 = .ok (.ifCond .ne 17, 3) := by decide +kernel
theorem d_method_4_30 : decode method_4_code 30 = .ok (.aload_n 0, 1) := by decide +kernel
theorem d_method_4_31 : decode method_4_code 31 = .ok (.iconst 3, 1) := by decide +kernel
theorem d_method_4_32 : decode method_4_code 32 = .ok (.daload, 1) := by decide +kernel
theorem d_method_4_33 : decode method_4_code 33 = .ok (.aload_n 1, 1) := by decide +kernel
theorem d_method_4_34 : decode method_4_code 34 = .ok (.iconst 3, 1) := by decide +kernel
theorem d_method_4_35 : decode method_4_code 35 = .ok (.daload, 1) := by decide +kernel
theorem d_method_4_36 : decode method_4_code 36 = .ok (.dcmp .l, 1) := by decide +kernel
theorem d_method_4_37 : decode method_4_code 37 = .ok (.ifCond .ne 7, 3) := by decide +kernel
theorem d_method_4_40 : decode method_4_code 40 = .ok (.iconst 1, 1) := by decide +kernel
theorem d_method_4_41 : decode method_4_code 41 = .ok (.goto 4, 3) := by decide +kernel
theorem d_method_4_45 : decode method_4_code 45 = .ok (.ireturn, 1) := by decide +kernel
set_option maxRecDepth 65536 in
set_option maxHeartbeats 40000000 in
theorem rmT (l : Launch) (Z : State) (a0 : Array Value) (hw : ∀ d ∈ tables_1, d.before a0 Z = true) (ws : List Jvm.Cond) (a : Addr) (b : Addr) (ka : ClassId) (kb : ClassId) (xs : List Int64) (h0 : Heap) (n0 : Nat) (Z0 : n0 ≤ h0.size) (VA : Arv Z h0 a ka .double (4 : Int32) (xs.map own_dv) (.double (FP.l2d (0 : Int64)))) (VB : Arv Z h0 b kb .double (4 : Int32) (xs.map own_dv) (.double (FP.l2d (0 : Int64)))) :
    MetFree l (⟨"com/example/weir/weir/kway/GraphAddToRowPinLaw", "sameDoubles", "([D[D)Z"⟩ : MethodName) (head1 (Jvm.Cond.code (⟨"com/example/weir/weir/kway/GraphAddToRowPinLaw", "sameDoubles", "([D[D)Z"⟩ : MethodName) method_4_code 2 (some .boolean) :: ws) ({ frames := 0, cells := 0, slots := 0, locals := 0 } : Room)) (fun a_ U_ => a_ = #[(.ref a), (.ref b)] ∧ Z.Warmed39 U_.vm ∧ U_.heap = h0) (fun _ _ _ _ _ => True) (fun _ U_ o_ E_ => ∃ v_ L_, o_ = .returned v_ ∧ QT Z a b ka kb xs h0 n0 v_ E_.heap L_ ∧ FrameEnd U_ o_ E_ L_ ({ frames := 0, cells := 0, slots := 0, locals := 0 } : Room).cells ({ frames := 0, cells := 0, slots := 0, locals := 0 } : Room).slots) := by
  refine MetFree.of_bodySF (plainFor_of_name pn_GraphAddToRowPinLaw) hisR ?_
  intro p e s m args below meth c s₁ Bd hml0 hP hK
  obtain ⟨rfl, hZ, hh⟩ := hP
  have hx := Bd.exec
  have hby := Bd.bytes
  have hml : c.maxLocals = 2 := hml0
  have hown : s.vm.findClass "com/example/weir/weir/kway/GraphAddToRowPinLaw" = some m.cls := findClass_of_methodNamed Bd.named
  have hnm := (name_of_methodNamed Bd.named Bd.method).1
  have X0 : Stand p l e ({ frames := 0, cells := 0, slots := 0, locals := 0 } : Room) s m #[(.ref a), (.ref b)] below meth c s₁ [] 0 0 := Stand.of_body Bd
  have e0 : s₁.heap = h0 := by rw [← hh, Bd.state]; rfl
  have N0 := Fr.nil n0
  have Zn := Z0
  have pre0 : ∀ t, Steps p.tables e below (s₁.setTop (mkF m 0 #[.val (.ref a), .val (.ref b)] [])) t → Steps p.tables e below (s₁.setTop (entryFrame m #[(.ref a), (.ref b)] 2)) t := fun t q => castTop (ef_T m a b) q
  have k0 : ∀ t, Steps p.tables e below (s₁.setTop (mkF m 0 #[.val (.ref a), .val (.ref b)] [])) t → Steps p.tables e below (s₁.setTop (mkF m 0 #[.val (.ref a), .val (.ref b)] [])) t := fun t q => q
  obtain ⟨cA, ArA, qA, SA, MA, HA, GA⟩ := id VA
  obtain ⟨cB, ArB, qB, SB, MB, HB, GB⟩ := id VB
  have k1_ : ∀ t, Steps p.tables e below (s₁.setTop (mkF m 7 #[.val (.ref a), .val (.ref b)] [(.int (0 : Int32))])) t → Steps p.tables e below (s₁.setTop (mkF m 0 #[.val (.ref a), .val (.ref b)] [])) t := by
    intro t q
    refine k0 _ ?_
    show Steps p.tables e below (s₁.setTop (mkF m 0 #[.val (.ref a), .val (.ref b)] [])) _
    refine XS.aloadN X0.here hx rfl (hb hby d_method_4_0) rfl rfl ?_
    show Steps p.tables e below (s₁.setTop (mkF m 1 #[.val (.ref a), .val (.ref b)] [(.ref a)])) _
    refine XS.iconst X0.here hx rfl (hb hby d_method_4_1) ?_
    show Steps p.tables e below (s₁.setTop (mkF m 2 #[.val (.ref a), .val (.ref b)] [(.int (0 : Int32)), (.ref a)])) _
    refine X0.daload hx (j := (0 : Int32)) (v := (.double (FP.l2d (xs.getD (0 : Int32).toNatClampNeg 0)))) (by rw [e0]; exact ArA.1) (State.isArrayOf_alike hZ.alike ArA.2.1) ArA.2.2 (inb_of SA ⟨by decide, by decide⟩) (HA.at (inb_of SA ⟨by decide, by decide⟩) (own_getDd xs _)) (g := (mkF m 2 #[.val (.ref a), .val (.ref b)] [(.int (0 : Int32)), (.ref a)])) rfl rfl (hb hby d_method_4_2) _ ?_
    show Steps p.tables e below (s₁.setTop (mkF m 3 #[.val (.ref a), .val (.ref b)] [(.double (FP.l2d (xs.getD (0 : Int32).toNatClampNeg 0)))])) _
    refine XS.aloadN X0.here hx rfl (hb hby d_method_4_3) rfl rfl ?_
    show Steps p.tables e below (s₁.setTop (mkF m 4 #[.val (.ref a), .val (.ref b)] [(.ref b), (.double (FP.l2d (xs.getD (0 : Int32).toNatClampNeg 0)))])) _
    refine XS.iconst X0.here hx rfl (hb hby d_method_4_4) ?_
    show Steps p.tables e below (s₁.setTop (mkF m 5 #[.val (.ref a), .val (.ref b)] [(.int (0 : Int32)), (.ref b), (.double (FP.l2d (xs.getD (0 : Int32).toNatClampNeg 0)))])) _
    refine X0.daload hx (j := (0 : Int32)) (v := (.double (FP.l2d (xs.getD (0 : Int32).toNatClampNeg 0)))) (by rw [e0]; exact ArB.1) (State.isArrayOf_alike hZ.alike ArB.2.1) ArB.2.2 (inb_of SB ⟨by decide, by decide⟩) (HB.at (inb_of SB ⟨by decide, by decide⟩) (own_getDd xs _)) (g := (mkF m 5 #[.val (.ref a), .val (.ref b)] [(.int (0 : Int32)), (.ref b), (.double (FP.l2d (xs.getD (0 : Int32).toNatClampNeg 0)))])) rfl rfl (hb hby d_method_4_5) _ ?_
    show Steps p.tables e below (s₁.setTop (mkF m 6 #[.val (.ref a), .val (.ref b)] [(.double (FP.l2d (xs.getD (0 : Int32).toNatClampNeg 0))), (.double (FP.l2d (xs.getD (0 : Int32).toNatClampNeg 0)))])) _
    refine XS.dcmpS X0.here hx rfl (hb hby d_method_4_6) rfl (v := (0 : Int32)) (dcmpV_self (nn_w rfl) _) ?_
    show Steps p.tables e below (s₁.setTop (mkF m 7 #[.val (.ref a), .val (.ref b)] [(.int (0 : Int32))])) _
    exact q
  have k2_ : ∀ t, Steps p.tables e below (s₁.setTop (mkF m 10 #[.val (.ref a), .val (.ref b)] [])) t → Steps p.tables e below (s₁.setTop (mkF m 0 #[.val (.ref a), .val (.ref b)] [])) t := by
    intro t q
    refine k1_ _ ?_
    show Steps p.tables e below (s₁.setTop (mkF m 7 #[.val (.ref a), .val (.ref b)] [(.int (0 : Int32))])) _
    refine XS.ifNo X0.here hx rfl (hb hby d_method_4_7) rfl ((if0 _ _).trans (teq rfl).2) ?_
    show Steps p.tables e below (s₁.setTop (mkF m 10 #[.val (.ref a), .val (.ref b)] [])) _
    exact q
  have k3_ : ∀ t, Steps p.tables e below (s₁.setTop (mkF m 17 #[.val (.ref a), .val (.ref b)] [(.int (0 : Int32))])) t → Steps p.tables e below (s₁.setTop (mkF m 0 #[.val (.ref a), .val (.ref b)] [])) t := by
    intro t q
    refine k2_ _ ?_
    show Steps p.tables e below (s₁.setTop (mkF m 10 #[.val (.ref a), .val (.ref b)] [])) _
    refine XS.aloadN X0.here hx rfl (hb hby d_method_4_10) rfl rfl ?_
    show Steps p.tables e below (s₁.setTop (mkF m 11 #[.val (.ref a), .val (.ref b)] [(.ref a)])) _
    refine XS.iconst X0.here hx rfl (hb hby d_method_4_11) ?_
    show Steps p.tables e below (s₁.setTop (mkF m 12 #[.val (.ref a), .val (.ref b)] [(.int (1 : Int32)), (.ref a)])) _
    refine X0.daload hx (j := (1 : Int32)) (v := (.double (FP.l2d (xs.getD (1 : Int32).toNatClampNeg 0)))) (by rw [e0]; exact ArA.1) (State.isArrayOf_alike hZ.alike ArA.2.1) ArA.2.2 (inb_of SA ⟨by decide, by decide⟩) (HA.at (inb_of SA ⟨by decide, by decide⟩) (own_getDd xs _)) (g := (mkF m 12 #[.val (.ref a), .val (.ref b)] [(.int (1 : Int32)), (.ref a)])) rfl rfl (hb hby d_method_4_12) _ ?_
    show Steps p.tables e below (s₁.setTop (mkF m 13 #[.val (.ref a), .val (.ref b)] [(.double (FP.l2d (xs.getD (1 : Int32).toNatClampNeg 0)))])) _
    refine XS.aloadN X0.here hx rfl (hb hby d_method_4_13) rfl rfl ?_
    show Steps p.tables e below (s₁.setTop (mkF m 14 #[.val (.ref a), .val (.ref b)] [(.ref b), (.double (FP.l2d (xs.getD (1 : Int32).toNatClampNeg 0)))])) _
    refine XS.iconst X0.here hx rfl (hb hby d_method_4_14) ?_
    show Steps p.tables e below (s₁.setTop (mkF m 15 #[.val (.ref a), .val (.ref b)] [(.int (1 : Int32)), (.ref b), (.double (FP.l2d (xs.getD (1 : Int32).toNatClampNeg 0)))])) _
    refine X0.daload hx (j := (1 : Int32)) (v := (.double (FP.l2d (xs.getD (1 : Int32).toNatClampNeg 0)))) (by rw [e0]; exact ArB.1) (State.isArrayOf_alike hZ.alike ArB.2.1) ArB.2.2 (inb_of SB ⟨by decide, by decide⟩) (HB.at (inb_of SB ⟨by decide, by decide⟩) (own_getDd xs _)) (g := (mkF m 15 #[.val (.ref a), .val (.ref b)] [(.int (1 : Int32)), (.ref b), (.double (FP.l2d (xs.getD (1 : Int32).toNatClampNeg 0)))])) rfl rfl (hb hby d_method_4_15) _ ?_
    show Steps p.tables e below (s₁.setTop (mkF m 16 #[.val (.ref a), .val (.ref b)] [(.double (FP.l2d (xs.getD (1 : Int32).toNatClampNeg 0))), (.double (FP.l2d (xs.getD (1 : Int32).toNatClampNeg 0)))])) _
    refine XS.dcmpS X0.here hx rfl (hb hby d_method_4_16) rfl (v := (0 : Int32)) (dcmpV_self (nn_w rfl) _) ?_
    show Steps p.tables e below (s₁.setTop (mkF m 17 #[.val (.ref a), .val (.ref b)] [(.int (0 : Int32))])) _
    exact q
  have k4_ : ∀ t, Steps p.tables e below (s₁.setTop (mkF m 20 #[.val (.ref a), .val (.ref b)] [])) t → Steps p.tables e below (s₁.setTop (mkF m 0 #[.val (.ref a), .val (.ref b)] [])) t := by
    intro t q
    refine k3_ _ ?_
    show Steps p.tables e below (s₁.setTop (mkF m 17 #[.val (.ref a), .val (.ref b)] [(.int (0 : Int32))])) _
    refine XS.ifNo X0.here hx rfl (hb hby d_method_4_17) rfl ((if0 _ _).trans (teq rfl).2) ?_
    show Steps p.tables e below (s₁.setTop (mkF m 20 #[.val (.ref a), .val (.ref b)] [])) _
    exact q
  have k5_ : ∀ t, Steps p.tables e below (s₁.setTop (mkF m 27 #[.val (.ref a), .val (.ref b)] [(.int (0 : Int32))])) t → Steps p.tables e below (s₁.setTop (mkF m 0 #[.val (.ref a), .val (.ref b)] [])) t := by
    intro t q
    refine k4_ _ ?_
    show Steps p.tables e below (s₁.setTop (mkF m 20 #[.val (.ref a), .val (.ref b)] [])) _
    refine XS.aloadN X0.here hx rfl (hb hby d_method_4_20) rfl rfl ?_
    show Steps p.tables e below (s₁.setTop (mkF m 21 #[.val (.ref a), .val (.ref b)] [(.ref a)])) _
    refine XS.iconst X0.here hx rfl (hb hby d_method_4_21) ?_
    show Steps p.tables e below (s₁.setTop (mkF m 22 #[.val (.ref a), .val (.ref b)] [(.int (2 : Int32)), (.ref a)])) _
    refine X0.daload hx (j := (2 : Int32)) (v := (.double (FP.l2d (xs.getD (2 : Int32).toNatClampNeg 0)))) (by rw [e0]; exact ArA.1) (State.isArrayOf_alike hZ.alike ArA.2.1) ArA.2.2 (inb_of SA ⟨by decide, by decide⟩) (HA.at (inb_of SA ⟨by decide, by decide⟩) (own_getDd xs _)) (g := (mkF m 22 #[.val (.ref a), .val (.ref b)] [(.int (2 : Int32)), (.ref a)])) rfl rfl (hb hby d_method_4_22) _ ?_
    show Steps p.tables e below (s₁.setTop (mkF m 23 #[.val (.ref a), .val (.ref b)] [(.double (FP.l2d (xs.getD (2 : Int32).toNatClampNeg 0)))])) _
    refine XS.aloadN X0.here hx rfl (hb hby d_method_4_23) rfl rfl ?_
    show Steps p.tables e below (s₁.setTop (mkF m 24 #[.val (.ref a), .val (.ref b)] [(.ref b), (.double (FP.l2d (xs.getD (2 : Int32).toNatClampNeg 0)))])) _
    refine XS.iconst X0.here hx rfl (hb hby d_method_4_24) ?_
    show Steps p.tables e below (s₁.setTop (mkF m 25 #[.val (.ref a), .val (.ref b)] [(.int (2 : Int32)), (.ref b), (.double (FP.l2d (xs.getD (2 : Int32).toNatClampNeg 0)))])) _
    refine X0.daload hx (j := (2 : Int32)) (v := (.double (FP.l2d (xs.getD (2 : Int32).toNatClampNeg 0)))) (by rw [e0]; exact ArB.1) (State.isArrayOf_alike hZ.alike ArB.2.1) ArB.2.2 (inb_of SB ⟨by decide, by decide⟩) (HB.at (inb_of SB ⟨by decide, by decide⟩) (own_getDd xs _)) (g := (mkF m 25 #[.val (.ref a), .val (.ref b)] [(.int (2 : Int32)), (.ref b), (.double (FP.l2d (xs.getD (2 : Int32).toNatClampNeg 0)))])) rfl rfl (hb hby d_method_4_25) _ ?_
    show Steps p.tables e below (s₁.setTop (mkF m 26 #[.val (.ref a), .val (.ref b)] [(.double (FP.l2d (xs.getD (2 : Int32).toNatClampNeg 0))), (.double (FP.l2d (xs.getD (2 : Int32).toNatClampNeg 0)))])) _
    refine XS.dcmpS X0.here hx rfl (hb hby d_method_4_26) rfl (v := (0 : Int32)) (dcmpV_self (nn_w rfl) _) ?_
    show Steps p.tables e below (s₁.setTop (mkF m 27 #[.val (.ref a), .val (.ref b)] [(.int (0 : Int32))])) _
    exact q
  have k6_ : ∀ t, Steps p.tables e below (s₁.setTop (mkF m 30 #[.val (.ref a), .val (.ref b)] [])) t → Steps p.tables e below (s₁.setTop (mkF m 0 #[.val (.ref a), .val (.ref b)] [])) t := by
    intro t q
    refine k5_ _ ?_
    show Steps p.tables e below (s₁.setTop (mkF m 27 #[.val (.ref a), .val (.ref b)] [(.int (0 : Int32))])) _
    refine XS.ifNo X0.here hx rfl (hb hby d_method_4_27) rfl ((if0 _ _).trans (teq rfl).2) ?_
    show Steps p.tables e below (s₁.setTop (mkF m 30 #[.val (.ref a), .val (.ref b)] [])) _
    exact q
  have k7_ : ∀ t, Steps p.tables e below (s₁.setTop (mkF m 37 #[.val (.ref a), .val (.ref b)] [(.int (0 : Int32))])) t → Steps p.tables e below (s₁.setTop (mkF m 0 #[.val (.ref a), .val (.ref b)] [])) t := by
    intro t q
    refine k6_ _ ?_
    show Steps p.tables e below (s₁.setTop (mkF m 30 #[.val (.ref a), .val (.ref b)] [])) _
    refine XS.aloadN X0.here hx rfl (hb hby d_method_4_30) rfl rfl ?_
    show Steps p.tables e below (s₁.setTop (mkF m 31 #[.val (.ref a), .val (.ref b)] [(.ref a)])) _
    refine XS.iconst X0.here hx rfl (hb hby d_method_4_31) ?_
    show Steps p.tables e below (s₁.setTop (mkF m 32 #[.val (.ref a), .val (.ref b)] [(.int (3 : Int32)), (.ref a)])) _
    refine X0.daload hx (j := (3 : Int32)) (v := (.double (FP.l2d (xs.getD (3 : Int32).toNatClampNeg 0)))) (by rw [e0]; exact ArA.1) (State.isArrayOf_alike hZ.alike ArA.2.1) ArA.2.2 (inb_of SA ⟨by decide, by decide⟩) (HA.at (inb_of SA ⟨by decide, by decide⟩) (own_getDd xs _)) (g := (mkF m 32 #[.val (.ref a), .val (.ref b)] [(.int (3 : Int32)), (.ref a)])) rfl rfl (hb hby d_method_4_32) _ ?_
    show Steps p.tables e below (s₁.setTop (mkF m 33 #[.val (.ref a), .val (.ref b)] [(.double (FP.l2d (xs.getD (3 : Int32).toNatClampNeg 0)))])) _
    refine XS.aloadN X0.here hx rfl (hb hby d_method_4_33) rfl rfl ?_
    show Steps p.tables e below (s₁.setTop (mkF m 34 #[.val (.ref a), .val (.ref b)] [(.ref b), (.double (FP.l2d (xs.getD (3 : Int32).toNatClampNeg 0)))])) _
    refine XS.iconst X0.here hx rfl (hb hby d_method_4_34) ?_
    show Steps p.tables e below (s₁.setTop (mkF m 35 #[.val (.ref a), .val (.ref b)] [(.int (3 : Int32)), (.ref b), (.double (FP.l2d (xs.getD (3 : Int32).toNatClampNeg 0)))])) _
    refine X0.daload hx (j := (3 : Int32)) (v := (.double (FP.l2d (xs.getD (3 : Int32).toNatClampNeg 0)))) (by rw [e0]; exact ArB.1) (State.isArrayOf_alike hZ.alike ArB.2.1) ArB.2.2 (inb_of SB ⟨by decide, by decide⟩) (HB.at (inb_of SB ⟨by decide, by decide⟩) (own_getDd xs _)) (g := (mkF m 35 #[.val (.ref a), .val (.ref b)] [(.int (3 : Int32)), (.ref b), (.double (FP.l2d (xs.getD (3 : Int32).toNatClampNeg 0)))])) rfl rfl (hb hby d_method_4_35) _ ?_
    show Steps p.tables e below (s₁.setTop (mkF m 36 #[.val (.ref a), .val (.ref b)] [(.double (FP.l2d (xs.getD (3 : Int32).toNatClampNeg 0))), (.double (FP.l2d (xs.getD (3 : Int32).toNatClampNeg 0)))])) _
    refine XS.dcmpS X0.here hx rfl (hb hby d_method_4_36) rfl (v := (0 : Int32)) (dcmpV_self (nn_w rfl) _) ?_
    show Steps p.tables e below (s₁.setTop (mkF m 37 #[.val (.ref a), .val (.ref b)] [(.int (0 : Int32))])) _
    exact q
  have k8_ : ∀ t, Steps p.tables e below (s₁.setTop (mkF m 40 #[.val (.ref a), .val (.ref b)] [])) t → Steps p.tables e below (s₁.setTop (mkF m 0 #[.val (.ref a), .val (.ref b)] [])) t := by
    intro t q
    refine k7_ _ ?_
    show Steps p.tables e below (s₁.setTop (mkF m 37 #[.val (.ref a), .val (.ref b)] [(.int (0 : Int32))])) _
    refine XS.ifNo X0.here hx rfl (hb hby d_method_4_37) rfl ((if0 _ _).trans (teq rfl).2) ?_
    show Steps p.tables e below (s₁.setTop (mkF m 40 #[.val (.ref a), .val (.ref b)] [])) _
    exact q
  have k9_ : ∀ t, Steps p.tables e below (s₁.setTop (mkF m 45 #[.val (.ref a), .val (.ref b)] [(.int (1 : Int32))])) t → Steps p.tables e below (s₁.setTop (mkF m 0 #[.val (.ref a), .val (.ref b)] [])) t := by
    intro t q
    refine k8_ _ ?_
    show Steps p.tables e below (s₁.setTop (mkF m 40 #[.val (.ref a), .val (.ref b)] [])) _
    refine XS.iconst X0.here hx rfl (hb hby d_method_4_40) ?_
    show Steps p.tables e below (s₁.setTop (mkF m 41 #[.val (.ref a), .val (.ref b)] [(.int (1 : Int32))])) _
    refine XS.goto X0.here hx rfl (pc0 := 41) (pc' := 45) rfl (hb hby d_method_4_41) (by decide) (by decide) ?_
    show Steps p.tables e below (s₁.setTop (mkF m 45 #[.val (.ref a), .val (.ref b)] [(.int (1 : Int32))])) _
    exact q
  obtain ⟨fs, hr, hrun, hended, hW, hsame⟩ := X0.leave (v := some (.int (1 : Int32))) (fun h => by rw [Bd.returns] at h; cases h)
  refine ⟨_, _, pre0 _ (k9_ _ ?_), hrun, hended, _, _, rfl, ?_, ⟨_, rfl⟩, hW, hsame.mono (by decide) (by decide)⟩
  · show Steps p.tables e below (s₁.setTop (mkF m 45 #[.val (.ref a), .val (.ref b)] [(.int (1 : Int32))])) _
    exact retN X0 hx (t := .boolean) Bd.returns (by simp) (hb hby d_method_4_45) hr
  · show QT Z a b ka kb xs h0 n0 _ s₁.heap _
    rw [e0]
    exact ⟨rfl, N0, rfl⟩
def Q0 (Z : State) (p0 : Int32) (p1 : Int32) (p2 : Int32) (p3 : Int32) (p4 : Int32) (h0 : Heap) (n0 : Nat) (v : Option Value) (h : Heap) (L : List Loc) : Prop := v = some (.int 1) ∧ Fr n0 L
theorem ef_0 (m : MethodId) (x0 : Int32) (x1 : Int32) (x2 : Int32) (x3 : Int32) (x4 : Int32) : entryFrame m #[(.int x0), (.int x1), (.int x2), (.int x3), (.int x4)] maxLocals = mkF m 0 #[.val (.int x0), .val (.int x1), .val (.int x2), .val (.int x3), .val (.int x4), .unset, .unset, .unset, .unset, .unset, .unset, .unset, .unset, .unset, .unset, .unset, .unset, .unset, .unset, .unset] [] := by first | (simp [entryFrame, mkF, argsToLocals, Value.category, maxLocals]; done) | rfl
theorem pd_77915 : parseMethodDescriptor "([IIIID[I[D)I" = some ⟨[(.array .int), .int, .int, .int, .double, (.array .int), (.array .double)], some .int⟩ := by decide +kernel
theorem pd_5997 : parseMethodDescriptor "([I[I)Z" = some ⟨[(.array .int), (.array .int)], some .boolean⟩ := by decide +kernel
theorem pd_83602 : parseMethodDescriptor "([D[D)Z" = some ⟨[(.array .double), (.array .double)], some .boolean⟩ := by decide +kernel
set_option maxRecDepth 65536 in
set_option maxHeartbeats 40000000 in
theorem rm0 (l : Launch) (Z : State) (a0 : Array Value) (hw : ∀ d ∈ tables_1, d.before a0 Z = true) (ws : List Jvm.Cond) (p0 : Int32) (p1 : Int32) (p2 : Int32) (p3 : Int32) (p4 : Int32) (h0 : Heap) (n0 : Nat) (Z0 : n0 ≤ h0.size) :
    MetFree l x (head1 (Jvm.Cond.code x code maxLocals ret :: ws) room_1) (fun a_ U_ => a_ = #[(.int p0), (.int p1), (.int p2), (.int p3), (.int p4)] ∧ Z.Warmed39 U_.vm ∧ U_.heap = h0) (fun _ _ _ _ _ => True) (fun _ U_ o_ E_ => ∃ v_ L_, o_ = .returned v_ ∧ Q0 Z p0 p1 p2 p3 p4 h0 n0 v_ E_.heap L_ ∧ FrameEnd U_ o_ E_ L_ room_1.cells room_1.slots) := by
  refine MetFree.of_bodySF (plainFor_of_name pn_GraphAddToRowPinLaw) hisR ?_
  intro p e s m args below meth c s₁ Bd hml0 hP hK
  obtain ⟨rfl, hZ, hh⟩ := hP
  have hx := Bd.exec
  have hby := Bd.bytes
  have hml : c.maxLocals = 20 := hml0
  have hown : s.vm.findClass "com/example/weir/weir/kway/GraphAddToRowPinLaw" = some m.cls := findClass_of_methodNamed Bd.named
  have hnm := (name_of_methodNamed Bd.named Bd.method).1
  have X0 : Stand p l e room_1 s m #[(.int p0), (.int p1), (.int p2), (.int p3), (.int p4)] below meth c s₁ [] 0 0 := Stand.of_body Bd
  have e0 : s₁.heap = h0 := by rw [← hh, Bd.state]; rfl
  have N0 := Fr.nil n0
  have Zn := Z0
  have pre0 : ∀ t, Steps p.tables e below (s₁.setTop (mkF m 0 #[.val (.int p0), .val (.int p1), .val (.int p2), .val (.int p3), .val (.int p4), .unset, .unset, .unset, .unset, .unset, .unset, .unset, .unset, .unset, .unset, .unset, .unset, .unset, .unset, .unset] [])) t → Steps p.tables e below (s₁.setTop (entryFrame m #[(.int p0), (.int p1), (.int p2), (.int p3), (.int p4)] maxLocals)) t := fun t q => castTop (ef_0 m p0 p1 p2 p3 p4) q
  have k0 : ∀ t, Steps p.tables e below (s₁.setTop (mkF m 0 #[.val (.int p0), .val (.int p1), .val (.int p2), .val (.int p3), .val (.int p4), .unset, .unset, .unset, .unset, .unset, .unset, .unset, .unset, .unset, .unset, .unset, .unset, .unset, .unset, .unset] [])) t → Steps p.tables e below (s₁.setTop (mkF m 0 #[.val (.int p0), .val (.int p1), .val (.int p2), .val (.int p3), .val (.int p4), .unset, .unset, .unset, .unset, .unset, .unset, .unset, .unset, .unset, .unset, .unset, .unset, .unset, .unset, .unset] [])) t := fun t q => q
  have k1_ : ∀ t, Steps p.tables e below (s₁.setTop (mkF m 3 #[.val (.int p0), .val (.int p1), .val (.int p2), .val (.int p3), .val (.int p4), .unset, .unset, .unset, .unset, .unset, .unset, .unset, .unset, .unset, .unset, .unset, .unset, .unset, .unset, .unset] [(.int (p0 &&& (3 : Int32)))])) t → Steps p.tables e below (s₁.setTop (mkF m 0 #[.val (.int p0), .val (.int p1), .val (.int p2), .val (.int p3), .val (.int p4), .unset, .unset, .unset, .unset, .unset, .unset, .unset, .unset, .unset, .unset, .unset, .unset, .unset, .unset, .unset] [])) t := by
    intro t q
    refine k0 _ ?_
    show Steps p.tables e below (s₁.setTop (mkF m 0 #[.val (.int p0), .val (.int p1), .val (.int p2), .val (.int p3), .val (.int p4), .unset, .unset, .unset, .unset, .unset, .unset, .unset, .unset, .unset, .unset, .unset, .unset, .unset, .unset, .unset] [])) _
    refine XS.iloadN X0.here hx rfl (hb hby at_0) rfl ?_
    show Steps p.tables e below (s₁.setTop (mkF m 1 #[.val (.int p0), .val (.int p1), .val (.int p2), .val (.int p3), .val (.int p4), .unset, .unset, .unset, .unset, .unset, .unset, .unset, .unset, .unset, .unset, .unset, .unset, .unset, .unset, .unset] [(.int p0)])) _
    refine XS.iconst X0.here hx rfl (hb hby at_1) ?_
    show Steps p.tables e below (s₁.setTop (mkF m 2 #[.val (.int p0), .val (.int p1), .val (.int p2), .val (.int p3), .val (.int p4), .unset, .unset, .unset, .unset, .unset, .unset, .unset, .unset, .unset, .unset, .unset, .unset, .unset, .unset, .unset] [(.int (3 : Int32)), (.int p0)])) _
    refine XS.iand X0.here hx rfl (hb hby at_2) rfl ?_
    show Steps p.tables e below (s₁.setTop (mkF m 3 #[.val (.int p0), .val (.int p1), .val (.int p2), .val (.int p3), .val (.int p4), .unset, .unset, .unset, .unset, .unset, .unset, .unset, .unset, .unset, .unset, .unset, .unset, .unset, .unset, .unset] [(.int (p0 &&& (3 : Int32)))])) _
    exact q
  obtain ⟨u, e_u⟩ : ∃ z, z = (p0 &&& (3 : Int32)) := ⟨_, rfl⟩
  have k2_ : ∀ t, Steps p.tables e below (s₁.setTop (mkF m 3 #[.val (.int p0), .val (.int p1), .val (.int p2), .val (.int p3), .val (.int p4), .unset, .unset, .unset, .unset, .unset, .unset, .unset, .unset, .unset, .unset, .unset, .unset, .unset, .unset, .unset] [(.int u)])) t → Steps p.tables e below (s₁.setTop (mkF m 0 #[.val (.int p0), .val (.int p1), .val (.int p2), .val (.int p3), .val (.int p4), .unset, .unset, .unset, .unset, .unset, .unset, .unset, .unset, .unset, .unset, .unset, .unset, .unset, .unset, .unset] [])) t := by rw [e_u]; exact k1_
  have hu := own_and3 p0
  rw [← e_u] at hu
  have k3_ : ∀ t, Steps p.tables e below (s₁.setTop (mkF m 8 #[.val (.int p0), .val (.int p1), .val (.int p2), .val (.int p3), .val (.int p4), .val (.int u), .unset, .unset, .unset, .unset, .unset, .unset, .unset, .unset, .unset, .unset, .unset, .unset, .unset, .unset] [(.int (p2 &&& (3 : Int32)))])) t → Steps p.tables e below (s₁.setTop (mkF m 0 #[.val (.int p0), .val (.int p1), .val (.int p2), .val (.int p3), .val (.int p4), .unset, .unset, .unset, .unset, .unset, .unset, .unset, .unset, .unset, .unset, .unset, .unset, .unset, .unset, .unset] [])) t := by
    intro t q
    refine k2_ _ ?_
    show Steps p.tables e below (s₁.setTop (mkF m 3 #[.val (.int p0), .val (.int p1), .val (.int p2), .val (.int p3), .val (.int p4), .unset, .unset, .unset, .unset, .unset, .unset, .unset, .unset, .unset, .unset, .unset, .unset, .unset, .unset, .unset] [(.int u)])) _
    refine XS.istore X0.here hx rfl (hb hby at_3) rfl (l' := #[.val (.int p0), .val (.int p1), .val (.int p2), .val (.int p3), .val (.int p4), .val (.int u), .unset, .unset, .unset, .unset, .unset, .unset, .unset, .unset, .unset, .unset, .unset, .unset, .unset, .unset]) rfl ?_
    show Steps p.tables e below (s₁.setTop (mkF m 5 #[.val (.int p0), .val (.int p1), .val (.int p2), .val (.int p3), .val (.int p4), .val (.int u), .unset, .unset, .unset, .unset, .unset, .unset, .unset, .unset, .unset, .unset, .unset, .unset, .unset, .unset] [])) _
    refine XS.iloadN X0.here hx rfl (hb hby at_5) rfl ?_
    show Steps p.tables e below (s₁.setTop (mkF m 6 #[.val (.int p0), .val (.int p1), .val (.int p2), .val (.int p3), .val (.int p4), .val (.int u), .unset, .unset, .unset, .unset, .unset, .unset, .unset, .unset, .unset, .unset, .unset, .unset, .unset, .unset] [(.int p2)])) _
    refine XS.iconst X0.here hx rfl (hb hby at_6) ?_
    show Steps p.tables e below (s₁.setTop (mkF m 7 #[.val (.int p0), .val (.int p1), .val (.int p2), .val (.int p3), .val (.int p4), .val (.int u), .unset, .unset, .unset, .unset, .unset, .unset, .unset, .unset, .unset, .unset, .unset, .unset, .unset, .unset] [(.int (3 : Int32)), (.int p2)])) _
    refine XS.iand X0.here hx rfl (hb hby at_7) rfl ?_
    show Steps p.tables e below (s₁.setTop (mkF m 8 #[.val (.int p0), .val (.int p1), .val (.int p2), .val (.int p3), .val (.int p4), .val (.int u), .unset, .unset, .unset, .unset, .unset, .unset, .unset, .unset, .unset, .unset, .unset, .unset, .unset, .unset] [(.int (p2 &&& (3 : Int32)))])) _
    exact q
  obtain ⟨r, e_r⟩ : ∃ z, z = (p2 &&& (3 : Int32)) := ⟨_, rfl⟩
  have k4_ : ∀ t, Steps p.tables e below (s₁.setTop (mkF m 8 #[.val (.int p0), .val (.int p1), .val (.int p2), .val (.int p3), .val (.int p4), .val (.int u), .unset, .unset, .unset, .unset, .unset, .unset, .unset, .unset, .unset, .unset, .unset, .unset, .unset, .unset] [(.int r)])) t → Steps p.tables e below (s₁.setTop (mkF m 0 #[.val (.int p0), .val (.int p1), .val (.int p2), .val (.int p3), .val (.int p4), .unset, .unset, .unset, .unset, .unset, .unset, .unset, .unset, .unset, .unset, .unset, .unset, .unset, .unset, .unset] [])) t := by rw [e_r]; exact k3_
  have hr := own_and3 p2
  rw [← e_r] at hr
  have k5_ : ∀ t, Steps p.tables e below (s₁.setTop (mkF m 22 #[.val (.int p0), .val (.int p1), .val (.int p2), .val (.int p3), .val (.int p4), .val (.int u), .val (.int r), .unset, .unset, .unset, .unset, .unset, .unset, .unset, .unset, .unset, .unset, .unset, .unset, .unset] [(.int (r + (own_rem (p3 &&& (2147483647 : Int32)) ((4 : Int32) - r))))])) t → Steps p.tables e below (s₁.setTop (mkF m 0 #[.val (.int p0), .val (.int p1), .val (.int p2), .val (.int p3), .val (.int p4), .unset, .unset, .unset, .unset, .unset, .unset, .unset, .unset, .unset, .unset, .unset, .unset, .unset, .unset, .unset] [])) t := by
    intro t q
    refine k4_ _ ?_
    show Steps p.tables e below (s₁.setTop (mkF m 8 #[.val (.int p0), .val (.int p1), .val (.int p2), .val (.int p3), .val (.int p4), .val (.int u), .unset, .unset, .unset, .unset, .unset, .unset, .unset, .unset, .unset, .unset, .unset, .unset, .unset, .unset] [(.int r)])) _
    refine XS.istore X0.here hx rfl (hb hby at_8) rfl (l' := #[.val (.int p0), .val (.int p1), .val (.int p2), .val (.int p3), .val (.int p4), .val (.int u), .val (.int r), .unset, .unset, .unset, .unset, .unset, .unset, .unset, .unset, .unset, .unset, .unset, .unset, .unset]) rfl ?_
    show Steps p.tables e below (s₁.setTop (mkF m 10 #[.val (.int p0), .val (.int p1), .val (.int p2), .val (.int p3), .val (.int p4), .val (.int u), .val (.int r), .unset, .unset, .unset, .unset, .unset, .unset, .unset, .unset, .unset, .unset, .unset, .unset, .unset] [])) _
    refine XS.iload X0.here hx rfl (hb hby at_10) rfl ?_
    show Steps p.tables e below (s₁.setTop (mkF m 12 #[.val (.int p0), .val (.int p1), .val (.int p2), .val (.int p3), .val (.int p4), .val (.int u), .val (.int r), .unset, .unset, .unset, .unset, .unset, .unset, .unset, .unset, .unset, .unset, .unset, .unset, .unset] [(.int r)])) _
    refine XS.iloadN X0.here hx rfl (hb hby at_12) rfl ?_
    show Steps p.tables e below (s₁.setTop (mkF m 13 #[.val (.int p0), .val (.int p1), .val (.int p2), .val (.int p3), .val (.int p4), .val (.int u), .val (.int r), .unset, .unset, .unset, .unset, .unset, .unset, .unset, .unset, .unset, .unset, .unset, .unset, .unset] [(.int p3), (.int r)])) _
    refine X0.ldcInt hx hown (mvT hZ (hw _ (List.mem_of_getElem? (i := 0) rfl))) (g := (mkF m 13 #[.val (.int p0), .val (.int p1), .val (.int p2), .val (.int p3), .val (.int p4), .val (.int u), .val (.int r), .unset, .unset, .unset, .unset, .unset, .unset, .unset, .unset, .unset, .unset, .unset, .unset, .unset] [(.int p3), (.int r)])) rfl (hb hby at_13) _ ?_
    show Steps p.tables e below (s₁.setTop (mkF m 15 #[.val (.int p0), .val (.int p1), .val (.int p2), .val (.int p3), .val (.int p4), .val (.int u), .val (.int r), .unset, .unset, .unset, .unset, .unset, .unset, .unset, .unset, .unset, .unset, .unset, .unset, .unset] [(.int (2147483647 : Int32)), (.int p3), (.int r)])) _
    refine XS.iand X0.here hx rfl (hb hby at_15) rfl ?_
    show Steps p.tables e below (s₁.setTop (mkF m 16 #[.val (.int p0), .val (.int p1), .val (.int p2), .val (.int p3), .val (.int p4), .val (.int u), .val (.int r), .unset, .unset, .unset, .unset, .unset, .unset, .unset, .unset, .unset, .unset, .unset, .unset, .unset] [(.int (p3 &&& (2147483647 : Int32))), (.int r)])) _
    refine XS.iconst X0.here hx rfl (hb hby at_16) ?_
    show Steps p.tables e below (s₁.setTop (mkF m 17 #[.val (.int p0), .val (.int p1), .val (.int p2), .val (.int p3), .val (.int p4), .val (.int u), .val (.int r), .unset, .unset, .unset, .unset, .unset, .unset, .unset, .unset, .unset, .unset, .unset, .unset, .unset] [(.int (4 : Int32)), (.int (p3 &&& (2147483647 : Int32))), (.int r)])) _
    refine XS.iload X0.here hx rfl (hb hby at_17) rfl ?_
    show Steps p.tables e below (s₁.setTop (mkF m 19 #[.val (.int p0), .val (.int p1), .val (.int p2), .val (.int p3), .val (.int p4), .val (.int u), .val (.int r), .unset, .unset, .unset, .unset, .unset, .unset, .unset, .unset, .unset, .unset, .unset, .unset, .unset] [(.int r), (.int (4 : Int32)), (.int (p3 &&& (2147483647 : Int32))), (.int r)])) _
    refine XS.isub X0.here hx rfl (hb hby at_19) rfl ?_
    show Steps p.tables e below (s₁.setTop (mkF m 20 #[.val (.int p0), .val (.int p1), .val (.int p2), .val (.int p3), .val (.int p4), .val (.int u), .val (.int r), .unset, .unset, .unset, .unset, .unset, .unset, .unset, .unset, .unset, .unset, .unset, .unset, .unset] [(.int ((4 : Int32) - r)), (.int (p3 &&& (2147483647 : Int32))), (.int r)])) _
    refine XS.irem X0.here hx rfl (hb hby at_20) rfl (own_ne0 (by rw [own_sub4 hr]; have h2 := hr.2; rw [Int32.lt_iff_toInt_lt] at h2; have : (4 : Int32).toInt = 4 := rfl; omega)) ?_
    show Steps p.tables e below (s₁.setTop (mkF m 21 #[.val (.int p0), .val (.int p1), .val (.int p2), .val (.int p3), .val (.int p4), .val (.int u), .val (.int r), .unset, .unset, .unset, .unset, .unset, .unset, .unset, .unset, .unset, .unset, .unset, .unset, .unset] [(.int (own_rem (p3 &&& (2147483647 : Int32)) ((4 : Int32) - r))), (.int r)])) _
    refine XS.iadd X0.here hx rfl (hb hby at_21) rfl ?_
    show Steps p.tables e below (s₁.setTop (mkF m 22 #[.val (.int p0), .val (.int p1), .val (.int p2), .val (.int p3), .val (.int p4), .val (.int u), .val (.int r), .unset, .unset, .unset, .unset, .unset, .unset, .unset, .unset, .unset, .unset, .unset, .unset, .unset] [(.int (r + (own_rem (p3 &&& (2147483647 : Int32)) ((4 : Int32) - r))))])) _
    exact q
  obtain ⟨o, e_o⟩ : ∃ z, z = (r + (own_rem (p3 &&& (2147483647 : Int32)) ((4 : Int32) - r))) := ⟨_, rfl⟩
  have k6_ : ∀ t, Steps p.tables e below (s₁.setTop (mkF m 22 #[.val (.int p0), .val (.int p1), .val (.int p2), .val (.int p3), .val (.int p4), .val (.int u), .val (.int r), .unset, .unset, .unset, .unset, .unset, .unset, .unset, .unset, .unset, .unset, .unset, .unset, .unset] [(.int o)])) t → Steps p.tables e below (s₁.setTop (mkF m 0 #[.val (.int p0), .val (.int p1), .val (.int p2), .val (.int p3), .val (.int p4), .unset, .unset, .unset, .unset, .unset, .unset, .unset, .unset, .unset, .unset, .unset, .unset, .unset, .unset, .unset] [])) t := by rw [e_o]; exact k5_
  have ho := own_o (d := p3) hr
  rw [← e_o] at ho
  have hr0 : 0 ≤ r.toInt := by have h1 := hr.1; rw [Int32.lt_iff_toInt_lt] at h1; have : (0 : Int32).toInt = 0 := rfl; omega
  have ho0 : ¬ o < (0 : Int32) := by rw [Int32.lt_iff_toInt_lt]; have : (0 : Int32).toInt = 0 := rfl; omega
  have ho4 : o < (4 : Int32) := by rw [Int32.lt_iff_toInt_lt]; have : (4 : Int32).toInt = 4 := rfl; omega
  have k7_ : ∀ t, Steps p.tables e below (s₁.setTop (mkF m 24 #[.val (.int p0), .val (.int p1), .val (.int p2), .val (.int p3), .val (.int p4), .val (.int u), .val (.int r), .val (.int o), .unset, .unset, .unset, .unset, .unset, .unset, .unset, .unset, .unset, .unset, .unset, .unset] [])) t → Steps p.tables e below (s₁.setTop (mkF m 0 #[.val (.int p0), .val (.int p1), .val (.int p2), .val (.int p3), .val (.int p4), .unset, .unset, .unset, .unset, .unset, .unset, .unset, .unset, .unset, .unset, .unset, .unset, .unset, .unset, .unset] [])) t := by
    intro t q
    refine k6_ _ ?_
    show Steps p.tables e below (s₁.setTop (mkF m 22 #[.val (.int p0), .val (.int p1), .val (.int p2), .val (.int p3), .val (.int p4), .val (.int u), .val (.int r), .unset, .unset, .unset, .unset, .unset, .unset, .unset, .unset, .unset, .unset, .unset, .unset, .unset] [(.int o)])) _
    refine XS.istore X0.here hx rfl (hb hby at_22) rfl (l' := #[.val (.int p0), .val (.int p1), .val (.int p2), .val (.int p3), .val (.int p4), .val (.int u), .val (.int r), .val (.int o), .unset, .unset, .unset, .unset, .unset, .unset, .unset, .unset, .unset, .unset, .unset, .unset]) rfl ?_
    show Steps p.tables e below (s₁.setTop (mkF m 24 #[.val (.int p0), .val (.int p1), .val (.int p2), .val (.int p3), .val (.int p4), .val (.int u), .val (.int r), .val (.int o), .unset, .unset, .unset, .unset, .unset, .unset, .unset, .unset, .unset, .unset, .unset, .unset] [])) _
    exact q
  have k8_ : ∀ t, Steps p.tables e below (s₁.setTop (mkF m 73 #[.val (.int p0), .val (.int p1), .val (.int p2), .val (.int p3), .val (.int p4), .val (.int u), .val (.int r), .val (.int o), .val (.int (own_s p1 r o)), .val (.int (own_in p1 r o)), .unset, .unset, .unset, .unset, .unset, .unset, .unset, .unset, .unset, .unset] [])) t → Steps p.tables e below (s₁.setTop (mkF m 0 #[.val (.int p0), .val (.int p1), .val (.int p2), .val (.int p3), .val (.int p4), .unset, .unset, .unset, .unset, .unset, .unset, .unset, .unset, .unset, .unset, .unset, .unset, .unset, .unset, .unset] [])) t := by
    intro t q
    refine k7_ _ ?_
    show Steps p.tables e below (s₁.setTop (mkF m 24 #[.val (.int p0), .val (.int p1), .val (.int p2), .val (.int p3), .val (.int p4), .val (.int u), .val (.int r), .val (.int o), .unset, .unset, .unset, .unset, .unset, .unset, .unset, .unset, .unset, .unset, .unset, .unset] [])) _
    refine XS.iloadN X0.here hx rfl (hb hby at_24) rfl ?_
    show Steps p.tables e below (s₁.setTop (mkF m 25 #[.val (.int p0), .val (.int p1), .val (.int p2), .val (.int p3), .val (.int p4), .val (.int u), .val (.int r), .val (.int o), .unset, .unset, .unset, .unset, .unset, .unset, .unset, .unset, .unset, .unset, .unset, .unset] [(.int p1)])) _
    refine XS.iload X0.here hx rfl (hb hby at_25) rfl ?_
    show Steps p.tables e below (s₁.setTop (mkF m 27 #[.val (.int p0), .val (.int p1), .val (.int p2), .val (.int p3), .val (.int p4), .val (.int u), .val (.int r), .val (.int o), .unset, .unset, .unset, .unset, .unset, .unset, .unset, .unset, .unset, .unset, .unset, .unset] [(.int r), (.int p1)])) _
    by_cases hc27 : p1 < r
    · refine XS.icmpNo X0.here hx rfl (hb hby at_27) rfl (tlt hc27).2.1 ?_
      show Steps p.tables e below (s₁.setTop (mkF m 30 #[.val (.int p0), .val (.int p1), .val (.int p2), .val (.int p3), .val (.int p4), .val (.int u), .val (.int r), .val (.int o), .unset, .unset, .unset, .unset, .unset, .unset, .unset, .unset, .unset, .unset, .unset, .unset] [])) _
      refine XS.iloadN X0.here hx rfl (hb hby at_30) rfl ?_
      show Steps p.tables e below (s₁.setTop (mkF m 31 #[.val (.int p0), .val (.int p1), .val (.int p2), .val (.int p3), .val (.int p4), .val (.int u), .val (.int r), .val (.int o), .unset, .unset, .unset, .unset, .unset, .unset, .unset, .unset, .unset, .unset, .unset, .unset] [(.int p1)])) _
      refine XS.istore X0.here hx rfl (hb hby at_31) rfl (l' := #[.val (.int p0), .val (.int p1), .val (.int p2), .val (.int p3), .val (.int p4), .val (.int u), .val (.int r), .val (.int o), .val (.int p1), .unset, .unset, .unset, .unset, .unset, .unset, .unset, .unset, .unset, .unset, .unset]) rfl ?_
      show Steps p.tables e below (s₁.setTop (mkF m 33 #[.val (.int p0), .val (.int p1), .val (.int p2), .val (.int p3), .val (.int p4), .val (.int u), .val (.int r), .val (.int o), .val (.int p1), .unset, .unset, .unset, .unset, .unset, .unset, .unset, .unset, .unset, .unset, .unset] [])) _
      refine XS.iconst X0.here hx rfl (hb hby at_33) ?_
      show Steps p.tables e below (s₁.setTop (mkF m 34 #[.val (.int p0), .val (.int p1), .val (.int p2), .val (.int p3), .val (.int p4), .val (.int u), .val (.int r), .val (.int o), .val (.int p1), .unset, .unset, .unset, .unset, .unset, .unset, .unset, .unset, .unset, .unset, .unset] [(.int (0 : Int32))])) _
      refine XS.istore X0.here hx rfl (hb hby at_34) rfl (l' := #[.val (.int p0), .val (.int p1), .val (.int p2), .val (.int p3), .val (.int p4), .val (.int u), .val (.int r), .val (.int o), .val (.int p1), .val (.int (0 : Int32)), .unset, .unset, .unset, .unset, .unset, .unset, .unset, .unset, .unset, .unset]) rfl ?_
      show Steps p.tables e below (s₁.setTop (mkF m 36 #[.val (.int p0), .val (.int p1), .val (.int p2), .val (.int p3), .val (.int p4), .val (.int u), .val (.int r), .val (.int o), .val (.int p1), .val (.int (0 : Int32)), .unset, .unset, .unset, .unset, .unset, .unset, .unset, .unset, .unset, .unset] [])) _
      refine XS.goto X0.here hx rfl (pc0 := 36) (pc' := 73) rfl (hb hby at_36) (by decide) (by decide) ?_
      show Steps p.tables e below (s₁.setTop (mkF m 73 #[.val (.int p0), .val (.int p1), .val (.int p2), .val (.int p3), .val (.int p4), .val (.int u), .val (.int r), .val (.int o), .val (.int p1), .val (.int (0 : Int32)), .unset, .unset, .unset, .unset, .unset, .unset, .unset, .unset, .unset, .unset] [])) _
      have w0 : (own_s p1 r o) = p1 := by unfold own_s; rw [if_pos hc27]
      replace q := Eq.mp (congrArg (fun z => Steps p.tables e below (s₁.setTop (mkF m 73 #[.val (.int p0), .val (.int p1), .val (.int p2), .val (.int p3), .val (.int p4), .val (.int u), .val (.int r), .val (.int o), .val (.int z), .val (.int (own_in p1 r o)), .unset, .unset, .unset, .unset, .unset, .unset, .unset, .unset, .unset, .unset] [])) t) w0) q
      have w1 : (own_in p1 r o) = (0 : Int32) := by unfold own_in; rw [if_pos hc27]
      replace q := Eq.mp (congrArg (fun z => Steps p.tables e below (s₁.setTop (mkF m 73 #[.val (.int p0), .val (.int p1), .val (.int p2), .val (.int p3), .val (.int p4), .val (.int u), .val (.int r), .val (.int o), .val (.int p1), .val (.int z), .unset, .unset, .unset, .unset, .unset, .unset, .unset, .unset, .unset, .unset] [])) t) w1) q
      exact q
    · refine XS.icmpYes X0.here hx rfl (pc0 := 27) (pc' := 39) rfl (hb hby at_27) rfl (flt hc27).2.1 (by decide) (by decide) ?_
      show Steps p.tables e below (s₁.setTop (mkF m 39 #[.val (.int p0), .val (.int p1), .val (.int p2), .val (.int p3), .val (.int p4), .val (.int u), .val (.int r), .val (.int o), .unset, .unset, .unset, .unset, .unset, .unset, .unset, .unset, .unset, .unset, .unset, .unset] [])) _
      refine XS.iload X0.here hx rfl (hb hby at_39) rfl ?_
      show Steps p.tables e below (s₁.setTop (mkF m 41 #[.val (.int p0), .val (.int p1), .val (.int p2), .val (.int p3), .val (.int p4), .val (.int u), .val (.int r), .val (.int o), .unset, .unset, .unset, .unset, .unset, .unset, .unset, .unset, .unset, .unset, .unset, .unset] [(.int o)])) _
      refine XS.iload X0.here hx rfl (hb hby at_41) rfl ?_
      show Steps p.tables e below (s₁.setTop (mkF m 43 #[.val (.int p0), .val (.int p1), .val (.int p2), .val (.int p3), .val (.int p4), .val (.int u), .val (.int r), .val (.int o), .unset, .unset, .unset, .unset, .unset, .unset, .unset, .unset, .unset, .unset, .unset, .unset] [(.int r), (.int o)])) _
      by_cases hc43 : r < o
      · refine XS.icmpNo X0.here hx rfl (hb hby at_43) rfl (tlt hc43).2.2.2 ?_
        show Steps p.tables e below (s₁.setTop (mkF m 46 #[.val (.int p0), .val (.int p1), .val (.int p2), .val (.int p3), .val (.int p4), .val (.int u), .val (.int r), .val (.int o), .unset, .unset, .unset, .unset, .unset, .unset, .unset, .unset, .unset, .unset, .unset, .unset] [])) _
        refine XS.iload X0.here hx rfl (hb hby at_46) rfl ?_
        show Steps p.tables e below (s₁.setTop (mkF m 48 #[.val (.int p0), .val (.int p1), .val (.int p2), .val (.int p3), .val (.int p4), .val (.int u), .val (.int r), .val (.int o), .unset, .unset, .unset, .unset, .unset, .unset, .unset, .unset, .unset, .unset, .unset, .unset] [(.int r)])) _
        refine XS.iloadN X0.here hx rfl (hb hby at_48) rfl ?_
        show Steps p.tables e below (s₁.setTop (mkF m 49 #[.val (.int p0), .val (.int p1), .val (.int p2), .val (.int p3), .val (.int p4), .val (.int u), .val (.int r), .val (.int o), .unset, .unset, .unset, .unset, .unset, .unset, .unset, .unset, .unset, .unset, .unset, .unset] [(.int p1), (.int r)])) _
        refine X0.ldcInt hx hown (mvT hZ (hw _ (List.mem_of_getElem? (i := 0) rfl))) (g := (mkF m 49 #[.val (.int p0), .val (.int p1), .val (.int p2), .val (.int p3), .val (.int p4), .val (.int u), .val (.int r), .val (.int o), .unset, .unset, .unset, .unset, .unset, .unset, .unset, .unset, .unset, .unset, .unset, .unset] [(.int p1), (.int r)])) rfl (hb hby at_49) _ ?_
        show Steps p.tables e below (s₁.setTop (mkF m 51 #[.val (.int p0), .val (.int p1), .val (.int p2), .val (.int p3), .val (.int p4), .val (.int u), .val (.int r), .val (.int o), .unset, .unset, .unset, .unset, .unset, .unset, .unset, .unset, .unset, .unset, .unset, .unset] [(.int (2147483647 : Int32)), (.int p1), (.int r)])) _
        refine XS.iand X0.here hx rfl (hb hby at_51) rfl ?_
        show Steps p.tables e below (s₁.setTop (mkF m 52 #[.val (.int p0), .val (.int p1), .val (.int p2), .val (.int p3), .val (.int p4), .val (.int u), .val (.int r), .val (.int o), .unset, .unset, .unset, .unset, .unset, .unset, .unset, .unset, .unset, .unset, .unset, .unset] [(.int (p1 &&& (2147483647 : Int32))), (.int r)])) _
        refine XS.iload X0.here hx rfl (hb hby at_52) rfl ?_
        show Steps p.tables e below (s₁.setTop (mkF m 54 #[.val (.int p0), .val (.int p1), .val (.int p2), .val (.int p3), .val (.int p4), .val (.int u), .val (.int r), .val (.int o), .unset, .unset, .unset, .unset, .unset, .unset, .unset, .unset, .unset, .unset, .unset, .unset] [(.int o), (.int (p1 &&& (2147483647 : Int32))), (.int r)])) _
        refine XS.iload X0.here hx rfl (hb hby at_54) rfl ?_
        show Steps p.tables e below (s₁.setTop (mkF m 56 #[.val (.int p0), .val (.int p1), .val (.int p2), .val (.int p3), .val (.int p4), .val (.int u), .val (.int r), .val (.int o), .unset, .unset, .unset, .unset, .unset, .unset, .unset, .unset, .unset, .unset, .unset, .unset] [(.int r), (.int o), (.int (p1 &&& (2147483647 : Int32))), (.int r)])) _
        refine XS.isub X0.here hx rfl (hb hby at_56) rfl ?_
        show Steps p.tables e below (s₁.setTop (mkF m 57 #[.val (.int p0), .val (.int p1), .val (.int p2), .val (.int p3), .val (.int p4), .val (.int u), .val (.int r), .val (.int o), .unset, .unset, .unset, .unset, .unset, .unset, .unset, .unset, .unset, .unset, .unset, .unset] [(.int (o - r)), (.int (p1 &&& (2147483647 : Int32))), (.int r)])) _
        refine XS.irem X0.here hx rfl (hb hby at_57) rfl (own_ne0 (own_sub hc43 hr0).2) ?_
        show Steps p.tables e below (s₁.setTop (mkF m 58 #[.val (.int p0), .val (.int p1), .val (.int p2), .val (.int p3), .val (.int p4), .val (.int u), .val (.int r), .val (.int o), .unset, .unset, .unset, .unset, .unset, .unset, .unset, .unset, .unset, .unset, .unset, .unset] [(.int (own_rem (p1 &&& (2147483647 : Int32)) (o - r))), (.int r)])) _
        refine XS.iadd X0.here hx rfl (hb hby at_58) rfl ?_
        show Steps p.tables e below (s₁.setTop (mkF m 59 #[.val (.int p0), .val (.int p1), .val (.int p2), .val (.int p3), .val (.int p4), .val (.int u), .val (.int r), .val (.int o), .unset, .unset, .unset, .unset, .unset, .unset, .unset, .unset, .unset, .unset, .unset, .unset] [(.int (r + (own_rem (p1 &&& (2147483647 : Int32)) (o - r))))])) _
        refine XS.istore X0.here hx rfl (hb hby at_59) rfl (l' := #[.val (.int p0), .val (.int p1), .val (.int p2), .val (.int p3), .val (.int p4), .val (.int u), .val (.int r), .val (.int o), .val (.int (r + (own_rem (p1 &&& (2147483647 : Int32)) (o - r)))), .unset, .unset, .unset, .unset, .unset, .unset, .unset, .unset, .unset, .unset, .unset]) rfl ?_
        show Steps p.tables e below (s₁.setTop (mkF m 61 #[.val (.int p0), .val (.int p1), .val (.int p2), .val (.int p3), .val (.int p4), .val (.int u), .val (.int r), .val (.int o), .val (.int (r + (own_rem (p1 &&& (2147483647 : Int32)) (o - r)))), .unset, .unset, .unset, .unset, .unset, .unset, .unset, .unset, .unset, .unset, .unset] [])) _
        refine XS.iconst X0.here hx rfl (hb hby at_61) ?_
        show Steps p.tables e below (s₁.setTop (mkF m 62 #[.val (.int p0), .val (.int p1), .val (.int p2), .val (.int p3), .val (.int p4), .val (.int u), .val (.int r), .val (.int o), .val (.int (r + (own_rem (p1 &&& (2147483647 : Int32)) (o - r)))), .unset, .unset, .unset, .unset, .unset, .unset, .unset, .unset, .unset, .unset, .unset] [(.int (1 : Int32))])) _
        refine XS.istore X0.here hx rfl (hb hby at_62) rfl (l' := #[.val (.int p0), .val (.int p1), .val (.int p2), .val (.int p3), .val (.int p4), .val (.int u), .val (.int r), .val (.int o), .val (.int (r + (own_rem (p1 &&& (2147483647 : Int32)) (o - r)))), .val (.int (1 : Int32)), .unset, .unset, .unset, .unset, .unset, .unset, .unset, .unset, .unset, .unset]) rfl ?_
        show Steps p.tables e below (s₁.setTop (mkF m 64 #[.val (.int p0), .val (.int p1), .val (.int p2), .val (.int p3), .val (.int p4), .val (.int u), .val (.int r), .val (.int o), .val (.int (r + (own_rem (p1 &&& (2147483647 : Int32)) (o - r)))), .val (.int (1 : Int32)), .unset, .unset, .unset, .unset, .unset, .unset, .unset, .unset, .unset, .unset] [])) _
        refine XS.goto X0.here hx rfl (pc0 := 64) (pc' := 73) rfl (hb hby at_64) (by decide) (by decide) ?_
        show Steps p.tables e below (s₁.setTop (mkF m 73 #[.val (.int p0), .val (.int p1), .val (.int p2), .val (.int p3), .val (.int p4), .val (.int u), .val (.int r), .val (.int o), .val (.int (r + (own_rem (p1 &&& (2147483647 : Int32)) (o - r)))), .val (.int (1 : Int32)), .unset, .unset, .unset, .unset, .unset, .unset, .unset, .unset, .unset, .unset] [])) _
        have w0 : (own_s p1 r o) = (r + (own_rem (p1 &&& (2147483647 : Int32)) (o - r))) := by unfold own_s; rw [if_neg hc27, if_pos hc43]
        replace q := Eq.mp (congrArg (fun z => Steps p.tables e below (s₁.setTop (mkF m 73 #[.val (.int p0), .val (.int p1), .val (.int p2), .val (.int p3), .val (.int p4), .val (.int u), .val (.int r), .val (.int o), .val (.int z), .val (.int (own_in p1 r o)), .unset, .unset, .unset, .unset, .unset, .unset, .unset, .unset, .unset, .unset] [])) t) w0) q
        have w1 : (own_in p1 r o) = (1 : Int32) := by unfold own_in; rw [if_neg hc27, if_pos hc43]
        replace q := Eq.mp (congrArg (fun z => Steps p.tables e below (s₁.setTop (mkF m 73 #[.val (.int p0), .val (.int p1), .val (.int p2), .val (.int p3), .val (.int p4), .val (.int u), .val (.int r), .val (.int o), .val (.int (r + (own_rem (p1 &&& (2147483647 : Int32)) (o - r)))), .val (.int z), .unset, .unset, .unset, .unset, .unset, .unset, .unset, .unset, .unset, .unset] [])) t) w1) q
        exact q
      · refine XS.icmpYes X0.here hx rfl (pc0 := 43) (pc' := 67) rfl (hb hby at_43) rfl (flt hc43).2.2.2 (by decide) (by decide) ?_
        show Steps p.tables e below (s₁.setTop (mkF m 67 #[.val (.int p0), .val (.int p1), .val (.int p2), .val (.int p3), .val (.int p4), .val (.int u), .val (.int r), .val (.int o), .unset, .unset, .unset, .unset, .unset, .unset, .unset, .unset, .unset, .unset, .unset, .unset] [])) _
        refine XS.iconst X0.here hx rfl (hb hby at_67) ?_
        show Steps p.tables e below (s₁.setTop (mkF m 68 #[.val (.int p0), .val (.int p1), .val (.int p2), .val (.int p3), .val (.int p4), .val (.int u), .val (.int r), .val (.int o), .unset, .unset, .unset, .unset, .unset, .unset, .unset, .unset, .unset, .unset, .unset, .unset] [(.int (-1 : Int32))])) _
        refine XS.istore X0.here hx rfl (hb hby at_68) rfl (l' := #[.val (.int p0), .val (.int p1), .val (.int p2), .val (.int p3), .val (.int p4), .val (.int u), .val (.int r), .val (.int o), .val (.int (-1 : Int32)), .unset, .unset, .unset, .unset, .unset, .unset, .unset, .unset, .unset, .unset, .unset]) rfl ?_
        show Steps p.tables e below (s₁.setTop (mkF m 70 #[.val (.int p0), .val (.int p1), .val (.int p2), .val (.int p3), .val (.int p4), .val (.int u), .val (.int r), .val (.int o), .val (.int (-1 : Int32)), .unset, .unset, .unset, .unset, .unset, .unset, .unset, .unset, .unset, .unset, .unset] [])) _
        refine XS.iconst X0.here hx rfl (hb hby at_70) ?_
        show Steps p.tables e below (s₁.setTop (mkF m 71 #[.val (.int p0), .val (.int p1), .val (.int p2), .val (.int p3), .val (.int p4), .val (.int u), .val (.int r), .val (.int o), .val (.int (-1 : Int32)), .unset, .unset, .unset, .unset, .unset, .unset, .unset, .unset, .unset, .unset, .unset] [(.int (0 : Int32))])) _
        refine XS.istore X0.here hx rfl (hb hby at_71) rfl (l' := #[.val (.int p0), .val (.int p1), .val (.int p2), .val (.int p3), .val (.int p4), .val (.int u), .val (.int r), .val (.int o), .val (.int (-1 : Int32)), .val (.int (0 : Int32)), .unset, .unset, .unset, .unset, .unset, .unset, .unset, .unset, .unset, .unset]) rfl ?_
        show Steps p.tables e below (s₁.setTop (mkF m 73 #[.val (.int p0), .val (.int p1), .val (.int p2), .val (.int p3), .val (.int p4), .val (.int u), .val (.int r), .val (.int o), .val (.int (-1 : Int32)), .val (.int (0 : Int32)), .unset, .unset, .unset, .unset, .unset, .unset, .unset, .unset, .unset, .unset] [])) _
        have w0 : (own_s p1 r o) = (-1 : Int32) := by unfold own_s; rw [if_neg hc27, if_neg hc43]
        replace q := Eq.mp (congrArg (fun z => Steps p.tables e below (s₁.setTop (mkF m 73 #[.val (.int p0), .val (.int p1), .val (.int p2), .val (.int p3), .val (.int p4), .val (.int u), .val (.int r), .val (.int o), .val (.int z), .val (.int (own_in p1 r o)), .unset, .unset, .unset, .unset, .unset, .unset, .unset, .unset, .unset, .unset] [])) t) w0) q
        have w1 : (own_in p1 r o) = (0 : Int32) := by unfold own_in; rw [if_neg hc27, if_neg hc43]
        replace q := Eq.mp (congrArg (fun z => Steps p.tables e below (s₁.setTop (mkF m 73 #[.val (.int p0), .val (.int p1), .val (.int p2), .val (.int p3), .val (.int p4), .val (.int u), .val (.int r), .val (.int o), .val (.int (-1 : Int32)), .val (.int z), .unset, .unset, .unset, .unset, .unset, .unset, .unset, .unset, .unset, .unset] [])) t) w1) q
        exact q
  obtain ⟨sv, e_sv⟩ : ∃ z, z = (own_s p1 r o) := ⟨_, rfl⟩
  have k9_ : ∀ t, Steps p.tables e below (s₁.setTop (mkF m 73 #[.val (.int p0), .val (.int p1), .val (.int p2), .val (.int p3), .val (.int p4), .val (.int u), .val (.int r), .val (.int o), .val (.int sv), .val (.int (own_in p1 r o)), .unset, .unset, .unset, .unset, .unset, .unset, .unset, .unset, .unset, .unset] [])) t → Steps p.tables e below (s₁.setTop (mkF m 0 #[.val (.int p0), .val (.int p1), .val (.int p2), .val (.int p3), .val (.int p4), .unset, .unset, .unset, .unset, .unset, .unset, .unset, .unset, .unset, .unset, .unset, .unset, .unset, .unset, .unset] [])) t := by rw [e_sv]; exact k8_
  obtain ⟨iv, e_iv⟩ : ∃ z, z = (own_in p1 r o) := ⟨_, rfl⟩
  have k10_ : ∀ t, Steps p.tables e below (s₁.setTop (mkF m 73 #[.val (.int p0), .val (.int p1), .val (.int p2), .val (.int p3), .val (.int p4), .val (.int u), .val (.int r), .val (.int o), .val (.int sv), .val (.int iv), .unset, .unset, .unset, .unset, .unset, .unset, .unset, .unset, .unset, .unset] [])) t → Steps p.tables e below (s₁.setTop (mkF m 0 #[.val (.int p0), .val (.int p1), .val (.int p2), .val (.int p3), .val (.int p4), .unset, .unset, .unset, .unset, .unset, .unset, .unset, .unset, .unset, .unset, .unset, .unset, .unset, .unset, .unset] [])) t := by rw [e_iv]; exact k9_
  have hsi := own_si (b := p1) hr ho
  rw [← e_sv, ← e_iv] at hsi
  have k11_ : ∀ t, Steps p.tables e below (s₁.setTop (mkF m 74 #[.val (.int p0), .val (.int p1), .val (.int p2), .val (.int p3), .val (.int p4), .val (.int u), .val (.int r), .val (.int o), .val (.int sv), .val (.int iv), .unset, .unset, .unset, .unset, .unset, .unset, .unset, .unset, .unset, .unset] [(.int (4 : Int32))])) t → Steps p.tables e below (s₁.setTop (mkF m 0 #[.val (.int p0), .val (.int p1), .val (.int p2), .val (.int p3), .val (.int p4), .unset, .unset, .unset, .unset, .unset, .unset, .unset, .unset, .unset, .unset, .unset, .unset, .unset, .unset, .unset] [])) t := by
    intro t q
    refine k10_ _ ?_
    show Steps p.tables e below (s₁.setTop (mkF m 73 #[.val (.int p0), .val (.int p1), .val (.int p2), .val (.int p3), .val (.int p4), .val (.int u), .val (.int r), .val (.int o), .val (.int sv), .val (.int iv), .unset, .unset, .unset, .unset, .unset, .unset, .unset, .unset, .unset, .unset] [])) _
    refine XS.iconst X0.here hx rfl (hb hby at_73) ?_
    show Steps p.tables e below (s₁.setTop (mkF m 74 #[.val (.int p0), .val (.int p1), .val (.int p2), .val (.int p3), .val (.int p4), .val (.int u), .val (.int r), .val (.int o), .val (.int sv), .val (.int iv), .unset, .unset, .unset, .unset, .unset, .unset, .unset, .unset, .unset, .unset] [(.int (4 : Int32))])) _
    exact q
  obtain ⟨T12, h12, c12, X12, e12, E12, A12, st12⟩ := newP X0 hx hZ (hw _ (List.mem_of_getElem? (i := 1) rfl)) e0 (g := (mkF m 74 #[.val (.int p0), .val (.int p1), .val (.int p2), .val (.int p3), .val (.int p4), .val (.int u), .val (.int r), .val (.int o), .val (.int sv), .val (.int iv), .unset, .unset, .unset, .unset, .unset, .unset, .unset, .unset, .unset, .unset] [(.int (4 : Int32))])) rfl (hb hby at_74) rfl (by decide) (cap := 4) (by decide) (by decide) (by decide) (by decide)
  obtain ⟨b12, g12⟩ : ∃ z, z = h0.size := ⟨_, rfl⟩
  rw [← g12] at A12 st12
  have k13_ : ∀ t, Steps p.tables e below (T12.setTop (mkF m 76 #[.val (.int p0), .val (.int p1), .val (.int p2), .val (.int p3), .val (.int p4), .val (.int u), .val (.int r), .val (.int o), .val (.int sv), .val (.int iv), .unset, .unset, .unset, .unset, .unset, .unset, .unset, .unset, .unset, .unset] [(.ref b12)])) t → Steps p.tables e below (s₁.setTop (mkF m 0 #[.val (.int p0), .val (.int p1), .val (.int p2), .val (.int p3), .val (.int p4), .unset, .unset, .unset, .unset, .unset, .unset, .unset, .unset, .unset, .unset, .unset, .unset, .unset, .unset, .unset] [])) t := fun t q => k11_ t (st12 t q)
  have g_b12 : n0 ≤ b12 := Nat.le_trans Zn (Nat.le_of_eq g12.symm)
  replace Zn := Nat.le_trans Zn E12.1
  have V_b12 : Arv Z h12 b12 c12 .int (4 : Int32) [(.int (0 : Int32)), (.int (0 : Int32)), (.int (0 : Int32)), (.int (0 : Int32))] (.int (0 : Int32)) := (Arv.new A12 (by decide)).pad (pad_rep [] (.int (0 : Int32)) 4)
  have k14_ : ∀ t, Steps p.tables e below (T12.setTop (mkF m 79 #[.val (.int p0), .val (.int p1), .val (.int p2), .val (.int p3), .val (.int p4), .val (.int u), .val (.int r), .val (.int o), .val (.int sv), .val (.int iv), .unset, .unset, .unset, .unset, .unset, .unset, .unset, .unset, .unset, .unset] [(.int (-1 : Int32)), (.int (0 : Int32)), (.ref b12), (.ref b12)])) t → Steps p.tables e below (s₁.setTop (mkF m 0 #[.val (.int p0), .val (.int p1), .val (.int p2), .val (.int p3), .val (.int p4), .unset, .unset, .unset, .unset, .unset, .unset, .unset, .unset, .unset, .unset, .unset, .unset, .unset, .unset, .unset] [])) t := by
    intro t q
    refine k13_ _ ?_
    show Steps p.tables e below (T12.setTop (mkF m 76 #[.val (.int p0), .val (.int p1), .val (.int p2), .val (.int p3), .val (.int p4), .val (.int u), .val (.int r), .val (.int o), .val (.int sv), .val (.int iv), .unset, .unset, .unset, .unset, .unset, .unset, .unset, .unset, .unset, .unset] [(.ref b12)])) _
    refine XS.dup X12.here hx rfl (hb hby at_76) rfl rfl ?_
    show Steps p.tables e below (T12.setTop (mkF m 77 #[.val (.int p0), .val (.int p1), .val (.int p2), .val (.int p3), .val (.int p4), .val (.int u), .val (.int r), .val (.int o), .val (.int sv), .val (.int iv), .unset, .unset, .unset, .unset, .unset, .unset, .unset, .unset, .unset, .unset] [(.ref b12), (.ref b12)])) _
    refine XS.iconst X12.here hx rfl (hb hby at_77) ?_
    show Steps p.tables e below (T12.setTop (mkF m 78 #[.val (.int p0), .val (.int p1), .val (.int p2), .val (.int p3), .val (.int p4), .val (.int u), .val (.int r), .val (.int o), .val (.int sv), .val (.int iv), .unset, .unset, .unset, .unset, .unset, .unset, .unset, .unset, .unset, .unset] [(.int (0 : Int32)), (.ref b12), (.ref b12)])) _
    refine XS.iconst X12.here hx rfl (hb hby at_78) ?_
    show Steps p.tables e below (T12.setTop (mkF m 79 #[.val (.int p0), .val (.int p1), .val (.int p2), .val (.int p3), .val (.int p4), .val (.int u), .val (.int r), .val (.int o), .val (.int sv), .val (.int iv), .unset, .unset, .unset, .unset, .unset, .unset, .unset, .unset, .unset, .unset] [(.int (-1 : Int32)), (.int (0 : Int32)), (.ref b12), (.ref b12)])) _
    exact q
  obtain ⟨cl15, Ar15, q15, S15, M15, H15, G15⟩ := V_b12
  obtain ⟨T16, h16, X16, e16, W16, st16⟩ := stI X12 hx hZ e12 Ar15 (j := (0 : Int32)) (inb_of S15 ⟨by decide, by decide⟩) (g := (mkF m 79 #[.val (.int p0), .val (.int p1), .val (.int p2), .val (.int p3), .val (.int p4), .val (.int u), .val (.int r), .val (.int o), .val (.int sv), .val (.int iv), .unset, .unset, .unset, .unset, .unset, .unset, .unset, .unset, .unset, .unset] [(.int (-1 : Int32)), (.int (0 : Int32)), (.ref b12), (.ref b12)])) rfl rfl (hb hby at_79)
  have k17_ : ∀ t, Steps p.tables e below (T16.setTop (mkF m 80 #[.val (.int p0), .val (.int p1), .val (.int p2), .val (.int p3), .val (.int p4), .val (.int u), .val (.int r), .val (.int o), .val (.int sv), .val (.int iv), .unset, .unset, .unset, .unset, .unset, .unset, .unset, .unset, .unset, .unset] [(.ref b12)])) t → Steps p.tables e below (s₁.setTop (mkF m 0 #[.val (.int p0), .val (.int p1), .val (.int p2), .val (.int p3), .val (.int p4), .unset, .unset, .unset, .unset, .unset, .unset, .unset, .unset, .unset, .unset, .unset, .unset, .unset, .unset, .unset] [])) t := fun t q => k14_ t (st16 t q)
  have N16 := Fr.snoc X16 N0 g_b12
  replace Zn := Nat.le_trans Zn (Keep.of_wr W16).1
  have V_b12 : Arv Z h16 b12 c12 .int (4 : Int32) [(.int (-1 : Int32)), (.int (0 : Int32)), (.int (0 : Int32)), (.int (0 : Int32))] (.int (0 : Int32)) := Arv.set Ar15 q15 S15 M15 H15 G15 rfl W16 0 rfl (Nat.le_of_ble_eq_true rfl)
  have k18_ : ∀ t, Steps p.tables e below (T16.setTop (mkF m 84 #[.val (.int p0), .val (.int p1), .val (.int p2), .val (.int p3), .val (.int p4), .val (.int u), .val (.int r), .val (.int o), .val (.int sv), .val (.int iv), .unset, .unset, .unset, .unset, .unset, .unset, .unset, .unset, .unset, .unset] [(.int (-2 : Int32)), (.int (1 : Int32)), (.ref b12), (.ref b12)])) t → Steps p.tables e below (s₁.setTop (mkF m 0 #[.val (.int p0), .val (.int p1), .val (.int p2), .val (.int p3), .val (.int p4), .unset, .unset, .unset, .unset, .unset, .unset, .unset, .unset, .unset, .unset, .unset, .unset, .unset, .unset, .unset] [])) t := by
    intro t q
    refine k17_ _ ?_
    show Steps p.tables e below (T16.setTop (mkF m 80 #[.val (.int p0), .val (.int p1), .val (.int p2), .val (.int p3), .val (.int p4), .val (.int u), .val (.int r), .val (.int o), .val (.int sv), .val (.int iv), .unset, .unset, .unset, .unset, .unset, .unset, .unset, .unset, .unset, .unset] [(.ref b12)])) _
    refine XS.dup X16.here hx rfl (hb hby at_80) rfl rfl ?_
    show Steps p.tables e below (T16.setTop (mkF m 81 #[.val (.int p0), .val (.int p1), .val (.int p2), .val (.int p3), .val (.int p4), .val (.int u), .val (.int r), .val (.int o), .val (.int sv), .val (.int iv), .unset, .unset, .unset, .unset, .unset, .unset, .unset, .unset, .unset, .unset] [(.ref b12), (.ref b12)])) _
    refine XS.iconst X16.here hx rfl (hb hby at_81) ?_
    show Steps p.tables e below (T16.setTop (mkF m 82 #[.val (.int p0), .val (.int p1), .val (.int p2), .val (.int p3), .val (.int p4), .val (.int u), .val (.int r), .val (.int o), .val (.int sv), .val (.int iv), .unset, .unset, .unset, .unset, .unset, .unset, .unset, .unset, .unset, .unset] [(.int (1 : Int32)), (.ref b12), (.ref b12)])) _
    refine XS.bipush X16.here hx rfl (hb hby at_82) ?_
    show Steps p.tables e below (T16.setTop (mkF m 84 #[.val (.int p0), .val (.int p1), .val (.int p2), .val (.int p3), .val (.int p4), .val (.int u), .val (.int r), .val (.int o), .val (.int sv), .val (.int iv), .unset, .unset, .unset, .unset, .unset, .unset, .unset, .unset, .unset, .unset] [(.int (-2 : Int32)), (.int (1 : Int32)), (.ref b12), (.ref b12)])) _
    exact q
  obtain ⟨cl19, Ar19, q19, S19, M19, H19, G19⟩ := V_b12
  obtain ⟨T20, h20, X20, e20, W20, st20⟩ := stI X16 hx hZ e16 Ar19 (j := (1 : Int32)) (inb_of S19 ⟨by decide, by decide⟩) (g := (mkF m 84 #[.val (.int p0), .val (.int p1), .val (.int p2), .val (.int p3), .val (.int p4), .val (.int u), .val (.int r), .val (.int o), .val (.int sv), .val (.int iv), .unset, .unset, .unset, .unset, .unset, .unset, .unset, .unset, .unset, .unset] [(.int (-2 : Int32)), (.int (1 : Int32)), (.ref b12), (.ref b12)])) rfl rfl (hb hby at_84)
  have k21_ : ∀ t, Steps p.tables e below (T20.setTop (mkF m 85 #[.val (.int p0), .val (.int p1), .val (.int p2), .val (.int p3), .val (.int p4), .val (.int u), .val (.int r), .val (.int o), .val (.int sv), .val (.int iv), .unset, .unset, .unset, .unset, .unset, .unset, .unset, .unset, .unset, .unset] [(.ref b12)])) t → Steps p.tables e below (s₁.setTop (mkF m 0 #[.val (.int p0), .val (.int p1), .val (.int p2), .val (.int p3), .val (.int p4), .unset, .unset, .unset, .unset, .unset, .unset, .unset, .unset, .unset, .unset, .unset, .unset, .unset, .unset, .unset] [])) t := fun t q => k18_ t (st20 t q)
  have N20 := Fr.snoc X20 N16 g_b12
  replace Zn := Nat.le_trans Zn (Keep.of_wr W20).1
  have V_b12 : Arv Z h20 b12 c12 .int (4 : Int32) [(.int (-1 : Int32)), (.int (-2 : Int32)), (.int (0 : Int32)), (.int (0 : Int32))] (.int (0 : Int32)) := Arv.set Ar19 q19 S19 M19 H19 G19 rfl W20 1 rfl (Nat.le_of_ble_eq_true rfl)
  have k22_ : ∀ t, Steps p.tables e below (T20.setTop (mkF m 89 #[.val (.int p0), .val (.int p1), .val (.int p2), .val (.int p3), .val (.int p4), .val (.int u), .val (.int r), .val (.int o), .val (.int sv), .val (.int iv), .unset, .unset, .unset, .unset, .unset, .unset, .unset, .unset, .unset, .unset] [(.int (-3 : Int32)), (.int (2 : Int32)), (.ref b12), (.ref b12)])) t → Steps p.tables e below (s₁.setTop (mkF m 0 #[.val (.int p0), .val (.int p1), .val (.int p2), .val (.int p3), .val (.int p4), .unset, .unset, .unset, .unset, .unset, .unset, .unset, .unset, .unset, .unset, .unset, .unset, .unset, .unset, .unset] [])) t := by
    intro t q
    refine k21_ _ ?_
    show Steps p.tables e below (T20.setTop (mkF m 85 #[.val (.int p0), .val (.int p1), .val (.int p2), .val (.int p3), .val (.int p4), .val (.int u), .val (.int r), .val (.int o), .val (.int sv), .val (.int iv), .unset, .unset, .unset, .unset, .unset, .unset, .unset, .unset, .unset, .unset] [(.ref b12)])) _
    refine XS.dup X20.here hx rfl (hb hby at_85) rfl rfl ?_
    show Steps p.tables e below (T20.setTop (mkF m 86 #[.val (.int p0), .val (.int p1), .val (.int p2), .val (.int p3), .val (.int p4), .val (.int u), .val (.int r), .val (.int o), .val (.int sv), .val (.int iv), .unset, .unset, .unset, .unset, .unset, .unset, .unset, .unset, .unset, .unset] [(.ref b12), (.ref b12)])) _
    refine XS.iconst X20.here hx rfl (hb hby at_86) ?_
    show Steps p.tables e below (T20.setTop (mkF m 87 #[.val (.int p0), .val (.int p1), .val (.int p2), .val (.int p3), .val (.int p4), .val (.int u), .val (.int r), .val (.int o), .val (.int sv), .val (.int iv), .unset, .unset, .unset, .unset, .unset, .unset, .unset, .unset, .unset, .unset] [(.int (2 : Int32)), (.ref b12), (.ref b12)])) _
    refine XS.bipush X20.here hx rfl (hb hby at_87) ?_
    show Steps p.tables e below (T20.setTop (mkF m 89 #[.val (.int p0), .val (.int p1), .val (.int p2), .val (.int p3), .val (.int p4), .val (.int u), .val (.int r), .val (.int o), .val (.int sv), .val (.int iv), .unset, .unset, .unset, .unset, .unset, .unset, .unset, .unset, .unset, .unset] [(.int (-3 : Int32)), (.int (2 : Int32)), (.ref b12), (.ref b12)])) _
    exact q
  obtain ⟨cl23, Ar23, q23, S23, M23, H23, G23⟩ := V_b12
  obtain ⟨T24, h24, X24, e24, W24, st24⟩ := stI X20 hx hZ e20 Ar23 (j := (2 : Int32)) (inb_of S23 ⟨by decide, by decide⟩) (g := (mkF m 89 #[.val (.int p0), .val (.int p1), .val (.int p2), .val (.int p3), .val (.int p4), .val (.int u), .val (.int r), .val (.int o), .val (.int sv), .val (.int iv), .unset, .unset, .unset, .unset, .unset, .unset, .unset, .unset, .unset, .unset] [(.int (-3 : Int32)), (.int (2 : Int32)), (.ref b12), (.ref b12)])) rfl rfl (hb hby at_89)
  have k25_ : ∀ t, Steps p.tables e below (T24.setTop (mkF m 90 #[.val (.int p0), .val (.int p1), .val (.int p2), .val (.int p3), .val (.int p4), .val (.int u), .val (.int r), .val (.int o), .val (.int sv), .val (.int iv), .unset, .unset, .unset, .unset, .unset, .unset, .unset, .unset, .unset, .unset] [(.ref b12)])) t → Steps p.tables e below (s₁.setTop (mkF m 0 #[.val (.int p0), .val (.int p1), .val (.int p2), .val (.int p3), .val (.int p4), .unset, .unset, .unset, .unset, .unset, .unset, .unset, .unset, .unset, .unset, .unset, .unset, .unset, .unset, .unset] [])) t := fun t q => k22_ t (st24 t q)
  have N24 := Fr.snoc X24 N20 g_b12
  replace Zn := Nat.le_trans Zn (Keep.of_wr W24).1
  have V_b12 : Arv Z h24 b12 c12 .int (4 : Int32) [(.int (-1 : Int32)), (.int (-2 : Int32)), (.int (-3 : Int32)), (.int (0 : Int32))] (.int (0 : Int32)) := Arv.set Ar23 q23 S23 M23 H23 G23 rfl W24 2 rfl (Nat.le_of_ble_eq_true rfl)
  have k26_ : ∀ t, Steps p.tables e below (T24.setTop (mkF m 94 #[.val (.int p0), .val (.int p1), .val (.int p2), .val (.int p3), .val (.int p4), .val (.int u), .val (.int r), .val (.int o), .val (.int sv), .val (.int iv), .unset, .unset, .unset, .unset, .unset, .unset, .unset, .unset, .unset, .unset] [(.int (-4 : Int32)), (.int (3 : Int32)), (.ref b12), (.ref b12)])) t → Steps p.tables e below (s₁.setTop (mkF m 0 #[.val (.int p0), .val (.int p1), .val (.int p2), .val (.int p3), .val (.int p4), .unset, .unset, .unset, .unset, .unset, .unset, .unset, .unset, .unset, .unset, .unset, .unset, .unset, .unset, .unset] [])) t := by
    intro t q
    refine k25_ _ ?_
    show Steps p.tables e below (T24.setTop (mkF m 90 #[.val (.int p0), .val (.int p1), .val (.int p2), .val (.int p3), .val (.int p4), .val (.int u), .val (.int r), .val (.int o), .val (.int sv), .val (.int iv), .unset, .unset, .unset, .unset, .unset, .unset, .unset, .unset, .unset, .unset] [(.ref b12)])) _
    refine XS.dup X24.here hx rfl (hb hby at_90) rfl rfl ?_
    show Steps p.tables e below (T24.setTop (mkF m 91 #[.val (.int p0), .val (.int p1), .val (.int p2), .val (.int p3), .val (.int p4), .val (.int u), .val (.int r), .val (.int o), .val (.int sv), .val (.int iv), .unset, .unset, .unset, .unset, .unset, .unset, .unset, .unset, .unset, .unset] [(.ref b12), (.ref b12)])) _
    refine XS.iconst X24.here hx rfl (hb hby at_91) ?_
    show Steps p.tables e below (T24.setTop (mkF m 92 #[.val (.int p0), .val (.int p1), .val (.int p2), .val (.int p3), .val (.int p4), .val (.int u), .val (.int r), .val (.int o), .val (.int sv), .val (.int iv), .unset, .unset, .unset, .unset, .unset, .unset, .unset, .unset, .unset, .unset] [(.int (3 : Int32)), (.ref b12), (.ref b12)])) _
    refine XS.bipush X24.here hx rfl (hb hby at_92) ?_
    show Steps p.tables e below (T24.setTop (mkF m 94 #[.val (.int p0), .val (.int p1), .val (.int p2), .val (.int p3), .val (.int p4), .val (.int u), .val (.int r), .val (.int o), .val (.int sv), .val (.int iv), .unset, .unset, .unset, .unset, .unset, .unset, .unset, .unset, .unset, .unset] [(.int (-4 : Int32)), (.int (3 : Int32)), (.ref b12), (.ref b12)])) _
    exact q
  obtain ⟨cl27, Ar27, q27, S27, M27, H27, G27⟩ := V_b12
  obtain ⟨T28, h28, X28, e28, W28, st28⟩ := stI X24 hx hZ e24 Ar27 (j := (3 : Int32)) (inb_of S27 ⟨by decide, by decide⟩) (g := (mkF m 94 #[.val (.int p0), .val (.int p1), .val (.int p2), .val (.int p3), .val (.int p4), .val (.int u), .val (.int r), .val (.int o), .val (.int sv), .val (.int iv), .unset, .unset, .unset, .unset, .unset, .unset, .unset, .unset, .unset, .unset] [(.int (-4 : Int32)), (.int (3 : Int32)), (.ref b12), (.ref b12)])) rfl rfl (hb hby at_94)
  have k29_ : ∀ t, Steps p.tables e below (T28.setTop (mkF m 95 #[.val (.int p0), .val (.int p1), .val (.int p2), .val (.int p3), .val (.int p4), .val (.int u), .val (.int r), .val (.int o), .val (.int sv), .val (.int iv), .unset, .unset, .unset, .unset, .unset, .unset, .unset, .unset, .unset, .unset] [(.ref b12)])) t → Steps p.tables e below (s₁.setTop (mkF m 0 #[.val (.int p0), .val (.int p1), .val (.int p2), .val (.int p3), .val (.int p4), .unset, .unset, .unset, .unset, .unset, .unset, .unset, .unset, .unset, .unset, .unset, .unset, .unset, .unset, .unset] [])) t := fun t q => k26_ t (st28 t q)
  have N28 := Fr.snoc X28 N24 g_b12
  replace Zn := Nat.le_trans Zn (Keep.of_wr W28).1
  have V_b12 : Arv Z h28 b12 c12 .int (4 : Int32) [(.int (-1 : Int32)), (.int (-2 : Int32)), (.int (-3 : Int32)), (.int (-4 : Int32))] (.int (0 : Int32)) := Arv.set Ar27 q27 S27 M27 H27 G27 rfl W28 3 rfl (Nat.le_of_ble_eq_true rfl)
  replace V_b12 : Arv Z h28 b12 c12 .int (4 : Int32) (own_x0.map Value.int) (.int (0 : Int32)) := V_b12
  have k30_ : ∀ t, Steps p.tables e below (T28.setTop (mkF m 103 #[.val (.int p0), .val (.int p1), .val (.int p2), .val (.int p3), .val (.int p4), .val (.int u), .val (.int r), .val (.int o), .val (.int sv), .val (.int iv), .val (.ref b12), .unset, .unset, .unset, .unset, .unset, .unset, .unset, .unset, .unset] [(.int sv), (.int u), (.ref b12)])) t → Steps p.tables e below (s₁.setTop (mkF m 0 #[.val (.int p0), .val (.int p1), .val (.int p2), .val (.int p3), .val (.int p4), .unset, .unset, .unset, .unset, .unset, .unset, .unset, .unset, .unset, .unset, .unset, .unset, .unset, .unset, .unset] [])) t := by
    intro t q
    refine k29_ _ ?_
    show Steps p.tables e below (T28.setTop (mkF m 95 #[.val (.int p0), .val (.int p1), .val (.int p2), .val (.int p3), .val (.int p4), .val (.int u), .val (.int r), .val (.int o), .val (.int sv), .val (.int iv), .unset, .unset, .unset, .unset, .unset, .unset, .unset, .unset, .unset, .unset] [(.ref b12)])) _
    refine XS.astore X28.here hx rfl (hb hby at_95) rfl rfl (l' := #[.val (.int p0), .val (.int p1), .val (.int p2), .val (.int p3), .val (.int p4), .val (.int u), .val (.int r), .val (.int o), .val (.int sv), .val (.int iv), .val (.ref b12), .unset, .unset, .unset, .unset, .unset, .unset, .unset, .unset, .unset]) rfl ?_
    show Steps p.tables e below (T28.setTop (mkF m 97 #[.val (.int p0), .val (.int p1), .val (.int p2), .val (.int p3), .val (.int p4), .val (.int u), .val (.int r), .val (.int o), .val (.int sv), .val (.int iv), .val (.ref b12), .unset, .unset, .unset, .unset, .unset, .unset, .unset, .unset, .unset] [])) _
    refine XS.aload X28.here hx rfl (hb hby at_97) rfl rfl ?_
    show Steps p.tables e below (T28.setTop (mkF m 99 #[.val (.int p0), .val (.int p1), .val (.int p2), .val (.int p3), .val (.int p4), .val (.int u), .val (.int r), .val (.int o), .val (.int sv), .val (.int iv), .val (.ref b12), .unset, .unset, .unset, .unset, .unset, .unset, .unset, .unset, .unset] [(.ref b12)])) _
    refine XS.iload X28.here hx rfl (hb hby at_99) rfl ?_
    show Steps p.tables e below (T28.setTop (mkF m 101 #[.val (.int p0), .val (.int p1), .val (.int p2), .val (.int p3), .val (.int p4), .val (.int u), .val (.int r), .val (.int o), .val (.int sv), .val (.int iv), .val (.ref b12), .unset, .unset, .unset, .unset, .unset, .unset, .unset, .unset, .unset] [(.int u), (.ref b12)])) _
    refine XS.iload X28.here hx rfl (hb hby at_101) rfl ?_
    show Steps p.tables e below (T28.setTop (mkF m 103 #[.val (.int p0), .val (.int p1), .val (.int p2), .val (.int p3), .val (.int p4), .val (.int u), .val (.int r), .val (.int o), .val (.int sv), .val (.int iv), .val (.ref b12), .unset, .unset, .unset, .unset, .unset, .unset, .unset, .unset, .unset] [(.int sv), (.int u), (.ref b12)])) _
    exact q
  obtain ⟨cl31, Ar31, q31, S31, M31, H31, G31⟩ := V_b12
  obtain ⟨T32, h32, X32, e32, W32, st32⟩ := stI X28 hx hZ e28 Ar31 (j := u) (inb_of S31 ⟨hu.1, hu.2⟩) (g := (mkF m 103 #[.val (.int p0), .val (.int p1), .val (.int p2), .val (.int p3), .val (.int p4), .val (.int u), .val (.int r), .val (.int o), .val (.int sv), .val (.int iv), .val (.ref b12), .unset, .unset, .unset, .unset, .unset, .unset, .unset, .unset, .unset] [(.int sv), (.int u), (.ref b12)])) rfl rfl (hb hby at_103)
  have k33_ : ∀ t, Steps p.tables e below (T32.setTop (mkF m 104 #[.val (.int p0), .val (.int p1), .val (.int p2), .val (.int p3), .val (.int p4), .val (.int u), .val (.int r), .val (.int o), .val (.int sv), .val (.int iv), .val (.ref b12), .unset, .unset, .unset, .unset, .unset, .unset, .unset, .unset, .unset] [])) t → Steps p.tables e below (s₁.setTop (mkF m 0 #[.val (.int p0), .val (.int p1), .val (.int p2), .val (.int p3), .val (.int p4), .unset, .unset, .unset, .unset, .unset, .unset, .unset, .unset, .unset, .unset, .unset, .unset, .unset, .unset, .unset] [])) t := fun t q => k30_ t (st32 t q)
  have N32 := Fr.snoc X32 N28 g_b12
  replace Zn := Nat.le_trans Zn (Keep.of_wr W32).1
  have V_b12 : Arv Z h32 b12 c12 .int (4 : Int32) ((own_x0.set (u).toNatClampNeg sv).map Value.int) (.int (0 : Int32)) := by rw [List.map_set]; exact Arv.set Ar31 q31 S31 M31 H31 G31 rfl W32 _ rfl (own_ix hu.1 hu.2 rfl)
  have k34_ : ∀ t, Steps p.tables e below (T32.setTop (mkF m 105 #[.val (.int p0), .val (.int p1), .val (.int p2), .val (.int p3), .val (.int p4), .val (.int u), .val (.int r), .val (.int o), .val (.int sv), .val (.int iv), .val (.ref b12), .unset, .unset, .unset, .unset, .unset, .unset, .unset, .unset, .unset] [(.int (4 : Int32))])) t → Steps p.tables e below (s₁.setTop (mkF m 0 #[.val (.int p0), .val (.int p1), .val (.int p2), .val (.int p3), .val (.int p4), .unset, .unset, .unset, .unset, .unset, .unset, .unset, .unset, .unset, .unset, .unset, .unset, .unset, .unset, .unset] [])) t := by
    intro t q
    refine k33_ _ ?_
    show Steps p.tables e below (T32.setTop (mkF m 104 #[.val (.int p0), .val (.int p1), .val (.int p2), .val (.int p3), .val (.int p4), .val (.int u), .val (.int r), .val (.int o), .val (.int sv), .val (.int iv), .val (.ref b12), .unset, .unset, .unset, .unset, .unset, .unset, .unset, .unset, .unset] [])) _
    refine XS.iconst X32.here hx rfl (hb hby at_104) ?_
    show Steps p.tables e below (T32.setTop (mkF m 105 #[.val (.int p0), .val (.int p1), .val (.int p2), .val (.int p3), .val (.int p4), .val (.int u), .val (.int r), .val (.int o), .val (.int sv), .val (.int iv), .val (.ref b12), .unset, .unset, .unset, .unset, .unset, .unset, .unset, .unset, .unset] [(.int (4 : Int32))])) _
    exact q
  obtain ⟨T35, h35, c35, X35, e35, E35, A35, st35⟩ := newP X32 hx hZ (hw _ (List.mem_of_getElem? (i := 1) rfl)) e32 (g := (mkF m 105 #[.val (.int p0), .val (.int p1), .val (.int p2), .val (.int p3), .val (.int p4), .val (.int u), .val (.int r), .val (.int o), .val (.int sv), .val (.int iv), .val (.ref b12), .unset, .unset, .unset, .unset, .unset, .unset, .unset, .unset, .unset] [(.int (4 : Int32))])) rfl (hb hby at_105) rfl (by decide) (cap := 4) (by decide) (by decide) (by decide) (by decide)
  obtain ⟨b35, g35⟩ : ∃ z, z = h32.size := ⟨_, rfl⟩
  rw [← g35] at A35 st35
  have k36_ : ∀ t, Steps p.tables e below (T35.setTop (mkF m 107 #[.val (.int p0), .val (.int p1), .val (.int p2), .val (.int p3), .val (.int p4), .val (.int u), .val (.int r), .val (.int o), .val (.int sv), .val (.int iv), .val (.ref b12), .unset, .unset, .unset, .unset, .unset, .unset, .unset, .unset, .unset] [(.ref b35)])) t → Steps p.tables e below (s₁.setTop (mkF m 0 #[.val (.int p0), .val (.int p1), .val (.int p2), .val (.int p3), .val (.int p4), .unset, .unset, .unset, .unset, .unset, .unset, .unset, .unset, .unset, .unset, .unset, .unset, .unset, .unset, .unset] [])) t := fun t q => k34_ t (st35 t q)
  have ne_b12_b35 : b12 ≠ b35 := Nat.ne_of_lt (Nat.lt_of_lt_of_le V_b12.lt (Nat.le_of_eq g35.symm))
  have g_b35 : n0 ≤ b35 := Nat.le_trans Zn (Nat.le_of_eq g35.symm)
  replace Zn := Nat.le_trans Zn E35.1
  replace V_b12 := V_b12.ext E35
  have V_b35 : Arv Z h35 b35 c35 .int (4 : Int32) [(.int (0 : Int32)), (.int (0 : Int32)), (.int (0 : Int32)), (.int (0 : Int32))] (.int (0 : Int32)) := (Arv.new A35 (by decide)).pad (pad_rep [] (.int (0 : Int32)) 4)
  have k37_ : ∀ t, Steps p.tables e below (T35.setTop (mkF m 111 #[.val (.int p0), .val (.int p1), .val (.int p2), .val (.int p3), .val (.int p4), .val (.int u), .val (.int r), .val (.int o), .val (.int sv), .val (.int iv), .val (.ref b12), .unset, .unset, .unset, .unset, .unset, .unset, .unset, .unset, .unset] [(.int (20 : Int32)), (.int (0 : Int32)), (.ref b35), (.ref b35)])) t → Steps p.tables e below (s₁.setTop (mkF m 0 #[.val (.int p0), .val (.int p1), .val (.int p2), .val (.int p3), .val (.int p4), .unset, .unset, .unset, .unset, .unset, .unset, .unset, .unset, .unset, .unset, .unset, .unset, .unset, .unset, .unset] [])) t := by
    intro t q
    refine k36_ _ ?_
    show Steps p.tables e below (T35.setTop (mkF m 107 #[.val (.int p0), .val (.int p1), .val (.int p2), .val (.int p3), .val (.int p4), .val (.int u), .val (.int r), .val (.int o), .val (.int sv), .val (.int iv), .val (.ref b12), .unset, .unset, .unset, .unset, .unset, .unset, .unset, .unset, .unset] [(.ref b35)])) _
    refine XS.dup X35.here hx rfl (hb hby at_107) rfl rfl ?_
    show Steps p.tables e below (T35.setTop (mkF m 108 #[.val (.int p0), .val (.int p1), .val (.int p2), .val (.int p3), .val (.int p4), .val (.int u), .val (.int r), .val (.int o), .val (.int sv), .val (.int iv), .val (.ref b12), .unset, .unset, .unset, .unset, .unset, .unset, .unset, .unset, .unset] [(.ref b35), (.ref b35)])) _
    refine XS.iconst X35.here hx rfl (hb hby at_108) ?_
    show Steps p.tables e below (T35.setTop (mkF m 109 #[.val (.int p0), .val (.int p1), .val (.int p2), .val (.int p3), .val (.int p4), .val (.int u), .val (.int r), .val (.int o), .val (.int sv), .val (.int iv), .val (.ref b12), .unset, .unset, .unset, .unset, .unset, .unset, .unset, .unset, .unset] [(.int (0 : Int32)), (.ref b35), (.ref b35)])) _
    refine XS.bipush X35.here hx rfl (hb hby at_109) ?_
    show Steps p.tables e below (T35.setTop (mkF m 111 #[.val (.int p0), .val (.int p1), .val (.int p2), .val (.int p3), .val (.int p4), .val (.int u), .val (.int r), .val (.int o), .val (.int sv), .val (.int iv), .val (.ref b12), .unset, .unset, .unset, .unset, .unset, .unset, .unset, .unset, .unset] [(.int (20 : Int32)), (.int (0 : Int32)), (.ref b35), (.ref b35)])) _
    exact q
  obtain ⟨cl38, Ar38, q38, S38, M38, H38, G38⟩ := V_b35
  obtain ⟨T39, h39, X39, e39, W39, st39⟩ := stI X35 hx hZ e35 Ar38 (j := (0 : Int32)) (inb_of S38 ⟨by decide, by decide⟩) (g := (mkF m 111 #[.val (.int p0), .val (.int p1), .val (.int p2), .val (.int p3), .val (.int p4), .val (.int u), .val (.int r), .val (.int o), .val (.int sv), .val (.int iv), .val (.ref b12), .unset, .unset, .unset, .unset, .unset, .unset, .unset, .unset, .unset] [(.int (20 : Int32)), (.int (0 : Int32)), (.ref b35), (.ref b35)])) rfl rfl (hb hby at_111)
  have k40_ : ∀ t, Steps p.tables e below (T39.setTop (mkF m 112 #[.val (.int p0), .val (.int p1), .val (.int p2), .val (.int p3), .val (.int p4), .val (.int u), .val (.int r), .val (.int o), .val (.int sv), .val (.int iv), .val (.ref b12), .unset, .unset, .unset, .unset, .unset, .unset, .unset, .unset, .unset] [(.ref b35)])) t → Steps p.tables e below (s₁.setTop (mkF m 0 #[.val (.int p0), .val (.int p1), .val (.int p2), .val (.int p3), .val (.int p4), .unset, .unset, .unset, .unset, .unset, .unset, .unset, .unset, .unset, .unset, .unset, .unset, .unset, .unset, .unset] [])) t := fun t q => k37_ t (st39 t q)
  have N39 := Fr.snoc X39 N32 g_b35
  replace Zn := Nat.le_trans Zn (Keep.of_wr W39).1
  replace V_b12 := V_b12.other W39 ne_b12_b35
  have V_b35 : Arv Z h39 b35 c35 .int (4 : Int32) [(.int (20 : Int32)), (.int (0 : Int32)), (.int (0 : Int32)), (.int (0 : Int32))] (.int (0 : Int32)) := Arv.set Ar38 q38 S38 M38 H38 G38 rfl W39 0 rfl (Nat.le_of_ble_eq_true rfl)
  have k41_ : ∀ t, Steps p.tables e below (T39.setTop (mkF m 116 #[.val (.int p0), .val (.int p1), .val (.int p2), .val (.int p3), .val (.int p4), .val (.int u), .val (.int r), .val (.int o), .val (.int sv), .val (.int iv), .val (.ref b12), .unset, .unset, .unset, .unset, .unset, .unset, .unset, .unset, .unset] [(.int (21 : Int32)), (.int (1 : Int32)), (.ref b35), (.ref b35)])) t → Steps p.tables e below (s₁.setTop (mkF m 0 #[.val (.int p0), .val (.int p1), .val (.int p2), .val (.int p3), .val (.int p4), .unset, .unset, .unset, .unset, .unset, .unset, .unset, .unset, .unset, .unset, .unset, .unset, .unset, .unset, .unset] [])) t := by
    intro t q
    refine k40_ _ ?_
    show Steps p.tables e below (T39.setTop (mkF m 112 #[.val (.int p0), .val (.int p1), .val (.int p2), .val (.int p3), .val (.int p4), .val (.int u), .val (.int r), .val (.int o), .val (.int sv), .val (.int iv), .val (.ref b12), .unset, .unset, .unset, .unset, .unset, .unset, .unset, .unset, .unset] [(.ref b35)])) _
    refine XS.dup X39.here hx rfl (hb hby at_112) rfl rfl ?_
    show Steps p.tables e below (T39.setTop (mkF m 113 #[.val (.int p0), .val (.int p1), .val (.int p2), .val (.int p3), .val (.int p4), .val (.int u), .val (.int r), .val (.int o), .val (.int sv), .val (.int iv), .val (.ref b12), .unset, .unset, .unset, .unset, .unset, .unset, .unset, .unset, .unset] [(.ref b35), (.ref b35)])) _
    refine XS.iconst X39.here hx rfl (hb hby at_113) ?_
    show Steps p.tables e below (T39.setTop (mkF m 114 #[.val (.int p0), .val (.int p1), .val (.int p2), .val (.int p3), .val (.int p4), .val (.int u), .val (.int r), .val (.int o), .val (.int sv), .val (.int iv), .val (.ref b12), .unset, .unset, .unset, .unset, .unset, .unset, .unset, .unset, .unset] [(.int (1 : Int32)), (.ref b35), (.ref b35)])) _
    refine XS.bipush X39.here hx rfl (hb hby at_114) ?_
    show Steps p.tables e below (T39.setTop (mkF m 116 #[.val (.int p0), .val (.int p1), .val (.int p2), .val (.int p3), .val (.int p4), .val (.int u), .val (.int r), .val (.int o), .val (.int sv), .val (.int iv), .val (.ref b12), .unset, .unset, .unset, .unset, .unset, .unset, .unset, .unset, .unset] [(.int (21 : Int32)), (.int (1 : Int32)), (.ref b35), (.ref b35)])) _
    exact q
  obtain ⟨cl42, Ar42, q42, S42, M42, H42, G42⟩ := V_b35
  obtain ⟨T43, h43, X43, e43, W43, st43⟩ := stI X39 hx hZ e39 Ar42 (j := (1 : Int32)) (inb_of S42 ⟨by decide, by decide⟩) (g := (mkF m 116 #[.val (.int p0), .val (.int p1), .val (.int p2), .val (.int p3), .val (.int p4), .val (.int u), .val (.int r), .val (.int o), .val (.int sv), .val (.int iv), .val (.ref b12), .unset, .unset, .unset, .unset, .unset, .unset, .unset, .unset, .unset] [(.int (21 : Int32)), (.int (1 : Int32)), (.ref b35), (.ref b35)])) rfl rfl (hb hby at_116)
  have k44_ : ∀ t, Steps p.tables e below (T43.setTop (mkF m 117 #[.val (.int p0), .val (.int p1), .val (.int p2), .val (.int p3), .val (.int p4), .val (.int u), .val (.int r), .val (.int o), .val (.int sv), .val (.int iv), .val (.ref b12), .unset, .unset, .unset, .unset, .unset, .unset, .unset, .unset, .unset] [(.ref b35)])) t → Steps p.tables e below (s₁.setTop (mkF m 0 #[.val (.int p0), .val (.int p1), .val (.int p2), .val (.int p3), .val (.int p4), .unset, .unset, .unset, .unset, .unset, .unset, .unset, .unset, .unset, .unset, .unset, .unset, .unset, .unset, .unset] [])) t := fun t q => k41_ t (st43 t q)
  have N43 := Fr.snoc X43 N39 g_b35
  replace Zn := Nat.le_trans Zn (Keep.of_wr W43).1
  replace V_b12 := V_b12.other W43 ne_b12_b35
  have V_b35 : Arv Z h43 b35 c35 .int (4 : Int32) [(.int (20 : Int32)), (.int (21 : Int32)), (.int (0 : Int32)), (.int (0 : Int32))] (.int (0 : Int32)) := Arv.set Ar42 q42 S42 M42 H42 G42 rfl W43 1 rfl (Nat.le_of_ble_eq_true rfl)
  have k45_ : ∀ t, Steps p.tables e below (T43.setTop (mkF m 121 #[.val (.int p0), .val (.int p1), .val (.int p2), .val (.int p3), .val (.int p4), .val (.int u), .val (.int r), .val (.int o), .val (.int sv), .val (.int iv), .val (.ref b12), .unset, .unset, .unset, .unset, .unset, .unset, .unset, .unset, .unset] [(.int (22 : Int32)), (.int (2 : Int32)), (.ref b35), (.ref b35)])) t → Steps p.tables e below (s₁.setTop (mkF m 0 #[.val (.int p0), .val (.int p1), .val (.int p2), .val (.int p3), .val (.int p4), .unset, .unset, .unset, .unset, .unset, .unset, .unset, .unset, .unset, .unset, .unset, .unset, .unset, .unset, .unset] [])) t := by
    intro t q
    refine k44_ _ ?_
    show Steps p.tables e below (T43.setTop (mkF m 117 #[.val (.int p0), .val (.int p1), .val (.int p2), .val (.int p3), .val (.int p4), .val (.int u), .val (.int r), .val (.int o), .val (.int sv), .val (.int iv), .val (.ref b12), .unset, .unset, .unset, .unset, .unset, .unset, .unset, .unset, .unset] [(.ref b35)])) _
    refine XS.dup X43.here hx rfl (hb hby at_117) rfl rfl ?_
    show Steps p.tables e below (T43.setTop (mkF m 118 #[.val (.int p0), .val (.int p1), .val (.int p2), .val (.int p3), .val (.int p4), .val (.int u), .val (.int r), .val (.int o), .val (.int sv), .val (.int iv), .val (.ref b12), .unset, .unset, .unset, .unset, .unset, .unset, .unset, .unset, .unset] [(.ref b35), (.ref b35)])) _
    refine XS.iconst X43.here hx rfl (hb hby at_118) ?_
    show Steps p.tables e below (T43.setTop (mkF m 119 #[.val (.int p0), .val (.int p1), .val (.int p2), .val (.int p3), .val (.int p4), .val (.int u), .val (.int r), .val (.int o), .val (.int sv), .val (.int iv), .val (.ref b12), .unset, .unset, .unset, .unset, .unset, .unset, .unset, .unset, .unset] [(.int (2 : Int32)), (.ref b35), (.ref b35)])) _
    refine XS.bipush X43.here hx rfl (hb hby at_119) ?_
    show Steps p.tables e below (T43.setTop (mkF m 121 #[.val (.int p0), .val (.int p1), .val (.int p2), .val (.int p3), .val (.int p4), .val (.int u), .val (.int r), .val (.int o), .val (.int sv), .val (.int iv), .val (.ref b12), .unset, .unset, .unset, .unset, .unset, .unset, .unset, .unset, .unset] [(.int (22 : Int32)), (.int (2 : Int32)), (.ref b35), (.ref b35)])) _
    exact q
  obtain ⟨cl46, Ar46, q46, S46, M46, H46, G46⟩ := V_b35
  obtain ⟨T47, h47, X47, e47, W47, st47⟩ := stI X43 hx hZ e43 Ar46 (j := (2 : Int32)) (inb_of S46 ⟨by decide, by decide⟩) (g := (mkF m 121 #[.val (.int p0), .val (.int p1), .val (.int p2), .val (.int p3), .val (.int p4), .val (.int u), .val (.int r), .val (.int o), .val (.int sv), .val (.int iv), .val (.ref b12), .unset, .unset, .unset, .unset, .unset, .unset, .unset, .unset, .unset] [(.int (22 : Int32)), (.int (2 : Int32)), (.ref b35), (.ref b35)])) rfl rfl (hb hby at_121)
  have k48_ : ∀ t, Steps p.tables e below (T47.setTop (mkF m 122 #[.val (.int p0), .val (.int p1), .val (.int p2), .val (.int p3), .val (.int p4), .val (.int u), .val (.int r), .val (.int o), .val (.int sv), .val (.int iv), .val (.ref b12), .unset, .unset, .unset, .unset, .unset, .unset, .unset, .unset, .unset] [(.ref b35)])) t → Steps p.tables e below (s₁.setTop (mkF m 0 #[.val (.int p0), .val (.int p1), .val (.int p2), .val (.int p3), .val (.int p4), .unset, .unset, .unset, .unset, .unset, .unset, .unset, .unset, .unset, .unset, .unset, .unset, .unset, .unset, .unset] [])) t := fun t q => k45_ t (st47 t q)
  have N47 := Fr.snoc X47 N43 g_b35
  replace Zn := Nat.le_trans Zn (Keep.of_wr W47).1
  replace V_b12 := V_b12.other W47 ne_b12_b35
  have V_b35 : Arv Z h47 b35 c35 .int (4 : Int32) [(.int (20 : Int32)), (.int (21 : Int32)), (.int (22 : Int32)), (.int (0 : Int32))] (.int (0 : Int32)) := Arv.set Ar46 q46 S46 M46 H46 G46 rfl W47 2 rfl (Nat.le_of_ble_eq_true rfl)
  have k49_ : ∀ t, Steps p.tables e below (T47.setTop (mkF m 126 #[.val (.int p0), .val (.int p1), .val (.int p2), .val (.int p3), .val (.int p4), .val (.int u), .val (.int r), .val (.int o), .val (.int sv), .val (.int iv), .val (.ref b12), .unset, .unset, .unset, .unset, .unset, .unset, .unset, .unset, .unset] [(.int (23 : Int32)), (.int (3 : Int32)), (.ref b35), (.ref b35)])) t → Steps p.tables e below (s₁.setTop (mkF m 0 #[.val (.int p0), .val (.int p1), .val (.int p2), .val (.int p3), .val (.int p4), .unset, .unset, .unset, .unset, .unset, .unset, .unset, .unset, .unset, .unset, .unset, .unset, .unset, .unset, .unset] [])) t := by
    intro t q
    refine k48_ _ ?_
    show Steps p.tables e below (T47.setTop (mkF m 122 #[.val (.int p0), .val (.int p1), .val (.int p2), .val (.int p3), .val (.int p4), .val (.int u), .val (.int r), .val (.int o), .val (.int sv), .val (.int iv), .val (.ref b12), .unset, .unset, .unset, .unset, .unset, .unset, .unset, .unset, .unset] [(.ref b35)])) _
    refine XS.dup X47.here hx rfl (hb hby at_122) rfl rfl ?_
    show Steps p.tables e below (T47.setTop (mkF m 123 #[.val (.int p0), .val (.int p1), .val (.int p2), .val (.int p3), .val (.int p4), .val (.int u), .val (.int r), .val (.int o), .val (.int sv), .val (.int iv), .val (.ref b12), .unset, .unset, .unset, .unset, .unset, .unset, .unset, .unset, .unset] [(.ref b35), (.ref b35)])) _
    refine XS.iconst X47.here hx rfl (hb hby at_123) ?_
    show Steps p.tables e below (T47.setTop (mkF m 124 #[.val (.int p0), .val (.int p1), .val (.int p2), .val (.int p3), .val (.int p4), .val (.int u), .val (.int r), .val (.int o), .val (.int sv), .val (.int iv), .val (.ref b12), .unset, .unset, .unset, .unset, .unset, .unset, .unset, .unset, .unset] [(.int (3 : Int32)), (.ref b35), (.ref b35)])) _
    refine XS.bipush X47.here hx rfl (hb hby at_124) ?_
    show Steps p.tables e below (T47.setTop (mkF m 126 #[.val (.int p0), .val (.int p1), .val (.int p2), .val (.int p3), .val (.int p4), .val (.int u), .val (.int r), .val (.int o), .val (.int sv), .val (.int iv), .val (.ref b12), .unset, .unset, .unset, .unset, .unset, .unset, .unset, .unset, .unset] [(.int (23 : Int32)), (.int (3 : Int32)), (.ref b35), (.ref b35)])) _
    exact q
  obtain ⟨cl50, Ar50, q50, S50, M50, H50, G50⟩ := V_b35
  obtain ⟨T51, h51, X51, e51, W51, st51⟩ := stI X47 hx hZ e47 Ar50 (j := (3 : Int32)) (inb_of S50 ⟨by decide, by decide⟩) (g := (mkF m 126 #[.val (.int p0), .val (.int p1), .val (.int p2), .val (.int p3), .val (.int p4), .val (.int u), .val (.int r), .val (.int o), .val (.int sv), .val (.int iv), .val (.ref b12), .unset, .unset, .unset, .unset, .unset, .unset, .unset, .unset, .unset] [(.int (23 : Int32)), (.int (3 : Int32)), (.ref b35), (.ref b35)])) rfl rfl (hb hby at_126)
  have k52_ : ∀ t, Steps p.tables e below (T51.setTop (mkF m 127 #[.val (.int p0), .val (.int p1), .val (.int p2), .val (.int p3), .val (.int p4), .val (.int u), .val (.int r), .val (.int o), .val (.int sv), .val (.int iv), .val (.ref b12), .unset, .unset, .unset, .unset, .unset, .unset, .unset, .unset, .unset] [(.ref b35)])) t → Steps p.tables e below (s₁.setTop (mkF m 0 #[.val (.int p0), .val (.int p1), .val (.int p2), .val (.int p3), .val (.int p4), .unset, .unset, .unset, .unset, .unset, .unset, .unset, .unset, .unset, .unset, .unset, .unset, .unset, .unset, .unset] [])) t := fun t q => k49_ t (st51 t q)
  have N51 := Fr.snoc X51 N47 g_b35
  replace Zn := Nat.le_trans Zn (Keep.of_wr W51).1
  replace V_b12 := V_b12.other W51 ne_b12_b35
  have V_b35 : Arv Z h51 b35 c35 .int (4 : Int32) [(.int (20 : Int32)), (.int (21 : Int32)), (.int (22 : Int32)), (.int (23 : Int32))] (.int (0 : Int32)) := Arv.set Ar50 q50 S50 M50 H50 G50 rfl W51 3 rfl (Nat.le_of_ble_eq_true rfl)
  replace V_b35 : Arv Z h51 b35 c35 .int (4 : Int32) (own_n0.map Value.int) (.int (0 : Int32)) := V_b35
  have k53_ : ∀ t, Steps p.tables e below (T51.setTop (mkF m 130 #[.val (.int p0), .val (.int p1), .val (.int p2), .val (.int p3), .val (.int p4), .val (.int u), .val (.int r), .val (.int o), .val (.int sv), .val (.int iv), .val (.ref b12), .val (.ref b35), .unset, .unset, .unset, .unset, .unset, .unset, .unset, .unset] [(.int (4 : Int32))])) t → Steps p.tables e below (s₁.setTop (mkF m 0 #[.val (.int p0), .val (.int p1), .val (.int p2), .val (.int p3), .val (.int p4), .unset, .unset, .unset, .unset, .unset, .unset, .unset, .unset, .unset, .unset, .unset, .unset, .unset, .unset, .unset] [])) t := by
    intro t q
    refine k52_ _ ?_
    show Steps p.tables e below (T51.setTop (mkF m 127 #[.val (.int p0), .val (.int p1), .val (.int p2), .val (.int p3), .val (.int p4), .val (.int u), .val (.int r), .val (.int o), .val (.int sv), .val (.int iv), .val (.ref b12), .unset, .unset, .unset, .unset, .unset, .unset, .unset, .unset, .unset] [(.ref b35)])) _
    refine XS.astore X51.here hx rfl (hb hby at_127) rfl rfl (l' := #[.val (.int p0), .val (.int p1), .val (.int p2), .val (.int p3), .val (.int p4), .val (.int u), .val (.int r), .val (.int o), .val (.int sv), .val (.int iv), .val (.ref b12), .val (.ref b35), .unset, .unset, .unset, .unset, .unset, .unset, .unset, .unset]) rfl ?_
    show Steps p.tables e below (T51.setTop (mkF m 129 #[.val (.int p0), .val (.int p1), .val (.int p2), .val (.int p3), .val (.int p4), .val (.int u), .val (.int r), .val (.int o), .val (.int sv), .val (.int iv), .val (.ref b12), .val (.ref b35), .unset, .unset, .unset, .unset, .unset, .unset, .unset, .unset] [])) _
    refine XS.iconst X51.here hx rfl (hb hby at_129) ?_
    show Steps p.tables e below (T51.setTop (mkF m 130 #[.val (.int p0), .val (.int p1), .val (.int p2), .val (.int p3), .val (.int p4), .val (.int u), .val (.int r), .val (.int o), .val (.int sv), .val (.int iv), .val (.ref b12), .val (.ref b35), .unset, .unset, .unset, .unset, .unset, .unset, .unset, .unset] [(.int (4 : Int32))])) _
    exact q
  obtain ⟨T54, h54, c54, X54, e54, E54, A54, st54⟩ := newP X51 hx hZ (hw _ (List.mem_of_getElem? (i := 2) rfl)) e51 (g := (mkF m 130 #[.val (.int p0), .val (.int p1), .val (.int p2), .val (.int p3), .val (.int p4), .val (.int u), .val (.int r), .val (.int o), .val (.int sv), .val (.int iv), .val (.ref b12), .val (.ref b35), .unset, .unset, .unset, .unset, .unset, .unset, .unset, .unset] [(.int (4 : Int32))])) rfl (hb hby at_130) rfl (by decide) (cap := 4) (by decide) (by decide) (by decide) (by decide)
  obtain ⟨b54, g54⟩ : ∃ z, z = h51.size := ⟨_, rfl⟩
  rw [← g54] at A54 st54
  have k55_ : ∀ t, Steps p.tables e below (T54.setTop (mkF m 132 #[.val (.int p0), .val (.int p1), .val (.int p2), .val (.int p3), .val (.int p4), .val (.int u), .val (.int r), .val (.int o), .val (.int sv), .val (.int iv), .val (.ref b12), .val (.ref b35), .unset, .unset, .unset, .unset, .unset, .unset, .unset, .unset] [(.ref b54)])) t → Steps p.tables e below (s₁.setTop (mkF m 0 #[.val (.int p0), .val (.int p1), .val (.int p2), .val (.int p3), .val (.int p4), .unset, .unset, .unset, .unset, .unset, .unset, .unset, .unset, .unset, .unset, .unset, .unset, .unset, .unset, .unset] [])) t := fun t q => k53_ t (st54 t q)
  have ne_b12_b54 : b12 ≠ b54 := Nat.ne_of_lt (Nat.lt_of_lt_of_le V_b12.lt (Nat.le_of_eq g54.symm))
  have ne_b35_b54 : b35 ≠ b54 := Nat.ne_of_lt (Nat.lt_of_lt_of_le V_b35.lt (Nat.le_of_eq g54.symm))
  have g_b54 : n0 ≤ b54 := Nat.le_trans Zn (Nat.le_of_eq g54.symm)
  replace Zn := Nat.le_trans Zn E54.1
  replace V_b12 := V_b12.ext E54
  replace V_b35 := V_b35.ext E54
  have V_b54 : Arv Z h54 b54 c54 .double (4 : Int32) [(.double (FP.l2d (0 : Int64))), (.double (FP.l2d (0 : Int64))), (.double (FP.l2d (0 : Int64))), (.double (FP.l2d (0 : Int64)))] (.double (FP.l2d (0 : Int64))) := (Arv.newD A54 (by decide)).pad (pad_rep [] (.double (FP.l2d (0 : Int64))) 4)
  have k56_ : ∀ t, Steps p.tables e below (T54.setTop (mkF m 135 #[.val (.int p0), .val (.int p1), .val (.int p2), .val (.int p3), .val (.int p4), .val (.int u), .val (.int r), .val (.int o), .val (.int sv), .val (.int iv), .val (.ref b12), .val (.ref b35), .unset, .unset, .unset, .unset, .unset, .unset, .unset, .unset] [(.double (FP.l2d (1 : Int64))), (.int (0 : Int32)), (.ref b54), (.ref b54)])) t → Steps p.tables e below (s₁.setTop (mkF m 0 #[.val (.int p0), .val (.int p1), .val (.int p2), .val (.int p3), .val (.int p4), .unset, .unset, .unset, .unset, .unset, .unset, .unset, .unset, .unset, .unset, .unset, .unset, .unset, .unset, .unset] [])) t := by
    intro t q
    refine k55_ _ ?_
    show Steps p.tables e below (T54.setTop (mkF m 132 #[.val (.int p0), .val (.int p1), .val (.int p2), .val (.int p3), .val (.int p4), .val (.int u), .val (.int r), .val (.int o), .val (.int sv), .val (.int iv), .val (.ref b12), .val (.ref b35), .unset, .unset, .unset, .unset, .unset, .unset, .unset, .unset] [(.ref b54)])) _
    refine XS.dup X54.here hx rfl (hb hby at_132) rfl rfl ?_
    show Steps p.tables e below (T54.setTop (mkF m 133 #[.val (.int p0), .val (.int p1), .val (.int p2), .val (.int p3), .val (.int p4), .val (.int u), .val (.int r), .val (.int o), .val (.int sv), .val (.int iv), .val (.ref b12), .val (.ref b35), .unset, .unset, .unset, .unset, .unset, .unset, .unset, .unset] [(.ref b54), (.ref b54)])) _
    refine XS.iconst X54.here hx rfl (hb hby at_133) ?_
    show Steps p.tables e below (T54.setTop (mkF m 134 #[.val (.int p0), .val (.int p1), .val (.int p2), .val (.int p3), .val (.int p4), .val (.int u), .val (.int r), .val (.int o), .val (.int sv), .val (.int iv), .val (.ref b12), .val (.ref b35), .unset, .unset, .unset, .unset, .unset, .unset, .unset, .unset] [(.int (0 : Int32)), (.ref b54), (.ref b54)])) _
    refine XS.dconst1 X54.here hx rfl (hb hby at_134) (v := FP.l2d (1 : Int64)) own_dc1 ?_
    show Steps p.tables e below (T54.setTop (mkF m 135 #[.val (.int p0), .val (.int p1), .val (.int p2), .val (.int p3), .val (.int p4), .val (.int u), .val (.int r), .val (.int o), .val (.int sv), .val (.int iv), .val (.ref b12), .val (.ref b35), .unset, .unset, .unset, .unset, .unset, .unset, .unset, .unset] [(.double (FP.l2d (1 : Int64))), (.int (0 : Int32)), (.ref b54), (.ref b54)])) _
    exact q
  obtain ⟨cl57, Ar57, q57, S57, M57, H57, G57⟩ := V_b54
  obtain ⟨T58, h58, X58, e58, W58, st58⟩ := stD X54 hx hZ e54 Ar57 (j := (0 : Int32)) (inb_of S57 ⟨by decide, by decide⟩) (g := (mkF m 135 #[.val (.int p0), .val (.int p1), .val (.int p2), .val (.int p3), .val (.int p4), .val (.int u), .val (.int r), .val (.int o), .val (.int sv), .val (.int iv), .val (.ref b12), .val (.ref b35), .unset, .unset, .unset, .unset, .unset, .unset, .unset, .unset] [(.double (FP.l2d (1 : Int64))), (.int (0 : Int32)), (.ref b54), (.ref b54)])) rfl rfl (hb hby at_135)
  have k59_ : ∀ t, Steps p.tables e below (T58.setTop (mkF m 136 #[.val (.int p0), .val (.int p1), .val (.int p2), .val (.int p3), .val (.int p4), .val (.int u), .val (.int r), .val (.int o), .val (.int sv), .val (.int iv), .val (.ref b12), .val (.ref b35), .unset, .unset, .unset, .unset, .unset, .unset, .unset, .unset] [(.ref b54)])) t → Steps p.tables e below (s₁.setTop (mkF m 0 #[.val (.int p0), .val (.int p1), .val (.int p2), .val (.int p3), .val (.int p4), .unset, .unset, .unset, .unset, .unset, .unset, .unset, .unset, .unset, .unset, .unset, .unset, .unset, .unset, .unset] [])) t := fun t q => k56_ t (st58 t q)
  have N58 := Fr.snoc X58 N51 g_b54
  replace Zn := Nat.le_trans Zn (Keep.of_wr W58).1
  replace V_b12 := V_b12.other W58 ne_b12_b54
  replace V_b35 := V_b35.other W58 ne_b35_b54
  have V_b54 : Arv Z h58 b54 c54 .double (4 : Int32) [(.double (FP.l2d (1 : Int64))), (.double (FP.l2d (0 : Int64))), (.double (FP.l2d (0 : Int64))), (.double (FP.l2d (0 : Int64)))] (.double (FP.l2d (0 : Int64))) := Arv.set Ar57 q57 S57 M57 H57 G57 rfl W58 0 rfl (Nat.le_of_ble_eq_true rfl)
  have k60_ : ∀ t, Steps p.tables e below (T58.setTop (mkF m 141 #[.val (.int p0), .val (.int p1), .val (.int p2), .val (.int p3), .val (.int p4), .val (.int u), .val (.int r), .val (.int o), .val (.int sv), .val (.int iv), .val (.ref b12), .val (.ref b35), .unset, .unset, .unset, .unset, .unset, .unset, .unset, .unset] [(.double (FP.l2d (2 : Int64))), (.int (1 : Int32)), (.ref b54), (.ref b54)])) t → Steps p.tables e below (s₁.setTop (mkF m 0 #[.val (.int p0), .val (.int p1), .val (.int p2), .val (.int p3), .val (.int p4), .unset, .unset, .unset, .unset, .unset, .unset, .unset, .unset, .unset, .unset, .unset, .unset, .unset, .unset, .unset] [])) t := by
    intro t q
    refine k59_ _ ?_
    show Steps p.tables e below (T58.setTop (mkF m 136 #[.val (.int p0), .val (.int p1), .val (.int p2), .val (.int p3), .val (.int p4), .val (.int u), .val (.int r), .val (.int o), .val (.int sv), .val (.int iv), .val (.ref b12), .val (.ref b35), .unset, .unset, .unset, .unset, .unset, .unset, .unset, .unset] [(.ref b54)])) _
    refine XS.dup X58.here hx rfl (hb hby at_136) rfl rfl ?_
    show Steps p.tables e below (T58.setTop (mkF m 137 #[.val (.int p0), .val (.int p1), .val (.int p2), .val (.int p3), .val (.int p4), .val (.int u), .val (.int r), .val (.int o), .val (.int sv), .val (.int iv), .val (.ref b12), .val (.ref b35), .unset, .unset, .unset, .unset, .unset, .unset, .unset, .unset] [(.ref b54), (.ref b54)])) _
    refine XS.iconst X58.here hx rfl (hb hby at_137) ?_
    show Steps p.tables e below (T58.setTop (mkF m 138 #[.val (.int p0), .val (.int p1), .val (.int p2), .val (.int p3), .val (.int p4), .val (.int u), .val (.int r), .val (.int o), .val (.int sv), .val (.int iv), .val (.ref b12), .val (.ref b35), .unset, .unset, .unset, .unset, .unset, .unset, .unset, .unset] [(.int (1 : Int32)), (.ref b54), (.ref b54)])) _
    refine X58.ldc2DoubleC hx hown (mvT hZ (hw _ (List.mem_of_getElem? (i := 3) rfl))) (g := (mkF m 138 #[.val (.int p0), .val (.int p1), .val (.int p2), .val (.int p3), .val (.int p4), .val (.int u), .val (.int r), .val (.int o), .val (.int sv), .val (.int iv), .val (.ref b12), .val (.ref b35), .unset, .unset, .unset, .unset, .unset, .unset, .unset, .unset] [(.int (1 : Int32)), (.ref b54), (.ref b54)])) rfl (hb hby at_138) _ ?_
    rw [own_c2]
    show Steps p.tables e below (T58.setTop (mkF m 141 #[.val (.int p0), .val (.int p1), .val (.int p2), .val (.int p3), .val (.int p4), .val (.int u), .val (.int r), .val (.int o), .val (.int sv), .val (.int iv), .val (.ref b12), .val (.ref b35), .unset, .unset, .unset, .unset, .unset, .unset, .unset, .unset] [(.double (FP.l2d (2 : Int64))), (.int (1 : Int32)), (.ref b54), (.ref b54)])) _
    exact q
  obtain ⟨cl61, Ar61, q61, S61, M61, H61, G61⟩ := V_b54
  obtain ⟨T62, h62, X62, e62, W62, st62⟩ := stD X58 hx hZ e58 Ar61 (j := (1 : Int32)) (inb_of S61 ⟨by decide, by decide⟩) (g := (mkF m 141 #[.val (.int p0), .val (.int p1), .val (.int p2), .val (.int p3), .val (.int p4), .val (.int u), .val (.int r), .val (.int o), .val (.int sv), .val (.int iv), .val (.ref b12), .val (.ref b35), .unset, .unset, .unset, .unset, .unset, .unset, .unset, .unset] [(.double (FP.l2d (2 : Int64))), (.int (1 : Int32)), (.ref b54), (.ref b54)])) rfl rfl (hb hby at_141)
  have k63_ : ∀ t, Steps p.tables e below (T62.setTop (mkF m 142 #[.val (.int p0), .val (.int p1), .val (.int p2), .val (.int p3), .val (.int p4), .val (.int u), .val (.int r), .val (.int o), .val (.int sv), .val (.int iv), .val (.ref b12), .val (.ref b35), .unset, .unset, .unset, .unset, .unset, .unset, .unset, .unset] [(.ref b54)])) t → Steps p.tables e below (s₁.setTop (mkF m 0 #[.val (.int p0), .val (.int p1), .val (.int p2), .val (.int p3), .val (.int p4), .unset, .unset, .unset, .unset, .unset, .unset, .unset, .unset, .unset, .unset, .unset, .unset, .unset, .unset, .unset] [])) t := fun t q => k60_ t (st62 t q)
  have N62 := Fr.snoc X62 N58 g_b54
  replace Zn := Nat.le_trans Zn (Keep.of_wr W62).1
  replace V_b12 := V_b12.other W62 ne_b12_b54
  replace V_b35 := V_b35.other W62 ne_b35_b54
  have V_b54 : Arv Z h62 b54 c54 .double (4 : Int32) [(.double (FP.l2d (1 : Int64))), (.double (FP.l2d (2 : Int64))), (.double (FP.l2d (0 : Int64))), (.double (FP.l2d (0 : Int64)))] (.double (FP.l2d (0 : Int64))) := Arv.set Ar61 q61 S61 M61 H61 G61 rfl W62 1 rfl (Nat.le_of_ble_eq_true rfl)
  have k64_ : ∀ t, Steps p.tables e below (T62.setTop (mkF m 147 #[.val (.int p0), .val (.int p1), .val (.int p2), .val (.int p3), .val (.int p4), .val (.int u), .val (.int r), .val (.int o), .val (.int sv), .val (.int iv), .val (.ref b12), .val (.ref b35), .unset, .unset, .unset, .unset, .unset, .unset, .unset, .unset] [(.double (FP.l2d (3 : Int64))), (.int (2 : Int32)), (.ref b54), (.ref b54)])) t → Steps p.tables e below (s₁.setTop (mkF m 0 #[.val (.int p0), .val (.int p1), .val (.int p2), .val (.int p3), .val (.int p4), .unset, .unset, .unset, .unset, .unset, .unset, .unset, .unset, .unset, .unset, .unset, .unset, .unset, .unset, .unset] [])) t := by
    intro t q
    refine k63_ _ ?_
    show Steps p.tables e below (T62.setTop (mkF m 142 #[.val (.int p0), .val (.int p1), .val (.int p2), .val (.int p3), .val (.int p4), .val (.int u), .val (.int r), .val (.int o), .val (.int sv), .val (.int iv), .val (.ref b12), .val (.ref b35), .unset, .unset, .unset, .unset, .unset, .unset, .unset, .unset] [(.ref b54)])) _
    refine XS.dup X62.here hx rfl (hb hby at_142) rfl rfl ?_
    show Steps p.tables e below (T62.setTop (mkF m 143 #[.val (.int p0), .val (.int p1), .val (.int p2), .val (.int p3), .val (.int p4), .val (.int u), .val (.int r), .val (.int o), .val (.int sv), .val (.int iv), .val (.ref b12), .val (.ref b35), .unset, .unset, .unset, .unset, .unset, .unset, .unset, .unset] [(.ref b54), (.ref b54)])) _
    refine XS.iconst X62.here hx rfl (hb hby at_143) ?_
    show Steps p.tables e below (T62.setTop (mkF m 144 #[.val (.int p0), .val (.int p1), .val (.int p2), .val (.int p3), .val (.int p4), .val (.int u), .val (.int r), .val (.int o), .val (.int sv), .val (.int iv), .val (.ref b12), .val (.ref b35), .unset, .unset, .unset, .unset, .unset, .unset, .unset, .unset] [(.int (2 : Int32)), (.ref b54), (.ref b54)])) _
    refine X62.ldc2DoubleC hx hown (mvT hZ (hw _ (List.mem_of_getElem? (i := 4) rfl))) (g := (mkF m 144 #[.val (.int p0), .val (.int p1), .val (.int p2), .val (.int p3), .val (.int p4), .val (.int u), .val (.int r), .val (.int o), .val (.int sv), .val (.int iv), .val (.ref b12), .val (.ref b35), .unset, .unset, .unset, .unset, .unset, .unset, .unset, .unset] [(.int (2 : Int32)), (.ref b54), (.ref b54)])) rfl (hb hby at_144) _ ?_
    rw [own_c3]
    show Steps p.tables e below (T62.setTop (mkF m 147 #[.val (.int p0), .val (.int p1), .val (.int p2), .val (.int p3), .val (.int p4), .val (.int u), .val (.int r), .val (.int o), .val (.int sv), .val (.int iv), .val (.ref b12), .val (.ref b35), .unset, .unset, .unset, .unset, .unset, .unset, .unset, .unset] [(.double (FP.l2d (3 : Int64))), (.int (2 : Int32)), (.ref b54), (.ref b54)])) _
    exact q
  obtain ⟨cl65, Ar65, q65, S65, M65, H65, G65⟩ := V_b54
  obtain ⟨T66, h66, X66, e66, W66, st66⟩ := stD X62 hx hZ e62 Ar65 (j := (2 : Int32)) (inb_of S65 ⟨by decide, by decide⟩) (g := (mkF m 147 #[.val (.int p0), .val (.int p1), .val (.int p2), .val (.int p3), .val (.int p4), .val (.int u), .val (.int r), .val (.int o), .val (.int sv), .val (.int iv), .val (.ref b12), .val (.ref b35), .unset, .unset, .unset, .unset, .unset, .unset, .unset, .unset] [(.double (FP.l2d (3 : Int64))), (.int (2 : Int32)), (.ref b54), (.ref b54)])) rfl rfl (hb hby at_147)
  have k67_ : ∀ t, Steps p.tables e below (T66.setTop (mkF m 148 #[.val (.int p0), .val (.int p1), .val (.int p2), .val (.int p3), .val (.int p4), .val (.int u), .val (.int r), .val (.int o), .val (.int sv), .val (.int iv), .val (.ref b12), .val (.ref b35), .unset, .unset, .unset, .unset, .unset, .unset, .unset, .unset] [(.ref b54)])) t → Steps p.tables e below (s₁.setTop (mkF m 0 #[.val (.int p0), .val (.int p1), .val (.int p2), .val (.int p3), .val (.int p4), .unset, .unset, .unset, .unset, .unset, .unset, .unset, .unset, .unset, .unset, .unset, .unset, .unset, .unset, .unset] [])) t := fun t q => k64_ t (st66 t q)
  have N66 := Fr.snoc X66 N62 g_b54
  replace Zn := Nat.le_trans Zn (Keep.of_wr W66).1
  replace V_b12 := V_b12.other W66 ne_b12_b54
  replace V_b35 := V_b35.other W66 ne_b35_b54
  have V_b54 : Arv Z h66 b54 c54 .double (4 : Int32) [(.double (FP.l2d (1 : Int64))), (.double (FP.l2d (2 : Int64))), (.double (FP.l2d (3 : Int64))), (.double (FP.l2d (0 : Int64)))] (.double (FP.l2d (0 : Int64))) := Arv.set Ar65 q65 S65 M65 H65 G65 rfl W66 2 rfl (Nat.le_of_ble_eq_true rfl)
  have k68_ : ∀ t, Steps p.tables e below (T66.setTop (mkF m 153 #[.val (.int p0), .val (.int p1), .val (.int p2), .val (.int p3), .val (.int p4), .val (.int u), .val (.int r), .val (.int o), .val (.int sv), .val (.int iv), .val (.ref b12), .val (.ref b35), .unset, .unset, .unset, .unset, .unset, .unset, .unset, .unset] [(.double (FP.l2d (4 : Int64))), (.int (3 : Int32)), (.ref b54), (.ref b54)])) t → Steps p.tables e below (s₁.setTop (mkF m 0 #[.val (.int p0), .val (.int p1), .val (.int p2), .val (.int p3), .val (.int p4), .unset, .unset, .unset, .unset, .unset, .unset, .unset, .unset, .unset, .unset, .unset, .unset, .unset, .unset, .unset] [])) t := by
    intro t q
    refine k67_ _ ?_
    show Steps p.tables e below (T66.setTop (mkF m 148 #[.val (.int p0), .val (.int p1), .val (.int p2), .val (.int p3), .val (.int p4), .val (.int u), .val (.int r), .val (.int o), .val (.int sv), .val (.int iv), .val (.ref b12), .val (.ref b35), .unset, .unset, .unset, .unset, .unset, .unset, .unset, .unset] [(.ref b54)])) _
    refine XS.dup X66.here hx rfl (hb hby at_148) rfl rfl ?_
    show Steps p.tables e below (T66.setTop (mkF m 149 #[.val (.int p0), .val (.int p1), .val (.int p2), .val (.int p3), .val (.int p4), .val (.int u), .val (.int r), .val (.int o), .val (.int sv), .val (.int iv), .val (.ref b12), .val (.ref b35), .unset, .unset, .unset, .unset, .unset, .unset, .unset, .unset] [(.ref b54), (.ref b54)])) _
    refine XS.iconst X66.here hx rfl (hb hby at_149) ?_
    show Steps p.tables e below (T66.setTop (mkF m 150 #[.val (.int p0), .val (.int p1), .val (.int p2), .val (.int p3), .val (.int p4), .val (.int u), .val (.int r), .val (.int o), .val (.int sv), .val (.int iv), .val (.ref b12), .val (.ref b35), .unset, .unset, .unset, .unset, .unset, .unset, .unset, .unset] [(.int (3 : Int32)), (.ref b54), (.ref b54)])) _
    refine X66.ldc2DoubleC hx hown (mvT hZ (hw _ (List.mem_of_getElem? (i := 5) rfl))) (g := (mkF m 150 #[.val (.int p0), .val (.int p1), .val (.int p2), .val (.int p3), .val (.int p4), .val (.int u), .val (.int r), .val (.int o), .val (.int sv), .val (.int iv), .val (.ref b12), .val (.ref b35), .unset, .unset, .unset, .unset, .unset, .unset, .unset, .unset] [(.int (3 : Int32)), (.ref b54), (.ref b54)])) rfl (hb hby at_150) _ ?_
    rw [own_c4]
    show Steps p.tables e below (T66.setTop (mkF m 153 #[.val (.int p0), .val (.int p1), .val (.int p2), .val (.int p3), .val (.int p4), .val (.int u), .val (.int r), .val (.int o), .val (.int sv), .val (.int iv), .val (.ref b12), .val (.ref b35), .unset, .unset, .unset, .unset, .unset, .unset, .unset, .unset] [(.double (FP.l2d (4 : Int64))), (.int (3 : Int32)), (.ref b54), (.ref b54)])) _
    exact q
  obtain ⟨cl69, Ar69, q69, S69, M69, H69, G69⟩ := V_b54
  obtain ⟨T70, h70, X70, e70, W70, st70⟩ := stD X66 hx hZ e66 Ar69 (j := (3 : Int32)) (inb_of S69 ⟨by decide, by decide⟩) (g := (mkF m 153 #[.val (.int p0), .val (.int p1), .val (.int p2), .val (.int p3), .val (.int p4), .val (.int u), .val (.int r), .val (.int o), .val (.int sv), .val (.int iv), .val (.ref b12), .val (.ref b35), .unset, .unset, .unset, .unset, .unset, .unset, .unset, .unset] [(.double (FP.l2d (4 : Int64))), (.int (3 : Int32)), (.ref b54), (.ref b54)])) rfl rfl (hb hby at_153)
  have k71_ : ∀ t, Steps p.tables e below (T70.setTop (mkF m 154 #[.val (.int p0), .val (.int p1), .val (.int p2), .val (.int p3), .val (.int p4), .val (.int u), .val (.int r), .val (.int o), .val (.int sv), .val (.int iv), .val (.ref b12), .val (.ref b35), .unset, .unset, .unset, .unset, .unset, .unset, .unset, .unset] [(.ref b54)])) t → Steps p.tables e below (s₁.setTop (mkF m 0 #[.val (.int p0), .val (.int p1), .val (.int p2), .val (.int p3), .val (.int p4), .unset, .unset, .unset, .unset, .unset, .unset, .unset, .unset, .unset, .unset, .unset, .unset, .unset, .unset, .unset] [])) t := fun t q => k68_ t (st70 t q)
  have N70 := Fr.snoc X70 N66 g_b54
  replace Zn := Nat.le_trans Zn (Keep.of_wr W70).1
  replace V_b12 := V_b12.other W70 ne_b12_b54
  replace V_b35 := V_b35.other W70 ne_b35_b54
  have V_b54 : Arv Z h70 b54 c54 .double (4 : Int32) [(.double (FP.l2d (1 : Int64))), (.double (FP.l2d (2 : Int64))), (.double (FP.l2d (3 : Int64))), (.double (FP.l2d (4 : Int64)))] (.double (FP.l2d (0 : Int64))) := Arv.set Ar69 q69 S69 M69 H69 G69 rfl W70 3 rfl (Nat.le_of_ble_eq_true rfl)
  replace V_b54 : Arv Z h70 b54 c54 .double (4 : Int32) (own_d0.map own_dv) (.double (FP.l2d (0 : Int64))) := V_b54
  have k72_ : ∀ t, Steps p.tables e below (T70.setTop (mkF m 175 #[.val (.int p0), .val (.int p1), .val (.int p2), .val (.int p3), .val (.int p4), .val (.int u), .val (.int r), .val (.int o), .val (.int sv), .val (.int iv), .val (.ref b12), .val (.ref b35), .val (.ref b54), .val (.double (FP.l2d (p4.toInt64))), .second, .unset, .unset, .unset, .unset, .unset] [(.ref b54), (.ref b35), (.double (FP.l2d (p4.toInt64))), (.int u), (.int o), (.int r), (.ref b12)])) t → Steps p.tables e below (s₁.setTop (mkF m 0 #[.val (.int p0), .val (.int p1), .val (.int p2), .val (.int p3), .val (.int p4), .unset, .unset, .unset, .unset, .unset, .unset, .unset, .unset, .unset, .unset, .unset, .unset, .unset, .unset, .unset] [])) t := by
    intro t q
    refine k71_ _ ?_
    show Steps p.tables e below (T70.setTop (mkF m 154 #[.val (.int p0), .val (.int p1), .val (.int p2), .val (.int p3), .val (.int p4), .val (.int u), .val (.int r), .val (.int o), .val (.int sv), .val (.int iv), .val (.ref b12), .val (.ref b35), .unset, .unset, .unset, .unset, .unset, .unset, .unset, .unset] [(.ref b54)])) _
    refine XS.astore X70.here hx rfl (hb hby at_154) rfl rfl (l' := #[.val (.int p0), .val (.int p1), .val (.int p2), .val (.int p3), .val (.int p4), .val (.int u), .val (.int r), .val (.int o), .val (.int sv), .val (.int iv), .val (.ref b12), .val (.ref b35), .val (.ref b54), .unset, .unset, .unset, .unset, .unset, .unset, .unset]) rfl ?_
    show Steps p.tables e below (T70.setTop (mkF m 156 #[.val (.int p0), .val (.int p1), .val (.int p2), .val (.int p3), .val (.int p4), .val (.int u), .val (.int r), .val (.int o), .val (.int sv), .val (.int iv), .val (.ref b12), .val (.ref b35), .val (.ref b54), .unset, .unset, .unset, .unset, .unset, .unset, .unset] [])) _
    refine XS.iload X70.here hx rfl (hb hby at_156) rfl ?_
    show Steps p.tables e below (T70.setTop (mkF m 158 #[.val (.int p0), .val (.int p1), .val (.int p2), .val (.int p3), .val (.int p4), .val (.int u), .val (.int r), .val (.int o), .val (.int sv), .val (.int iv), .val (.ref b12), .val (.ref b35), .val (.ref b54), .unset, .unset, .unset, .unset, .unset, .unset, .unset] [(.int p4)])) _
    refine XS.i2dS X70.here hx rfl (hb hby at_158) rfl (v := FP.l2d (p4.toInt64)) (i2d_w _) ?_
    show Steps p.tables e below (T70.setTop (mkF m 159 #[.val (.int p0), .val (.int p1), .val (.int p2), .val (.int p3), .val (.int p4), .val (.int u), .val (.int r), .val (.int o), .val (.int sv), .val (.int iv), .val (.ref b12), .val (.ref b35), .val (.ref b54), .unset, .unset, .unset, .unset, .unset, .unset, .unset] [(.double (FP.l2d (p4.toInt64)))])) _
    refine XS.dstore X70.here hx rfl (hb hby at_159) rfl (l' := #[.val (.int p0), .val (.int p1), .val (.int p2), .val (.int p3), .val (.int p4), .val (.int u), .val (.int r), .val (.int o), .val (.int sv), .val (.int iv), .val (.ref b12), .val (.ref b35), .val (.ref b54), .val (.double (FP.l2d (p4.toInt64))), .second, .unset, .unset, .unset, .unset, .unset]) rfl ?_
    show Steps p.tables e below (T70.setTop (mkF m 161 #[.val (.int p0), .val (.int p1), .val (.int p2), .val (.int p3), .val (.int p4), .val (.int u), .val (.int r), .val (.int o), .val (.int sv), .val (.int iv), .val (.ref b12), .val (.ref b35), .val (.ref b54), .val (.double (FP.l2d (p4.toInt64))), .second, .unset, .unset, .unset, .unset, .unset] [])) _
    refine XS.aload X70.here hx rfl (hb hby at_161) rfl rfl ?_
    show Steps p.tables e below (T70.setTop (mkF m 163 #[.val (.int p0), .val (.int p1), .val (.int p2), .val (.int p3), .val (.int p4), .val (.int u), .val (.int r), .val (.int o), .val (.int sv), .val (.int iv), .val (.ref b12), .val (.ref b35), .val (.ref b54), .val (.double (FP.l2d (p4.toInt64))), .second, .unset, .unset, .unset, .unset, .unset] [(.ref b12)])) _
    refine XS.iload X70.here hx rfl (hb hby at_163) rfl ?_
    show Steps p.tables e below (T70.setTop (mkF m 165 #[.val (.int p0), .val (.int p1), .val (.int p2), .val (.int p3), .val (.int p4), .val (.int u), .val (.int r), .val (.int o), .val (.int sv), .val (.int iv), .val (.ref b12), .val (.ref b35), .val (.ref b54), .val (.double (FP.l2d (p4.toInt64))), .second, .unset, .unset, .unset, .unset, .unset] [(.int r), (.ref b12)])) _
    refine XS.iload X70.here hx rfl (hb hby at_165) rfl ?_
    show Steps p.tables e below (T70.setTop (mkF m 167 #[.val (.int p0), .val (.int p1), .val (.int p2), .val (.int p3), .val (.int p4), .val (.int u), .val (.int r), .val (.int o), .val (.int sv), .val (.int iv), .val (.ref b12), .val (.ref b35), .val (.ref b54), .val (.double (FP.l2d (p4.toInt64))), .second, .unset, .unset, .unset, .unset, .unset] [(.int o), (.int r), (.ref b12)])) _
    refine XS.iload X70.here hx rfl (hb hby at_167) rfl ?_
    show Steps p.tables e below (T70.setTop (mkF m 169 #[.val (.int p0), .val (.int p1), .val (.int p2), .val (.int p3), .val (.int p4), .val (.int u), .val (.int r), .val (.int o), .val (.int sv), .val (.int iv), .val (.ref b12), .val (.ref b35), .val (.ref b54), .val (.double (FP.l2d (p4.toInt64))), .second, .unset, .unset, .unset, .unset, .unset] [(.int u), (.int o), (.int r), (.ref b12)])) _
    refine XS.dload X70.here hx rfl (hb hby at_169) rfl ?_
    show Steps p.tables e below (T70.setTop (mkF m 171 #[.val (.int p0), .val (.int p1), .val (.int p2), .val (.int p3), .val (.int p4), .val (.int u), .val (.int r), .val (.int o), .val (.int sv), .val (.int iv), .val (.ref b12), .val (.ref b35), .val (.ref b54), .val (.double (FP.l2d (p4.toInt64))), .second, .unset, .unset, .unset, .unset, .unset] [(.double (FP.l2d (p4.toInt64))), (.int u), (.int o), (.int r), (.ref b12)])) _
    refine XS.aload X70.here hx rfl (hb hby at_171) rfl rfl ?_
    show Steps p.tables e below (T70.setTop (mkF m 173 #[.val (.int p0), .val (.int p1), .val (.int p2), .val (.int p3), .val (.int p4), .val (.int u), .val (.int r), .val (.int o), .val (.int sv), .val (.int iv), .val (.ref b12), .val (.ref b35), .val (.ref b54), .val (.double (FP.l2d (p4.toInt64))), .second, .unset, .unset, .unset, .unset, .unset] [(.ref b35), (.double (FP.l2d (p4.toInt64))), (.int u), (.int o), (.int r), (.ref b12)])) _
    refine XS.aload X70.here hx rfl (hb hby at_173) rfl rfl ?_
    show Steps p.tables e below (T70.setTop (mkF m 175 #[.val (.int p0), .val (.int p1), .val (.int p2), .val (.int p3), .val (.int p4), .val (.int u), .val (.int r), .val (.int o), .val (.int sv), .val (.int iv), .val (.ref b12), .val (.ref b35), .val (.ref b54), .val (.double (FP.l2d (p4.toInt64))), .second, .unset, .unset, .unset, .unset, .unset] [(.ref b54), (.ref b35), (.double (FP.l2d (p4.toInt64))), (.int u), (.int o), (.int r), (.ref b12)])) _
    exact q
  rcases hsi with ⟨hi, hs1⟩ | ⟨hi, hs1, hs2, hs3⟩
  · obtain ⟨_, _, ⟨T73, L73, kk73, n73⟩, -, X73, ⟨Lc73, hQ73, l73, y73, z73⟩, st73⟩ := Jvm.LawKit.callS X70 hx (y := (⟨"com/example/weir/weir/kway/Graph", "addToRow", "([IIIID[I[D)I"⟩ : MethodName)) hown (mvT hZ (hw _ (List.mem_of_getElem? (i := 6) rfl))) (mvT hZ (hw _ (List.mem_of_getElem? (i := 7) rfl))) (mvT hZ (hw _ (List.mem_of_getElem? (i := 8) rfl))) (mvT hZ (hw _ (List.mem_of_getElem? (i := 9) rfl))) (by decide) (backOf (W := 0) (rmB l Z a0 hw [] b12 r o u (p4.toInt64) b35 b54 c12 c35 c54 (own_x0.set u.toNatClampNeg sv) own_n0 own_d0 sv h70 n0 Zn V_b12 V_b35 V_b54 (show (own_x0.set u.toNatClampNeg sv).length = 4 from List.length_set) rfl rfl hu.1 hu.2 (own_set_get rfl hu.1 hu.2) hs1 ho0 ho4 g_b12 g_b35 g_b54 ne_b12_b35 ne_b12_b54 ne_b35_b54) hZ (hw _ (List.mem_of_getElem? (i := 9) rfl)) (hw _ (List.mem_of_getElem? (i := 8) rfl)) (by decide) (by decide)) (g := (mkF m 175 #[.val (.int p0), .val (.int p1), .val (.int p2), .val (.int p3), .val (.int p4), .val (.int u), .val (.int r), .val (.int o), .val (.int sv), .val (.int iv), .val (.ref b12), .val (.ref b35), .val (.ref b54), .val (.double (FP.l2d (p4.toInt64))), .second, .unset, .unset, .unset, .unset, .unset] [(.ref b54), (.ref b35), (.double (FP.l2d (p4.toInt64))), (.int u), (.int o), (.int r), (.ref b12)])) rfl (by rw [hml]; rfl) (argsL := [(.ref b12), (.int r), (.int o), (.int u), (.double (FP.l2d (p4.toInt64))), (.ref b35), (.ref b54)]) (rest := []) (lenOf pd_77915 rfl) rfl (by show 2 * 0 + _ ≤ _; exact Nat.le_of_eq rfl) (hb hby at_175) (fun _ _ => ⟨rfl, e70, (by decide : 0 + 1 + 1 + 1 + 0 ≤ _), (by decide : 0 + 4 + 4 + 4 + 0 ≤ _)⟩)
    dsimp only [Pt.U, Pt.locs, Pt.cells, Pt.slots] at X73 l73 y73 z73 st73 hQ73
    rw [l73, y73, z73] at X73
    obtain ⟨rfl, Nq73, KC, VC1, VC2, VC3⟩ := hQ73
    have N73 := Fr.app N70 Nq73
    have k74_ : ∀ t, Steps p.tables e below (T73.setTop (mkF m 178 #[.val (.int p0), .val (.int p1), .val (.int p2), .val (.int p3), .val (.int p4), .val (.int u), .val (.int r), .val (.int o), .val (.int sv), .val (.int iv), .val (.ref b12), .val (.ref b35), .val (.ref b54), .val (.double (FP.l2d (p4.toInt64))), .second, .unset, .unset, .unset, .unset, .unset] [(.int (o + (1 : Int32)))])) t → Steps p.tables e below (s₁.setTop (mkF m 0 #[.val (.int p0), .val (.int p1), .val (.int p2), .val (.int p3), .val (.int p4), .unset, .unset, .unset, .unset, .unset, .unset, .unset, .unset, .unset, .unset, .unset, .unset, .unset, .unset, .unset] [])) t := fun t q => k72_ t (st73 t q)
    replace V_b12 := VC1
    replace V_b35 := VC2
    replace V_b54 := VC3
    replace Zn := Nat.le_trans Zn KC.1
    have k75_ : ∀ t, Steps p.tables e below (T73.setTop (mkF m 181 #[.val (.int p0), .val (.int p1), .val (.int p2), .val (.int p3), .val (.int p4), .val (.int u), .val (.int r), .val (.int o), .val (.int sv), .val (.int iv), .val (.ref b12), .val (.ref b35), .val (.ref b54), .val (.double (FP.l2d (p4.toInt64))), .second, .val (.int (o + (1 : Int32))), .unset, .unset, .unset, .unset] [(.int (4 : Int32))])) t → Steps p.tables e below (s₁.setTop (mkF m 0 #[.val (.int p0), .val (.int p1), .val (.int p2), .val (.int p3), .val (.int p4), .unset, .unset, .unset, .unset, .unset, .unset, .unset, .unset, .unset, .unset, .unset, .unset, .unset, .unset, .unset] [])) t := by
      intro t q
      refine k74_ _ ?_
      show Steps p.tables e below (T73.setTop (mkF m 178 #[.val (.int p0), .val (.int p1), .val (.int p2), .val (.int p3), .val (.int p4), .val (.int u), .val (.int r), .val (.int o), .val (.int sv), .val (.int iv), .val (.ref b12), .val (.ref b35), .val (.ref b54), .val (.double (FP.l2d (p4.toInt64))), .second, .unset, .unset, .unset, .unset, .unset] [(.int (o + (1 : Int32)))])) _
      refine XS.istore X73.here hx rfl (hb hby at_178) rfl (l' := #[.val (.int p0), .val (.int p1), .val (.int p2), .val (.int p3), .val (.int p4), .val (.int u), .val (.int r), .val (.int o), .val (.int sv), .val (.int iv), .val (.ref b12), .val (.ref b35), .val (.ref b54), .val (.double (FP.l2d (p4.toInt64))), .second, .val (.int (o + (1 : Int32))), .unset, .unset, .unset, .unset]) rfl ?_
      show Steps p.tables e below (T73.setTop (mkF m 180 #[.val (.int p0), .val (.int p1), .val (.int p2), .val (.int p3), .val (.int p4), .val (.int u), .val (.int r), .val (.int o), .val (.int sv), .val (.int iv), .val (.ref b12), .val (.ref b35), .val (.ref b54), .val (.double (FP.l2d (p4.toInt64))), .second, .val (.int (o + (1 : Int32))), .unset, .unset, .unset, .unset] [])) _
      refine XS.iconst X73.here hx rfl (hb hby at_180) ?_
      show Steps p.tables e below (T73.setTop (mkF m 181 #[.val (.int p0), .val (.int p1), .val (.int p2), .val (.int p3), .val (.int p4), .val (.int u), .val (.int r), .val (.int o), .val (.int sv), .val (.int iv), .val (.ref b12), .val (.ref b35), .val (.ref b54), .val (.double (FP.l2d (p4.toInt64))), .second, .val (.int (o + (1 : Int32))), .unset, .unset, .unset, .unset] [(.int (4 : Int32))])) _
      exact q
    obtain ⟨T76, h76, c76, X76, e76, E76, A76, st76⟩ := newP X73 hx hZ (hw _ (List.mem_of_getElem? (i := 1) rfl)) rfl (g := (mkF m 181 #[.val (.int p0), .val (.int p1), .val (.int p2), .val (.int p3), .val (.int p4), .val (.int u), .val (.int r), .val (.int o), .val (.int sv), .val (.int iv), .val (.ref b12), .val (.ref b35), .val (.ref b54), .val (.double (FP.l2d (p4.toInt64))), .second, .val (.int (o + (1 : Int32))), .unset, .unset, .unset, .unset] [(.int (4 : Int32))])) rfl (hb hby at_181) rfl (by decide) (cap := 4) (by decide) (by decide) (by decide) (by decide)
    obtain ⟨b76, g76⟩ : ∃ z, z = T73.heap.size := ⟨_, rfl⟩
    rw [← g76] at A76 st76
    have k77_ : ∀ t, Steps p.tables e below (T76.setTop (mkF m 183 #[.val (.int p0), .val (.int p1), .val (.int p2), .val (.int p3), .val (.int p4), .val (.int u), .val (.int r), .val (.int o), .val (.int sv), .val (.int iv), .val (.ref b12), .val (.ref b35), .val (.ref b54), .val (.double (FP.l2d (p4.toInt64))), .second, .val (.int (o + (1 : Int32))), .unset, .unset, .unset, .unset] [(.ref b76)])) t → Steps p.tables e below (s₁.setTop (mkF m 0 #[.val (.int p0), .val (.int p1), .val (.int p2), .val (.int p3), .val (.int p4), .unset, .unset, .unset, .unset, .unset, .unset, .unset, .unset, .unset, .unset, .unset, .unset, .unset, .unset, .unset] [])) t := fun t q => k75_ t (st76 t q)
    have ne_b12_b76 : b12 ≠ b76 := Nat.ne_of_lt (Nat.lt_of_lt_of_le V_b12.lt (Nat.le_of_eq g76.symm))
    have ne_b35_b76 : b35 ≠ b76 := Nat.ne_of_lt (Nat.lt_of_lt_of_le V_b35.lt (Nat.le_of_eq g76.symm))
    have ne_b54_b76 : b54 ≠ b76 := Nat.ne_of_lt (Nat.lt_of_lt_of_le V_b54.lt (Nat.le_of_eq g76.symm))
    have g_b76 : n0 ≤ b76 := Nat.le_trans Zn (Nat.le_of_eq g76.symm)
    replace Zn := Nat.le_trans Zn E76.1
    replace V_b12 := V_b12.ext E76
    replace V_b35 := V_b35.ext E76
    replace V_b54 := V_b54.ext E76
    have V_b76 : Arv Z h76 b76 c76 .int (4 : Int32) [(.int (0 : Int32)), (.int (0 : Int32)), (.int (0 : Int32)), (.int (0 : Int32))] (.int (0 : Int32)) := (Arv.new A76 (by decide)).pad (pad_rep [] (.int (0 : Int32)) 4)
    have k78_ : ∀ t, Steps p.tables e below (T76.setTop (mkF m 186 #[.val (.int p0), .val (.int p1), .val (.int p2), .val (.int p3), .val (.int p4), .val (.int u), .val (.int r), .val (.int o), .val (.int sv), .val (.int iv), .val (.ref b12), .val (.ref b35), .val (.ref b54), .val (.double (FP.l2d (p4.toInt64))), .second, .val (.int (o + (1 : Int32))), .unset, .unset, .unset, .unset] [(.int (-1 : Int32)), (.int (0 : Int32)), (.ref b76), (.ref b76)])) t → Steps p.tables e below (s₁.setTop (mkF m 0 #[.val (.int p0), .val (.int p1), .val (.int p2), .val (.int p3), .val (.int p4), .unset, .unset, .unset, .unset, .unset, .unset, .unset, .unset, .unset, .unset, .unset, .unset, .unset, .unset, .unset] [])) t := by
      intro t q
      refine k77_ _ ?_
      show Steps p.tables e below (T76.setTop (mkF m 183 #[.val (.int p0), .val (.int p1), .val (.int p2), .val (.int p3), .val (.int p4), .val (.int u), .val (.int r), .val (.int o), .val (.int sv), .val (.int iv), .val (.ref b12), .val (.ref b35), .val (.ref b54), .val (.double (FP.l2d (p4.toInt64))), .second, .val (.int (o + (1 : Int32))), .unset, .unset, .unset, .unset] [(.ref b76)])) _
      refine XS.dup X76.here hx rfl (hb hby at_183) rfl rfl ?_
      show Steps p.tables e below (T76.setTop (mkF m 184 #[.val (.int p0), .val (.int p1), .val (.int p2), .val (.int p3), .val (.int p4), .val (.int u), .val (.int r), .val (.int o), .val (.int sv), .val (.int iv), .val (.ref b12), .val (.ref b35), .val (.ref b54), .val (.double (FP.l2d (p4.toInt64))), .second, .val (.int (o + (1 : Int32))), .unset, .unset, .unset, .unset] [(.ref b76), (.ref b76)])) _
      refine XS.iconst X76.here hx rfl (hb hby at_184) ?_
      show Steps p.tables e below (T76.setTop (mkF m 185 #[.val (.int p0), .val (.int p1), .val (.int p2), .val (.int p3), .val (.int p4), .val (.int u), .val (.int r), .val (.int o), .val (.int sv), .val (.int iv), .val (.ref b12), .val (.ref b35), .val (.ref b54), .val (.double (FP.l2d (p4.toInt64))), .second, .val (.int (o + (1 : Int32))), .unset, .unset, .unset, .unset] [(.int (0 : Int32)), (.ref b76), (.ref b76)])) _
      refine XS.iconst X76.here hx rfl (hb hby at_185) ?_
      show Steps p.tables e below (T76.setTop (mkF m 186 #[.val (.int p0), .val (.int p1), .val (.int p2), .val (.int p3), .val (.int p4), .val (.int u), .val (.int r), .val (.int o), .val (.int sv), .val (.int iv), .val (.ref b12), .val (.ref b35), .val (.ref b54), .val (.double (FP.l2d (p4.toInt64))), .second, .val (.int (o + (1 : Int32))), .unset, .unset, .unset, .unset] [(.int (-1 : Int32)), (.int (0 : Int32)), (.ref b76), (.ref b76)])) _
      exact q
    obtain ⟨cl79, Ar79, q79, S79, M79, H79, G79⟩ := V_b76
    obtain ⟨T80, h80, X80, e80, W80, st80⟩ := stI X76 hx hZ e76 Ar79 (j := (0 : Int32)) (inb_of S79 ⟨by decide, by decide⟩) (g := (mkF m 186 #[.val (.int p0), .val (.int p1), .val (.int p2), .val (.int p3), .val (.int p4), .val (.int u), .val (.int r), .val (.int o), .val (.int sv), .val (.int iv), .val (.ref b12), .val (.ref b35), .val (.ref b54), .val (.double (FP.l2d (p4.toInt64))), .second, .val (.int (o + (1 : Int32))), .unset, .unset, .unset, .unset] [(.int (-1 : Int32)), (.int (0 : Int32)), (.ref b76), (.ref b76)])) rfl rfl (hb hby at_186)
    have k81_ : ∀ t, Steps p.tables e below (T80.setTop (mkF m 187 #[.val (.int p0), .val (.int p1), .val (.int p2), .val (.int p3), .val (.int p4), .val (.int u), .val (.int r), .val (.int o), .val (.int sv), .val (.int iv), .val (.ref b12), .val (.ref b35), .val (.ref b54), .val (.double (FP.l2d (p4.toInt64))), .second, .val (.int (o + (1 : Int32))), .unset, .unset, .unset, .unset] [(.ref b76)])) t → Steps p.tables e below (s₁.setTop (mkF m 0 #[.val (.int p0), .val (.int p1), .val (.int p2), .val (.int p3), .val (.int p4), .unset, .unset, .unset, .unset, .unset, .unset, .unset, .unset, .unset, .unset, .unset, .unset, .unset, .unset, .unset] [])) t := fun t q => k78_ t (st80 t q)
    have N80 := Fr.snoc X80 N73 g_b76
    replace Zn := Nat.le_trans Zn (Keep.of_wr W80).1
    replace V_b12 := V_b12.other W80 ne_b12_b76
    replace V_b35 := V_b35.other W80 ne_b35_b76
    replace V_b54 := V_b54.other W80 ne_b54_b76
    have V_b76 : Arv Z h80 b76 c76 .int (4 : Int32) [(.int (-1 : Int32)), (.int (0 : Int32)), (.int (0 : Int32)), (.int (0 : Int32))] (.int (0 : Int32)) := Arv.set Ar79 q79 S79 M79 H79 G79 rfl W80 0 rfl (Nat.le_of_ble_eq_true rfl)
    have k82_ : ∀ t, Steps p.tables e below (T80.setTop (mkF m 191 #[.val (.int p0), .val (.int p1), .val (.int p2), .val (.int p3), .val (.int p4), .val (.int u), .val (.int r), .val (.int o), .val (.int sv), .val (.int iv), .val (.ref b12), .val (.ref b35), .val (.ref b54), .val (.double (FP.l2d (p4.toInt64))), .second, .val (.int (o + (1 : Int32))), .unset, .unset, .unset, .unset] [(.int (-2 : Int32)), (.int (1 : Int32)), (.ref b76), (.ref b76)])) t → Steps p.tables e below (s₁.setTop (mkF m 0 #[.val (.int p0), .val (.int p1), .val (.int p2), .val (.int p3), .val (.int p4), .unset, .unset, .unset, .unset, .unset, .unset, .unset, .unset, .unset, .unset, .unset, .unset, .unset, .unset, .unset] [])) t := by
      intro t q
      refine k81_ _ ?_
      show Steps p.tables e below (T80.setTop (mkF m 187 #[.val (.int p0), .val (.int p1), .val (.int p2), .val (.int p3), .val (.int p4), .val (.int u), .val (.int r), .val (.int o), .val (.int sv), .val (.int iv), .val (.ref b12), .val (.ref b35), .val (.ref b54), .val (.double (FP.l2d (p4.toInt64))), .second, .val (.int (o + (1 : Int32))), .unset, .unset, .unset, .unset] [(.ref b76)])) _
      refine XS.dup X80.here hx rfl (hb hby at_187) rfl rfl ?_
      show Steps p.tables e below (T80.setTop (mkF m 188 #[.val (.int p0), .val (.int p1), .val (.int p2), .val (.int p3), .val (.int p4), .val (.int u), .val (.int r), .val (.int o), .val (.int sv), .val (.int iv), .val (.ref b12), .val (.ref b35), .val (.ref b54), .val (.double (FP.l2d (p4.toInt64))), .second, .val (.int (o + (1 : Int32))), .unset, .unset, .unset, .unset] [(.ref b76), (.ref b76)])) _
      refine XS.iconst X80.here hx rfl (hb hby at_188) ?_
      show Steps p.tables e below (T80.setTop (mkF m 189 #[.val (.int p0), .val (.int p1), .val (.int p2), .val (.int p3), .val (.int p4), .val (.int u), .val (.int r), .val (.int o), .val (.int sv), .val (.int iv), .val (.ref b12), .val (.ref b35), .val (.ref b54), .val (.double (FP.l2d (p4.toInt64))), .second, .val (.int (o + (1 : Int32))), .unset, .unset, .unset, .unset] [(.int (1 : Int32)), (.ref b76), (.ref b76)])) _
      refine XS.bipush X80.here hx rfl (hb hby at_189) ?_
      show Steps p.tables e below (T80.setTop (mkF m 191 #[.val (.int p0), .val (.int p1), .val (.int p2), .val (.int p3), .val (.int p4), .val (.int u), .val (.int r), .val (.int o), .val (.int sv), .val (.int iv), .val (.ref b12), .val (.ref b35), .val (.ref b54), .val (.double (FP.l2d (p4.toInt64))), .second, .val (.int (o + (1 : Int32))), .unset, .unset, .unset, .unset] [(.int (-2 : Int32)), (.int (1 : Int32)), (.ref b76), (.ref b76)])) _
      exact q
    obtain ⟨cl83, Ar83, q83, S83, M83, H83, G83⟩ := V_b76
    obtain ⟨T84, h84, X84, e84, W84, st84⟩ := stI X80 hx hZ e80 Ar83 (j := (1 : Int32)) (inb_of S83 ⟨by decide, by decide⟩) (g := (mkF m 191 #[.val (.int p0), .val (.int p1), .val (.int p2), .val (.int p3), .val (.int p4), .val (.int u), .val (.int r), .val (.int o), .val (.int sv), .val (.int iv), .val (.ref b12), .val (.ref b35), .val (.ref b54), .val (.double (FP.l2d (p4.toInt64))), .second, .val (.int (o + (1 : Int32))), .unset, .unset, .unset, .unset] [(.int (-2 : Int32)), (.int (1 : Int32)), (.ref b76), (.ref b76)])) rfl rfl (hb hby at_191)
    have k85_ : ∀ t, Steps p.tables e below (T84.setTop (mkF m 192 #[.val (.int p0), .val (.int p1), .val (.int p2), .val (.int p3), .val (.int p4), .val (.int u), .val (.int r), .val (.int o), .val (.int sv), .val (.int iv), .val (.ref b12), .val (.ref b35), .val (.ref b54), .val (.double (FP.l2d (p4.toInt64))), .second, .val (.int (o + (1 : Int32))), .unset, .unset, .unset, .unset] [(.ref b76)])) t → Steps p.tables e below (s₁.setTop (mkF m 0 #[.val (.int p0), .val (.int p1), .val (.int p2), .val (.int p3), .val (.int p4), .unset, .unset, .unset, .unset, .unset, .unset, .unset, .unset, .unset, .unset, .unset, .unset, .unset, .unset, .unset] [])) t := fun t q => k82_ t (st84 t q)
    have N84 := Fr.snoc X84 N80 g_b76
    replace Zn := Nat.le_trans Zn (Keep.of_wr W84).1
    replace V_b12 := V_b12.other W84 ne_b12_b76
    replace V_b35 := V_b35.other W84 ne_b35_b76
    replace V_b54 := V_b54.other W84 ne_b54_b76
    have V_b76 : Arv Z h84 b76 c76 .int (4 : Int32) [(.int (-1 : Int32)), (.int (-2 : Int32)), (.int (0 : Int32)), (.int (0 : Int32))] (.int (0 : Int32)) := Arv.set Ar83 q83 S83 M83 H83 G83 rfl W84 1 rfl (Nat.le_of_ble_eq_true rfl)
    have k86_ : ∀ t, Steps p.tables e below (T84.setTop (mkF m 196 #[.val (.int p0), .val (.int p1), .val (.int p2), .val (.int p3), .val (.int p4), .val (.int u), .val (.int r), .val (.int o), .val (.int sv), .val (.int iv), .val (.ref b12), .val (.ref b35), .val (.ref b54), .val (.double (FP.l2d (p4.toInt64))), .second, .val (.int (o + (1 : Int32))), .unset, .unset, .unset, .unset] [(.int (-3 : Int32)), (.int (2 : Int32)), (.ref b76), (.ref b76)])) t → Steps p.tables e below (s₁.setTop (mkF m 0 #[.val (.int p0), .val (.int p1), .val (.int p2), .val (.int p3), .val (.int p4), .unset, .unset, .unset, .unset, .unset, .unset, .unset, .unset, .unset, .unset, .unset, .unset, .unset, .unset, .unset] [])) t := by
      intro t q
      refine k85_ _ ?_
      show Steps p.tables e below (T84.setTop (mkF m 192 #[.val (.int p0), .val (.int p1), .val (.int p2), .val (.int p3), .val (.int p4), .val (.int u), .val (.int r), .val (.int o), .val (.int sv), .val (.int iv), .val (.ref b12), .val (.ref b35), .val (.ref b54), .val (.double (FP.l2d (p4.toInt64))), .second, .val (.int (o + (1 : Int32))), .unset, .unset, .unset, .unset] [(.ref b76)])) _
      refine XS.dup X84.here hx rfl (hb hby at_192) rfl rfl ?_
      show Steps p.tables e below (T84.setTop (mkF m 193 #[.val (.int p0), .val (.int p1), .val (.int p2), .val (.int p3), .val (.int p4), .val (.int u), .val (.int r), .val (.int o), .val (.int sv), .val (.int iv), .val (.ref b12), .val (.ref b35), .val (.ref b54), .val (.double (FP.l2d (p4.toInt64))), .second, .val (.int (o + (1 : Int32))), .unset, .unset, .unset, .unset] [(.ref b76), (.ref b76)])) _
      refine XS.iconst X84.here hx rfl (hb hby at_193) ?_
      show Steps p.tables e below (T84.setTop (mkF m 194 #[.val (.int p0), .val (.int p1), .val (.int p2), .val (.int p3), .val (.int p4), .val (.int u), .val (.int r), .val (.int o), .val (.int sv), .val (.int iv), .val (.ref b12), .val (.ref b35), .val (.ref b54), .val (.double (FP.l2d (p4.toInt64))), .second, .val (.int (o + (1 : Int32))), .unset, .unset, .unset, .unset] [(.int (2 : Int32)), (.ref b76), (.ref b76)])) _
      refine XS.bipush X84.here hx rfl (hb hby at_194) ?_
      show Steps p.tables e below (T84.setTop (mkF m 196 #[.val (.int p0), .val (.int p1), .val (.int p2), .val (.int p3), .val (.int p4), .val (.int u), .val (.int r), .val (.int o), .val (.int sv), .val (.int iv), .val (.ref b12), .val (.ref b35), .val (.ref b54), .val (.double (FP.l2d (p4.toInt64))), .second, .val (.int (o + (1 : Int32))), .unset, .unset, .unset, .unset] [(.int (-3 : Int32)), (.int (2 : Int32)), (.ref b76), (.ref b76)])) _
      exact q
    obtain ⟨cl87, Ar87, q87, S87, M87, H87, G87⟩ := V_b76
    obtain ⟨T88, h88, X88, e88, W88, st88⟩ := stI X84 hx hZ e84 Ar87 (j := (2 : Int32)) (inb_of S87 ⟨by decide, by decide⟩) (g := (mkF m 196 #[.val (.int p0), .val (.int p1), .val (.int p2), .val (.int p3), .val (.int p4), .val (.int u), .val (.int r), .val (.int o), .val (.int sv), .val (.int iv), .val (.ref b12), .val (.ref b35), .val (.ref b54), .val (.double (FP.l2d (p4.toInt64))), .second, .val (.int (o + (1 : Int32))), .unset, .unset, .unset, .unset] [(.int (-3 : Int32)), (.int (2 : Int32)), (.ref b76), (.ref b76)])) rfl rfl (hb hby at_196)
    have k89_ : ∀ t, Steps p.tables e below (T88.setTop (mkF m 197 #[.val (.int p0), .val (.int p1), .val (.int p2), .val (.int p3), .val (.int p4), .val (.int u), .val (.int r), .val (.int o), .val (.int sv), .val (.int iv), .val (.ref b12), .val (.ref b35), .val (.ref b54), .val (.double (FP.l2d (p4.toInt64))), .second, .val (.int (o + (1 : Int32))), .unset, .unset, .unset, .unset] [(.ref b76)])) t → Steps p.tables e below (s₁.setTop (mkF m 0 #[.val (.int p0), .val (.int p1), .val (.int p2), .val (.int p3), .val (.int p4), .unset, .unset, .unset, .unset, .unset, .unset, .unset, .unset, .unset, .unset, .unset, .unset, .unset, .unset, .unset] [])) t := fun t q => k86_ t (st88 t q)
    have N88 := Fr.snoc X88 N84 g_b76
    replace Zn := Nat.le_trans Zn (Keep.of_wr W88).1
    replace V_b12 := V_b12.other W88 ne_b12_b76
    replace V_b35 := V_b35.other W88 ne_b35_b76
    replace V_b54 := V_b54.other W88 ne_b54_b76
    have V_b76 : Arv Z h88 b76 c76 .int (4 : Int32) [(.int (-1 : Int32)), (.int (-2 : Int32)), (.int (-3 : Int32)), (.int (0 : Int32))] (.int (0 : Int32)) := Arv.set Ar87 q87 S87 M87 H87 G87 rfl W88 2 rfl (Nat.le_of_ble_eq_true rfl)
    have k90_ : ∀ t, Steps p.tables e below (T88.setTop (mkF m 201 #[.val (.int p0), .val (.int p1), .val (.int p2), .val (.int p3), .val (.int p4), .val (.int u), .val (.int r), .val (.int o), .val (.int sv), .val (.int iv), .val (.ref b12), .val (.ref b35), .val (.ref b54), .val (.double (FP.l2d (p4.toInt64))), .second, .val (.int (o + (1 : Int32))), .unset, .unset, .unset, .unset] [(.int (-4 : Int32)), (.int (3 : Int32)), (.ref b76), (.ref b76)])) t → Steps p.tables e below (s₁.setTop (mkF m 0 #[.val (.int p0), .val (.int p1), .val (.int p2), .val (.int p3), .val (.int p4), .unset, .unset, .unset, .unset, .unset, .unset, .unset, .unset, .unset, .unset, .unset, .unset, .unset, .unset, .unset] [])) t := by
      intro t q
      refine k89_ _ ?_
      show Steps p.tables e below (T88.setTop (mkF m 197 #[.val (.int p0), .val (.int p1), .val (.int p2), .val (.int p3), .val (.int p4), .val (.int u), .val (.int r), .val (.int o), .val (.int sv), .val (.int iv), .val (.ref b12), .val (.ref b35), .val (.ref b54), .val (.double (FP.l2d (p4.toInt64))), .second, .val (.int (o + (1 : Int32))), .unset, .unset, .unset, .unset] [(.ref b76)])) _
      refine XS.dup X88.here hx rfl (hb hby at_197) rfl rfl ?_
      show Steps p.tables e below (T88.setTop (mkF m 198 #[.val (.int p0), .val (.int p1), .val (.int p2), .val (.int p3), .val (.int p4), .val (.int u), .val (.int r), .val (.int o), .val (.int sv), .val (.int iv), .val (.ref b12), .val (.ref b35), .val (.ref b54), .val (.double (FP.l2d (p4.toInt64))), .second, .val (.int (o + (1 : Int32))), .unset, .unset, .unset, .unset] [(.ref b76), (.ref b76)])) _
      refine XS.iconst X88.here hx rfl (hb hby at_198) ?_
      show Steps p.tables e below (T88.setTop (mkF m 199 #[.val (.int p0), .val (.int p1), .val (.int p2), .val (.int p3), .val (.int p4), .val (.int u), .val (.int r), .val (.int o), .val (.int sv), .val (.int iv), .val (.ref b12), .val (.ref b35), .val (.ref b54), .val (.double (FP.l2d (p4.toInt64))), .second, .val (.int (o + (1 : Int32))), .unset, .unset, .unset, .unset] [(.int (3 : Int32)), (.ref b76), (.ref b76)])) _
      refine XS.bipush X88.here hx rfl (hb hby at_199) ?_
      show Steps p.tables e below (T88.setTop (mkF m 201 #[.val (.int p0), .val (.int p1), .val (.int p2), .val (.int p3), .val (.int p4), .val (.int u), .val (.int r), .val (.int o), .val (.int sv), .val (.int iv), .val (.ref b12), .val (.ref b35), .val (.ref b54), .val (.double (FP.l2d (p4.toInt64))), .second, .val (.int (o + (1 : Int32))), .unset, .unset, .unset, .unset] [(.int (-4 : Int32)), (.int (3 : Int32)), (.ref b76), (.ref b76)])) _
      exact q
    obtain ⟨cl91, Ar91, q91, S91, M91, H91, G91⟩ := V_b76
    obtain ⟨T92, h92, X92, e92, W92, st92⟩ := stI X88 hx hZ e88 Ar91 (j := (3 : Int32)) (inb_of S91 ⟨by decide, by decide⟩) (g := (mkF m 201 #[.val (.int p0), .val (.int p1), .val (.int p2), .val (.int p3), .val (.int p4), .val (.int u), .val (.int r), .val (.int o), .val (.int sv), .val (.int iv), .val (.ref b12), .val (.ref b35), .val (.ref b54), .val (.double (FP.l2d (p4.toInt64))), .second, .val (.int (o + (1 : Int32))), .unset, .unset, .unset, .unset] [(.int (-4 : Int32)), (.int (3 : Int32)), (.ref b76), (.ref b76)])) rfl rfl (hb hby at_201)
    have k93_ : ∀ t, Steps p.tables e below (T92.setTop (mkF m 202 #[.val (.int p0), .val (.int p1), .val (.int p2), .val (.int p3), .val (.int p4), .val (.int u), .val (.int r), .val (.int o), .val (.int sv), .val (.int iv), .val (.ref b12), .val (.ref b35), .val (.ref b54), .val (.double (FP.l2d (p4.toInt64))), .second, .val (.int (o + (1 : Int32))), .unset, .unset, .unset, .unset] [(.ref b76)])) t → Steps p.tables e below (s₁.setTop (mkF m 0 #[.val (.int p0), .val (.int p1), .val (.int p2), .val (.int p3), .val (.int p4), .unset, .unset, .unset, .unset, .unset, .unset, .unset, .unset, .unset, .unset, .unset, .unset, .unset, .unset, .unset] [])) t := fun t q => k90_ t (st92 t q)
    have N92 := Fr.snoc X92 N88 g_b76
    replace Zn := Nat.le_trans Zn (Keep.of_wr W92).1
    replace V_b12 := V_b12.other W92 ne_b12_b76
    replace V_b35 := V_b35.other W92 ne_b35_b76
    replace V_b54 := V_b54.other W92 ne_b54_b76
    have V_b76 : Arv Z h92 b76 c76 .int (4 : Int32) [(.int (-1 : Int32)), (.int (-2 : Int32)), (.int (-3 : Int32)), (.int (-4 : Int32))] (.int (0 : Int32)) := Arv.set Ar91 q91 S91 M91 H91 G91 rfl W92 3 rfl (Nat.le_of_ble_eq_true rfl)
    replace V_b76 : Arv Z h92 b76 c76 .int (4 : Int32) (own_x0.map Value.int) (.int (0 : Int32)) := V_b76
    have k94_ : ∀ t, Steps p.tables e below (T92.setTop (mkF m 210 #[.val (.int p0), .val (.int p1), .val (.int p2), .val (.int p3), .val (.int p4), .val (.int u), .val (.int r), .val (.int o), .val (.int sv), .val (.int iv), .val (.ref b12), .val (.ref b35), .val (.ref b54), .val (.double (FP.l2d (p4.toInt64))), .second, .val (.int (o + (1 : Int32))), .val (.ref b76), .unset, .unset, .unset] [(.int sv), (.int u), (.ref b76)])) t → Steps p.tables e below (s₁.setTop (mkF m 0 #[.val (.int p0), .val (.int p1), .val (.int p2), .val (.int p3), .val (.int p4), .unset, .unset, .unset, .unset, .unset, .unset, .unset, .unset, .unset, .unset, .unset, .unset, .unset, .unset, .unset] [])) t := by
      intro t q
      refine k93_ _ ?_
      show Steps p.tables e below (T92.setTop (mkF m 202 #[.val (.int p0), .val (.int p1), .val (.int p2), .val (.int p3), .val (.int p4), .val (.int u), .val (.int r), .val (.int o), .val (.int sv), .val (.int iv), .val (.ref b12), .val (.ref b35), .val (.ref b54), .val (.double (FP.l2d (p4.toInt64))), .second, .val (.int (o + (1 : Int32))), .unset, .unset, .unset, .unset] [(.ref b76)])) _
      refine XS.astore X92.here hx rfl (hb hby at_202) rfl rfl (l' := #[.val (.int p0), .val (.int p1), .val (.int p2), .val (.int p3), .val (.int p4), .val (.int u), .val (.int r), .val (.int o), .val (.int sv), .val (.int iv), .val (.ref b12), .val (.ref b35), .val (.ref b54), .val (.double (FP.l2d (p4.toInt64))), .second, .val (.int (o + (1 : Int32))), .val (.ref b76), .unset, .unset, .unset]) rfl ?_
      show Steps p.tables e below (T92.setTop (mkF m 204 #[.val (.int p0), .val (.int p1), .val (.int p2), .val (.int p3), .val (.int p4), .val (.int u), .val (.int r), .val (.int o), .val (.int sv), .val (.int iv), .val (.ref b12), .val (.ref b35), .val (.ref b54), .val (.double (FP.l2d (p4.toInt64))), .second, .val (.int (o + (1 : Int32))), .val (.ref b76), .unset, .unset, .unset] [])) _
      refine XS.aload X92.here hx rfl (hb hby at_204) rfl rfl ?_
      show Steps p.tables e below (T92.setTop (mkF m 206 #[.val (.int p0), .val (.int p1), .val (.int p2), .val (.int p3), .val (.int p4), .val (.int u), .val (.int r), .val (.int o), .val (.int sv), .val (.int iv), .val (.ref b12), .val (.ref b35), .val (.ref b54), .val (.double (FP.l2d (p4.toInt64))), .second, .val (.int (o + (1 : Int32))), .val (.ref b76), .unset, .unset, .unset] [(.ref b76)])) _
      refine XS.iload X92.here hx rfl (hb hby at_206) rfl ?_
      show Steps p.tables e below (T92.setTop (mkF m 208 #[.val (.int p0), .val (.int p1), .val (.int p2), .val (.int p3), .val (.int p4), .val (.int u), .val (.int r), .val (.int o), .val (.int sv), .val (.int iv), .val (.ref b12), .val (.ref b35), .val (.ref b54), .val (.double (FP.l2d (p4.toInt64))), .second, .val (.int (o + (1 : Int32))), .val (.ref b76), .unset, .unset, .unset] [(.int u), (.ref b76)])) _
      refine XS.iload X92.here hx rfl (hb hby at_208) rfl ?_
      show Steps p.tables e below (T92.setTop (mkF m 210 #[.val (.int p0), .val (.int p1), .val (.int p2), .val (.int p3), .val (.int p4), .val (.int u), .val (.int r), .val (.int o), .val (.int sv), .val (.int iv), .val (.ref b12), .val (.ref b35), .val (.ref b54), .val (.double (FP.l2d (p4.toInt64))), .second, .val (.int (o + (1 : Int32))), .val (.ref b76), .unset, .unset, .unset] [(.int sv), (.int u), (.ref b76)])) _
      exact q
    obtain ⟨cl95, Ar95, q95, S95, M95, H95, G95⟩ := V_b76
    obtain ⟨T96, h96, X96, e96, W96, st96⟩ := stI X92 hx hZ e92 Ar95 (j := u) (inb_of S95 ⟨hu.1, hu.2⟩) (g := (mkF m 210 #[.val (.int p0), .val (.int p1), .val (.int p2), .val (.int p3), .val (.int p4), .val (.int u), .val (.int r), .val (.int o), .val (.int sv), .val (.int iv), .val (.ref b12), .val (.ref b35), .val (.ref b54), .val (.double (FP.l2d (p4.toInt64))), .second, .val (.int (o + (1 : Int32))), .val (.ref b76), .unset, .unset, .unset] [(.int sv), (.int u), (.ref b76)])) rfl rfl (hb hby at_210)
    have k97_ : ∀ t, Steps p.tables e below (T96.setTop (mkF m 211 #[.val (.int p0), .val (.int p1), .val (.int p2), .val (.int p3), .val (.int p4), .val (.int u), .val (.int r), .val (.int o), .val (.int sv), .val (.int iv), .val (.ref b12), .val (.ref b35), .val (.ref b54), .val (.double (FP.l2d (p4.toInt64))), .second, .val (.int (o + (1 : Int32))), .val (.ref b76), .unset, .unset, .unset] [])) t → Steps p.tables e below (s₁.setTop (mkF m 0 #[.val (.int p0), .val (.int p1), .val (.int p2), .val (.int p3), .val (.int p4), .unset, .unset, .unset, .unset, .unset, .unset, .unset, .unset, .unset, .unset, .unset, .unset, .unset, .unset, .unset] [])) t := fun t q => k94_ t (st96 t q)
    have N96 := Fr.snoc X96 N92 g_b76
    replace Zn := Nat.le_trans Zn (Keep.of_wr W96).1
    replace V_b12 := V_b12.other W96 ne_b12_b76
    replace V_b35 := V_b35.other W96 ne_b35_b76
    replace V_b54 := V_b54.other W96 ne_b54_b76
    have V_b76 : Arv Z h96 b76 c76 .int (4 : Int32) ((own_x0.set (u).toNatClampNeg sv).map Value.int) (.int (0 : Int32)) := by rw [List.map_set]; exact Arv.set Ar95 q95 S95 M95 H95 G95 rfl W96 _ rfl (own_ix hu.1 hu.2 rfl)
    have k98_ : ∀ t, Steps p.tables e below (T96.setTop (mkF m 212 #[.val (.int p0), .val (.int p1), .val (.int p2), .val (.int p3), .val (.int p4), .val (.int u), .val (.int r), .val (.int o), .val (.int sv), .val (.int iv), .val (.ref b12), .val (.ref b35), .val (.ref b54), .val (.double (FP.l2d (p4.toInt64))), .second, .val (.int (o + (1 : Int32))), .val (.ref b76), .unset, .unset, .unset] [(.int (4 : Int32))])) t → Steps p.tables e below (s₁.setTop (mkF m 0 #[.val (.int p0), .val (.int p1), .val (.int p2), .val (.int p3), .val (.int p4), .unset, .unset, .unset, .unset, .unset, .unset, .unset, .unset, .unset, .unset, .unset, .unset, .unset, .unset, .unset] [])) t := by
      intro t q
      refine k97_ _ ?_
      show Steps p.tables e below (T96.setTop (mkF m 211 #[.val (.int p0), .val (.int p1), .val (.int p2), .val (.int p3), .val (.int p4), .val (.int u), .val (.int r), .val (.int o), .val (.int sv), .val (.int iv), .val (.ref b12), .val (.ref b35), .val (.ref b54), .val (.double (FP.l2d (p4.toInt64))), .second, .val (.int (o + (1 : Int32))), .val (.ref b76), .unset, .unset, .unset] [])) _
      refine XS.iconst X96.here hx rfl (hb hby at_211) ?_
      show Steps p.tables e below (T96.setTop (mkF m 212 #[.val (.int p0), .val (.int p1), .val (.int p2), .val (.int p3), .val (.int p4), .val (.int u), .val (.int r), .val (.int o), .val (.int sv), .val (.int iv), .val (.ref b12), .val (.ref b35), .val (.ref b54), .val (.double (FP.l2d (p4.toInt64))), .second, .val (.int (o + (1 : Int32))), .val (.ref b76), .unset, .unset, .unset] [(.int (4 : Int32))])) _
      exact q
    obtain ⟨T99, h99, c99, X99, e99, E99, A99, st99⟩ := newP X96 hx hZ (hw _ (List.mem_of_getElem? (i := 1) rfl)) e96 (g := (mkF m 212 #[.val (.int p0), .val (.int p1), .val (.int p2), .val (.int p3), .val (.int p4), .val (.int u), .val (.int r), .val (.int o), .val (.int sv), .val (.int iv), .val (.ref b12), .val (.ref b35), .val (.ref b54), .val (.double (FP.l2d (p4.toInt64))), .second, .val (.int (o + (1 : Int32))), .val (.ref b76), .unset, .unset, .unset] [(.int (4 : Int32))])) rfl (hb hby at_212) rfl (by decide) (cap := 4) (by decide) (by decide) (by decide) (by decide)
    obtain ⟨b99, g99⟩ : ∃ z, z = h96.size := ⟨_, rfl⟩
    rw [← g99] at A99 st99
    have k100_ : ∀ t, Steps p.tables e below (T99.setTop (mkF m 214 #[.val (.int p0), .val (.int p1), .val (.int p2), .val (.int p3), .val (.int p4), .val (.int u), .val (.int r), .val (.int o), .val (.int sv), .val (.int iv), .val (.ref b12), .val (.ref b35), .val (.ref b54), .val (.double (FP.l2d (p4.toInt64))), .second, .val (.int (o + (1 : Int32))), .val (.ref b76), .unset, .unset, .unset] [(.ref b99)])) t → Steps p.tables e below (s₁.setTop (mkF m 0 #[.val (.int p0), .val (.int p1), .val (.int p2), .val (.int p3), .val (.int p4), .unset, .unset, .unset, .unset, .unset, .unset, .unset, .unset, .unset, .unset, .unset, .unset, .unset, .unset, .unset] [])) t := fun t q => k98_ t (st99 t q)
    have ne_b12_b99 : b12 ≠ b99 := Nat.ne_of_lt (Nat.lt_of_lt_of_le V_b12.lt (Nat.le_of_eq g99.symm))
    have ne_b35_b99 : b35 ≠ b99 := Nat.ne_of_lt (Nat.lt_of_lt_of_le V_b35.lt (Nat.le_of_eq g99.symm))
    have ne_b54_b99 : b54 ≠ b99 := Nat.ne_of_lt (Nat.lt_of_lt_of_le V_b54.lt (Nat.le_of_eq g99.symm))
    have ne_b76_b99 : b76 ≠ b99 := Nat.ne_of_lt (Nat.lt_of_lt_of_le V_b76.lt (Nat.le_of_eq g99.symm))
    have g_b99 : n0 ≤ b99 := Nat.le_trans Zn (Nat.le_of_eq g99.symm)
    replace Zn := Nat.le_trans Zn E99.1
    replace V_b12 := V_b12.ext E99
    replace V_b35 := V_b35.ext E99
    replace V_b54 := V_b54.ext E99
    replace V_b76 := V_b76.ext E99
    have V_b99 : Arv Z h99 b99 c99 .int (4 : Int32) [(.int (0 : Int32)), (.int (0 : Int32)), (.int (0 : Int32)), (.int (0 : Int32))] (.int (0 : Int32)) := (Arv.new A99 (by decide)).pad (pad_rep [] (.int (0 : Int32)) 4)
    have k101_ : ∀ t, Steps p.tables e below (T99.setTop (mkF m 218 #[.val (.int p0), .val (.int p1), .val (.int p2), .val (.int p3), .val (.int p4), .val (.int u), .val (.int r), .val (.int o), .val (.int sv), .val (.int iv), .val (.ref b12), .val (.ref b35), .val (.ref b54), .val (.double (FP.l2d (p4.toInt64))), .second, .val (.int (o + (1 : Int32))), .val (.ref b76), .unset, .unset, .unset] [(.int (20 : Int32)), (.int (0 : Int32)), (.ref b99), (.ref b99)])) t → Steps p.tables e below (s₁.setTop (mkF m 0 #[.val (.int p0), .val (.int p1), .val (.int p2), .val (.int p3), .val (.int p4), .unset, .unset, .unset, .unset, .unset, .unset, .unset, .unset, .unset, .unset, .unset, .unset, .unset, .unset, .unset] [])) t := by
      intro t q
      refine k100_ _ ?_
      show Steps p.tables e below (T99.setTop (mkF m 214 #[.val (.int p0), .val (.int p1), .val (.int p2), .val (.int p3), .val (.int p4), .val (.int u), .val (.int r), .val (.int o), .val (.int sv), .val (.int iv), .val (.ref b12), .val (.ref b35), .val (.ref b54), .val (.double (FP.l2d (p4.toInt64))), .second, .val (.int (o + (1 : Int32))), .val (.ref b76), .unset, .unset, .unset] [(.ref b99)])) _
      refine XS.dup X99.here hx rfl (hb hby at_214) rfl rfl ?_
      show Steps p.tables e below (T99.setTop (mkF m 215 #[.val (.int p0), .val (.int p1), .val (.int p2), .val (.int p3), .val (.int p4), .val (.int u), .val (.int r), .val (.int o), .val (.int sv), .val (.int iv), .val (.ref b12), .val (.ref b35), .val (.ref b54), .val (.double (FP.l2d (p4.toInt64))), .second, .val (.int (o + (1 : Int32))), .val (.ref b76), .unset, .unset, .unset] [(.ref b99), (.ref b99)])) _
      refine XS.iconst X99.here hx rfl (hb hby at_215) ?_
      show Steps p.tables e below (T99.setTop (mkF m 216 #[.val (.int p0), .val (.int p1), .val (.int p2), .val (.int p3), .val (.int p4), .val (.int u), .val (.int r), .val (.int o), .val (.int sv), .val (.int iv), .val (.ref b12), .val (.ref b35), .val (.ref b54), .val (.double (FP.l2d (p4.toInt64))), .second, .val (.int (o + (1 : Int32))), .val (.ref b76), .unset, .unset, .unset] [(.int (0 : Int32)), (.ref b99), (.ref b99)])) _
      refine XS.bipush X99.here hx rfl (hb hby at_216) ?_
      show Steps p.tables e below (T99.setTop (mkF m 218 #[.val (.int p0), .val (.int p1), .val (.int p2), .val (.int p3), .val (.int p4), .val (.int u), .val (.int r), .val (.int o), .val (.int sv), .val (.int iv), .val (.ref b12), .val (.ref b35), .val (.ref b54), .val (.double (FP.l2d (p4.toInt64))), .second, .val (.int (o + (1 : Int32))), .val (.ref b76), .unset, .unset, .unset] [(.int (20 : Int32)), (.int (0 : Int32)), (.ref b99), (.ref b99)])) _
      exact q
    obtain ⟨cl102, Ar102, q102, S102, M102, H102, G102⟩ := V_b99
    obtain ⟨T103, h103, X103, e103, W103, st103⟩ := stI X99 hx hZ e99 Ar102 (j := (0 : Int32)) (inb_of S102 ⟨by decide, by decide⟩) (g := (mkF m 218 #[.val (.int p0), .val (.int p1), .val (.int p2), .val (.int p3), .val (.int p4), .val (.int u), .val (.int r), .val (.int o), .val (.int sv), .val (.int iv), .val (.ref b12), .val (.ref b35), .val (.ref b54), .val (.double (FP.l2d (p4.toInt64))), .second, .val (.int (o + (1 : Int32))), .val (.ref b76), .unset, .unset, .unset] [(.int (20 : Int32)), (.int (0 : Int32)), (.ref b99), (.ref b99)])) rfl rfl (hb hby at_218)
    have k104_ : ∀ t, Steps p.tables e below (T103.setTop (mkF m 219 #[.val (.int p0), .val (.int p1), .val (.int p2), .val (.int p3), .val (.int p4), .val (.int u), .val (.int r), .val (.int o), .val (.int sv), .val (.int iv), .val (.ref b12), .val (.ref b35), .val (.ref b54), .val (.double (FP.l2d (p4.toInt64))), .second, .val (.int (o + (1 : Int32))), .val (.ref b76), .unset, .unset, .unset] [(.ref b99)])) t → Steps p.tables e below (s₁.setTop (mkF m 0 #[.val (.int p0), .val (.int p1), .val (.int p2), .val (.int p3), .val (.int p4), .unset, .unset, .unset, .unset, .unset, .unset, .unset, .unset, .unset, .unset, .unset, .unset, .unset, .unset, .unset] [])) t := fun t q => k101_ t (st103 t q)
    have N103 := Fr.snoc X103 N96 g_b99
    replace Zn := Nat.le_trans Zn (Keep.of_wr W103).1
    replace V_b12 := V_b12.other W103 ne_b12_b99
    replace V_b35 := V_b35.other W103 ne_b35_b99
    replace V_b54 := V_b54.other W103 ne_b54_b99
    replace V_b76 := V_b76.other W103 ne_b76_b99
    have V_b99 : Arv Z h103 b99 c99 .int (4 : Int32) [(.int (20 : Int32)), (.int (0 : Int32)), (.int (0 : Int32)), (.int (0 : Int32))] (.int (0 : Int32)) := Arv.set Ar102 q102 S102 M102 H102 G102 rfl W103 0 rfl (Nat.le_of_ble_eq_true rfl)
    have k105_ : ∀ t, Steps p.tables e below (T103.setTop (mkF m 223 #[.val (.int p0), .val (.int p1), .val (.int p2), .val (.int p3), .val (.int p4), .val (.int u), .val (.int r), .val (.int o), .val (.int sv), .val (.int iv), .val (.ref b12), .val (.ref b35), .val (.ref b54), .val (.double (FP.l2d (p4.toInt64))), .second, .val (.int (o + (1 : Int32))), .val (.ref b76), .unset, .unset, .unset] [(.int (21 : Int32)), (.int (1 : Int32)), (.ref b99), (.ref b99)])) t → Steps p.tables e below (s₁.setTop (mkF m 0 #[.val (.int p0), .val (.int p1), .val (.int p2), .val (.int p3), .val (.int p4), .unset, .unset, .unset, .unset, .unset, .unset, .unset, .unset, .unset, .unset, .unset, .unset, .unset, .unset, .unset] [])) t := by
      intro t q
      refine k104_ _ ?_
      show Steps p.tables e below (T103.setTop (mkF m 219 #[.val (.int p0), .val (.int p1), .val (.int p2), .val (.int p3), .val (.int p4), .val (.int u), .val (.int r), .val (.int o), .val (.int sv), .val (.int iv), .val (.ref b12), .val (.ref b35), .val (.ref b54), .val (.double (FP.l2d (p4.toInt64))), .second, .val (.int (o + (1 : Int32))), .val (.ref b76), .unset, .unset, .unset] [(.ref b99)])) _
      refine XS.dup X103.here hx rfl (hb hby at_219) rfl rfl ?_
      show Steps p.tables e below (T103.setTop (mkF m 220 #[.val (.int p0), .val (.int p1), .val (.int p2), .val (.int p3), .val (.int p4), .val (.int u), .val (.int r), .val (.int o), .val (.int sv), .val (.int iv), .val (.ref b12), .val (.ref b35), .val (.ref b54), .val (.double (FP.l2d (p4.toInt64))), .second, .val (.int (o + (1 : Int32))), .val (.ref b76), .unset, .unset, .unset] [(.ref b99), (.ref b99)])) _
      refine XS.iconst X103.here hx rfl (hb hby at_220) ?_
      show Steps p.tables e below (T103.setTop (mkF m 221 #[.val (.int p0), .val (.int p1), .val (.int p2), .val (.int p3), .val (.int p4), .val (.int u), .val (.int r), .val (.int o), .val (.int sv), .val (.int iv), .val (.ref b12), .val (.ref b35), .val (.ref b54), .val (.double (FP.l2d (p4.toInt64))), .second, .val (.int (o + (1 : Int32))), .val (.ref b76), .unset, .unset, .unset] [(.int (1 : Int32)), (.ref b99), (.ref b99)])) _
      refine XS.bipush X103.here hx rfl (hb hby at_221) ?_
      show Steps p.tables e below (T103.setTop (mkF m 223 #[.val (.int p0), .val (.int p1), .val (.int p2), .val (.int p3), .val (.int p4), .val (.int u), .val (.int r), .val (.int o), .val (.int sv), .val (.int iv), .val (.ref b12), .val (.ref b35), .val (.ref b54), .val (.double (FP.l2d (p4.toInt64))), .second, .val (.int (o + (1 : Int32))), .val (.ref b76), .unset, .unset, .unset] [(.int (21 : Int32)), (.int (1 : Int32)), (.ref b99), (.ref b99)])) _
      exact q
    obtain ⟨cl106, Ar106, q106, S106, M106, H106, G106⟩ := V_b99
    obtain ⟨T107, h107, X107, e107, W107, st107⟩ := stI X103 hx hZ e103 Ar106 (j := (1 : Int32)) (inb_of S106 ⟨by decide, by decide⟩) (g := (mkF m 223 #[.val (.int p0), .val (.int p1), .val (.int p2), .val (.int p3), .val (.int p4), .val (.int u), .val (.int r), .val (.int o), .val (.int sv), .val (.int iv), .val (.ref b12), .val (.ref b35), .val (.ref b54), .val (.double (FP.l2d (p4.toInt64))), .second, .val (.int (o + (1 : Int32))), .val (.ref b76), .unset, .unset, .unset] [(.int (21 : Int32)), (.int (1 : Int32)), (.ref b99), (.ref b99)])) rfl rfl (hb hby at_223)
    have k108_ : ∀ t, Steps p.tables e below (T107.setTop (mkF m 224 #[.val (.int p0), .val (.int p1), .val (.int p2), .val (.int p3), .val (.int p4), .val (.int u), .val (.int r), .val (.int o), .val (.int sv), .val (.int iv), .val (.ref b12), .val (.ref b35), .val (.ref b54), .val (.double (FP.l2d (p4.toInt64))), .second, .val (.int (o + (1 : Int32))), .val (.ref b76), .unset, .unset, .unset] [(.ref b99)])) t → Steps p.tables e below (s₁.setTop (mkF m 0 #[.val (.int p0), .val (.int p1), .val (.int p2), .val (.int p3), .val (.int p4), .unset, .unset, .unset, .unset, .unset, .unset, .unset, .unset, .unset, .unset, .unset, .unset, .unset, .unset, .unset] [])) t := fun t q => k105_ t (st107 t q)
    have N107 := Fr.snoc X107 N103 g_b99
    replace Zn := Nat.le_trans Zn (Keep.of_wr W107).1
    replace V_b12 := V_b12.other W107 ne_b12_b99
    replace V_b35 := V_b35.other W107 ne_b35_b99
    replace V_b54 := V_b54.other W107 ne_b54_b99
    replace V_b76 := V_b76.other W107 ne_b76_b99
    have V_b99 : Arv Z h107 b99 c99 .int (4 : Int32) [(.int (20 : Int32)), (.int (21 : Int32)), (.int (0 : Int32)), (.int (0 : Int32))] (.int (0 : Int32)) := Arv.set Ar106 q106 S106 M106 H106 G106 rfl W107 1 rfl (Nat.le_of_ble_eq_true rfl)
    have k109_ : ∀ t, Steps p.tables e below (T107.setTop (mkF m 228 #[.val (.int p0), .val (.int p1), .val (.int p2), .val (.int p3), .val (.int p4), .val (.int u), .val (.int r), .val (.int o), .val (.int sv), .val (.int iv), .val (.ref b12), .val (.ref b35), .val (.ref b54), .val (.double (FP.l2d (p4.toInt64))), .second, .val (.int (o + (1 : Int32))), .val (.ref b76), .unset, .unset, .unset] [(.int (22 : Int32)), (.int (2 : Int32)), (.ref b99), (.ref b99)])) t → Steps p.tables e below (s₁.setTop (mkF m 0 #[.val (.int p0), .val (.int p1), .val (.int p2), .val (.int p3), .val (.int p4), .unset, .unset, .unset, .unset, .unset, .unset, .unset, .unset, .unset, .unset, .unset, .unset, .unset, .unset, .unset] [])) t := by
      intro t q
      refine k108_ _ ?_
      show Steps p.tables e below (T107.setTop (mkF m 224 #[.val (.int p0), .val (.int p1), .val (.int p2), .val (.int p3), .val (.int p4), .val (.int u), .val (.int r), .val (.int o), .val (.int sv), .val (.int iv), .val (.ref b12), .val (.ref b35), .val (.ref b54), .val (.double (FP.l2d (p4.toInt64))), .second, .val (.int (o + (1 : Int32))), .val (.ref b76), .unset, .unset, .unset] [(.ref b99)])) _
      refine XS.dup X107.here hx rfl (hb hby at_224) rfl rfl ?_
      show Steps p.tables e below (T107.setTop (mkF m 225 #[.val (.int p0), .val (.int p1), .val (.int p2), .val (.int p3), .val (.int p4), .val (.int u), .val (.int r), .val (.int o), .val (.int sv), .val (.int iv), .val (.ref b12), .val (.ref b35), .val (.ref b54), .val (.double (FP.l2d (p4.toInt64))), .second, .val (.int (o + (1 : Int32))), .val (.ref b76), .unset, .unset, .unset] [(.ref b99), (.ref b99)])) _
      refine XS.iconst X107.here hx rfl (hb hby at_225) ?_
      show Steps p.tables e below (T107.setTop (mkF m 226 #[.val (.int p0), .val (.int p1), .val (.int p2), .val (.int p3), .val (.int p4), .val (.int u), .val (.int r), .val (.int o), .val (.int sv), .val (.int iv), .val (.ref b12), .val (.ref b35), .val (.ref b54), .val (.double (FP.l2d (p4.toInt64))), .second, .val (.int (o + (1 : Int32))), .val (.ref b76), .unset, .unset, .unset] [(.int (2 : Int32)), (.ref b99), (.ref b99)])) _
      refine XS.bipush X107.here hx rfl (hb hby at_226) ?_
      show Steps p.tables e below (T107.setTop (mkF m 228 #[.val (.int p0), .val (.int p1), .val (.int p2), .val (.int p3), .val (.int p4), .val (.int u), .val (.int r), .val (.int o), .val (.int sv), .val (.int iv), .val (.ref b12), .val (.ref b35), .val (.ref b54), .val (.double (FP.l2d (p4.toInt64))), .second, .val (.int (o + (1 : Int32))), .val (.ref b76), .unset, .unset, .unset] [(.int (22 : Int32)), (.int (2 : Int32)), (.ref b99), (.ref b99)])) _
      exact q
    obtain ⟨cl110, Ar110, q110, S110, M110, H110, G110⟩ := V_b99
    obtain ⟨T111, h111, X111, e111, W111, st111⟩ := stI X107 hx hZ e107 Ar110 (j := (2 : Int32)) (inb_of S110 ⟨by decide, by decide⟩) (g := (mkF m 228 #[.val (.int p0), .val (.int p1), .val (.int p2), .val (.int p3), .val (.int p4), .val (.int u), .val (.int r), .val (.int o), .val (.int sv), .val (.int iv), .val (.ref b12), .val (.ref b35), .val (.ref b54), .val (.double (FP.l2d (p4.toInt64))), .second, .val (.int (o + (1 : Int32))), .val (.ref b76), .unset, .unset, .unset] [(.int (22 : Int32)), (.int (2 : Int32)), (.ref b99), (.ref b99)])) rfl rfl (hb hby at_228)
    have k112_ : ∀ t, Steps p.tables e below (T111.setTop (mkF m 229 #[.val (.int p0), .val (.int p1), .val (.int p2), .val (.int p3), .val (.int p4), .val (.int u), .val (.int r), .val (.int o), .val (.int sv), .val (.int iv), .val (.ref b12), .val (.ref b35), .val (.ref b54), .val (.double (FP.l2d (p4.toInt64))), .second, .val (.int (o + (1 : Int32))), .val (.ref b76), .unset, .unset, .unset] [(.ref b99)])) t → Steps p.tables e below (s₁.setTop (mkF m 0 #[.val (.int p0), .val (.int p1), .val (.int p2), .val (.int p3), .val (.int p4), .unset, .unset, .unset, .unset, .unset, .unset, .unset, .unset, .unset, .unset, .unset, .unset, .unset, .unset, .unset] [])) t := fun t q => k109_ t (st111 t q)
    have N111 := Fr.snoc X111 N107 g_b99
    replace Zn := Nat.le_trans Zn (Keep.of_wr W111).1
    replace V_b12 := V_b12.other W111 ne_b12_b99
    replace V_b35 := V_b35.other W111 ne_b35_b99
    replace V_b54 := V_b54.other W111 ne_b54_b99
    replace V_b76 := V_b76.other W111 ne_b76_b99
    have V_b99 : Arv Z h111 b99 c99 .int (4 : Int32) [(.int (20 : Int32)), (.int (21 : Int32)), (.int (22 : Int32)), (.int (0 : Int32))] (.int (0 : Int32)) := Arv.set Ar110 q110 S110 M110 H110 G110 rfl W111 2 rfl (Nat.le_of_ble_eq_true rfl)
    have k113_ : ∀ t, Steps p.tables e below (T111.setTop (mkF m 233 #[.val (.int p0), .val (.int p1), .val (.int p2), .val (.int p3), .val (.int p4), .val (.int u), .val (.int r), .val (.int o), .val (.int sv), .val (.int iv), .val (.ref b12), .val (.ref b35), .val (.ref b54), .val (.double (FP.l2d (p4.toInt64))), .second, .val (.int (o + (1 : Int32))), .val (.ref b76), .unset, .unset, .unset] [(.int (23 : Int32)), (.int (3 : Int32)), (.ref b99), (.ref b99)])) t → Steps p.tables e below (s₁.setTop (mkF m 0 #[.val (.int p0), .val (.int p1), .val (.int p2), .val (.int p3), .val (.int p4), .unset, .unset, .unset, .unset, .unset, .unset, .unset, .unset, .unset, .unset, .unset, .unset, .unset, .unset, .unset] [])) t := by
      intro t q
      refine k112_ _ ?_
      show Steps p.tables e below (T111.setTop (mkF m 229 #[.val (.int p0), .val (.int p1), .val (.int p2), .val (.int p3), .val (.int p4), .val (.int u), .val (.int r), .val (.int o), .val (.int sv), .val (.int iv), .val (.ref b12), .val (.ref b35), .val (.ref b54), .val (.double (FP.l2d (p4.toInt64))), .second, .val (.int (o + (1 : Int32))), .val (.ref b76), .unset, .unset, .unset] [(.ref b99)])) _
      refine XS.dup X111.here hx rfl (hb hby at_229) rfl rfl ?_
      show Steps p.tables e below (T111.setTop (mkF m 230 #[.val (.int p0), .val (.int p1), .val (.int p2), .val (.int p3), .val (.int p4), .val (.int u), .val (.int r), .val (.int o), .val (.int sv), .val (.int iv), .val (.ref b12), .val (.ref b35), .val (.ref b54), .val (.double (FP.l2d (p4.toInt64))), .second, .val (.int (o + (1 : Int32))), .val (.ref b76), .unset, .unset, .unset] [(.ref b99), (.ref b99)])) _
      refine XS.iconst X111.here hx rfl (hb hby at_230) ?_
      show Steps p.tables e below (T111.setTop (mkF m 231 #[.val (.int p0), .val (.int p1), .val (.int p2), .val (.int p3), .val (.int p4), .val (.int u), .val (.int r), .val (.int o), .val (.int sv), .val (.int iv), .val (.ref b12), .val (.ref b35), .val (.ref b54), .val (.double (FP.l2d (p4.toInt64))), .second, .val (.int (o + (1 : Int32))), .val (.ref b76), .unset, .unset, .unset] [(.int (3 : Int32)), (.ref b99), (.ref b99)])) _
      refine XS.bipush X111.here hx rfl (hb hby at_231) ?_
      show Steps p.tables e below (T111.setTop (mkF m 233 #[.val (.int p0), .val (.int p1), .val (.int p2), .val (.int p3), .val (.int p4), .val (.int u), .val (.int r), .val (.int o), .val (.int sv), .val (.int iv), .val (.ref b12), .val (.ref b35), .val (.ref b54), .val (.double (FP.l2d (p4.toInt64))), .second, .val (.int (o + (1 : Int32))), .val (.ref b76), .unset, .unset, .unset] [(.int (23 : Int32)), (.int (3 : Int32)), (.ref b99), (.ref b99)])) _
      exact q
    obtain ⟨cl114, Ar114, q114, S114, M114, H114, G114⟩ := V_b99
    obtain ⟨T115, h115, X115, e115, W115, st115⟩ := stI X111 hx hZ e111 Ar114 (j := (3 : Int32)) (inb_of S114 ⟨by decide, by decide⟩) (g := (mkF m 233 #[.val (.int p0), .val (.int p1), .val (.int p2), .val (.int p3), .val (.int p4), .val (.int u), .val (.int r), .val (.int o), .val (.int sv), .val (.int iv), .val (.ref b12), .val (.ref b35), .val (.ref b54), .val (.double (FP.l2d (p4.toInt64))), .second, .val (.int (o + (1 : Int32))), .val (.ref b76), .unset, .unset, .unset] [(.int (23 : Int32)), (.int (3 : Int32)), (.ref b99), (.ref b99)])) rfl rfl (hb hby at_233)
    have k116_ : ∀ t, Steps p.tables e below (T115.setTop (mkF m 234 #[.val (.int p0), .val (.int p1), .val (.int p2), .val (.int p3), .val (.int p4), .val (.int u), .val (.int r), .val (.int o), .val (.int sv), .val (.int iv), .val (.ref b12), .val (.ref b35), .val (.ref b54), .val (.double (FP.l2d (p4.toInt64))), .second, .val (.int (o + (1 : Int32))), .val (.ref b76), .unset, .unset, .unset] [(.ref b99)])) t → Steps p.tables e below (s₁.setTop (mkF m 0 #[.val (.int p0), .val (.int p1), .val (.int p2), .val (.int p3), .val (.int p4), .unset, .unset, .unset, .unset, .unset, .unset, .unset, .unset, .unset, .unset, .unset, .unset, .unset, .unset, .unset] [])) t := fun t q => k113_ t (st115 t q)
    have N115 := Fr.snoc X115 N111 g_b99
    replace Zn := Nat.le_trans Zn (Keep.of_wr W115).1
    replace V_b12 := V_b12.other W115 ne_b12_b99
    replace V_b35 := V_b35.other W115 ne_b35_b99
    replace V_b54 := V_b54.other W115 ne_b54_b99
    replace V_b76 := V_b76.other W115 ne_b76_b99
    have V_b99 : Arv Z h115 b99 c99 .int (4 : Int32) [(.int (20 : Int32)), (.int (21 : Int32)), (.int (22 : Int32)), (.int (23 : Int32))] (.int (0 : Int32)) := Arv.set Ar114 q114 S114 M114 H114 G114 rfl W115 3 rfl (Nat.le_of_ble_eq_true rfl)
    replace V_b99 : Arv Z h115 b99 c99 .int (4 : Int32) (own_n0.map Value.int) (.int (0 : Int32)) := V_b99
    have k117_ : ∀ t, Steps p.tables e below (T115.setTop (mkF m 237 #[.val (.int p0), .val (.int p1), .val (.int p2), .val (.int p3), .val (.int p4), .val (.int u), .val (.int r), .val (.int o), .val (.int sv), .val (.int iv), .val (.ref b12), .val (.ref b35), .val (.ref b54), .val (.double (FP.l2d (p4.toInt64))), .second, .val (.int (o + (1 : Int32))), .val (.ref b76), .val (.ref b99), .unset, .unset] [(.int (4 : Int32))])) t → Steps p.tables e below (s₁.setTop (mkF m 0 #[.val (.int p0), .val (.int p1), .val (.int p2), .val (.int p3), .val (.int p4), .unset, .unset, .unset, .unset, .unset, .unset, .unset, .unset, .unset, .unset, .unset, .unset, .unset, .unset, .unset] [])) t := by
      intro t q
      refine k116_ _ ?_
      show Steps p.tables e below (T115.setTop (mkF m 234 #[.val (.int p0), .val (.int p1), .val (.int p2), .val (.int p3), .val (.int p4), .val (.int u), .val (.int r), .val (.int o), .val (.int sv), .val (.int iv), .val (.ref b12), .val (.ref b35), .val (.ref b54), .val (.double (FP.l2d (p4.toInt64))), .second, .val (.int (o + (1 : Int32))), .val (.ref b76), .unset, .unset, .unset] [(.ref b99)])) _
      refine XS.astore X115.here hx rfl (hb hby at_234) rfl rfl (l' := #[.val (.int p0), .val (.int p1), .val (.int p2), .val (.int p3), .val (.int p4), .val (.int u), .val (.int r), .val (.int o), .val (.int sv), .val (.int iv), .val (.ref b12), .val (.ref b35), .val (.ref b54), .val (.double (FP.l2d (p4.toInt64))), .second, .val (.int (o + (1 : Int32))), .val (.ref b76), .val (.ref b99), .unset, .unset]) rfl ?_
      show Steps p.tables e below (T115.setTop (mkF m 236 #[.val (.int p0), .val (.int p1), .val (.int p2), .val (.int p3), .val (.int p4), .val (.int u), .val (.int r), .val (.int o), .val (.int sv), .val (.int iv), .val (.ref b12), .val (.ref b35), .val (.ref b54), .val (.double (FP.l2d (p4.toInt64))), .second, .val (.int (o + (1 : Int32))), .val (.ref b76), .val (.ref b99), .unset, .unset] [])) _
      refine XS.iconst X115.here hx rfl (hb hby at_236) ?_
      show Steps p.tables e below (T115.setTop (mkF m 237 #[.val (.int p0), .val (.int p1), .val (.int p2), .val (.int p3), .val (.int p4), .val (.int u), .val (.int r), .val (.int o), .val (.int sv), .val (.int iv), .val (.ref b12), .val (.ref b35), .val (.ref b54), .val (.double (FP.l2d (p4.toInt64))), .second, .val (.int (o + (1 : Int32))), .val (.ref b76), .val (.ref b99), .unset, .unset] [(.int (4 : Int32))])) _
      exact q
    obtain ⟨T118, h118, c118, X118, e118, E118, A118, st118⟩ := newP X115 hx hZ (hw _ (List.mem_of_getElem? (i := 2) rfl)) e115 (g := (mkF m 237 #[.val (.int p0), .val (.int p1), .val (.int p2), .val (.int p3), .val (.int p4), .val (.int u), .val (.int r), .val (.int o), .val (.int sv), .val (.int iv), .val (.ref b12), .val (.ref b35), .val (.ref b54), .val (.double (FP.l2d (p4.toInt64))), .second, .val (.int (o + (1 : Int32))), .val (.ref b76), .val (.ref b99), .unset, .unset] [(.int (4 : Int32))])) rfl (hb hby at_237) rfl (by decide) (cap := 4) (by decide) (by decide) (by decide) (by decide)
    obtain ⟨b118, g118⟩ : ∃ z, z = h115.size := ⟨_, rfl⟩
    rw [← g118] at A118 st118
    have k119_ : ∀ t, Steps p.tables e below (T118.setTop (mkF m 239 #[.val (.int p0), .val (.int p1), .val (.int p2), .val (.int p3), .val (.int p4), .val (.int u), .val (.int r), .val (.int o), .val (.int sv), .val (.int iv), .val (.ref b12), .val (.ref b35), .val (.ref b54), .val (.double (FP.l2d (p4.toInt64))), .second, .val (.int (o + (1 : Int32))), .val (.ref b76), .val (.ref b99), .unset, .unset] [(.ref b118)])) t → Steps p.tables e below (s₁.setTop (mkF m 0 #[.val (.int p0), .val (.int p1), .val (.int p2), .val (.int p3), .val (.int p4), .unset, .unset, .unset, .unset, .unset, .unset, .unset, .unset, .unset, .unset, .unset, .unset, .unset, .unset, .unset] [])) t := fun t q => k117_ t (st118 t q)
    have ne_b12_b118 : b12 ≠ b118 := Nat.ne_of_lt (Nat.lt_of_lt_of_le V_b12.lt (Nat.le_of_eq g118.symm))
    have ne_b35_b118 : b35 ≠ b118 := Nat.ne_of_lt (Nat.lt_of_lt_of_le V_b35.lt (Nat.le_of_eq g118.symm))
    have ne_b54_b118 : b54 ≠ b118 := Nat.ne_of_lt (Nat.lt_of_lt_of_le V_b54.lt (Nat.le_of_eq g118.symm))
    have ne_b76_b118 : b76 ≠ b118 := Nat.ne_of_lt (Nat.lt_of_lt_of_le V_b76.lt (Nat.le_of_eq g118.symm))
    have ne_b99_b118 : b99 ≠ b118 := Nat.ne_of_lt (Nat.lt_of_lt_of_le V_b99.lt (Nat.le_of_eq g118.symm))
    have g_b118 : n0 ≤ b118 := Nat.le_trans Zn (Nat.le_of_eq g118.symm)
    replace Zn := Nat.le_trans Zn E118.1
    replace V_b12 := V_b12.ext E118
    replace V_b35 := V_b35.ext E118
    replace V_b54 := V_b54.ext E118
    replace V_b76 := V_b76.ext E118
    replace V_b99 := V_b99.ext E118
    have V_b118 : Arv Z h118 b118 c118 .double (4 : Int32) [(.double (FP.l2d (0 : Int64))), (.double (FP.l2d (0 : Int64))), (.double (FP.l2d (0 : Int64))), (.double (FP.l2d (0 : Int64)))] (.double (FP.l2d (0 : Int64))) := (Arv.newD A118 (by decide)).pad (pad_rep [] (.double (FP.l2d (0 : Int64))) 4)
    have k120_ : ∀ t, Steps p.tables e below (T118.setTop (mkF m 242 #[.val (.int p0), .val (.int p1), .val (.int p2), .val (.int p3), .val (.int p4), .val (.int u), .val (.int r), .val (.int o), .val (.int sv), .val (.int iv), .val (.ref b12), .val (.ref b35), .val (.ref b54), .val (.double (FP.l2d (p4.toInt64))), .second, .val (.int (o + (1 : Int32))), .val (.ref b76), .val (.ref b99), .unset, .unset] [(.double (FP.l2d (1 : Int64))), (.int (0 : Int32)), (.ref b118), (.ref b118)])) t → Steps p.tables e below (s₁.setTop (mkF m 0 #[.val (.int p0), .val (.int p1), .val (.int p2), .val (.int p3), .val (.int p4), .unset, .unset, .unset, .unset, .unset, .unset, .unset, .unset, .unset, .unset, .unset, .unset, .unset, .unset, .unset] [])) t := by
      intro t q
      refine k119_ _ ?_
      show Steps p.tables e below (T118.setTop (mkF m 239 #[.val (.int p0), .val (.int p1), .val (.int p2), .val (.int p3), .val (.int p4), .val (.int u), .val (.int r), .val (.int o), .val (.int sv), .val (.int iv), .val (.ref b12), .val (.ref b35), .val (.ref b54), .val (.double (FP.l2d (p4.toInt64))), .second, .val (.int (o + (1 : Int32))), .val (.ref b76), .val (.ref b99), .unset, .unset] [(.ref b118)])) _
      refine XS.dup X118.here hx rfl (hb hby at_239) rfl rfl ?_
      show Steps p.tables e below (T118.setTop (mkF m 240 #[.val (.int p0), .val (.int p1), .val (.int p2), .val (.int p3), .val (.int p4), .val (.int u), .val (.int r), .val (.int o), .val (.int sv), .val (.int iv), .val (.ref b12), .val (.ref b35), .val (.ref b54), .val (.double (FP.l2d (p4.toInt64))), .second, .val (.int (o + (1 : Int32))), .val (.ref b76), .val (.ref b99), .unset, .unset] [(.ref b118), (.ref b118)])) _
      refine XS.iconst X118.here hx rfl (hb hby at_240) ?_
      show Steps p.tables e below (T118.setTop (mkF m 241 #[.val (.int p0), .val (.int p1), .val (.int p2), .val (.int p3), .val (.int p4), .val (.int u), .val (.int r), .val (.int o), .val (.int sv), .val (.int iv), .val (.ref b12), .val (.ref b35), .val (.ref b54), .val (.double (FP.l2d (p4.toInt64))), .second, .val (.int (o + (1 : Int32))), .val (.ref b76), .val (.ref b99), .unset, .unset] [(.int (0 : Int32)), (.ref b118), (.ref b118)])) _
      refine XS.dconst1 X118.here hx rfl (hb hby at_241) (v := FP.l2d (1 : Int64)) own_dc1 ?_
      show Steps p.tables e below (T118.setTop (mkF m 242 #[.val (.int p0), .val (.int p1), .val (.int p2), .val (.int p3), .val (.int p4), .val (.int u), .val (.int r), .val (.int o), .val (.int sv), .val (.int iv), .val (.ref b12), .val (.ref b35), .val (.ref b54), .val (.double (FP.l2d (p4.toInt64))), .second, .val (.int (o + (1 : Int32))), .val (.ref b76), .val (.ref b99), .unset, .unset] [(.double (FP.l2d (1 : Int64))), (.int (0 : Int32)), (.ref b118), (.ref b118)])) _
      exact q
    obtain ⟨cl121, Ar121, q121, S121, M121, H121, G121⟩ := V_b118
    obtain ⟨T122, h122, X122, e122, W122, st122⟩ := stD X118 hx hZ e118 Ar121 (j := (0 : Int32)) (inb_of S121 ⟨by decide, by decide⟩) (g := (mkF m 242 #[.val (.int p0), .val (.int p1), .val (.int p2), .val (.int p3), .val (.int p4), .val (.int u), .val (.int r), .val (.int o), .val (.int sv), .val (.int iv), .val (.ref b12), .val (.ref b35), .val (.ref b54), .val (.double (FP.l2d (p4.toInt64))), .second, .val (.int (o + (1 : Int32))), .val (.ref b76), .val (.ref b99), .unset, .unset] [(.double (FP.l2d (1 : Int64))), (.int (0 : Int32)), (.ref b118), (.ref b118)])) rfl rfl (hb hby at_242)
    have k123_ : ∀ t, Steps p.tables e below (T122.setTop (mkF m 243 #[.val (.int p0), .val (.int p1), .val (.int p2), .val (.int p3), .val (.int p4), .val (.int u), .val (.int r), .val (.int o), .val (.int sv), .val (.int iv), .val (.ref b12), .val (.ref b35), .val (.ref b54), .val (.double (FP.l2d (p4.toInt64))), .second, .val (.int (o + (1 : Int32))), .val (.ref b76), .val (.ref b99), .unset, .unset] [(.ref b118)])) t → Steps p.tables e below (s₁.setTop (mkF m 0 #[.val (.int p0), .val (.int p1), .val (.int p2), .val (.int p3), .val (.int p4), .unset, .unset, .unset, .unset, .unset, .unset, .unset, .unset, .unset, .unset, .unset, .unset, .unset, .unset, .unset] [])) t := fun t q => k120_ t (st122 t q)
    have N122 := Fr.snoc X122 N115 g_b118
    replace Zn := Nat.le_trans Zn (Keep.of_wr W122).1
    replace V_b12 := V_b12.other W122 ne_b12_b118
    replace V_b35 := V_b35.other W122 ne_b35_b118
    replace V_b54 := V_b54.other W122 ne_b54_b118
    replace V_b76 := V_b76.other W122 ne_b76_b118
    replace V_b99 := V_b99.other W122 ne_b99_b118
    have V_b118 : Arv Z h122 b118 c118 .double (4 : Int32) [(.double (FP.l2d (1 : Int64))), (.double (FP.l2d (0 : Int64))), (.double (FP.l2d (0 : Int64))), (.double (FP.l2d (0 : Int64)))] (.double (FP.l2d (0 : Int64))) := Arv.set Ar121 q121 S121 M121 H121 G121 rfl W122 0 rfl (Nat.le_of_ble_eq_true rfl)
    have k124_ : ∀ t, Steps p.tables e below (T122.setTop (mkF m 248 #[.val (.int p0), .val (.int p1), .val (.int p2), .val (.int p3), .val (.int p4), .val (.int u), .val (.int r), .val (.int o), .val (.int sv), .val (.int iv), .val (.ref b12), .val (.ref b35), .val (.ref b54), .val (.double (FP.l2d (p4.toInt64))), .second, .val (.int (o + (1 : Int32))), .val (.ref b76), .val (.ref b99), .unset, .unset] [(.double (FP.l2d (2 : Int64))), (.int (1 : Int32)), (.ref b118), (.ref b118)])) t → Steps p.tables e below (s₁.setTop (mkF m 0 #[.val (.int p0), .val (.int p1), .val (.int p2), .val (.int p3), .val (.int p4), .unset, .unset, .unset, .unset, .unset, .unset, .unset, .unset, .unset, .unset, .unset, .unset, .unset, .unset, .unset] [])) t := by
      intro t q
      refine k123_ _ ?_
      show Steps p.tables e below (T122.setTop (mkF m 243 #[.val (.int p0), .val (.int p1), .val (.int p2), .val (.int p3), .val (.int p4), .val (.int u), .val (.int r), .val (.int o), .val (.int sv), .val (.int iv), .val (.ref b12), .val (.ref b35), .val (.ref b54), .val (.double (FP.l2d (p4.toInt64))), .second, .val (.int (o + (1 : Int32))), .val (.ref b76), .val (.ref b99), .unset, .unset] [(.ref b118)])) _
      refine XS.dup X122.here hx rfl (hb hby at_243) rfl rfl ?_
      show Steps p.tables e below (T122.setTop (mkF m 244 #[.val (.int p0), .val (.int p1), .val (.int p2), .val (.int p3), .val (.int p4), .val (.int u), .val (.int r), .val (.int o), .val (.int sv), .val (.int iv), .val (.ref b12), .val (.ref b35), .val (.ref b54), .val (.double (FP.l2d (p4.toInt64))), .second, .val (.int (o + (1 : Int32))), .val (.ref b76), .val (.ref b99), .unset, .unset] [(.ref b118), (.ref b118)])) _
      refine XS.iconst X122.here hx rfl (hb hby at_244) ?_
      show Steps p.tables e below (T122.setTop (mkF m 245 #[.val (.int p0), .val (.int p1), .val (.int p2), .val (.int p3), .val (.int p4), .val (.int u), .val (.int r), .val (.int o), .val (.int sv), .val (.int iv), .val (.ref b12), .val (.ref b35), .val (.ref b54), .val (.double (FP.l2d (p4.toInt64))), .second, .val (.int (o + (1 : Int32))), .val (.ref b76), .val (.ref b99), .unset, .unset] [(.int (1 : Int32)), (.ref b118), (.ref b118)])) _
      refine X122.ldc2DoubleC hx hown (mvT hZ (hw _ (List.mem_of_getElem? (i := 3) rfl))) (g := (mkF m 245 #[.val (.int p0), .val (.int p1), .val (.int p2), .val (.int p3), .val (.int p4), .val (.int u), .val (.int r), .val (.int o), .val (.int sv), .val (.int iv), .val (.ref b12), .val (.ref b35), .val (.ref b54), .val (.double (FP.l2d (p4.toInt64))), .second, .val (.int (o + (1 : Int32))), .val (.ref b76), .val (.ref b99), .unset, .unset] [(.int (1 : Int32)), (.ref b118), (.ref b118)])) rfl (hb hby at_245) _ ?_
      rw [own_c2]
      show Steps p.tables e below (T122.setTop (mkF m 248 #[.val (.int p0), .val (.int p1), .val (.int p2), .val (.int p3), .val (.int p4), .val (.int u), .val (.int r), .val (.int o), .val (.int sv), .val (.int iv), .val (.ref b12), .val (.ref b35), .val (.ref b54), .val (.double (FP.l2d (p4.toInt64))), .second, .val (.int (o + (1 : Int32))), .val (.ref b76), .val (.ref b99), .unset, .unset] [(.double (FP.l2d (2 : Int64))), (.int (1 : Int32)), (.ref b118), (.ref b118)])) _
      exact q
    obtain ⟨cl125, Ar125, q125, S125, M125, H125, G125⟩ := V_b118
    obtain ⟨T126, h126, X126, e126, W126, st126⟩ := stD X122 hx hZ e122 Ar125 (j := (1 : Int32)) (inb_of S125 ⟨by decide, by decide⟩) (g := (mkF m 248 #[.val (.int p0), .val (.int p1), .val (.int p2), .val (.int p3), .val (.int p4), .val (.int u), .val (.int r), .val (.int o), .val (.int sv), .val (.int iv), .val (.ref b12), .val (.ref b35), .val (.ref b54), .val (.double (FP.l2d (p4.toInt64))), .second, .val (.int (o + (1 : Int32))), .val (.ref b76), .val (.ref b99), .unset, .unset] [(.double (FP.l2d (2 : Int64))), (.int (1 : Int32)), (.ref b118), (.ref b118)])) rfl rfl (hb hby at_248)
    have k127_ : ∀ t, Steps p.tables e below (T126.setTop (mkF m 249 #[.val (.int p0), .val (.int p1), .val (.int p2), .val (.int p3), .val (.int p4), .val (.int u), .val (.int r), .val (.int o), .val (.int sv), .val (.int iv), .val (.ref b12), .val (.ref b35), .val (.ref b54), .val (.double (FP.l2d (p4.toInt64))), .second, .val (.int (o + (1 : Int32))), .val (.ref b76), .val (.ref b99), .unset, .unset] [(.ref b118)])) t → Steps p.tables e below (s₁.setTop (mkF m 0 #[.val (.int p0), .val (.int p1), .val (.int p2), .val (.int p3), .val (.int p4), .unset, .unset, .unset, .unset, .unset, .unset, .unset, .unset, .unset, .unset, .unset, .unset, .unset, .unset, .unset] [])) t := fun t q => k124_ t (st126 t q)
    have N126 := Fr.snoc X126 N122 g_b118
    replace Zn := Nat.le_trans Zn (Keep.of_wr W126).1
    replace V_b12 := V_b12.other W126 ne_b12_b118
    replace V_b35 := V_b35.other W126 ne_b35_b118
    replace V_b54 := V_b54.other W126 ne_b54_b118
    replace V_b76 := V_b76.other W126 ne_b76_b118
    replace V_b99 := V_b99.other W126 ne_b99_b118
    have V_b118 : Arv Z h126 b118 c118 .double (4 : Int32) [(.double (FP.l2d (1 : Int64))), (.double (FP.l2d (2 : Int64))), (.double (FP.l2d (0 : Int64))), (.double (FP.l2d (0 : Int64)))] (.double (FP.l2d (0 : Int64))) := Arv.set Ar125 q125 S125 M125 H125 G125 rfl W126 1 rfl (Nat.le_of_ble_eq_true rfl)
    have k128_ : ∀ t, Steps p.tables e below (T126.setTop (mkF m 254 #[.val (.int p0), .val (.int p1), .val (.int p2), .val (.int p3), .val (.int p4), .val (.int u), .val (.int r), .val (.int o), .val (.int sv), .val (.int iv), .val (.ref b12), .val (.ref b35), .val (.ref b54), .val (.double (FP.l2d (p4.toInt64))), .second, .val (.int (o + (1 : Int32))), .val (.ref b76), .val (.ref b99), .unset, .unset] [(.double (FP.l2d (3 : Int64))), (.int (2 : Int32)), (.ref b118), (.ref b118)])) t → Steps p.tables e below (s₁.setTop (mkF m 0 #[.val (.int p0), .val (.int p1), .val (.int p2), .val (.int p3), .val (.int p4), .unset, .unset, .unset, .unset, .unset, .unset, .unset, .unset, .unset, .unset, .unset, .unset, .unset, .unset, .unset] [])) t := by
      intro t q
      refine k127_ _ ?_
      show Steps p.tables e below (T126.setTop (mkF m 249 #[.val (.int p0), .val (.int p1), .val (.int p2), .val (.int p3), .val (.int p4), .val (.int u), .val (.int r), .val (.int o), .val (.int sv), .val (.int iv), .val (.ref b12), .val (.ref b35), .val (.ref b54), .val (.double (FP.l2d (p4.toInt64))), .second, .val (.int (o + (1 : Int32))), .val (.ref b76), .val (.ref b99), .unset, .unset] [(.ref b118)])) _
      refine XS.dup X126.here hx rfl (hb hby at_249) rfl rfl ?_
      show Steps p.tables e below (T126.setTop (mkF m 250 #[.val (.int p0), .val (.int p1), .val (.int p2), .val (.int p3), .val (.int p4), .val (.int u), .val (.int r), .val (.int o), .val (.int sv), .val (.int iv), .val (.ref b12), .val (.ref b35), .val (.ref b54), .val (.double (FP.l2d (p4.toInt64))), .second, .val (.int (o + (1 : Int32))), .val (.ref b76), .val (.ref b99), .unset, .unset] [(.ref b118), (.ref b118)])) _
      refine XS.iconst X126.here hx rfl (hb hby at_250) ?_
      show Steps p.tables e below (T126.setTop (mkF m 251 #[.val (.int p0), .val (.int p1), .val (.int p2), .val (.int p3), .val (.int p4), .val (.int u), .val (.int r), .val (.int o), .val (.int sv), .val (.int iv), .val (.ref b12), .val (.ref b35), .val (.ref b54), .val (.double (FP.l2d (p4.toInt64))), .second, .val (.int (o + (1 : Int32))), .val (.ref b76), .val (.ref b99), .unset, .unset] [(.int (2 : Int32)), (.ref b118), (.ref b118)])) _
      refine X126.ldc2DoubleC hx hown (mvT hZ (hw _ (List.mem_of_getElem? (i := 4) rfl))) (g := (mkF m 251 #[.val (.int p0), .val (.int p1), .val (.int p2), .val (.int p3), .val (.int p4), .val (.int u), .val (.int r), .val (.int o), .val (.int sv), .val (.int iv), .val (.ref b12), .val (.ref b35), .val (.ref b54), .val (.double (FP.l2d (p4.toInt64))), .second, .val (.int (o + (1 : Int32))), .val (.ref b76), .val (.ref b99), .unset, .unset] [(.int (2 : Int32)), (.ref b118), (.ref b118)])) rfl (hb hby at_251) _ ?_
      rw [own_c3]
      show Steps p.tables e below (T126.setTop (mkF m 254 #[.val (.int p0), .val (.int p1), .val (.int p2), .val (.int p3), .val (.int p4), .val (.int u), .val (.int r), .val (.int o), .val (.int sv), .val (.int iv), .val (.ref b12), .val (.ref b35), .val (.ref b54), .val (.double (FP.l2d (p4.toInt64))), .second, .val (.int (o + (1 : Int32))), .val (.ref b76), .val (.ref b99), .unset, .unset] [(.double (FP.l2d (3 : Int64))), (.int (2 : Int32)), (.ref b118), (.ref b118)])) _
      exact q
    obtain ⟨cl129, Ar129, q129, S129, M129, H129, G129⟩ := V_b118
    obtain ⟨T130, h130, X130, e130, W130, st130⟩ := stD X126 hx hZ e126 Ar129 (j := (2 : Int32)) (inb_of S129 ⟨by decide, by decide⟩) (g := (mkF m 254 #[.val (.int p0), .val (.int p1), .val (.int p2), .val (.int p3), .val (.int p4), .val (.int u), .val (.int r), .val (.int o), .val (.int sv), .val (.int iv), .val (.ref b12), .val (.ref b35), .val (.ref b54), .val (.double (FP.l2d (p4.toInt64))), .second, .val (.int (o + (1 : Int32))), .val (.ref b76), .val (.ref b99), .unset, .unset] [(.double (FP.l2d (3 : Int64))), (.int (2 : Int32)), (.ref b118), (.ref b118)])) rfl rfl (hb hby at_254)
    have k131_ : ∀ t, Steps p.tables e below (T130.setTop (mkF m 255 #[.val (.int p0), .val (.int p1), .val (.int p2), .val (.int p3), .val (.int p4), .val (.int u), .val (.int r), .val (.int o), .val (.int sv), .val (.int iv), .val (.ref b12), .val (.ref b35), .val (.ref b54), .val (.double (FP.l2d (p4.toInt64))), .second, .val (.int (o + (1 : Int32))), .val (.ref b76), .val (.ref b99), .unset, .unset] [(.ref b118)])) t → Steps p.tables e below (s₁.setTop (mkF m 0 #[.val (.int p0), .val (.int p1), .val (.int p2), .val (.int p3), .val (.int p4), .unset, .unset, .unset, .unset, .unset, .unset, .unset, .unset, .unset, .unset, .unset, .unset, .unset, .unset, .unset] [])) t := fun t q => k128_ t (st130 t q)
    have N130 := Fr.snoc X130 N126 g_b118
    replace Zn := Nat.le_trans Zn (Keep.of_wr W130).1
    replace V_b12 := V_b12.other W130 ne_b12_b118
    replace V_b35 := V_b35.other W130 ne_b35_b118
    replace V_b54 := V_b54.other W130 ne_b54_b118
    replace V_b76 := V_b76.other W130 ne_b76_b118
    replace V_b99 := V_b99.other W130 ne_b99_b118
    have V_b118 : Arv Z h130 b118 c118 .double (4 : Int32) [(.double (FP.l2d (1 : Int64))), (.double (FP.l2d (2 : Int64))), (.double (FP.l2d (3 : Int64))), (.double (FP.l2d (0 : Int64)))] (.double (FP.l2d (0 : Int64))) := Arv.set Ar129 q129 S129 M129 H129 G129 rfl W130 2 rfl (Nat.le_of_ble_eq_true rfl)
    have k132_ : ∀ t, Steps p.tables e below (T130.setTop (mkF m 260 #[.val (.int p0), .val (.int p1), .val (.int p2), .val (.int p3), .val (.int p4), .val (.int u), .val (.int r), .val (.int o), .val (.int sv), .val (.int iv), .val (.ref b12), .val (.ref b35), .val (.ref b54), .val (.double (FP.l2d (p4.toInt64))), .second, .val (.int (o + (1 : Int32))), .val (.ref b76), .val (.ref b99), .unset, .unset] [(.double (FP.l2d (4 : Int64))), (.int (3 : Int32)), (.ref b118), (.ref b118)])) t → Steps p.tables e below (s₁.setTop (mkF m 0 #[.val (.int p0), .val (.int p1), .val (.int p2), .val (.int p3), .val (.int p4), .unset, .unset, .unset, .unset, .unset, .unset, .unset, .unset, .unset, .unset, .unset, .unset, .unset, .unset, .unset] [])) t := by
      intro t q
      refine k131_ _ ?_
      show Steps p.tables e below (T130.setTop (mkF m 255 #[.val (.int p0), .val (.int p1), .val (.int p2), .val (.int p3), .val (.int p4), .val (.int u), .val (.int r), .val (.int o), .val (.int sv), .val (.int iv), .val (.ref b12), .val (.ref b35), .val (.ref b54), .val (.double (FP.l2d (p4.toInt64))), .second, .val (.int (o + (1 : Int32))), .val (.ref b76), .val (.ref b99), .unset, .unset] [(.ref b118)])) _
      refine XS.dup X130.here hx rfl (hb hby at_255) rfl rfl ?_
      show Steps p.tables e below (T130.setTop (mkF m 256 #[.val (.int p0), .val (.int p1), .val (.int p2), .val (.int p3), .val (.int p4), .val (.int u), .val (.int r), .val (.int o), .val (.int sv), .val (.int iv), .val (.ref b12), .val (.ref b35), .val (.ref b54), .val (.double (FP.l2d (p4.toInt64))), .second, .val (.int (o + (1 : Int32))), .val (.ref b76), .val (.ref b99), .unset, .unset] [(.ref b118), (.ref b118)])) _
      refine XS.iconst X130.here hx rfl (hb hby at_256) ?_
      show Steps p.tables e below (T130.setTop (mkF m 257 #[.val (.int p0), .val (.int p1), .val (.int p2), .val (.int p3), .val (.int p4), .val (.int u), .val (.int r), .val (.int o), .val (.int sv), .val (.int iv), .val (.ref b12), .val (.ref b35), .val (.ref b54), .val (.double (FP.l2d (p4.toInt64))), .second, .val (.int (o + (1 : Int32))), .val (.ref b76), .val (.ref b99), .unset, .unset] [(.int (3 : Int32)), (.ref b118), (.ref b118)])) _
      refine X130.ldc2DoubleC hx hown (mvT hZ (hw _ (List.mem_of_getElem? (i := 5) rfl))) (g := (mkF m 257 #[.val (.int p0), .val (.int p1), .val (.int p2), .val (.int p3), .val (.int p4), .val (.int u), .val (.int r), .val (.int o), .val (.int sv), .val (.int iv), .val (.ref b12), .val (.ref b35), .val (.ref b54), .val (.double (FP.l2d (p4.toInt64))), .second, .val (.int (o + (1 : Int32))), .val (.ref b76), .val (.ref b99), .unset, .unset] [(.int (3 : Int32)), (.ref b118), (.ref b118)])) rfl (hb hby at_257) _ ?_
      rw [own_c4]
      show Steps p.tables e below (T130.setTop (mkF m 260 #[.val (.int p0), .val (.int p1), .val (.int p2), .val (.int p3), .val (.int p4), .val (.int u), .val (.int r), .val (.int o), .val (.int sv), .val (.int iv), .val (.ref b12), .val (.ref b35), .val (.ref b54), .val (.double (FP.l2d (p4.toInt64))), .second, .val (.int (o + (1 : Int32))), .val (.ref b76), .val (.ref b99), .unset, .unset] [(.double (FP.l2d (4 : Int64))), (.int (3 : Int32)), (.ref b118), (.ref b118)])) _
      exact q
    obtain ⟨cl133, Ar133, q133, S133, M133, H133, G133⟩ := V_b118
    obtain ⟨T134, h134, X134, e134, W134, st134⟩ := stD X130 hx hZ e130 Ar133 (j := (3 : Int32)) (inb_of S133 ⟨by decide, by decide⟩) (g := (mkF m 260 #[.val (.int p0), .val (.int p1), .val (.int p2), .val (.int p3), .val (.int p4), .val (.int u), .val (.int r), .val (.int o), .val (.int sv), .val (.int iv), .val (.ref b12), .val (.ref b35), .val (.ref b54), .val (.double (FP.l2d (p4.toInt64))), .second, .val (.int (o + (1 : Int32))), .val (.ref b76), .val (.ref b99), .unset, .unset] [(.double (FP.l2d (4 : Int64))), (.int (3 : Int32)), (.ref b118), (.ref b118)])) rfl rfl (hb hby at_260)
    have k135_ : ∀ t, Steps p.tables e below (T134.setTop (mkF m 261 #[.val (.int p0), .val (.int p1), .val (.int p2), .val (.int p3), .val (.int p4), .val (.int u), .val (.int r), .val (.int o), .val (.int sv), .val (.int iv), .val (.ref b12), .val (.ref b35), .val (.ref b54), .val (.double (FP.l2d (p4.toInt64))), .second, .val (.int (o + (1 : Int32))), .val (.ref b76), .val (.ref b99), .unset, .unset] [(.ref b118)])) t → Steps p.tables e below (s₁.setTop (mkF m 0 #[.val (.int p0), .val (.int p1), .val (.int p2), .val (.int p3), .val (.int p4), .unset, .unset, .unset, .unset, .unset, .unset, .unset, .unset, .unset, .unset, .unset, .unset, .unset, .unset, .unset] [])) t := fun t q => k132_ t (st134 t q)
    have N134 := Fr.snoc X134 N130 g_b118
    replace Zn := Nat.le_trans Zn (Keep.of_wr W134).1
    replace V_b12 := V_b12.other W134 ne_b12_b118
    replace V_b35 := V_b35.other W134 ne_b35_b118
    replace V_b54 := V_b54.other W134 ne_b54_b118
    replace V_b76 := V_b76.other W134 ne_b76_b118
    replace V_b99 := V_b99.other W134 ne_b99_b118
    have V_b118 : Arv Z h134 b118 c118 .double (4 : Int32) [(.double (FP.l2d (1 : Int64))), (.double (FP.l2d (2 : Int64))), (.double (FP.l2d (3 : Int64))), (.double (FP.l2d (4 : Int64)))] (.double (FP.l2d (0 : Int64))) := Arv.set Ar133 q133 S133 M133 H133 G133 rfl W134 3 rfl (Nat.le_of_ble_eq_true rfl)
    replace V_b118 : Arv Z h134 b118 c118 .double (4 : Int32) (own_d0.map own_dv) (.double (FP.l2d (0 : Int64))) := V_b118
    have k136_ : ∀ t, Steps p.tables e below (T134.setTop (mkF m 265 #[.val (.int p0), .val (.int p1), .val (.int p2), .val (.int p3), .val (.int p4), .val (.int u), .val (.int r), .val (.int o), .val (.int sv), .val (.int iv), .val (.ref b12), .val (.ref b35), .val (.ref b54), .val (.double (FP.l2d (p4.toInt64))), .second, .val (.int (o + (1 : Int32))), .val (.ref b76), .val (.ref b99), .val (.ref b118), .unset] [(.int iv)])) t → Steps p.tables e below (s₁.setTop (mkF m 0 #[.val (.int p0), .val (.int p1), .val (.int p2), .val (.int p3), .val (.int p4), .unset, .unset, .unset, .unset, .unset, .unset, .unset, .unset, .unset, .unset, .unset, .unset, .unset, .unset, .unset] [])) t := by
      intro t q
      refine k135_ _ ?_
      show Steps p.tables e below (T134.setTop (mkF m 261 #[.val (.int p0), .val (.int p1), .val (.int p2), .val (.int p3), .val (.int p4), .val (.int u), .val (.int r), .val (.int o), .val (.int sv), .val (.int iv), .val (.ref b12), .val (.ref b35), .val (.ref b54), .val (.double (FP.l2d (p4.toInt64))), .second, .val (.int (o + (1 : Int32))), .val (.ref b76), .val (.ref b99), .unset, .unset] [(.ref b118)])) _
      refine XS.astore X134.here hx rfl (hb hby at_261) rfl rfl (l' := #[.val (.int p0), .val (.int p1), .val (.int p2), .val (.int p3), .val (.int p4), .val (.int u), .val (.int r), .val (.int o), .val (.int sv), .val (.int iv), .val (.ref b12), .val (.ref b35), .val (.ref b54), .val (.double (FP.l2d (p4.toInt64))), .second, .val (.int (o + (1 : Int32))), .val (.ref b76), .val (.ref b99), .val (.ref b118), .unset]) rfl ?_
      show Steps p.tables e below (T134.setTop (mkF m 263 #[.val (.int p0), .val (.int p1), .val (.int p2), .val (.int p3), .val (.int p4), .val (.int u), .val (.int r), .val (.int o), .val (.int sv), .val (.int iv), .val (.ref b12), .val (.ref b35), .val (.ref b54), .val (.double (FP.l2d (p4.toInt64))), .second, .val (.int (o + (1 : Int32))), .val (.ref b76), .val (.ref b99), .val (.ref b118), .unset] [])) _
      refine XS.iload X134.here hx rfl (hb hby at_263) rfl ?_
      show Steps p.tables e below (T134.setTop (mkF m 265 #[.val (.int p0), .val (.int p1), .val (.int p2), .val (.int p3), .val (.int p4), .val (.int u), .val (.int r), .val (.int o), .val (.int sv), .val (.int iv), .val (.ref b12), .val (.ref b35), .val (.ref b54), .val (.double (FP.l2d (p4.toInt64))), .second, .val (.int (o + (1 : Int32))), .val (.ref b76), .val (.ref b99), .val (.ref b118), .unset] [(.int iv)])) _
      exact q
    have k137_ : ∀ t, Steps p.tables e below (T134.setTop (mkF m 290 #[.val (.int p0), .val (.int p1), .val (.int p2), .val (.int p3), .val (.int p4), .val (.int u), .val (.int r), .val (.int o), .val (.int sv), .val (.int iv), .val (.ref b12), .val (.ref b35), .val (.ref b54), .val (.double (FP.l2d (p4.toInt64))), .second, .val (.int (o + (1 : Int32))), .val (.ref b76), .val (.ref b99), .val (.ref b118), .unset] [])) t → Steps p.tables e below (s₁.setTop (mkF m 0 #[.val (.int p0), .val (.int p1), .val (.int p2), .val (.int p3), .val (.int p4), .unset, .unset, .unset, .unset, .unset, .unset, .unset, .unset, .unset, .unset, .unset, .unset, .unset, .unset, .unset] [])) t := by
      intro t q
      refine k136_ _ ?_
      show Steps p.tables e below (T134.setTop (mkF m 265 #[.val (.int p0), .val (.int p1), .val (.int p2), .val (.int p3), .val (.int p4), .val (.int u), .val (.int r), .val (.int o), .val (.int sv), .val (.int iv), .val (.ref b12), .val (.ref b35), .val (.ref b54), .val (.double (FP.l2d (p4.toInt64))), .second, .val (.int (o + (1 : Int32))), .val (.ref b76), .val (.ref b99), .val (.ref b118), .unset] [(.int iv)])) _
      refine XS.ifYes X134.here hx rfl (pc0 := 265) (pc' := 290) rfl (hb hby at_265) rfl ((if0 _ _).trans (teq hi).1) (by decide) (by decide) ?_
      show Steps p.tables e below (T134.setTop (mkF m 290 #[.val (.int p0), .val (.int p1), .val (.int p2), .val (.int p3), .val (.int p4), .val (.int u), .val (.int r), .val (.int o), .val (.int sv), .val (.int iv), .val (.ref b12), .val (.ref b35), .val (.ref b54), .val (.double (FP.l2d (p4.toInt64))), .second, .val (.int (o + (1 : Int32))), .val (.ref b76), .val (.ref b99), .val (.ref b118), .unset] [])) _
      exact q
    have k138_ : ∀ t, Steps p.tables e below (T134.setTop (mkF m 296 #[.val (.int p0), .val (.int p1), .val (.int p2), .val (.int p3), .val (.int p4), .val (.int u), .val (.int r), .val (.int o), .val (.int sv), .val (.int iv), .val (.ref b12), .val (.ref b35), .val (.ref b54), .val (.double (FP.l2d (p4.toInt64))), .second, .val (.int (o + (1 : Int32))), .val (.ref b76), .val (.ref b99), .val (.ref b118), .unset] [(.int o), (.int u), (.ref b76)])) t → Steps p.tables e below (s₁.setTop (mkF m 0 #[.val (.int p0), .val (.int p1), .val (.int p2), .val (.int p3), .val (.int p4), .unset, .unset, .unset, .unset, .unset, .unset, .unset, .unset, .unset, .unset, .unset, .unset, .unset, .unset, .unset] [])) t := by
      intro t q
      refine k137_ _ ?_
      show Steps p.tables e below (T134.setTop (mkF m 290 #[.val (.int p0), .val (.int p1), .val (.int p2), .val (.int p3), .val (.int p4), .val (.int u), .val (.int r), .val (.int o), .val (.int sv), .val (.int iv), .val (.ref b12), .val (.ref b35), .val (.ref b54), .val (.double (FP.l2d (p4.toInt64))), .second, .val (.int (o + (1 : Int32))), .val (.ref b76), .val (.ref b99), .val (.ref b118), .unset] [])) _
      refine XS.aload X134.here hx rfl (hb hby at_290) rfl rfl ?_
      show Steps p.tables e below (T134.setTop (mkF m 292 #[.val (.int p0), .val (.int p1), .val (.int p2), .val (.int p3), .val (.int p4), .val (.int u), .val (.int r), .val (.int o), .val (.int sv), .val (.int iv), .val (.ref b12), .val (.ref b35), .val (.ref b54), .val (.double (FP.l2d (p4.toInt64))), .second, .val (.int (o + (1 : Int32))), .val (.ref b76), .val (.ref b99), .val (.ref b118), .unset] [(.ref b76)])) _
      refine XS.iload X134.here hx rfl (hb hby at_292) rfl ?_
      show Steps p.tables e below (T134.setTop (mkF m 294 #[.val (.int p0), .val (.int p1), .val (.int p2), .val (.int p3), .val (.int p4), .val (.int u), .val (.int r), .val (.int o), .val (.int sv), .val (.int iv), .val (.ref b12), .val (.ref b35), .val (.ref b54), .val (.double (FP.l2d (p4.toInt64))), .second, .val (.int (o + (1 : Int32))), .val (.ref b76), .val (.ref b99), .val (.ref b118), .unset] [(.int u), (.ref b76)])) _
      refine XS.iload X134.here hx rfl (hb hby at_294) rfl ?_
      show Steps p.tables e below (T134.setTop (mkF m 296 #[.val (.int p0), .val (.int p1), .val (.int p2), .val (.int p3), .val (.int p4), .val (.int u), .val (.int r), .val (.int o), .val (.int sv), .val (.int iv), .val (.ref b12), .val (.ref b35), .val (.ref b54), .val (.double (FP.l2d (p4.toInt64))), .second, .val (.int (o + (1 : Int32))), .val (.ref b76), .val (.ref b99), .val (.ref b118), .unset] [(.int o), (.int u), (.ref b76)])) _
      exact q
    obtain ⟨cl139, Ar139, q139, S139, M139, H139, G139⟩ := V_b76
    obtain ⟨T140, h140, X140, e140, W140, st140⟩ := stI X134 hx hZ e134 Ar139 (j := u) (inb_of S139 ⟨hu.1, hu.2⟩) (g := (mkF m 296 #[.val (.int p0), .val (.int p1), .val (.int p2), .val (.int p3), .val (.int p4), .val (.int u), .val (.int r), .val (.int o), .val (.int sv), .val (.int iv), .val (.ref b12), .val (.ref b35), .val (.ref b54), .val (.double (FP.l2d (p4.toInt64))), .second, .val (.int (o + (1 : Int32))), .val (.ref b76), .val (.ref b99), .val (.ref b118), .unset] [(.int o), (.int u), (.ref b76)])) rfl rfl (hb hby at_296)
    have k141_ : ∀ t, Steps p.tables e below (T140.setTop (mkF m 297 #[.val (.int p0), .val (.int p1), .val (.int p2), .val (.int p3), .val (.int p4), .val (.int u), .val (.int r), .val (.int o), .val (.int sv), .val (.int iv), .val (.ref b12), .val (.ref b35), .val (.ref b54), .val (.double (FP.l2d (p4.toInt64))), .second, .val (.int (o + (1 : Int32))), .val (.ref b76), .val (.ref b99), .val (.ref b118), .unset] [])) t → Steps p.tables e below (s₁.setTop (mkF m 0 #[.val (.int p0), .val (.int p1), .val (.int p2), .val (.int p3), .val (.int p4), .unset, .unset, .unset, .unset, .unset, .unset, .unset, .unset, .unset, .unset, .unset, .unset, .unset, .unset, .unset] [])) t := fun t q => k138_ t (st140 t q)
    have N140 := Fr.snoc X140 N134 g_b76
    replace Zn := Nat.le_trans Zn (Keep.of_wr W140).1
    replace V_b12 := V_b12.other W140 ne_b12_b76
    replace V_b35 := V_b35.other W140 ne_b35_b76
    replace V_b54 := V_b54.other W140 ne_b54_b76
    replace V_b99 := V_b99.other W140 (Ne.symm ne_b76_b99)
    replace V_b118 := V_b118.other W140 (Ne.symm ne_b76_b118)
    have V_b76 : Arv Z h140 b76 c76 .int (4 : Int32) (((own_x0.set u.toNatClampNeg sv).set (u).toNatClampNeg o).map Value.int) (.int (0 : Int32)) := by rw [List.map_set]; exact Arv.set Ar139 q139 S139 M139 H139 G139 rfl W140 _ rfl (own_ix hu.1 hu.2 (show (own_x0.set u.toNatClampNeg sv).length = 4 from List.length_set))
    have k142_ : ∀ t, Steps p.tables e below (T140.setTop (mkF m 303 #[.val (.int p0), .val (.int p1), .val (.int p2), .val (.int p3), .val (.int p4), .val (.int u), .val (.int r), .val (.int o), .val (.int sv), .val (.int iv), .val (.ref b12), .val (.ref b35), .val (.ref b54), .val (.double (FP.l2d (p4.toInt64))), .second, .val (.int (o + (1 : Int32))), .val (.ref b76), .val (.ref b99), .val (.ref b118), .unset] [(.int u), (.int o), (.ref b99)])) t → Steps p.tables e below (s₁.setTop (mkF m 0 #[.val (.int p0), .val (.int p1), .val (.int p2), .val (.int p3), .val (.int p4), .unset, .unset, .unset, .unset, .unset, .unset, .unset, .unset, .unset, .unset, .unset, .unset, .unset, .unset, .unset] [])) t := by
      intro t q
      refine k141_ _ ?_
      show Steps p.tables e below (T140.setTop (mkF m 297 #[.val (.int p0), .val (.int p1), .val (.int p2), .val (.int p3), .val (.int p4), .val (.int u), .val (.int r), .val (.int o), .val (.int sv), .val (.int iv), .val (.ref b12), .val (.ref b35), .val (.ref b54), .val (.double (FP.l2d (p4.toInt64))), .second, .val (.int (o + (1 : Int32))), .val (.ref b76), .val (.ref b99), .val (.ref b118), .unset] [])) _
      refine XS.aload X140.here hx rfl (hb hby at_297) rfl rfl ?_
      show Steps p.tables e below (T140.setTop (mkF m 299 #[.val (.int p0), .val (.int p1), .val (.int p2), .val (.int p3), .val (.int p4), .val (.int u), .val (.int r), .val (.int o), .val (.int sv), .val (.int iv), .val (.ref b12), .val (.ref b35), .val (.ref b54), .val (.double (FP.l2d (p4.toInt64))), .second, .val (.int (o + (1 : Int32))), .val (.ref b76), .val (.ref b99), .val (.ref b118), .unset] [(.ref b99)])) _
      refine XS.iload X140.here hx rfl (hb hby at_299) rfl ?_
      show Steps p.tables e below (T140.setTop (mkF m 301 #[.val (.int p0), .val (.int p1), .val (.int p2), .val (.int p3), .val (.int p4), .val (.int u), .val (.int r), .val (.int o), .val (.int sv), .val (.int iv), .val (.ref b12), .val (.ref b35), .val (.ref b54), .val (.double (FP.l2d (p4.toInt64))), .second, .val (.int (o + (1 : Int32))), .val (.ref b76), .val (.ref b99), .val (.ref b118), .unset] [(.int o), (.ref b99)])) _
      refine XS.iload X140.here hx rfl (hb hby at_301) rfl ?_
      show Steps p.tables e below (T140.setTop (mkF m 303 #[.val (.int p0), .val (.int p1), .val (.int p2), .val (.int p3), .val (.int p4), .val (.int u), .val (.int r), .val (.int o), .val (.int sv), .val (.int iv), .val (.ref b12), .val (.ref b35), .val (.ref b54), .val (.double (FP.l2d (p4.toInt64))), .second, .val (.int (o + (1 : Int32))), .val (.ref b76), .val (.ref b99), .val (.ref b118), .unset] [(.int u), (.int o), (.ref b99)])) _
      exact q
    obtain ⟨cl143, Ar143, q143, S143, M143, H143, G143⟩ := V_b99
    obtain ⟨T144, h144, X144, e144, W144, st144⟩ := stI X140 hx hZ e140 Ar143 (j := o) (inb_of S143 ⟨ho0, ho4⟩) (g := (mkF m 303 #[.val (.int p0), .val (.int p1), .val (.int p2), .val (.int p3), .val (.int p4), .val (.int u), .val (.int r), .val (.int o), .val (.int sv), .val (.int iv), .val (.ref b12), .val (.ref b35), .val (.ref b54), .val (.double (FP.l2d (p4.toInt64))), .second, .val (.int (o + (1 : Int32))), .val (.ref b76), .val (.ref b99), .val (.ref b118), .unset] [(.int u), (.int o), (.ref b99)])) rfl rfl (hb hby at_303)
    have k145_ : ∀ t, Steps p.tables e below (T144.setTop (mkF m 304 #[.val (.int p0), .val (.int p1), .val (.int p2), .val (.int p3), .val (.int p4), .val (.int u), .val (.int r), .val (.int o), .val (.int sv), .val (.int iv), .val (.ref b12), .val (.ref b35), .val (.ref b54), .val (.double (FP.l2d (p4.toInt64))), .second, .val (.int (o + (1 : Int32))), .val (.ref b76), .val (.ref b99), .val (.ref b118), .unset] [])) t → Steps p.tables e below (s₁.setTop (mkF m 0 #[.val (.int p0), .val (.int p1), .val (.int p2), .val (.int p3), .val (.int p4), .unset, .unset, .unset, .unset, .unset, .unset, .unset, .unset, .unset, .unset, .unset, .unset, .unset, .unset, .unset] [])) t := fun t q => k142_ t (st144 t q)
    have N144 := Fr.snoc X144 N140 g_b99
    replace Zn := Nat.le_trans Zn (Keep.of_wr W144).1
    replace V_b12 := V_b12.other W144 ne_b12_b99
    replace V_b35 := V_b35.other W144 ne_b35_b99
    replace V_b54 := V_b54.other W144 ne_b54_b99
    replace V_b76 := V_b76.other W144 ne_b76_b99
    replace V_b118 := V_b118.other W144 (Ne.symm ne_b99_b118)
    have V_b99 : Arv Z h144 b99 c99 .int (4 : Int32) ((own_n0.set (o).toNatClampNeg u).map Value.int) (.int (0 : Int32)) := by rw [List.map_set]; exact Arv.set Ar143 q143 S143 M143 H143 G143 rfl W144 _ rfl (own_ix ho0 ho4 rfl)
    have k146_ : ∀ t, Steps p.tables e below (T144.setTop (mkF m 311 #[.val (.int p0), .val (.int p1), .val (.int p2), .val (.int p3), .val (.int p4), .val (.int u), .val (.int r), .val (.int o), .val (.int sv), .val (.int iv), .val (.ref b12), .val (.ref b35), .val (.ref b54), .val (.double (FP.l2d (p4.toInt64))), .second, .val (.int (o + (1 : Int32))), .val (.ref b76), .val (.ref b99), .val (.ref b118), .unset] [(.double (FP.l2d (p4.toInt64))), (.int o), (.ref b118)])) t → Steps p.tables e below (s₁.setTop (mkF m 0 #[.val (.int p0), .val (.int p1), .val (.int p2), .val (.int p3), .val (.int p4), .unset, .unset, .unset, .unset, .unset, .unset, .unset, .unset, .unset, .unset, .unset, .unset, .unset, .unset, .unset] [])) t := by
      intro t q
      refine k145_ _ ?_
      show Steps p.tables e below (T144.setTop (mkF m 304 #[.val (.int p0), .val (.int p1), .val (.int p2), .val (.int p3), .val (.int p4), .val (.int u), .val (.int r), .val (.int o), .val (.int sv), .val (.int iv), .val (.ref b12), .val (.ref b35), .val (.ref b54), .val (.double (FP.l2d (p4.toInt64))), .second, .val (.int (o + (1 : Int32))), .val (.ref b76), .val (.ref b99), .val (.ref b118), .unset] [])) _
      refine XS.aload X144.here hx rfl (hb hby at_304) rfl rfl ?_
      show Steps p.tables e below (T144.setTop (mkF m 306 #[.val (.int p0), .val (.int p1), .val (.int p2), .val (.int p3), .val (.int p4), .val (.int u), .val (.int r), .val (.int o), .val (.int sv), .val (.int iv), .val (.ref b12), .val (.ref b35), .val (.ref b54), .val (.double (FP.l2d (p4.toInt64))), .second, .val (.int (o + (1 : Int32))), .val (.ref b76), .val (.ref b99), .val (.ref b118), .unset] [(.ref b118)])) _
      refine XS.iload X144.here hx rfl (hb hby at_306) rfl ?_
      show Steps p.tables e below (T144.setTop (mkF m 308 #[.val (.int p0), .val (.int p1), .val (.int p2), .val (.int p3), .val (.int p4), .val (.int u), .val (.int r), .val (.int o), .val (.int sv), .val (.int iv), .val (.ref b12), .val (.ref b35), .val (.ref b54), .val (.double (FP.l2d (p4.toInt64))), .second, .val (.int (o + (1 : Int32))), .val (.ref b76), .val (.ref b99), .val (.ref b118), .unset] [(.int o), (.ref b118)])) _
      refine XS.iload X144.here hx rfl (hb hby at_308) rfl ?_
      show Steps p.tables e below (T144.setTop (mkF m 310 #[.val (.int p0), .val (.int p1), .val (.int p2), .val (.int p3), .val (.int p4), .val (.int u), .val (.int r), .val (.int o), .val (.int sv), .val (.int iv), .val (.ref b12), .val (.ref b35), .val (.ref b54), .val (.double (FP.l2d (p4.toInt64))), .second, .val (.int (o + (1 : Int32))), .val (.ref b76), .val (.ref b99), .val (.ref b118), .unset] [(.int p4), (.int o), (.ref b118)])) _
      refine XS.i2dS X144.here hx rfl (hb hby at_310) rfl (v := FP.l2d (p4.toInt64)) (i2d_w _) ?_
      show Steps p.tables e below (T144.setTop (mkF m 311 #[.val (.int p0), .val (.int p1), .val (.int p2), .val (.int p3), .val (.int p4), .val (.int u), .val (.int r), .val (.int o), .val (.int sv), .val (.int iv), .val (.ref b12), .val (.ref b35), .val (.ref b54), .val (.double (FP.l2d (p4.toInt64))), .second, .val (.int (o + (1 : Int32))), .val (.ref b76), .val (.ref b99), .val (.ref b118), .unset] [(.double (FP.l2d (p4.toInt64))), (.int o), (.ref b118)])) _
      exact q
    obtain ⟨cl147, Ar147, q147, S147, M147, H147, G147⟩ := V_b118
    obtain ⟨T148, h148, X148, e148, W148, st148⟩ := stD X144 hx hZ e144 Ar147 (j := o) (inb_of S147 ⟨ho0, ho4⟩) (g := (mkF m 311 #[.val (.int p0), .val (.int p1), .val (.int p2), .val (.int p3), .val (.int p4), .val (.int u), .val (.int r), .val (.int o), .val (.int sv), .val (.int iv), .val (.ref b12), .val (.ref b35), .val (.ref b54), .val (.double (FP.l2d (p4.toInt64))), .second, .val (.int (o + (1 : Int32))), .val (.ref b76), .val (.ref b99), .val (.ref b118), .unset] [(.double (FP.l2d (p4.toInt64))), (.int o), (.ref b118)])) rfl rfl (hb hby at_311)
    have k149_ : ∀ t, Steps p.tables e below (T148.setTop (mkF m 312 #[.val (.int p0), .val (.int p1), .val (.int p2), .val (.int p3), .val (.int p4), .val (.int u), .val (.int r), .val (.int o), .val (.int sv), .val (.int iv), .val (.ref b12), .val (.ref b35), .val (.ref b54), .val (.double (FP.l2d (p4.toInt64))), .second, .val (.int (o + (1 : Int32))), .val (.ref b76), .val (.ref b99), .val (.ref b118), .unset] [])) t → Steps p.tables e below (s₁.setTop (mkF m 0 #[.val (.int p0), .val (.int p1), .val (.int p2), .val (.int p3), .val (.int p4), .unset, .unset, .unset, .unset, .unset, .unset, .unset, .unset, .unset, .unset, .unset, .unset, .unset, .unset, .unset] [])) t := fun t q => k146_ t (st148 t q)
    have N148 := Fr.snoc X148 N144 g_b118
    replace Zn := Nat.le_trans Zn (Keep.of_wr W148).1
    replace V_b12 := V_b12.other W148 ne_b12_b118
    replace V_b35 := V_b35.other W148 ne_b35_b118
    replace V_b54 := V_b54.other W148 ne_b54_b118
    replace V_b76 := V_b76.other W148 ne_b76_b118
    replace V_b99 := V_b99.other W148 ne_b99_b118
    have V_b118 : Arv Z h148 b118 c118 .double (4 : Int32) ((own_d0.set (o).toNatClampNeg p4.toInt64).map own_dv) (.double (FP.l2d (0 : Int64))) := by rw [List.map_set]; exact Arv.set Ar147 q147 S147 M147 H147 G147 rfl W148 _ rfl (own_ix ho0 ho4 rfl)
    have k150_ : ∀ t, Steps p.tables e below (T148.setTop (mkF m 322 #[.val (.int p0), .val (.int p1), .val (.int p2), .val (.int p3), .val (.int p4), .val (.int u), .val (.int r), .val (.int o), .val (.int sv), .val (.int iv), .val (.ref b12), .val (.ref b35), .val (.ref b54), .val (.double (FP.l2d (p4.toInt64))), .second, .val (.int (o + (1 : Int32))), .val (.ref b76), .val (.ref b99), .val (.ref b118), .val (.int (o + (1 : Int32)))] [(.int (o + (1 : Int32))), (.int (o + (1 : Int32)))])) t → Steps p.tables e below (s₁.setTop (mkF m 0 #[.val (.int p0), .val (.int p1), .val (.int p2), .val (.int p3), .val (.int p4), .unset, .unset, .unset, .unset, .unset, .unset, .unset, .unset, .unset, .unset, .unset, .unset, .unset, .unset, .unset] [])) t := by
      intro t q
      refine k149_ _ ?_
      show Steps p.tables e below (T148.setTop (mkF m 312 #[.val (.int p0), .val (.int p1), .val (.int p2), .val (.int p3), .val (.int p4), .val (.int u), .val (.int r), .val (.int o), .val (.int sv), .val (.int iv), .val (.ref b12), .val (.ref b35), .val (.ref b54), .val (.double (FP.l2d (p4.toInt64))), .second, .val (.int (o + (1 : Int32))), .val (.ref b76), .val (.ref b99), .val (.ref b118), .unset] [])) _
      refine XS.iload X148.here hx rfl (hb hby at_312) rfl ?_
      show Steps p.tables e below (T148.setTop (mkF m 314 #[.val (.int p0), .val (.int p1), .val (.int p2), .val (.int p3), .val (.int p4), .val (.int u), .val (.int r), .val (.int o), .val (.int sv), .val (.int iv), .val (.ref b12), .val (.ref b35), .val (.ref b54), .val (.double (FP.l2d (p4.toInt64))), .second, .val (.int (o + (1 : Int32))), .val (.ref b76), .val (.ref b99), .val (.ref b118), .unset] [(.int o)])) _
      refine XS.iconst X148.here hx rfl (hb hby at_314) ?_
      show Steps p.tables e below (T148.setTop (mkF m 315 #[.val (.int p0), .val (.int p1), .val (.int p2), .val (.int p3), .val (.int p4), .val (.int u), .val (.int r), .val (.int o), .val (.int sv), .val (.int iv), .val (.ref b12), .val (.ref b35), .val (.ref b54), .val (.double (FP.l2d (p4.toInt64))), .second, .val (.int (o + (1 : Int32))), .val (.ref b76), .val (.ref b99), .val (.ref b118), .unset] [(.int (1 : Int32)), (.int o)])) _
      refine XS.iadd X148.here hx rfl (hb hby at_315) rfl ?_
      show Steps p.tables e below (T148.setTop (mkF m 316 #[.val (.int p0), .val (.int p1), .val (.int p2), .val (.int p3), .val (.int p4), .val (.int u), .val (.int r), .val (.int o), .val (.int sv), .val (.int iv), .val (.ref b12), .val (.ref b35), .val (.ref b54), .val (.double (FP.l2d (p4.toInt64))), .second, .val (.int (o + (1 : Int32))), .val (.ref b76), .val (.ref b99), .val (.ref b118), .unset] [(.int (o + (1 : Int32)))])) _
      refine XS.istore X148.here hx rfl (hb hby at_316) rfl (l' := #[.val (.int p0), .val (.int p1), .val (.int p2), .val (.int p3), .val (.int p4), .val (.int u), .val (.int r), .val (.int o), .val (.int sv), .val (.int iv), .val (.ref b12), .val (.ref b35), .val (.ref b54), .val (.double (FP.l2d (p4.toInt64))), .second, .val (.int (o + (1 : Int32))), .val (.ref b76), .val (.ref b99), .val (.ref b118), .val (.int (o + (1 : Int32)))]) rfl ?_
      show Steps p.tables e below (T148.setTop (mkF m 318 #[.val (.int p0), .val (.int p1), .val (.int p2), .val (.int p3), .val (.int p4), .val (.int u), .val (.int r), .val (.int o), .val (.int sv), .val (.int iv), .val (.ref b12), .val (.ref b35), .val (.ref b54), .val (.double (FP.l2d (p4.toInt64))), .second, .val (.int (o + (1 : Int32))), .val (.ref b76), .val (.ref b99), .val (.ref b118), .val (.int (o + (1 : Int32)))] [])) _
      refine XS.iload X148.here hx rfl (hb hby at_318) rfl ?_
      show Steps p.tables e below (T148.setTop (mkF m 320 #[.val (.int p0), .val (.int p1), .val (.int p2), .val (.int p3), .val (.int p4), .val (.int u), .val (.int r), .val (.int o), .val (.int sv), .val (.int iv), .val (.ref b12), .val (.ref b35), .val (.ref b54), .val (.double (FP.l2d (p4.toInt64))), .second, .val (.int (o + (1 : Int32))), .val (.ref b76), .val (.ref b99), .val (.ref b118), .val (.int (o + (1 : Int32)))] [(.int (o + (1 : Int32)))])) _
      refine XS.iload X148.here hx rfl (hb hby at_320) rfl ?_
      show Steps p.tables e below (T148.setTop (mkF m 322 #[.val (.int p0), .val (.int p1), .val (.int p2), .val (.int p3), .val (.int p4), .val (.int u), .val (.int r), .val (.int o), .val (.int sv), .val (.int iv), .val (.ref b12), .val (.ref b35), .val (.ref b54), .val (.double (FP.l2d (p4.toInt64))), .second, .val (.int (o + (1 : Int32))), .val (.ref b76), .val (.ref b99), .val (.ref b118), .val (.int (o + (1 : Int32)))] [(.int (o + (1 : Int32))), (.int (o + (1 : Int32)))])) _
      exact q
    have k151_ : ∀ t, Steps p.tables e below (T148.setTop (mkF m 325 #[.val (.int p0), .val (.int p1), .val (.int p2), .val (.int p3), .val (.int p4), .val (.int u), .val (.int r), .val (.int o), .val (.int sv), .val (.int iv), .val (.ref b12), .val (.ref b35), .val (.ref b54), .val (.double (FP.l2d (p4.toInt64))), .second, .val (.int (o + (1 : Int32))), .val (.ref b76), .val (.ref b99), .val (.ref b118), .val (.int (o + (1 : Int32)))] [])) t → Steps p.tables e below (s₁.setTop (mkF m 0 #[.val (.int p0), .val (.int p1), .val (.int p2), .val (.int p3), .val (.int p4), .unset, .unset, .unset, .unset, .unset, .unset, .unset, .unset, .unset, .unset, .unset, .unset, .unset, .unset, .unset] [])) t := by
      intro t q
      refine k150_ _ ?_
      show Steps p.tables e below (T148.setTop (mkF m 322 #[.val (.int p0), .val (.int p1), .val (.int p2), .val (.int p3), .val (.int p4), .val (.int u), .val (.int r), .val (.int o), .val (.int sv), .val (.int iv), .val (.ref b12), .val (.ref b35), .val (.ref b54), .val (.double (FP.l2d (p4.toInt64))), .second, .val (.int (o + (1 : Int32))), .val (.ref b76), .val (.ref b99), .val (.ref b118), .val (.int (o + (1 : Int32)))] [(.int (o + (1 : Int32))), (.int (o + (1 : Int32)))])) _
      refine XS.icmpNo X148.here hx rfl (hb hby at_322) rfl (teq rfl).2 ?_
      show Steps p.tables e below (T148.setTop (mkF m 325 #[.val (.int p0), .val (.int p1), .val (.int p2), .val (.int p3), .val (.int p4), .val (.int u), .val (.int r), .val (.int o), .val (.int sv), .val (.int iv), .val (.ref b12), .val (.ref b35), .val (.ref b54), .val (.double (FP.l2d (p4.toInt64))), .second, .val (.int (o + (1 : Int32))), .val (.ref b76), .val (.ref b99), .val (.ref b118), .val (.int (o + (1 : Int32)))] [])) _
      exact q
    have k152_ : ∀ t, Steps p.tables e below (T148.setTop (mkF m 329 #[.val (.int p0), .val (.int p1), .val (.int p2), .val (.int p3), .val (.int p4), .val (.int u), .val (.int r), .val (.int o), .val (.int sv), .val (.int iv), .val (.ref b12), .val (.ref b35), .val (.ref b54), .val (.double (FP.l2d (p4.toInt64))), .second, .val (.int (o + (1 : Int32))), .val (.ref b76), .val (.ref b99), .val (.ref b118), .val (.int (o + (1 : Int32)))] [(.ref b76), (.ref b12)])) t → Steps p.tables e below (s₁.setTop (mkF m 0 #[.val (.int p0), .val (.int p1), .val (.int p2), .val (.int p3), .val (.int p4), .unset, .unset, .unset, .unset, .unset, .unset, .unset, .unset, .unset, .unset, .unset, .unset, .unset, .unset, .unset] [])) t := by
      intro t q
      refine k151_ _ ?_
      show Steps p.tables e below (T148.setTop (mkF m 325 #[.val (.int p0), .val (.int p1), .val (.int p2), .val (.int p3), .val (.int p4), .val (.int u), .val (.int r), .val (.int o), .val (.int sv), .val (.int iv), .val (.ref b12), .val (.ref b35), .val (.ref b54), .val (.double (FP.l2d (p4.toInt64))), .second, .val (.int (o + (1 : Int32))), .val (.ref b76), .val (.ref b99), .val (.ref b118), .val (.int (o + (1 : Int32)))] [])) _
      refine XS.aload X148.here hx rfl (hb hby at_325) rfl rfl ?_
      show Steps p.tables e below (T148.setTop (mkF m 327 #[.val (.int p0), .val (.int p1), .val (.int p2), .val (.int p3), .val (.int p4), .val (.int u), .val (.int r), .val (.int o), .val (.int sv), .val (.int iv), .val (.ref b12), .val (.ref b35), .val (.ref b54), .val (.double (FP.l2d (p4.toInt64))), .second, .val (.int (o + (1 : Int32))), .val (.ref b76), .val (.ref b99), .val (.ref b118), .val (.int (o + (1 : Int32)))] [(.ref b12)])) _
      refine XS.aload X148.here hx rfl (hb hby at_327) rfl rfl ?_
      show Steps p.tables e below (T148.setTop (mkF m 329 #[.val (.int p0), .val (.int p1), .val (.int p2), .val (.int p3), .val (.int p4), .val (.int u), .val (.int r), .val (.int o), .val (.int sv), .val (.int iv), .val (.ref b12), .val (.ref b35), .val (.ref b54), .val (.double (FP.l2d (p4.toInt64))), .second, .val (.int (o + (1 : Int32))), .val (.ref b76), .val (.ref b99), .val (.ref b118), .val (.int (o + (1 : Int32)))] [(.ref b76), (.ref b12)])) _
      exact q
    obtain ⟨_, _, ⟨T153, L153, kk153, n153⟩, -, X153, ⟨Lc153, hQ153, l153, y153, z153⟩, st153⟩ := Jvm.LawKit.callS X148 hx (y := (⟨"com/example/weir/weir/kway/GraphAddToRowPinLaw", "sameInts", "([I[I)Z"⟩ : MethodName)) hown (mvT hZ (hw _ (List.mem_of_getElem? (i := 10) rfl))) (mvT hZ (hw _ (List.mem_of_getElem? (i := 11) rfl))) (mvT hZ (hw _ (List.mem_of_getElem? (i := 12) rfl))) (mvT hZ (hw _ (List.mem_of_getElem? (i := 13) rfl))) (by decide) (backOf (W := 0) (rmS l Z a0 hw [] b12 b76 c12 c76 ((own_x0.set u.toNatClampNeg sv).set u.toNatClampNeg o) h148 n0 Zn V_b12 V_b76) hZ (hw _ (List.mem_of_getElem? (i := 13) rfl)) (hw _ (List.mem_of_getElem? (i := 12) rfl)) (by decide) (by decide)) (g := (mkF m 329 #[.val (.int p0), .val (.int p1), .val (.int p2), .val (.int p3), .val (.int p4), .val (.int u), .val (.int r), .val (.int o), .val (.int sv), .val (.int iv), .val (.ref b12), .val (.ref b35), .val (.ref b54), .val (.double (FP.l2d (p4.toInt64))), .second, .val (.int (o + (1 : Int32))), .val (.ref b76), .val (.ref b99), .val (.ref b118), .val (.int (o + (1 : Int32)))] [(.ref b76), (.ref b12)])) rfl (by rw [hml]; rfl) (argsL := [(.ref b12), (.ref b76)]) (rest := []) (lenOf pd_5997 rfl) rfl (by show 2 * 0 + _ ≤ _; exact Nat.le_of_eq rfl) (hb hby at_329) (fun _ _ => ⟨rfl, e148, (by decide : 0 + 1 + 1 + 1 + 0 + 1 + 1 + 1 + 0 ≤ _), (by decide : 0 + 4 + 4 + 4 + 0 + 4 + 4 + 4 + 0 ≤ _)⟩)
    dsimp only [Pt.U, Pt.locs, Pt.cells, Pt.slots] at X153 l153 y153 z153 st153 hQ153
    rw [l153, y153, z153] at X153
    obtain ⟨rfl, Nq153, hq153⟩ := hQ153
    have N153 := Fr.app N148 Nq153
    have k154_ : ∀ t, Steps p.tables e below (T153.setTop (mkF m 332 #[.val (.int p0), .val (.int p1), .val (.int p2), .val (.int p3), .val (.int p4), .val (.int u), .val (.int r), .val (.int o), .val (.int sv), .val (.int iv), .val (.ref b12), .val (.ref b35), .val (.ref b54), .val (.double (FP.l2d (p4.toInt64))), .second, .val (.int (o + (1 : Int32))), .val (.ref b76), .val (.ref b99), .val (.ref b118), .val (.int (o + (1 : Int32)))] [(.int (1 : Int32))])) t → Steps p.tables e below (s₁.setTop (mkF m 0 #[.val (.int p0), .val (.int p1), .val (.int p2), .val (.int p3), .val (.int p4), .unset, .unset, .unset, .unset, .unset, .unset, .unset, .unset, .unset, .unset, .unset, .unset, .unset, .unset, .unset] [])) t := fun t q => k152_ t (st153 t q)
    have k155_ : ∀ t, Steps p.tables e below (T153.setTop (mkF m 335 #[.val (.int p0), .val (.int p1), .val (.int p2), .val (.int p3), .val (.int p4), .val (.int u), .val (.int r), .val (.int o), .val (.int sv), .val (.int iv), .val (.ref b12), .val (.ref b35), .val (.ref b54), .val (.double (FP.l2d (p4.toInt64))), .second, .val (.int (o + (1 : Int32))), .val (.ref b76), .val (.ref b99), .val (.ref b118), .val (.int (o + (1 : Int32)))] [])) t → Steps p.tables e below (s₁.setTop (mkF m 0 #[.val (.int p0), .val (.int p1), .val (.int p2), .val (.int p3), .val (.int p4), .unset, .unset, .unset, .unset, .unset, .unset, .unset, .unset, .unset, .unset, .unset, .unset, .unset, .unset, .unset] [])) t := by
      intro t q
      refine k154_ _ ?_
      show Steps p.tables e below (T153.setTop (mkF m 332 #[.val (.int p0), .val (.int p1), .val (.int p2), .val (.int p3), .val (.int p4), .val (.int u), .val (.int r), .val (.int o), .val (.int sv), .val (.int iv), .val (.ref b12), .val (.ref b35), .val (.ref b54), .val (.double (FP.l2d (p4.toInt64))), .second, .val (.int (o + (1 : Int32))), .val (.ref b76), .val (.ref b99), .val (.ref b118), .val (.int (o + (1 : Int32)))] [(.int (1 : Int32))])) _
      refine XS.ifNo X153.here hx rfl (hb hby at_332) rfl ((if0 _ _).trans (feq (by decide)).1) ?_
      show Steps p.tables e below (T153.setTop (mkF m 335 #[.val (.int p0), .val (.int p1), .val (.int p2), .val (.int p3), .val (.int p4), .val (.int u), .val (.int r), .val (.int o), .val (.int sv), .val (.int iv), .val (.ref b12), .val (.ref b35), .val (.ref b54), .val (.double (FP.l2d (p4.toInt64))), .second, .val (.int (o + (1 : Int32))), .val (.ref b76), .val (.ref b99), .val (.ref b118), .val (.int (o + (1 : Int32)))] [])) _
      exact q
    have k156_ : ∀ t, Steps p.tables e below (T153.setTop (mkF m 339 #[.val (.int p0), .val (.int p1), .val (.int p2), .val (.int p3), .val (.int p4), .val (.int u), .val (.int r), .val (.int o), .val (.int sv), .val (.int iv), .val (.ref b12), .val (.ref b35), .val (.ref b54), .val (.double (FP.l2d (p4.toInt64))), .second, .val (.int (o + (1 : Int32))), .val (.ref b76), .val (.ref b99), .val (.ref b118), .val (.int (o + (1 : Int32)))] [(.ref b99), (.ref b35)])) t → Steps p.tables e below (s₁.setTop (mkF m 0 #[.val (.int p0), .val (.int p1), .val (.int p2), .val (.int p3), .val (.int p4), .unset, .unset, .unset, .unset, .unset, .unset, .unset, .unset, .unset, .unset, .unset, .unset, .unset, .unset, .unset] [])) t := by
      intro t q
      refine k155_ _ ?_
      show Steps p.tables e below (T153.setTop (mkF m 335 #[.val (.int p0), .val (.int p1), .val (.int p2), .val (.int p3), .val (.int p4), .val (.int u), .val (.int r), .val (.int o), .val (.int sv), .val (.int iv), .val (.ref b12), .val (.ref b35), .val (.ref b54), .val (.double (FP.l2d (p4.toInt64))), .second, .val (.int (o + (1 : Int32))), .val (.ref b76), .val (.ref b99), .val (.ref b118), .val (.int (o + (1 : Int32)))] [])) _
      refine XS.aload X153.here hx rfl (hb hby at_335) rfl rfl ?_
      show Steps p.tables e below (T153.setTop (mkF m 337 #[.val (.int p0), .val (.int p1), .val (.int p2), .val (.int p3), .val (.int p4), .val (.int u), .val (.int r), .val (.int o), .val (.int sv), .val (.int iv), .val (.ref b12), .val (.ref b35), .val (.ref b54), .val (.double (FP.l2d (p4.toInt64))), .second, .val (.int (o + (1 : Int32))), .val (.ref b76), .val (.ref b99), .val (.ref b118), .val (.int (o + (1 : Int32)))] [(.ref b35)])) _
      refine XS.aload X153.here hx rfl (hb hby at_337) rfl rfl ?_
      show Steps p.tables e below (T153.setTop (mkF m 339 #[.val (.int p0), .val (.int p1), .val (.int p2), .val (.int p3), .val (.int p4), .val (.int u), .val (.int r), .val (.int o), .val (.int sv), .val (.int iv), .val (.ref b12), .val (.ref b35), .val (.ref b54), .val (.double (FP.l2d (p4.toInt64))), .second, .val (.int (o + (1 : Int32))), .val (.ref b76), .val (.ref b99), .val (.ref b118), .val (.int (o + (1 : Int32)))] [(.ref b99), (.ref b35)])) _
      exact q
    obtain ⟨_, _, ⟨T157, L157, kk157, n157⟩, -, X157, ⟨Lc157, hQ157, l157, y157, z157⟩, st157⟩ := Jvm.LawKit.callS X153 hx (y := (⟨"com/example/weir/weir/kway/GraphAddToRowPinLaw", "sameInts", "([I[I)Z"⟩ : MethodName)) hown (mvT hZ (hw _ (List.mem_of_getElem? (i := 10) rfl))) (mvT hZ (hw _ (List.mem_of_getElem? (i := 11) rfl))) (mvT hZ (hw _ (List.mem_of_getElem? (i := 12) rfl))) (mvT hZ (hw _ (List.mem_of_getElem? (i := 13) rfl))) (by decide) (backOf (W := 0) (rmS l Z a0 hw [] b35 b99 c35 c99 (own_n0.set o.toNatClampNeg u) h148 n0 Zn V_b35 V_b99) hZ (hw _ (List.mem_of_getElem? (i := 13) rfl)) (hw _ (List.mem_of_getElem? (i := 12) rfl)) (by decide) (by decide)) (g := (mkF m 339 #[.val (.int p0), .val (.int p1), .val (.int p2), .val (.int p3), .val (.int p4), .val (.int u), .val (.int r), .val (.int o), .val (.int sv), .val (.int iv), .val (.ref b12), .val (.ref b35), .val (.ref b54), .val (.double (FP.l2d (p4.toInt64))), .second, .val (.int (o + (1 : Int32))), .val (.ref b76), .val (.ref b99), .val (.ref b118), .val (.int (o + (1 : Int32)))] [(.ref b99), (.ref b35)])) rfl (by rw [hml]; rfl) (argsL := [(.ref b35), (.ref b99)]) (rest := []) (lenOf pd_5997 rfl) rfl (by show 2 * 0 + _ ≤ _; exact Nat.le_of_eq rfl) (hb hby at_339) (fun _ _ => ⟨rfl, hq153, (by decide : 0 + 1 + 1 + 1 + 0 + 1 + 1 + 1 + 0 + 0 ≤ _), (by decide : 0 + 4 + 4 + 4 + 0 + 4 + 4 + 4 + 0 + 0 ≤ _)⟩)
    dsimp only [Pt.U, Pt.locs, Pt.cells, Pt.slots] at X157 l157 y157 z157 st157 hQ157
    rw [l157, y157, z157] at X157
    obtain ⟨rfl, Nq157, hq157⟩ := hQ157
    have N157 := Fr.app N153 Nq157
    have k158_ : ∀ t, Steps p.tables e below (T157.setTop (mkF m 342 #[.val (.int p0), .val (.int p1), .val (.int p2), .val (.int p3), .val (.int p4), .val (.int u), .val (.int r), .val (.int o), .val (.int sv), .val (.int iv), .val (.ref b12), .val (.ref b35), .val (.ref b54), .val (.double (FP.l2d (p4.toInt64))), .second, .val (.int (o + (1 : Int32))), .val (.ref b76), .val (.ref b99), .val (.ref b118), .val (.int (o + (1 : Int32)))] [(.int (1 : Int32))])) t → Steps p.tables e below (s₁.setTop (mkF m 0 #[.val (.int p0), .val (.int p1), .val (.int p2), .val (.int p3), .val (.int p4), .unset, .unset, .unset, .unset, .unset, .unset, .unset, .unset, .unset, .unset, .unset, .unset, .unset, .unset, .unset] [])) t := fun t q => k156_ t (st157 t q)
    have k159_ : ∀ t, Steps p.tables e below (T157.setTop (mkF m 345 #[.val (.int p0), .val (.int p1), .val (.int p2), .val (.int p3), .val (.int p4), .val (.int u), .val (.int r), .val (.int o), .val (.int sv), .val (.int iv), .val (.ref b12), .val (.ref b35), .val (.ref b54), .val (.double (FP.l2d (p4.toInt64))), .second, .val (.int (o + (1 : Int32))), .val (.ref b76), .val (.ref b99), .val (.ref b118), .val (.int (o + (1 : Int32)))] [])) t → Steps p.tables e below (s₁.setTop (mkF m 0 #[.val (.int p0), .val (.int p1), .val (.int p2), .val (.int p3), .val (.int p4), .unset, .unset, .unset, .unset, .unset, .unset, .unset, .unset, .unset, .unset, .unset, .unset, .unset, .unset, .unset] [])) t := by
      intro t q
      refine k158_ _ ?_
      show Steps p.tables e below (T157.setTop (mkF m 342 #[.val (.int p0), .val (.int p1), .val (.int p2), .val (.int p3), .val (.int p4), .val (.int u), .val (.int r), .val (.int o), .val (.int sv), .val (.int iv), .val (.ref b12), .val (.ref b35), .val (.ref b54), .val (.double (FP.l2d (p4.toInt64))), .second, .val (.int (o + (1 : Int32))), .val (.ref b76), .val (.ref b99), .val (.ref b118), .val (.int (o + (1 : Int32)))] [(.int (1 : Int32))])) _
      refine XS.ifNo X157.here hx rfl (hb hby at_342) rfl ((if0 _ _).trans (feq (by decide)).1) ?_
      show Steps p.tables e below (T157.setTop (mkF m 345 #[.val (.int p0), .val (.int p1), .val (.int p2), .val (.int p3), .val (.int p4), .val (.int u), .val (.int r), .val (.int o), .val (.int sv), .val (.int iv), .val (.ref b12), .val (.ref b35), .val (.ref b54), .val (.double (FP.l2d (p4.toInt64))), .second, .val (.int (o + (1 : Int32))), .val (.ref b76), .val (.ref b99), .val (.ref b118), .val (.int (o + (1 : Int32)))] [])) _
      exact q
    have k160_ : ∀ t, Steps p.tables e below (T157.setTop (mkF m 349 #[.val (.int p0), .val (.int p1), .val (.int p2), .val (.int p3), .val (.int p4), .val (.int u), .val (.int r), .val (.int o), .val (.int sv), .val (.int iv), .val (.ref b12), .val (.ref b35), .val (.ref b54), .val (.double (FP.l2d (p4.toInt64))), .second, .val (.int (o + (1 : Int32))), .val (.ref b76), .val (.ref b99), .val (.ref b118), .val (.int (o + (1 : Int32)))] [(.ref b118), (.ref b54)])) t → Steps p.tables e below (s₁.setTop (mkF m 0 #[.val (.int p0), .val (.int p1), .val (.int p2), .val (.int p3), .val (.int p4), .unset, .unset, .unset, .unset, .unset, .unset, .unset, .unset, .unset, .unset, .unset, .unset, .unset, .unset, .unset] [])) t := by
      intro t q
      refine k159_ _ ?_
      show Steps p.tables e below (T157.setTop (mkF m 345 #[.val (.int p0), .val (.int p1), .val (.int p2), .val (.int p3), .val (.int p4), .val (.int u), .val (.int r), .val (.int o), .val (.int sv), .val (.int iv), .val (.ref b12), .val (.ref b35), .val (.ref b54), .val (.double (FP.l2d (p4.toInt64))), .second, .val (.int (o + (1 : Int32))), .val (.ref b76), .val (.ref b99), .val (.ref b118), .val (.int (o + (1 : Int32)))] [])) _
      refine XS.aload X157.here hx rfl (hb hby at_345) rfl rfl ?_
      show Steps p.tables e below (T157.setTop (mkF m 347 #[.val (.int p0), .val (.int p1), .val (.int p2), .val (.int p3), .val (.int p4), .val (.int u), .val (.int r), .val (.int o), .val (.int sv), .val (.int iv), .val (.ref b12), .val (.ref b35), .val (.ref b54), .val (.double (FP.l2d (p4.toInt64))), .second, .val (.int (o + (1 : Int32))), .val (.ref b76), .val (.ref b99), .val (.ref b118), .val (.int (o + (1 : Int32)))] [(.ref b54)])) _
      refine XS.aload X157.here hx rfl (hb hby at_347) rfl rfl ?_
      show Steps p.tables e below (T157.setTop (mkF m 349 #[.val (.int p0), .val (.int p1), .val (.int p2), .val (.int p3), .val (.int p4), .val (.int u), .val (.int r), .val (.int o), .val (.int sv), .val (.int iv), .val (.ref b12), .val (.ref b35), .val (.ref b54), .val (.double (FP.l2d (p4.toInt64))), .second, .val (.int (o + (1 : Int32))), .val (.ref b76), .val (.ref b99), .val (.ref b118), .val (.int (o + (1 : Int32)))] [(.ref b118), (.ref b54)])) _
      exact q
    obtain ⟨_, _, ⟨T161, L161, kk161, n161⟩, -, X161, ⟨Lc161, hQ161, l161, y161, z161⟩, st161⟩ := Jvm.LawKit.callS X157 hx (y := (⟨"com/example/weir/weir/kway/GraphAddToRowPinLaw", "sameDoubles", "([D[D)Z"⟩ : MethodName)) hown (mvT hZ (hw _ (List.mem_of_getElem? (i := 14) rfl))) (mvT hZ (hw _ (List.mem_of_getElem? (i := 15) rfl))) (mvT hZ (hw _ (List.mem_of_getElem? (i := 12) rfl))) (mvT hZ (hw _ (List.mem_of_getElem? (i := 16) rfl))) (by decide) (backOf (W := 0) (rmT l Z a0 hw [] b54 b118 c54 c118 (own_d0.set o.toNatClampNeg p4.toInt64) h148 n0 Zn V_b54 V_b118) hZ (hw _ (List.mem_of_getElem? (i := 16) rfl)) (hw _ (List.mem_of_getElem? (i := 12) rfl)) (by decide) (by decide)) (g := (mkF m 349 #[.val (.int p0), .val (.int p1), .val (.int p2), .val (.int p3), .val (.int p4), .val (.int u), .val (.int r), .val (.int o), .val (.int sv), .val (.int iv), .val (.ref b12), .val (.ref b35), .val (.ref b54), .val (.double (FP.l2d (p4.toInt64))), .second, .val (.int (o + (1 : Int32))), .val (.ref b76), .val (.ref b99), .val (.ref b118), .val (.int (o + (1 : Int32)))] [(.ref b118), (.ref b54)])) rfl (by rw [hml]; rfl) (argsL := [(.ref b54), (.ref b118)]) (rest := []) (lenOf pd_83602 rfl) rfl (by show 2 * 0 + _ ≤ _; exact Nat.le_of_eq rfl) (hb hby at_349) (fun _ _ => ⟨rfl, hq157, (by decide : 0 + 1 + 1 + 1 + 0 + 1 + 1 + 1 + 0 + 0 + 0 ≤ _), (by decide : 0 + 4 + 4 + 4 + 0 + 4 + 4 + 4 + 0 + 0 + 0 ≤ _)⟩)
    dsimp only [Pt.U, Pt.locs, Pt.cells, Pt.slots] at X161 l161 y161 z161 st161 hQ161
    rw [l161, y161, z161] at X161
    obtain ⟨rfl, Nq161, hq161⟩ := hQ161
    have N161 := Fr.app N157 Nq161
    have k162_ : ∀ t, Steps p.tables e below (T161.setTop (mkF m 352 #[.val (.int p0), .val (.int p1), .val (.int p2), .val (.int p3), .val (.int p4), .val (.int u), .val (.int r), .val (.int o), .val (.int sv), .val (.int iv), .val (.ref b12), .val (.ref b35), .val (.ref b54), .val (.double (FP.l2d (p4.toInt64))), .second, .val (.int (o + (1 : Int32))), .val (.ref b76), .val (.ref b99), .val (.ref b118), .val (.int (o + (1 : Int32)))] [(.int (1 : Int32))])) t → Steps p.tables e below (s₁.setTop (mkF m 0 #[.val (.int p0), .val (.int p1), .val (.int p2), .val (.int p3), .val (.int p4), .unset, .unset, .unset, .unset, .unset, .unset, .unset, .unset, .unset, .unset, .unset, .unset, .unset, .unset, .unset] [])) t := fun t q => k160_ t (st161 t q)
    have k163_ : ∀ t, Steps p.tables e below (T161.setTop (mkF m 355 #[.val (.int p0), .val (.int p1), .val (.int p2), .val (.int p3), .val (.int p4), .val (.int u), .val (.int r), .val (.int o), .val (.int sv), .val (.int iv), .val (.ref b12), .val (.ref b35), .val (.ref b54), .val (.double (FP.l2d (p4.toInt64))), .second, .val (.int (o + (1 : Int32))), .val (.ref b76), .val (.ref b99), .val (.ref b118), .val (.int (o + (1 : Int32)))] [])) t → Steps p.tables e below (s₁.setTop (mkF m 0 #[.val (.int p0), .val (.int p1), .val (.int p2), .val (.int p3), .val (.int p4), .unset, .unset, .unset, .unset, .unset, .unset, .unset, .unset, .unset, .unset, .unset, .unset, .unset, .unset, .unset] [])) t := by
      intro t q
      refine k162_ _ ?_
      show Steps p.tables e below (T161.setTop (mkF m 352 #[.val (.int p0), .val (.int p1), .val (.int p2), .val (.int p3), .val (.int p4), .val (.int u), .val (.int r), .val (.int o), .val (.int sv), .val (.int iv), .val (.ref b12), .val (.ref b35), .val (.ref b54), .val (.double (FP.l2d (p4.toInt64))), .second, .val (.int (o + (1 : Int32))), .val (.ref b76), .val (.ref b99), .val (.ref b118), .val (.int (o + (1 : Int32)))] [(.int (1 : Int32))])) _
      refine XS.ifNo X161.here hx rfl (hb hby at_352) rfl ((if0 _ _).trans (feq (by decide)).1) ?_
      show Steps p.tables e below (T161.setTop (mkF m 355 #[.val (.int p0), .val (.int p1), .val (.int p2), .val (.int p3), .val (.int p4), .val (.int u), .val (.int r), .val (.int o), .val (.int sv), .val (.int iv), .val (.ref b12), .val (.ref b35), .val (.ref b54), .val (.double (FP.l2d (p4.toInt64))), .second, .val (.int (o + (1 : Int32))), .val (.ref b76), .val (.ref b99), .val (.ref b118), .val (.int (o + (1 : Int32)))] [])) _
      exact q
    have k164_ : ∀ t, Steps p.tables e below (T161.setTop (mkF m 360 #[.val (.int p0), .val (.int p1), .val (.int p2), .val (.int p3), .val (.int p4), .val (.int u), .val (.int r), .val (.int o), .val (.int sv), .val (.int iv), .val (.ref b12), .val (.ref b35), .val (.ref b54), .val (.double (FP.l2d (p4.toInt64))), .second, .val (.int (o + (1 : Int32))), .val (.ref b76), .val (.ref b99), .val (.ref b118), .val (.int (o + (1 : Int32)))] [(.int (1 : Int32))])) t → Steps p.tables e below (s₁.setTop (mkF m 0 #[.val (.int p0), .val (.int p1), .val (.int p2), .val (.int p3), .val (.int p4), .unset, .unset, .unset, .unset, .unset, .unset, .unset, .unset, .unset, .unset, .unset, .unset, .unset, .unset, .unset] [])) t := by
      intro t q
      refine k163_ _ ?_
      show Steps p.tables e below (T161.setTop (mkF m 355 #[.val (.int p0), .val (.int p1), .val (.int p2), .val (.int p3), .val (.int p4), .val (.int u), .val (.int r), .val (.int o), .val (.int sv), .val (.int iv), .val (.ref b12), .val (.ref b35), .val (.ref b54), .val (.double (FP.l2d (p4.toInt64))), .second, .val (.int (o + (1 : Int32))), .val (.ref b76), .val (.ref b99), .val (.ref b118), .val (.int (o + (1 : Int32)))] [])) _
      refine XS.iconst X161.here hx rfl (hb hby at_355) ?_
      show Steps p.tables e below (T161.setTop (mkF m 356 #[.val (.int p0), .val (.int p1), .val (.int p2), .val (.int p3), .val (.int p4), .val (.int u), .val (.int r), .val (.int o), .val (.int sv), .val (.int iv), .val (.ref b12), .val (.ref b35), .val (.ref b54), .val (.double (FP.l2d (p4.toInt64))), .second, .val (.int (o + (1 : Int32))), .val (.ref b76), .val (.ref b99), .val (.ref b118), .val (.int (o + (1 : Int32)))] [(.int (1 : Int32))])) _
      refine XS.goto X161.here hx rfl (pc0 := 356) (pc' := 360) rfl (hb hby at_356) (by decide) (by decide) ?_
      show Steps p.tables e below (T161.setTop (mkF m 360 #[.val (.int p0), .val (.int p1), .val (.int p2), .val (.int p3), .val (.int p4), .val (.int u), .val (.int r), .val (.int o), .val (.int sv), .val (.int iv), .val (.ref b12), .val (.ref b35), .val (.ref b54), .val (.double (FP.l2d (p4.toInt64))), .second, .val (.int (o + (1 : Int32))), .val (.ref b76), .val (.ref b99), .val (.ref b118), .val (.int (o + (1 : Int32)))] [(.int (1 : Int32))])) _
      exact q
    obtain ⟨fs, hr, hrun, hended, hW, hsame⟩ := X161.leave (v := some (.int (1 : Int32))) (fun h => by rw [Bd.returns] at h; cases h)
    refine ⟨_, _, pre0 _ (k164_ _ ?_), hrun, hended, _, _, rfl, ?_, ⟨_, rfl⟩, hW, hsame.mono (by decide) (by decide)⟩
    · show Steps p.tables e below (T161.setTop (mkF m 360 #[.val (.int p0), .val (.int p1), .val (.int p2), .val (.int p3), .val (.int p4), .val (.int u), .val (.int r), .val (.int o), .val (.int sv), .val (.int iv), .val (.ref b12), .val (.ref b35), .val (.ref b54), .val (.double (FP.l2d (p4.toInt64))), .second, .val (.int (o + (1 : Int32))), .val (.ref b76), .val (.ref b99), .val (.ref b118), .val (.int (o + (1 : Int32)))] [(.int (1 : Int32))])) _
      exact retN X161 hx (t := .boolean) Bd.returns (by simp) (hb hby at_360) hr
    · show Q0 Z p0 p1 p2 p3 p4 h0 n0 _ T161.heap _
      rw [hq161]
      exact ⟨rfl, N161⟩
  · obtain ⟨_, _, ⟨T165, L165, kk165, n165⟩, -, X165, ⟨Lc165, hQ165, l165, y165, z165⟩, st165⟩ := Jvm.LawKit.callS X70 hx (y := (⟨"com/example/weir/weir/kway/Graph", "addToRow", "([IIIID[I[D)I"⟩ : MethodName)) hown (mvT hZ (hw _ (List.mem_of_getElem? (i := 6) rfl))) (mvT hZ (hw _ (List.mem_of_getElem? (i := 7) rfl))) (mvT hZ (hw _ (List.mem_of_getElem? (i := 8) rfl))) (mvT hZ (hw _ (List.mem_of_getElem? (i := 9) rfl))) (by decide) (backOf (W := 0) (rmA l Z a0 hw [] b12 r o u (p4.toInt64) b35 b54 c12 c35 c54 (own_x0.set u.toNatClampNeg sv) own_n0 own_d0 sv h70 n0 Zn V_b12 V_b35 V_b54 (show (own_x0.set u.toNatClampNeg sv).length = 4 from List.length_set) rfl rfl hu.1 hu.2 (own_set_get rfl hu.1 hu.2) hs1 hs2 hs3 (own_d0s hs2 hs3).1 (own_b53 p4) g_b54) hZ (hw _ (List.mem_of_getElem? (i := 9) rfl)) (hw _ (List.mem_of_getElem? (i := 8) rfl)) (by decide) (by decide)) (g := (mkF m 175 #[.val (.int p0), .val (.int p1), .val (.int p2), .val (.int p3), .val (.int p4), .val (.int u), .val (.int r), .val (.int o), .val (.int sv), .val (.int iv), .val (.ref b12), .val (.ref b35), .val (.ref b54), .val (.double (FP.l2d (p4.toInt64))), .second, .unset, .unset, .unset, .unset, .unset] [(.ref b54), (.ref b35), (.double (FP.l2d (p4.toInt64))), (.int u), (.int o), (.int r), (.ref b12)])) rfl (by rw [hml]; rfl) (argsL := [(.ref b12), (.int r), (.int o), (.int u), (.double (FP.l2d (p4.toInt64))), (.ref b35), (.ref b54)]) (rest := []) (lenOf pd_77915 rfl) rfl (by show 2 * 0 + _ ≤ _; exact Nat.le_of_eq rfl) (hb hby at_175) (fun _ _ => ⟨rfl, e70, (by decide : 0 + 1 + 1 + 1 + 0 ≤ _), (by decide : 0 + 4 + 4 + 4 + 0 ≤ _)⟩)
    dsimp only [Pt.U, Pt.locs, Pt.cells, Pt.slots] at X165 l165 y165 z165 st165 hQ165
    rw [l165, y165, z165] at X165
    obtain ⟨rfl, Nq165, KC, VC⟩ := hQ165
    have N165 := Fr.app N70 Nq165
    have k166_ : ∀ t, Steps p.tables e below (T165.setTop (mkF m 178 #[.val (.int p0), .val (.int p1), .val (.int p2), .val (.int p3), .val (.int p4), .val (.int u), .val (.int r), .val (.int o), .val (.int sv), .val (.int iv), .val (.ref b12), .val (.ref b35), .val (.ref b54), .val (.double (FP.l2d (p4.toInt64))), .second, .unset, .unset, .unset, .unset, .unset] [(.int o)])) t → Steps p.tables e below (s₁.setTop (mkF m 0 #[.val (.int p0), .val (.int p1), .val (.int p2), .val (.int p3), .val (.int p4), .unset, .unset, .unset, .unset, .unset, .unset, .unset, .unset, .unset, .unset, .unset, .unset, .unset, .unset, .unset] [])) t := fun t q => k72_ t (st165 t q)
    replace V_b12 := V_b12.keep KC (ninS ne_b12_b54 nin0)
    replace V_b35 := V_b35.keep KC (ninS ne_b35_b54 nin0)
    replace V_b54 := VC
    replace Zn := Nat.le_trans Zn KC.1
    have k167_ : ∀ t, Steps p.tables e below (T165.setTop (mkF m 181 #[.val (.int p0), .val (.int p1), .val (.int p2), .val (.int p3), .val (.int p4), .val (.int u), .val (.int r), .val (.int o), .val (.int sv), .val (.int iv), .val (.ref b12), .val (.ref b35), .val (.ref b54), .val (.double (FP.l2d (p4.toInt64))), .second, .val (.int o), .unset, .unset, .unset, .unset] [(.int (4 : Int32))])) t → Steps p.tables e below (s₁.setTop (mkF m 0 #[.val (.int p0), .val (.int p1), .val (.int p2), .val (.int p3), .val (.int p4), .unset, .unset, .unset, .unset, .unset, .unset, .unset, .unset, .unset, .unset, .unset, .unset, .unset, .unset, .unset] [])) t := by
      intro t q
      refine k166_ _ ?_
      show Steps p.tables e below (T165.setTop (mkF m 178 #[.val (.int p0), .val (.int p1), .val (.int p2), .val (.int p3), .val (.int p4), .val (.int u), .val (.int r), .val (.int o), .val (.int sv), .val (.int iv), .val (.ref b12), .val (.ref b35), .val (.ref b54), .val (.double (FP.l2d (p4.toInt64))), .second, .unset, .unset, .unset, .unset, .unset] [(.int o)])) _
      refine XS.istore X165.here hx rfl (hb hby at_178) rfl (l' := #[.val (.int p0), .val (.int p1), .val (.int p2), .val (.int p3), .val (.int p4), .val (.int u), .val (.int r), .val (.int o), .val (.int sv), .val (.int iv), .val (.ref b12), .val (.ref b35), .val (.ref b54), .val (.double (FP.l2d (p4.toInt64))), .second, .val (.int o), .unset, .unset, .unset, .unset]) rfl ?_
      show Steps p.tables e below (T165.setTop (mkF m 180 #[.val (.int p0), .val (.int p1), .val (.int p2), .val (.int p3), .val (.int p4), .val (.int u), .val (.int r), .val (.int o), .val (.int sv), .val (.int iv), .val (.ref b12), .val (.ref b35), .val (.ref b54), .val (.double (FP.l2d (p4.toInt64))), .second, .val (.int o), .unset, .unset, .unset, .unset] [])) _
      refine XS.iconst X165.here hx rfl (hb hby at_180) ?_
      show Steps p.tables e below (T165.setTop (mkF m 181 #[.val (.int p0), .val (.int p1), .val (.int p2), .val (.int p3), .val (.int p4), .val (.int u), .val (.int r), .val (.int o), .val (.int sv), .val (.int iv), .val (.ref b12), .val (.ref b35), .val (.ref b54), .val (.double (FP.l2d (p4.toInt64))), .second, .val (.int o), .unset, .unset, .unset, .unset] [(.int (4 : Int32))])) _
      exact q
    obtain ⟨T168, h168, c168, X168, e168, E168, A168, st168⟩ := newP X165 hx hZ (hw _ (List.mem_of_getElem? (i := 1) rfl)) rfl (g := (mkF m 181 #[.val (.int p0), .val (.int p1), .val (.int p2), .val (.int p3), .val (.int p4), .val (.int u), .val (.int r), .val (.int o), .val (.int sv), .val (.int iv), .val (.ref b12), .val (.ref b35), .val (.ref b54), .val (.double (FP.l2d (p4.toInt64))), .second, .val (.int o), .unset, .unset, .unset, .unset] [(.int (4 : Int32))])) rfl (hb hby at_181) rfl (by decide) (cap := 4) (by decide) (by decide) (by decide) (by decide)
    obtain ⟨b168, g168⟩ : ∃ z, z = T165.heap.size := ⟨_, rfl⟩
    rw [← g168] at A168 st168
    have k169_ : ∀ t, Steps p.tables e below (T168.setTop (mkF m 183 #[.val (.int p0), .val (.int p1), .val (.int p2), .val (.int p3), .val (.int p4), .val (.int u), .val (.int r), .val (.int o), .val (.int sv), .val (.int iv), .val (.ref b12), .val (.ref b35), .val (.ref b54), .val (.double (FP.l2d (p4.toInt64))), .second, .val (.int o), .unset, .unset, .unset, .unset] [(.ref b168)])) t → Steps p.tables e below (s₁.setTop (mkF m 0 #[.val (.int p0), .val (.int p1), .val (.int p2), .val (.int p3), .val (.int p4), .unset, .unset, .unset, .unset, .unset, .unset, .unset, .unset, .unset, .unset, .unset, .unset, .unset, .unset, .unset] [])) t := fun t q => k167_ t (st168 t q)
    have ne_b12_b168 : b12 ≠ b168 := Nat.ne_of_lt (Nat.lt_of_lt_of_le V_b12.lt (Nat.le_of_eq g168.symm))
    have ne_b35_b168 : b35 ≠ b168 := Nat.ne_of_lt (Nat.lt_of_lt_of_le V_b35.lt (Nat.le_of_eq g168.symm))
    have ne_b54_b168 : b54 ≠ b168 := Nat.ne_of_lt (Nat.lt_of_lt_of_le V_b54.lt (Nat.le_of_eq g168.symm))
    have g_b168 : n0 ≤ b168 := Nat.le_trans Zn (Nat.le_of_eq g168.symm)
    replace Zn := Nat.le_trans Zn E168.1
    replace V_b12 := V_b12.ext E168
    replace V_b35 := V_b35.ext E168
    replace V_b54 := V_b54.ext E168
    have V_b168 : Arv Z h168 b168 c168 .int (4 : Int32) [(.int (0 : Int32)), (.int (0 : Int32)), (.int (0 : Int32)), (.int (0 : Int32))] (.int (0 : Int32)) := (Arv.new A168 (by decide)).pad (pad_rep [] (.int (0 : Int32)) 4)
    have k170_ : ∀ t, Steps p.tables e below (T168.setTop (mkF m 186 #[.val (.int p0), .val (.int p1), .val (.int p2), .val (.int p3), .val (.int p4), .val (.int u), .val (.int r), .val (.int o), .val (.int sv), .val (.int iv), .val (.ref b12), .val (.ref b35), .val (.ref b54), .val (.double (FP.l2d (p4.toInt64))), .second, .val (.int o), .unset, .unset, .unset, .unset] [(.int (-1 : Int32)), (.int (0 : Int32)), (.ref b168), (.ref b168)])) t → Steps p.tables e below (s₁.setTop (mkF m 0 #[.val (.int p0), .val (.int p1), .val (.int p2), .val (.int p3), .val (.int p4), .unset, .unset, .unset, .unset, .unset, .unset, .unset, .unset, .unset, .unset, .unset, .unset, .unset, .unset, .unset] [])) t := by
      intro t q
      refine k169_ _ ?_
      show Steps p.tables e below (T168.setTop (mkF m 183 #[.val (.int p0), .val (.int p1), .val (.int p2), .val (.int p3), .val (.int p4), .val (.int u), .val (.int r), .val (.int o), .val (.int sv), .val (.int iv), .val (.ref b12), .val (.ref b35), .val (.ref b54), .val (.double (FP.l2d (p4.toInt64))), .second, .val (.int o), .unset, .unset, .unset, .unset] [(.ref b168)])) _
      refine XS.dup X168.here hx rfl (hb hby at_183) rfl rfl ?_
      show Steps p.tables e below (T168.setTop (mkF m 184 #[.val (.int p0), .val (.int p1), .val (.int p2), .val (.int p3), .val (.int p4), .val (.int u), .val (.int r), .val (.int o), .val (.int sv), .val (.int iv), .val (.ref b12), .val (.ref b35), .val (.ref b54), .val (.double (FP.l2d (p4.toInt64))), .second, .val (.int o), .unset, .unset, .unset, .unset] [(.ref b168), (.ref b168)])) _
      refine XS.iconst X168.here hx rfl (hb hby at_184) ?_
      show Steps p.tables e below (T168.setTop (mkF m 185 #[.val (.int p0), .val (.int p1), .val (.int p2), .val (.int p3), .val (.int p4), .val (.int u), .val (.int r), .val (.int o), .val (.int sv), .val (.int iv), .val (.ref b12), .val (.ref b35), .val (.ref b54), .val (.double (FP.l2d (p4.toInt64))), .second, .val (.int o), .unset, .unset, .unset, .unset] [(.int (0 : Int32)), (.ref b168), (.ref b168)])) _
      refine XS.iconst X168.here hx rfl (hb hby at_185) ?_
      show Steps p.tables e below (T168.setTop (mkF m 186 #[.val (.int p0), .val (.int p1), .val (.int p2), .val (.int p3), .val (.int p4), .val (.int u), .val (.int r), .val (.int o), .val (.int sv), .val (.int iv), .val (.ref b12), .val (.ref b35), .val (.ref b54), .val (.double (FP.l2d (p4.toInt64))), .second, .val (.int o), .unset, .unset, .unset, .unset] [(.int (-1 : Int32)), (.int (0 : Int32)), (.ref b168), (.ref b168)])) _
      exact q
    obtain ⟨cl171, Ar171, q171, S171, M171, H171, G171⟩ := V_b168
    obtain ⟨T172, h172, X172, e172, W172, st172⟩ := stI X168 hx hZ e168 Ar171 (j := (0 : Int32)) (inb_of S171 ⟨by decide, by decide⟩) (g := (mkF m 186 #[.val (.int p0), .val (.int p1), .val (.int p2), .val (.int p3), .val (.int p4), .val (.int u), .val (.int r), .val (.int o), .val (.int sv), .val (.int iv), .val (.ref b12), .val (.ref b35), .val (.ref b54), .val (.double (FP.l2d (p4.toInt64))), .second, .val (.int o), .unset, .unset, .unset, .unset] [(.int (-1 : Int32)), (.int (0 : Int32)), (.ref b168), (.ref b168)])) rfl rfl (hb hby at_186)
    have k173_ : ∀ t, Steps p.tables e below (T172.setTop (mkF m 187 #[.val (.int p0), .val (.int p1), .val (.int p2), .val (.int p3), .val (.int p4), .val (.int u), .val (.int r), .val (.int o), .val (.int sv), .val (.int iv), .val (.ref b12), .val (.ref b35), .val (.ref b54), .val (.double (FP.l2d (p4.toInt64))), .second, .val (.int o), .unset, .unset, .unset, .unset] [(.ref b168)])) t → Steps p.tables e below (s₁.setTop (mkF m 0 #[.val (.int p0), .val (.int p1), .val (.int p2), .val (.int p3), .val (.int p4), .unset, .unset, .unset, .unset, .unset, .unset, .unset, .unset, .unset, .unset, .unset, .unset, .unset, .unset, .unset] [])) t := fun t q => k170_ t (st172 t q)
    have N172 := Fr.snoc X172 N165 g_b168
    replace Zn := Nat.le_trans Zn (Keep.of_wr W172).1
    replace V_b12 := V_b12.other W172 ne_b12_b168
    replace V_b35 := V_b35.other W172 ne_b35_b168
    replace V_b54 := V_b54.other W172 ne_b54_b168
    have V_b168 : Arv Z h172 b168 c168 .int (4 : Int32) [(.int (-1 : Int32)), (.int (0 : Int32)), (.int (0 : Int32)), (.int (0 : Int32))] (.int (0 : Int32)) := Arv.set Ar171 q171 S171 M171 H171 G171 rfl W172 0 rfl (Nat.le_of_ble_eq_true rfl)
    have k174_ : ∀ t, Steps p.tables e below (T172.setTop (mkF m 191 #[.val (.int p0), .val (.int p1), .val (.int p2), .val (.int p3), .val (.int p4), .val (.int u), .val (.int r), .val (.int o), .val (.int sv), .val (.int iv), .val (.ref b12), .val (.ref b35), .val (.ref b54), .val (.double (FP.l2d (p4.toInt64))), .second, .val (.int o), .unset, .unset, .unset, .unset] [(.int (-2 : Int32)), (.int (1 : Int32)), (.ref b168), (.ref b168)])) t → Steps p.tables e below (s₁.setTop (mkF m 0 #[.val (.int p0), .val (.int p1), .val (.int p2), .val (.int p3), .val (.int p4), .unset, .unset, .unset, .unset, .unset, .unset, .unset, .unset, .unset, .unset, .unset, .unset, .unset, .unset, .unset] [])) t := by
      intro t q
      refine k173_ _ ?_
      show Steps p.tables e below (T172.setTop (mkF m 187 #[.val (.int p0), .val (.int p1), .val (.int p2), .val (.int p3), .val (.int p4), .val (.int u), .val (.int r), .val (.int o), .val (.int sv), .val (.int iv), .val (.ref b12), .val (.ref b35), .val (.ref b54), .val (.double (FP.l2d (p4.toInt64))), .second, .val (.int o), .unset, .unset, .unset, .unset] [(.ref b168)])) _
      refine XS.dup X172.here hx rfl (hb hby at_187) rfl rfl ?_
      show Steps p.tables e below (T172.setTop (mkF m 188 #[.val (.int p0), .val (.int p1), .val (.int p2), .val (.int p3), .val (.int p4), .val (.int u), .val (.int r), .val (.int o), .val (.int sv), .val (.int iv), .val (.ref b12), .val (.ref b35), .val (.ref b54), .val (.double (FP.l2d (p4.toInt64))), .second, .val (.int o), .unset, .unset, .unset, .unset] [(.ref b168), (.ref b168)])) _
      refine XS.iconst X172.here hx rfl (hb hby at_188) ?_
      show Steps p.tables e below (T172.setTop (mkF m 189 #[.val (.int p0), .val (.int p1), .val (.int p2), .val (.int p3), .val (.int p4), .val (.int u), .val (.int r), .val (.int o), .val (.int sv), .val (.int iv), .val (.ref b12), .val (.ref b35), .val (.ref b54), .val (.double (FP.l2d (p4.toInt64))), .second, .val (.int o), .unset, .unset, .unset, .unset] [(.int (1 : Int32)), (.ref b168), (.ref b168)])) _
      refine XS.bipush X172.here hx rfl (hb hby at_189) ?_
      show Steps p.tables e below (T172.setTop (mkF m 191 #[.val (.int p0), .val (.int p1), .val (.int p2), .val (.int p3), .val (.int p4), .val (.int u), .val (.int r), .val (.int o), .val (.int sv), .val (.int iv), .val (.ref b12), .val (.ref b35), .val (.ref b54), .val (.double (FP.l2d (p4.toInt64))), .second, .val (.int o), .unset, .unset, .unset, .unset] [(.int (-2 : Int32)), (.int (1 : Int32)), (.ref b168), (.ref b168)])) _
      exact q
    obtain ⟨cl175, Ar175, q175, S175, M175, H175, G175⟩ := V_b168
    obtain ⟨T176, h176, X176, e176, W176, st176⟩ := stI X172 hx hZ e172 Ar175 (j := (1 : Int32)) (inb_of S175 ⟨by decide, by decide⟩) (g := (mkF m 191 #[.val (.int p0), .val (.int p1), .val (.int p2), .val (.int p3), .val (.int p4), .val (.int u), .val (.int r), .val (.int o), .val (.int sv), .val (.int iv), .val (.ref b12), .val (.ref b35), .val (.ref b54), .val (.double (FP.l2d (p4.toInt64))), .second, .val (.int o), .unset, .unset, .unset, .unset] [(.int (-2 : Int32)), (.int (1 : Int32)), (.ref b168), (.ref b168)])) rfl rfl (hb hby at_191)
    have k177_ : ∀ t, Steps p.tables e below (T176.setTop (mkF m 192 #[.val (.int p0), .val (.int p1), .val (.int p2), .val (.int p3), .val (.int p4), .val (.int u), .val (.int r), .val (.int o), .val (.int sv), .val (.int iv), .val (.ref b12), .val (.ref b35), .val (.ref b54), .val (.double (FP.l2d (p4.toInt64))), .second, .val (.int o), .unset, .unset, .unset, .unset] [(.ref b168)])) t → Steps p.tables e below (s₁.setTop (mkF m 0 #[.val (.int p0), .val (.int p1), .val (.int p2), .val (.int p3), .val (.int p4), .unset, .unset, .unset, .unset, .unset, .unset, .unset, .unset, .unset, .unset, .unset, .unset, .unset, .unset, .unset] [])) t := fun t q => k174_ t (st176 t q)
    have N176 := Fr.snoc X176 N172 g_b168
    replace Zn := Nat.le_trans Zn (Keep.of_wr W176).1
    replace V_b12 := V_b12.other W176 ne_b12_b168
    replace V_b35 := V_b35.other W176 ne_b35_b168
    replace V_b54 := V_b54.other W176 ne_b54_b168
    have V_b168 : Arv Z h176 b168 c168 .int (4 : Int32) [(.int (-1 : Int32)), (.int (-2 : Int32)), (.int (0 : Int32)), (.int (0 : Int32))] (.int (0 : Int32)) := Arv.set Ar175 q175 S175 M175 H175 G175 rfl W176 1 rfl (Nat.le_of_ble_eq_true rfl)
    have k178_ : ∀ t, Steps p.tables e below (T176.setTop (mkF m 196 #[.val (.int p0), .val (.int p1), .val (.int p2), .val (.int p3), .val (.int p4), .val (.int u), .val (.int r), .val (.int o), .val (.int sv), .val (.int iv), .val (.ref b12), .val (.ref b35), .val (.ref b54), .val (.double (FP.l2d (p4.toInt64))), .second, .val (.int o), .unset, .unset, .unset, .unset] [(.int (-3 : Int32)), (.int (2 : Int32)), (.ref b168), (.ref b168)])) t → Steps p.tables e below (s₁.setTop (mkF m 0 #[.val (.int p0), .val (.int p1), .val (.int p2), .val (.int p3), .val (.int p4), .unset, .unset, .unset, .unset, .unset, .unset, .unset, .unset, .unset, .unset, .unset, .unset, .unset, .unset, .unset] [])) t := by
      intro t q
      refine k177_ _ ?_
      show Steps p.tables e below (T176.setTop (mkF m 192 #[.val (.int p0), .val (.int p1), .val (.int p2), .val (.int p3), .val (.int p4), .val (.int u), .val (.int r), .val (.int o), .val (.int sv), .val (.int iv), .val (.ref b12), .val (.ref b35), .val (.ref b54), .val (.double (FP.l2d (p4.toInt64))), .second, .val (.int o), .unset, .unset, .unset, .unset] [(.ref b168)])) _
      refine XS.dup X176.here hx rfl (hb hby at_192) rfl rfl ?_
      show Steps p.tables e below (T176.setTop (mkF m 193 #[.val (.int p0), .val (.int p1), .val (.int p2), .val (.int p3), .val (.int p4), .val (.int u), .val (.int r), .val (.int o), .val (.int sv), .val (.int iv), .val (.ref b12), .val (.ref b35), .val (.ref b54), .val (.double (FP.l2d (p4.toInt64))), .second, .val (.int o), .unset, .unset, .unset, .unset] [(.ref b168), (.ref b168)])) _
      refine XS.iconst X176.here hx rfl (hb hby at_193) ?_
      show Steps p.tables e below (T176.setTop (mkF m 194 #[.val (.int p0), .val (.int p1), .val (.int p2), .val (.int p3), .val (.int p4), .val (.int u), .val (.int r), .val (.int o), .val (.int sv), .val (.int iv), .val (.ref b12), .val (.ref b35), .val (.ref b54), .val (.double (FP.l2d (p4.toInt64))), .second, .val (.int o), .unset, .unset, .unset, .unset] [(.int (2 : Int32)), (.ref b168), (.ref b168)])) _
      refine XS.bipush X176.here hx rfl (hb hby at_194) ?_
      show Steps p.tables e below (T176.setTop (mkF m 196 #[.val (.int p0), .val (.int p1), .val (.int p2), .val (.int p3), .val (.int p4), .val (.int u), .val (.int r), .val (.int o), .val (.int sv), .val (.int iv), .val (.ref b12), .val (.ref b35), .val (.ref b54), .val (.double (FP.l2d (p4.toInt64))), .second, .val (.int o), .unset, .unset, .unset, .unset] [(.int (-3 : Int32)), (.int (2 : Int32)), (.ref b168), (.ref b168)])) _
      exact q
    obtain ⟨cl179, Ar179, q179, S179, M179, H179, G179⟩ := V_b168
    obtain ⟨T180, h180, X180, e180, W180, st180⟩ := stI X176 hx hZ e176 Ar179 (j := (2 : Int32)) (inb_of S179 ⟨by decide, by decide⟩) (g := (mkF m 196 #[.val (.int p0), .val (.int p1), .val (.int p2), .val (.int p3), .val (.int p4), .val (.int u), .val (.int r), .val (.int o), .val (.int sv), .val (.int iv), .val (.ref b12), .val (.ref b35), .val (.ref b54), .val (.double (FP.l2d (p4.toInt64))), .second, .val (.int o), .unset, .unset, .unset, .unset] [(.int (-3 : Int32)), (.int (2 : Int32)), (.ref b168), (.ref b168)])) rfl rfl (hb hby at_196)
    have k181_ : ∀ t, Steps p.tables e below (T180.setTop (mkF m 197 #[.val (.int p0), .val (.int p1), .val (.int p2), .val (.int p3), .val (.int p4), .val (.int u), .val (.int r), .val (.int o), .val (.int sv), .val (.int iv), .val (.ref b12), .val (.ref b35), .val (.ref b54), .val (.double (FP.l2d (p4.toInt64))), .second, .val (.int o), .unset, .unset, .unset, .unset] [(.ref b168)])) t → Steps p.tables e below (s₁.setTop (mkF m 0 #[.val (.int p0), .val (.int p1), .val (.int p2), .val (.int p3), .val (.int p4), .unset, .unset, .unset, .unset, .unset, .unset, .unset, .unset, .unset, .unset, .unset, .unset, .unset, .unset, .unset] [])) t := fun t q => k178_ t (st180 t q)
    have N180 := Fr.snoc X180 N176 g_b168
    replace Zn := Nat.le_trans Zn (Keep.of_wr W180).1
    replace V_b12 := V_b12.other W180 ne_b12_b168
    replace V_b35 := V_b35.other W180 ne_b35_b168
    replace V_b54 := V_b54.other W180 ne_b54_b168
    have V_b168 : Arv Z h180 b168 c168 .int (4 : Int32) [(.int (-1 : Int32)), (.int (-2 : Int32)), (.int (-3 : Int32)), (.int (0 : Int32))] (.int (0 : Int32)) := Arv.set Ar179 q179 S179 M179 H179 G179 rfl W180 2 rfl (Nat.le_of_ble_eq_true rfl)
    have k182_ : ∀ t, Steps p.tables e below (T180.setTop (mkF m 201 #[.val (.int p0), .val (.int p1), .val (.int p2), .val (.int p3), .val (.int p4), .val (.int u), .val (.int r), .val (.int o), .val (.int sv), .val (.int iv), .val (.ref b12), .val (.ref b35), .val (.ref b54), .val (.double (FP.l2d (p4.toInt64))), .second, .val (.int o), .unset, .unset, .unset, .unset] [(.int (-4 : Int32)), (.int (3 : Int32)), (.ref b168), (.ref b168)])) t → Steps p.tables e below (s₁.setTop (mkF m 0 #[.val (.int p0), .val (.int p1), .val (.int p2), .val (.int p3), .val (.int p4), .unset, .unset, .unset, .unset, .unset, .unset, .unset, .unset, .unset, .unset, .unset, .unset, .unset, .unset, .unset] [])) t := by
      intro t q
      refine k181_ _ ?_
      show Steps p.tables e below (T180.setTop (mkF m 197 #[.val (.int p0), .val (.int p1), .val (.int p2), .val (.int p3), .val (.int p4), .val (.int u), .val (.int r), .val (.int o), .val (.int sv), .val (.int iv), .val (.ref b12), .val (.ref b35), .val (.ref b54), .val (.double (FP.l2d (p4.toInt64))), .second, .val (.int o), .unset, .unset, .unset, .unset] [(.ref b168)])) _
      refine XS.dup X180.here hx rfl (hb hby at_197) rfl rfl ?_
      show Steps p.tables e below (T180.setTop (mkF m 198 #[.val (.int p0), .val (.int p1), .val (.int p2), .val (.int p3), .val (.int p4), .val (.int u), .val (.int r), .val (.int o), .val (.int sv), .val (.int iv), .val (.ref b12), .val (.ref b35), .val (.ref b54), .val (.double (FP.l2d (p4.toInt64))), .second, .val (.int o), .unset, .unset, .unset, .unset] [(.ref b168), (.ref b168)])) _
      refine XS.iconst X180.here hx rfl (hb hby at_198) ?_
      show Steps p.tables e below (T180.setTop (mkF m 199 #[.val (.int p0), .val (.int p1), .val (.int p2), .val (.int p3), .val (.int p4), .val (.int u), .val (.int r), .val (.int o), .val (.int sv), .val (.int iv), .val (.ref b12), .val (.ref b35), .val (.ref b54), .val (.double (FP.l2d (p4.toInt64))), .second, .val (.int o), .unset, .unset, .unset, .unset] [(.int (3 : Int32)), (.ref b168), (.ref b168)])) _
      refine XS.bipush X180.here hx rfl (hb hby at_199) ?_
      show Steps p.tables e below (T180.setTop (mkF m 201 #[.val (.int p0), .val (.int p1), .val (.int p2), .val (.int p3), .val (.int p4), .val (.int u), .val (.int r), .val (.int o), .val (.int sv), .val (.int iv), .val (.ref b12), .val (.ref b35), .val (.ref b54), .val (.double (FP.l2d (p4.toInt64))), .second, .val (.int o), .unset, .unset, .unset, .unset] [(.int (-4 : Int32)), (.int (3 : Int32)), (.ref b168), (.ref b168)])) _
      exact q
    obtain ⟨cl183, Ar183, q183, S183, M183, H183, G183⟩ := V_b168
    obtain ⟨T184, h184, X184, e184, W184, st184⟩ := stI X180 hx hZ e180 Ar183 (j := (3 : Int32)) (inb_of S183 ⟨by decide, by decide⟩) (g := (mkF m 201 #[.val (.int p0), .val (.int p1), .val (.int p2), .val (.int p3), .val (.int p4), .val (.int u), .val (.int r), .val (.int o), .val (.int sv), .val (.int iv), .val (.ref b12), .val (.ref b35), .val (.ref b54), .val (.double (FP.l2d (p4.toInt64))), .second, .val (.int o), .unset, .unset, .unset, .unset] [(.int (-4 : Int32)), (.int (3 : Int32)), (.ref b168), (.ref b168)])) rfl rfl (hb hby at_201)
    have k185_ : ∀ t, Steps p.tables e below (T184.setTop (mkF m 202 #[.val (.int p0), .val (.int p1), .val (.int p2), .val (.int p3), .val (.int p4), .val (.int u), .val (.int r), .val (.int o), .val (.int sv), .val (.int iv), .val (.ref b12), .val (.ref b35), .val (.ref b54), .val (.double (FP.l2d (p4.toInt64))), .second, .val (.int o), .unset, .unset, .unset, .unset] [(.ref b168)])) t → Steps p.tables e below (s₁.setTop (mkF m 0 #[.val (.int p0), .val (.int p1), .val (.int p2), .val (.int p3), .val (.int p4), .unset, .unset, .unset, .unset, .unset, .unset, .unset, .unset, .unset, .unset, .unset, .unset, .unset, .unset, .unset] [])) t := fun t q => k182_ t (st184 t q)
    have N184 := Fr.snoc X184 N180 g_b168
    replace Zn := Nat.le_trans Zn (Keep.of_wr W184).1
    replace V_b12 := V_b12.other W184 ne_b12_b168
    replace V_b35 := V_b35.other W184 ne_b35_b168
    replace V_b54 := V_b54.other W184 ne_b54_b168
    have V_b168 : Arv Z h184 b168 c168 .int (4 : Int32) [(.int (-1 : Int32)), (.int (-2 : Int32)), (.int (-3 : Int32)), (.int (-4 : Int32))] (.int (0 : Int32)) := Arv.set Ar183 q183 S183 M183 H183 G183 rfl W184 3 rfl (Nat.le_of_ble_eq_true rfl)
    replace V_b168 : Arv Z h184 b168 c168 .int (4 : Int32) (own_x0.map Value.int) (.int (0 : Int32)) := V_b168
    have k186_ : ∀ t, Steps p.tables e below (T184.setTop (mkF m 210 #[.val (.int p0), .val (.int p1), .val (.int p2), .val (.int p3), .val (.int p4), .val (.int u), .val (.int r), .val (.int o), .val (.int sv), .val (.int iv), .val (.ref b12), .val (.ref b35), .val (.ref b54), .val (.double (FP.l2d (p4.toInt64))), .second, .val (.int o), .val (.ref b168), .unset, .unset, .unset] [(.int sv), (.int u), (.ref b168)])) t → Steps p.tables e below (s₁.setTop (mkF m 0 #[.val (.int p0), .val (.int p1), .val (.int p2), .val (.int p3), .val (.int p4), .unset, .unset, .unset, .unset, .unset, .unset, .unset, .unset, .unset, .unset, .unset, .unset, .unset, .unset, .unset] [])) t := by
      intro t q
      refine k185_ _ ?_
      show Steps p.tables e below (T184.setTop (mkF m 202 #[.val (.int p0), .val (.int p1), .val (.int p2), .val (.int p3), .val (.int p4), .val (.int u), .val (.int r), .val (.int o), .val (.int sv), .val (.int iv), .val (.ref b12), .val (.ref b35), .val (.ref b54), .val (.double (FP.l2d (p4.toInt64))), .second, .val (.int o), .unset, .unset, .unset, .unset] [(.ref b168)])) _
      refine XS.astore X184.here hx rfl (hb hby at_202) rfl rfl (l' := #[.val (.int p0), .val (.int p1), .val (.int p2), .val (.int p3), .val (.int p4), .val (.int u), .val (.int r), .val (.int o), .val (.int sv), .val (.int iv), .val (.ref b12), .val (.ref b35), .val (.ref b54), .val (.double (FP.l2d (p4.toInt64))), .second, .val (.int o), .val (.ref b168), .unset, .unset, .unset]) rfl ?_
      show Steps p.tables e below (T184.setTop (mkF m 204 #[.val (.int p0), .val (.int p1), .val (.int p2), .val (.int p3), .val (.int p4), .val (.int u), .val (.int r), .val (.int o), .val (.int sv), .val (.int iv), .val (.ref b12), .val (.ref b35), .val (.ref b54), .val (.double (FP.l2d (p4.toInt64))), .second, .val (.int o), .val (.ref b168), .unset, .unset, .unset] [])) _
      refine XS.aload X184.here hx rfl (hb hby at_204) rfl rfl ?_
      show Steps p.tables e below (T184.setTop (mkF m 206 #[.val (.int p0), .val (.int p1), .val (.int p2), .val (.int p3), .val (.int p4), .val (.int u), .val (.int r), .val (.int o), .val (.int sv), .val (.int iv), .val (.ref b12), .val (.ref b35), .val (.ref b54), .val (.double (FP.l2d (p4.toInt64))), .second, .val (.int o), .val (.ref b168), .unset, .unset, .unset] [(.ref b168)])) _
      refine XS.iload X184.here hx rfl (hb hby at_206) rfl ?_
      show Steps p.tables e below (T184.setTop (mkF m 208 #[.val (.int p0), .val (.int p1), .val (.int p2), .val (.int p3), .val (.int p4), .val (.int u), .val (.int r), .val (.int o), .val (.int sv), .val (.int iv), .val (.ref b12), .val (.ref b35), .val (.ref b54), .val (.double (FP.l2d (p4.toInt64))), .second, .val (.int o), .val (.ref b168), .unset, .unset, .unset] [(.int u), (.ref b168)])) _
      refine XS.iload X184.here hx rfl (hb hby at_208) rfl ?_
      show Steps p.tables e below (T184.setTop (mkF m 210 #[.val (.int p0), .val (.int p1), .val (.int p2), .val (.int p3), .val (.int p4), .val (.int u), .val (.int r), .val (.int o), .val (.int sv), .val (.int iv), .val (.ref b12), .val (.ref b35), .val (.ref b54), .val (.double (FP.l2d (p4.toInt64))), .second, .val (.int o), .val (.ref b168), .unset, .unset, .unset] [(.int sv), (.int u), (.ref b168)])) _
      exact q
    obtain ⟨cl187, Ar187, q187, S187, M187, H187, G187⟩ := V_b168
    obtain ⟨T188, h188, X188, e188, W188, st188⟩ := stI X184 hx hZ e184 Ar187 (j := u) (inb_of S187 ⟨hu.1, hu.2⟩) (g := (mkF m 210 #[.val (.int p0), .val (.int p1), .val (.int p2), .val (.int p3), .val (.int p4), .val (.int u), .val (.int r), .val (.int o), .val (.int sv), .val (.int iv), .val (.ref b12), .val (.ref b35), .val (.ref b54), .val (.double (FP.l2d (p4.toInt64))), .second, .val (.int o), .val (.ref b168), .unset, .unset, .unset] [(.int sv), (.int u), (.ref b168)])) rfl rfl (hb hby at_210)
    have k189_ : ∀ t, Steps p.tables e below (T188.setTop (mkF m 211 #[.val (.int p0), .val (.int p1), .val (.int p2), .val (.int p3), .val (.int p4), .val (.int u), .val (.int r), .val (.int o), .val (.int sv), .val (.int iv), .val (.ref b12), .val (.ref b35), .val (.ref b54), .val (.double (FP.l2d (p4.toInt64))), .second, .val (.int o), .val (.ref b168), .unset, .unset, .unset] [])) t → Steps p.tables e below (s₁.setTop (mkF m 0 #[.val (.int p0), .val (.int p1), .val (.int p2), .val (.int p3), .val (.int p4), .unset, .unset, .unset, .unset, .unset, .unset, .unset, .unset, .unset, .unset, .unset, .unset, .unset, .unset, .unset] [])) t := fun t q => k186_ t (st188 t q)
    have N188 := Fr.snoc X188 N184 g_b168
    replace Zn := Nat.le_trans Zn (Keep.of_wr W188).1
    replace V_b12 := V_b12.other W188 ne_b12_b168
    replace V_b35 := V_b35.other W188 ne_b35_b168
    replace V_b54 := V_b54.other W188 ne_b54_b168
    have V_b168 : Arv Z h188 b168 c168 .int (4 : Int32) ((own_x0.set (u).toNatClampNeg sv).map Value.int) (.int (0 : Int32)) := by rw [List.map_set]; exact Arv.set Ar187 q187 S187 M187 H187 G187 rfl W188 _ rfl (own_ix hu.1 hu.2 rfl)
    have k190_ : ∀ t, Steps p.tables e below (T188.setTop (mkF m 212 #[.val (.int p0), .val (.int p1), .val (.int p2), .val (.int p3), .val (.int p4), .val (.int u), .val (.int r), .val (.int o), .val (.int sv), .val (.int iv), .val (.ref b12), .val (.ref b35), .val (.ref b54), .val (.double (FP.l2d (p4.toInt64))), .second, .val (.int o), .val (.ref b168), .unset, .unset, .unset] [(.int (4 : Int32))])) t → Steps p.tables e below (s₁.setTop (mkF m 0 #[.val (.int p0), .val (.int p1), .val (.int p2), .val (.int p3), .val (.int p4), .unset, .unset, .unset, .unset, .unset, .unset, .unset, .unset, .unset, .unset, .unset, .unset, .unset, .unset, .unset] [])) t := by
      intro t q
      refine k189_ _ ?_
      show Steps p.tables e below (T188.setTop (mkF m 211 #[.val (.int p0), .val (.int p1), .val (.int p2), .val (.int p3), .val (.int p4), .val (.int u), .val (.int r), .val (.int o), .val (.int sv), .val (.int iv), .val (.ref b12), .val (.ref b35), .val (.ref b54), .val (.double (FP.l2d (p4.toInt64))), .second, .val (.int o), .val (.ref b168), .unset, .unset, .unset] [])) _
      refine XS.iconst X188.here hx rfl (hb hby at_211) ?_
      show Steps p.tables e below (T188.setTop (mkF m 212 #[.val (.int p0), .val (.int p1), .val (.int p2), .val (.int p3), .val (.int p4), .val (.int u), .val (.int r), .val (.int o), .val (.int sv), .val (.int iv), .val (.ref b12), .val (.ref b35), .val (.ref b54), .val (.double (FP.l2d (p4.toInt64))), .second, .val (.int o), .val (.ref b168), .unset, .unset, .unset] [(.int (4 : Int32))])) _
      exact q
    obtain ⟨T191, h191, c191, X191, e191, E191, A191, st191⟩ := newP X188 hx hZ (hw _ (List.mem_of_getElem? (i := 1) rfl)) e188 (g := (mkF m 212 #[.val (.int p0), .val (.int p1), .val (.int p2), .val (.int p3), .val (.int p4), .val (.int u), .val (.int r), .val (.int o), .val (.int sv), .val (.int iv), .val (.ref b12), .val (.ref b35), .val (.ref b54), .val (.double (FP.l2d (p4.toInt64))), .second, .val (.int o), .val (.ref b168), .unset, .unset, .unset] [(.int (4 : Int32))])) rfl (hb hby at_212) rfl (by decide) (cap := 4) (by decide) (by decide) (by decide) (by decide)
    obtain ⟨b191, g191⟩ : ∃ z, z = h188.size := ⟨_, rfl⟩
    rw [← g191] at A191 st191
    have k192_ : ∀ t, Steps p.tables e below (T191.setTop (mkF m 214 #[.val (.int p0), .val (.int p1), .val (.int p2), .val (.int p3), .val (.int p4), .val (.int u), .val (.int r), .val (.int o), .val (.int sv), .val (.int iv), .val (.ref b12), .val (.ref b35), .val (.ref b54), .val (.double (FP.l2d (p4.toInt64))), .second, .val (.int o), .val (.ref b168), .unset, .unset, .unset] [(.ref b191)])) t → Steps p.tables e below (s₁.setTop (mkF m 0 #[.val (.int p0), .val (.int p1), .val (.int p2), .val (.int p3), .val (.int p4), .unset, .unset, .unset, .unset, .unset, .unset, .unset, .unset, .unset, .unset, .unset, .unset, .unset, .unset, .unset] [])) t := fun t q => k190_ t (st191 t q)
    have ne_b12_b191 : b12 ≠ b191 := Nat.ne_of_lt (Nat.lt_of_lt_of_le V_b12.lt (Nat.le_of_eq g191.symm))
    have ne_b35_b191 : b35 ≠ b191 := Nat.ne_of_lt (Nat.lt_of_lt_of_le V_b35.lt (Nat.le_of_eq g191.symm))
    have ne_b54_b191 : b54 ≠ b191 := Nat.ne_of_lt (Nat.lt_of_lt_of_le V_b54.lt (Nat.le_of_eq g191.symm))
    have ne_b168_b191 : b168 ≠ b191 := Nat.ne_of_lt (Nat.lt_of_lt_of_le V_b168.lt (Nat.le_of_eq g191.symm))
    have g_b191 : n0 ≤ b191 := Nat.le_trans Zn (Nat.le_of_eq g191.symm)
    replace Zn := Nat.le_trans Zn E191.1
    replace V_b12 := V_b12.ext E191
    replace V_b35 := V_b35.ext E191
    replace V_b54 := V_b54.ext E191
    replace V_b168 := V_b168.ext E191
    have V_b191 : Arv Z h191 b191 c191 .int (4 : Int32) [(.int (0 : Int32)), (.int (0 : Int32)), (.int (0 : Int32)), (.int (0 : Int32))] (.int (0 : Int32)) := (Arv.new A191 (by decide)).pad (pad_rep [] (.int (0 : Int32)) 4)
    have k193_ : ∀ t, Steps p.tables e below (T191.setTop (mkF m 218 #[.val (.int p0), .val (.int p1), .val (.int p2), .val (.int p3), .val (.int p4), .val (.int u), .val (.int r), .val (.int o), .val (.int sv), .val (.int iv), .val (.ref b12), .val (.ref b35), .val (.ref b54), .val (.double (FP.l2d (p4.toInt64))), .second, .val (.int o), .val (.ref b168), .unset, .unset, .unset] [(.int (20 : Int32)), (.int (0 : Int32)), (.ref b191), (.ref b191)])) t → Steps p.tables e below (s₁.setTop (mkF m 0 #[.val (.int p0), .val (.int p1), .val (.int p2), .val (.int p3), .val (.int p4), .unset, .unset, .unset, .unset, .unset, .unset, .unset, .unset, .unset, .unset, .unset, .unset, .unset, .unset, .unset] [])) t := by
      intro t q
      refine k192_ _ ?_
      show Steps p.tables e below (T191.setTop (mkF m 214 #[.val (.int p0), .val (.int p1), .val (.int p2), .val (.int p3), .val (.int p4), .val (.int u), .val (.int r), .val (.int o), .val (.int sv), .val (.int iv), .val (.ref b12), .val (.ref b35), .val (.ref b54), .val (.double (FP.l2d (p4.toInt64))), .second, .val (.int o), .val (.ref b168), .unset, .unset, .unset] [(.ref b191)])) _
      refine XS.dup X191.here hx rfl (hb hby at_214) rfl rfl ?_
      show Steps p.tables e below (T191.setTop (mkF m 215 #[.val (.int p0), .val (.int p1), .val (.int p2), .val (.int p3), .val (.int p4), .val (.int u), .val (.int r), .val (.int o), .val (.int sv), .val (.int iv), .val (.ref b12), .val (.ref b35), .val (.ref b54), .val (.double (FP.l2d (p4.toInt64))), .second, .val (.int o), .val (.ref b168), .unset, .unset, .unset] [(.ref b191), (.ref b191)])) _
      refine XS.iconst X191.here hx rfl (hb hby at_215) ?_
      show Steps p.tables e below (T191.setTop (mkF m 216 #[.val (.int p0), .val (.int p1), .val (.int p2), .val (.int p3), .val (.int p4), .val (.int u), .val (.int r), .val (.int o), .val (.int sv), .val (.int iv), .val (.ref b12), .val (.ref b35), .val (.ref b54), .val (.double (FP.l2d (p4.toInt64))), .second, .val (.int o), .val (.ref b168), .unset, .unset, .unset] [(.int (0 : Int32)), (.ref b191), (.ref b191)])) _
      refine XS.bipush X191.here hx rfl (hb hby at_216) ?_
      show Steps p.tables e below (T191.setTop (mkF m 218 #[.val (.int p0), .val (.int p1), .val (.int p2), .val (.int p3), .val (.int p4), .val (.int u), .val (.int r), .val (.int o), .val (.int sv), .val (.int iv), .val (.ref b12), .val (.ref b35), .val (.ref b54), .val (.double (FP.l2d (p4.toInt64))), .second, .val (.int o), .val (.ref b168), .unset, .unset, .unset] [(.int (20 : Int32)), (.int (0 : Int32)), (.ref b191), (.ref b191)])) _
      exact q
    obtain ⟨cl194, Ar194, q194, S194, M194, H194, G194⟩ := V_b191
    obtain ⟨T195, h195, X195, e195, W195, st195⟩ := stI X191 hx hZ e191 Ar194 (j := (0 : Int32)) (inb_of S194 ⟨by decide, by decide⟩) (g := (mkF m 218 #[.val (.int p0), .val (.int p1), .val (.int p2), .val (.int p3), .val (.int p4), .val (.int u), .val (.int r), .val (.int o), .val (.int sv), .val (.int iv), .val (.ref b12), .val (.ref b35), .val (.ref b54), .val (.double (FP.l2d (p4.toInt64))), .second, .val (.int o), .val (.ref b168), .unset, .unset, .unset] [(.int (20 : Int32)), (.int (0 : Int32)), (.ref b191), (.ref b191)])) rfl rfl (hb hby at_218)
    have k196_ : ∀ t, Steps p.tables e below (T195.setTop (mkF m 219 #[.val (.int p0), .val (.int p1), .val (.int p2), .val (.int p3), .val (.int p4), .val (.int u), .val (.int r), .val (.int o), .val (.int sv), .val (.int iv), .val (.ref b12), .val (.ref b35), .val (.ref b54), .val (.double (FP.l2d (p4.toInt64))), .second, .val (.int o), .val (.ref b168), .unset, .unset, .unset] [(.ref b191)])) t → Steps p.tables e below (s₁.setTop (mkF m 0 #[.val (.int p0), .val (.int p1), .val (.int p2), .val (.int p3), .val (.int p4), .unset, .unset, .unset, .unset, .unset, .unset, .unset, .unset, .unset, .unset, .unset, .unset, .unset, .unset, .unset] [])) t := fun t q => k193_ t (st195 t q)
    have N195 := Fr.snoc X195 N188 g_b191
    replace Zn := Nat.le_trans Zn (Keep.of_wr W195).1
    replace V_b12 := V_b12.other W195 ne_b12_b191
    replace V_b35 := V_b35.other W195 ne_b35_b191
    replace V_b54 := V_b54.other W195 ne_b54_b191
    replace V_b168 := V_b168.other W195 ne_b168_b191
    have V_b191 : Arv Z h195 b191 c191 .int (4 : Int32) [(.int (20 : Int32)), (.int (0 : Int32)), (.int (0 : Int32)), (.int (0 : Int32))] (.int (0 : Int32)) := Arv.set Ar194 q194 S194 M194 H194 G194 rfl W195 0 rfl (Nat.le_of_ble_eq_true rfl)
    have k197_ : ∀ t, Steps p.tables e below (T195.setTop (mkF m 223 #[.val (.int p0), .val (.int p1), .val (.int p2), .val (.int p3), .val (.int p4), .val (.int u), .val (.int r), .val (.int o), .val (.int sv), .val (.int iv), .val (.ref b12), .val (.ref b35), .val (.ref b54), .val (.double (FP.l2d (p4.toInt64))), .second, .val (.int o), .val (.ref b168), .unset, .unset, .unset] [(.int (21 : Int32)), (.int (1 : Int32)), (.ref b191), (.ref b191)])) t → Steps p.tables e below (s₁.setTop (mkF m 0 #[.val (.int p0), .val (.int p1), .val (.int p2), .val (.int p3), .val (.int p4), .unset, .unset, .unset, .unset, .unset, .unset, .unset, .unset, .unset, .unset, .unset, .unset, .unset, .unset, .unset] [])) t := by
      intro t q
      refine k196_ _ ?_
      show Steps p.tables e below (T195.setTop (mkF m 219 #[.val (.int p0), .val (.int p1), .val (.int p2), .val (.int p3), .val (.int p4), .val (.int u), .val (.int r), .val (.int o), .val (.int sv), .val (.int iv), .val (.ref b12), .val (.ref b35), .val (.ref b54), .val (.double (FP.l2d (p4.toInt64))), .second, .val (.int o), .val (.ref b168), .unset, .unset, .unset] [(.ref b191)])) _
      refine XS.dup X195.here hx rfl (hb hby at_219) rfl rfl ?_
      show Steps p.tables e below (T195.setTop (mkF m 220 #[.val (.int p0), .val (.int p1), .val (.int p2), .val (.int p3), .val (.int p4), .val (.int u), .val (.int r), .val (.int o), .val (.int sv), .val (.int iv), .val (.ref b12), .val (.ref b35), .val (.ref b54), .val (.double (FP.l2d (p4.toInt64))), .second, .val (.int o), .val (.ref b168), .unset, .unset, .unset] [(.ref b191), (.ref b191)])) _
      refine XS.iconst X195.here hx rfl (hb hby at_220) ?_
      show Steps p.tables e below (T195.setTop (mkF m 221 #[.val (.int p0), .val (.int p1), .val (.int p2), .val (.int p3), .val (.int p4), .val (.int u), .val (.int r), .val (.int o), .val (.int sv), .val (.int iv), .val (.ref b12), .val (.ref b35), .val (.ref b54), .val (.double (FP.l2d (p4.toInt64))), .second, .val (.int o), .val (.ref b168), .unset, .unset, .unset] [(.int (1 : Int32)), (.ref b191), (.ref b191)])) _
      refine XS.bipush X195.here hx rfl (hb hby at_221) ?_
      show Steps p.tables e below (T195.setTop (mkF m 223 #[.val (.int p0), .val (.int p1), .val (.int p2), .val (.int p3), .val (.int p4), .val (.int u), .val (.int r), .val (.int o), .val (.int sv), .val (.int iv), .val (.ref b12), .val (.ref b35), .val (.ref b54), .val (.double (FP.l2d (p4.toInt64))), .second, .val (.int o), .val (.ref b168), .unset, .unset, .unset] [(.int (21 : Int32)), (.int (1 : Int32)), (.ref b191), (.ref b191)])) _
      exact q
    obtain ⟨cl198, Ar198, q198, S198, M198, H198, G198⟩ := V_b191
    obtain ⟨T199, h199, X199, e199, W199, st199⟩ := stI X195 hx hZ e195 Ar198 (j := (1 : Int32)) (inb_of S198 ⟨by decide, by decide⟩) (g := (mkF m 223 #[.val (.int p0), .val (.int p1), .val (.int p2), .val (.int p3), .val (.int p4), .val (.int u), .val (.int r), .val (.int o), .val (.int sv), .val (.int iv), .val (.ref b12), .val (.ref b35), .val (.ref b54), .val (.double (FP.l2d (p4.toInt64))), .second, .val (.int o), .val (.ref b168), .unset, .unset, .unset] [(.int (21 : Int32)), (.int (1 : Int32)), (.ref b191), (.ref b191)])) rfl rfl (hb hby at_223)
    have k200_ : ∀ t, Steps p.tables e below (T199.setTop (mkF m 224 #[.val (.int p0), .val (.int p1), .val (.int p2), .val (.int p3), .val (.int p4), .val (.int u), .val (.int r), .val (.int o), .val (.int sv), .val (.int iv), .val (.ref b12), .val (.ref b35), .val (.ref b54), .val (.double (FP.l2d (p4.toInt64))), .second, .val (.int o), .val (.ref b168), .unset, .unset, .unset] [(.ref b191)])) t → Steps p.tables e below (s₁.setTop (mkF m 0 #[.val (.int p0), .val (.int p1), .val (.int p2), .val (.int p3), .val (.int p4), .unset, .unset, .unset, .unset, .unset, .unset, .unset, .unset, .unset, .unset, .unset, .unset, .unset, .unset, .unset] [])) t := fun t q => k197_ t (st199 t q)
    have N199 := Fr.snoc X199 N195 g_b191
    replace Zn := Nat.le_trans Zn (Keep.of_wr W199).1
    replace V_b12 := V_b12.other W199 ne_b12_b191
    replace V_b35 := V_b35.other W199 ne_b35_b191
    replace V_b54 := V_b54.other W199 ne_b54_b191
    replace V_b168 := V_b168.other W199 ne_b168_b191
    have V_b191 : Arv Z h199 b191 c191 .int (4 : Int32) [(.int (20 : Int32)), (.int (21 : Int32)), (.int (0 : Int32)), (.int (0 : Int32))] (.int (0 : Int32)) := Arv.set Ar198 q198 S198 M198 H198 G198 rfl W199 1 rfl (Nat.le_of_ble_eq_true rfl)
    have k201_ : ∀ t, Steps p.tables e below (T199.setTop (mkF m 228 #[.val (.int p0), .val (.int p1), .val (.int p2), .val (.int p3), .val (.int p4), .val (.int u), .val (.int r), .val (.int o), .val (.int sv), .val (.int iv), .val (.ref b12), .val (.ref b35), .val (.ref b54), .val (.double (FP.l2d (p4.toInt64))), .second, .val (.int o), .val (.ref b168), .unset, .unset, .unset] [(.int (22 : Int32)), (.int (2 : Int32)), (.ref b191), (.ref b191)])) t → Steps p.tables e below (s₁.setTop (mkF m 0 #[.val (.int p0), .val (.int p1), .val (.int p2), .val (.int p3), .val (.int p4), .unset, .unset, .unset, .unset, .unset, .unset, .unset, .unset, .unset, .unset, .unset, .unset, .unset, .unset, .unset] [])) t := by
      intro t q
      refine k200_ _ ?_
      show Steps p.tables e below (T199.setTop (mkF m 224 #[.val (.int p0), .val (.int p1), .val (.int p2), .val (.int p3), .val (.int p4), .val (.int u), .val (.int r), .val (.int o), .val (.int sv), .val (.int iv), .val (.ref b12), .val (.ref b35), .val (.ref b54), .val (.double (FP.l2d (p4.toInt64))), .second, .val (.int o), .val (.ref b168), .unset, .unset, .unset] [(.ref b191)])) _
      refine XS.dup X199.here hx rfl (hb hby at_224) rfl rfl ?_
      show Steps p.tables e below (T199.setTop (mkF m 225 #[.val (.int p0), .val (.int p1), .val (.int p2), .val (.int p3), .val (.int p4), .val (.int u), .val (.int r), .val (.int o), .val (.int sv), .val (.int iv), .val (.ref b12), .val (.ref b35), .val (.ref b54), .val (.double (FP.l2d (p4.toInt64))), .second, .val (.int o), .val (.ref b168), .unset, .unset, .unset] [(.ref b191), (.ref b191)])) _
      refine XS.iconst X199.here hx rfl (hb hby at_225) ?_
      show Steps p.tables e below (T199.setTop (mkF m 226 #[.val (.int p0), .val (.int p1), .val (.int p2), .val (.int p3), .val (.int p4), .val (.int u), .val (.int r), .val (.int o), .val (.int sv), .val (.int iv), .val (.ref b12), .val (.ref b35), .val (.ref b54), .val (.double (FP.l2d (p4.toInt64))), .second, .val (.int o), .val (.ref b168), .unset, .unset, .unset] [(.int (2 : Int32)), (.ref b191), (.ref b191)])) _
      refine XS.bipush X199.here hx rfl (hb hby at_226) ?_
      show Steps p.tables e below (T199.setTop (mkF m 228 #[.val (.int p0), .val (.int p1), .val (.int p2), .val (.int p3), .val (.int p4), .val (.int u), .val (.int r), .val (.int o), .val (.int sv), .val (.int iv), .val (.ref b12), .val (.ref b35), .val (.ref b54), .val (.double (FP.l2d (p4.toInt64))), .second, .val (.int o), .val (.ref b168), .unset, .unset, .unset] [(.int (22 : Int32)), (.int (2 : Int32)), (.ref b191), (.ref b191)])) _
      exact q
    obtain ⟨cl202, Ar202, q202, S202, M202, H202, G202⟩ := V_b191
    obtain ⟨T203, h203, X203, e203, W203, st203⟩ := stI X199 hx hZ e199 Ar202 (j := (2 : Int32)) (inb_of S202 ⟨by decide, by decide⟩) (g := (mkF m 228 #[.val (.int p0), .val (.int p1), .val (.int p2), .val (.int p3), .val (.int p4), .val (.int u), .val (.int r), .val (.int o), .val (.int sv), .val (.int iv), .val (.ref b12), .val (.ref b35), .val (.ref b54), .val (.double (FP.l2d (p4.toInt64))), .second, .val (.int o), .val (.ref b168), .unset, .unset, .unset] [(.int (22 : Int32)), (.int (2 : Int32)), (.ref b191), (.ref b191)])) rfl rfl (hb hby at_228)
    have k204_ : ∀ t, Steps p.tables e below (T203.setTop (mkF m 229 #[.val (.int p0), .val (.int p1), .val (.int p2), .val (.int p3), .val (.int p4), .val (.int u), .val (.int r), .val (.int o), .val (.int sv), .val (.int iv), .val (.ref b12), .val (.ref b35), .val (.ref b54), .val (.double (FP.l2d (p4.toInt64))), .second, .val (.int o), .val (.ref b168), .unset, .unset, .unset] [(.ref b191)])) t → Steps p.tables e below (s₁.setTop (mkF m 0 #[.val (.int p0), .val (.int p1), .val (.int p2), .val (.int p3), .val (.int p4), .unset, .unset, .unset, .unset, .unset, .unset, .unset, .unset, .unset, .unset, .unset, .unset, .unset, .unset, .unset] [])) t := fun t q => k201_ t (st203 t q)
    have N203 := Fr.snoc X203 N199 g_b191
    replace Zn := Nat.le_trans Zn (Keep.of_wr W203).1
    replace V_b12 := V_b12.other W203 ne_b12_b191
    replace V_b35 := V_b35.other W203 ne_b35_b191
    replace V_b54 := V_b54.other W203 ne_b54_b191
    replace V_b168 := V_b168.other W203 ne_b168_b191
    have V_b191 : Arv Z h203 b191 c191 .int (4 : Int32) [(.int (20 : Int32)), (.int (21 : Int32)), (.int (22 : Int32)), (.int (0 : Int32))] (.int (0 : Int32)) := Arv.set Ar202 q202 S202 M202 H202 G202 rfl W203 2 rfl (Nat.le_of_ble_eq_true rfl)
    have k205_ : ∀ t, Steps p.tables e below (T203.setTop (mkF m 233 #[.val (.int p0), .val (.int p1), .val (.int p2), .val (.int p3), .val (.int p4), .val (.int u), .val (.int r), .val (.int o), .val (.int sv), .val (.int iv), .val (.ref b12), .val (.ref b35), .val (.ref b54), .val (.double (FP.l2d (p4.toInt64))), .second, .val (.int o), .val (.ref b168), .unset, .unset, .unset] [(.int (23 : Int32)), (.int (3 : Int32)), (.ref b191), (.ref b191)])) t → Steps p.tables e below (s₁.setTop (mkF m 0 #[.val (.int p0), .val (.int p1), .val (.int p2), .val (.int p3), .val (.int p4), .unset, .unset, .unset, .unset, .unset, .unset, .unset, .unset, .unset, .unset, .unset, .unset, .unset, .unset, .unset] [])) t := by
      intro t q
      refine k204_ _ ?_
      show Steps p.tables e below (T203.setTop (mkF m 229 #[.val (.int p0), .val (.int p1), .val (.int p2), .val (.int p3), .val (.int p4), .val (.int u), .val (.int r), .val (.int o), .val (.int sv), .val (.int iv), .val (.ref b12), .val (.ref b35), .val (.ref b54), .val (.double (FP.l2d (p4.toInt64))), .second, .val (.int o), .val (.ref b168), .unset, .unset, .unset] [(.ref b191)])) _
      refine XS.dup X203.here hx rfl (hb hby at_229) rfl rfl ?_
      show Steps p.tables e below (T203.setTop (mkF m 230 #[.val (.int p0), .val (.int p1), .val (.int p2), .val (.int p3), .val (.int p4), .val (.int u), .val (.int r), .val (.int o), .val (.int sv), .val (.int iv), .val (.ref b12), .val (.ref b35), .val (.ref b54), .val (.double (FP.l2d (p4.toInt64))), .second, .val (.int o), .val (.ref b168), .unset, .unset, .unset] [(.ref b191), (.ref b191)])) _
      refine XS.iconst X203.here hx rfl (hb hby at_230) ?_
      show Steps p.tables e below (T203.setTop (mkF m 231 #[.val (.int p0), .val (.int p1), .val (.int p2), .val (.int p3), .val (.int p4), .val (.int u), .val (.int r), .val (.int o), .val (.int sv), .val (.int iv), .val (.ref b12), .val (.ref b35), .val (.ref b54), .val (.double (FP.l2d (p4.toInt64))), .second, .val (.int o), .val (.ref b168), .unset, .unset, .unset] [(.int (3 : Int32)), (.ref b191), (.ref b191)])) _
      refine XS.bipush X203.here hx rfl (hb hby at_231) ?_
      show Steps p.tables e below (T203.setTop (mkF m 233 #[.val (.int p0), .val (.int p1), .val (.int p2), .val (.int p3), .val (.int p4), .val (.int u), .val (.int r), .val (.int o), .val (.int sv), .val (.int iv), .val (.ref b12), .val (.ref b35), .val (.ref b54), .val (.double (FP.l2d (p4.toInt64))), .second, .val (.int o), .val (.ref b168), .unset, .unset, .unset] [(.int (23 : Int32)), (.int (3 : Int32)), (.ref b191), (.ref b191)])) _
      exact q
    obtain ⟨cl206, Ar206, q206, S206, M206, H206, G206⟩ := V_b191
    obtain ⟨T207, h207, X207, e207, W207, st207⟩ := stI X203 hx hZ e203 Ar206 (j := (3 : Int32)) (inb_of S206 ⟨by decide, by decide⟩) (g := (mkF m 233 #[.val (.int p0), .val (.int p1), .val (.int p2), .val (.int p3), .val (.int p4), .val (.int u), .val (.int r), .val (.int o), .val (.int sv), .val (.int iv), .val (.ref b12), .val (.ref b35), .val (.ref b54), .val (.double (FP.l2d (p4.toInt64))), .second, .val (.int o), .val (.ref b168), .unset, .unset, .unset] [(.int (23 : Int32)), (.int (3 : Int32)), (.ref b191), (.ref b191)])) rfl rfl (hb hby at_233)
    have k208_ : ∀ t, Steps p.tables e below (T207.setTop (mkF m 234 #[.val (.int p0), .val (.int p1), .val (.int p2), .val (.int p3), .val (.int p4), .val (.int u), .val (.int r), .val (.int o), .val (.int sv), .val (.int iv), .val (.ref b12), .val (.ref b35), .val (.ref b54), .val (.double (FP.l2d (p4.toInt64))), .second, .val (.int o), .val (.ref b168), .unset, .unset, .unset] [(.ref b191)])) t → Steps p.tables e below (s₁.setTop (mkF m 0 #[.val (.int p0), .val (.int p1), .val (.int p2), .val (.int p3), .val (.int p4), .unset, .unset, .unset, .unset, .unset, .unset, .unset, .unset, .unset, .unset, .unset, .unset, .unset, .unset, .unset] [])) t := fun t q => k205_ t (st207 t q)
    have N207 := Fr.snoc X207 N203 g_b191
    replace Zn := Nat.le_trans Zn (Keep.of_wr W207).1
    replace V_b12 := V_b12.other W207 ne_b12_b191
    replace V_b35 := V_b35.other W207 ne_b35_b191
    replace V_b54 := V_b54.other W207 ne_b54_b191
    replace V_b168 := V_b168.other W207 ne_b168_b191
    have V_b191 : Arv Z h207 b191 c191 .int (4 : Int32) [(.int (20 : Int32)), (.int (21 : Int32)), (.int (22 : Int32)), (.int (23 : Int32))] (.int (0 : Int32)) := Arv.set Ar206 q206 S206 M206 H206 G206 rfl W207 3 rfl (Nat.le_of_ble_eq_true rfl)
    replace V_b191 : Arv Z h207 b191 c191 .int (4 : Int32) (own_n0.map Value.int) (.int (0 : Int32)) := V_b191
    have k209_ : ∀ t, Steps p.tables e below (T207.setTop (mkF m 237 #[.val (.int p0), .val (.int p1), .val (.int p2), .val (.int p3), .val (.int p4), .val (.int u), .val (.int r), .val (.int o), .val (.int sv), .val (.int iv), .val (.ref b12), .val (.ref b35), .val (.ref b54), .val (.double (FP.l2d (p4.toInt64))), .second, .val (.int o), .val (.ref b168), .val (.ref b191), .unset, .unset] [(.int (4 : Int32))])) t → Steps p.tables e below (s₁.setTop (mkF m 0 #[.val (.int p0), .val (.int p1), .val (.int p2), .val (.int p3), .val (.int p4), .unset, .unset, .unset, .unset, .unset, .unset, .unset, .unset, .unset, .unset, .unset, .unset, .unset, .unset, .unset] [])) t := by
      intro t q
      refine k208_ _ ?_
      show Steps p.tables e below (T207.setTop (mkF m 234 #[.val (.int p0), .val (.int p1), .val (.int p2), .val (.int p3), .val (.int p4), .val (.int u), .val (.int r), .val (.int o), .val (.int sv), .val (.int iv), .val (.ref b12), .val (.ref b35), .val (.ref b54), .val (.double (FP.l2d (p4.toInt64))), .second, .val (.int o), .val (.ref b168), .unset, .unset, .unset] [(.ref b191)])) _
      refine XS.astore X207.here hx rfl (hb hby at_234) rfl rfl (l' := #[.val (.int p0), .val (.int p1), .val (.int p2), .val (.int p3), .val (.int p4), .val (.int u), .val (.int r), .val (.int o), .val (.int sv), .val (.int iv), .val (.ref b12), .val (.ref b35), .val (.ref b54), .val (.double (FP.l2d (p4.toInt64))), .second, .val (.int o), .val (.ref b168), .val (.ref b191), .unset, .unset]) rfl ?_
      show Steps p.tables e below (T207.setTop (mkF m 236 #[.val (.int p0), .val (.int p1), .val (.int p2), .val (.int p3), .val (.int p4), .val (.int u), .val (.int r), .val (.int o), .val (.int sv), .val (.int iv), .val (.ref b12), .val (.ref b35), .val (.ref b54), .val (.double (FP.l2d (p4.toInt64))), .second, .val (.int o), .val (.ref b168), .val (.ref b191), .unset, .unset] [])) _
      refine XS.iconst X207.here hx rfl (hb hby at_236) ?_
      show Steps p.tables e below (T207.setTop (mkF m 237 #[.val (.int p0), .val (.int p1), .val (.int p2), .val (.int p3), .val (.int p4), .val (.int u), .val (.int r), .val (.int o), .val (.int sv), .val (.int iv), .val (.ref b12), .val (.ref b35), .val (.ref b54), .val (.double (FP.l2d (p4.toInt64))), .second, .val (.int o), .val (.ref b168), .val (.ref b191), .unset, .unset] [(.int (4 : Int32))])) _
      exact q
    obtain ⟨T210, h210, c210, X210, e210, E210, A210, st210⟩ := newP X207 hx hZ (hw _ (List.mem_of_getElem? (i := 2) rfl)) e207 (g := (mkF m 237 #[.val (.int p0), .val (.int p1), .val (.int p2), .val (.int p3), .val (.int p4), .val (.int u), .val (.int r), .val (.int o), .val (.int sv), .val (.int iv), .val (.ref b12), .val (.ref b35), .val (.ref b54), .val (.double (FP.l2d (p4.toInt64))), .second, .val (.int o), .val (.ref b168), .val (.ref b191), .unset, .unset] [(.int (4 : Int32))])) rfl (hb hby at_237) rfl (by decide) (cap := 4) (by decide) (by decide) (by decide) (by decide)
    obtain ⟨b210, g210⟩ : ∃ z, z = h207.size := ⟨_, rfl⟩
    rw [← g210] at A210 st210
    have k211_ : ∀ t, Steps p.tables e below (T210.setTop (mkF m 239 #[.val (.int p0), .val (.int p1), .val (.int p2), .val (.int p3), .val (.int p4), .val (.int u), .val (.int r), .val (.int o), .val (.int sv), .val (.int iv), .val (.ref b12), .val (.ref b35), .val (.ref b54), .val (.double (FP.l2d (p4.toInt64))), .second, .val (.int o), .val (.ref b168), .val (.ref b191), .unset, .unset] [(.ref b210)])) t → Steps p.tables e below (s₁.setTop (mkF m 0 #[.val (.int p0), .val (.int p1), .val (.int p2), .val (.int p3), .val (.int p4), .unset, .unset, .unset, .unset, .unset, .unset, .unset, .unset, .unset, .unset, .unset, .unset, .unset, .unset, .unset] [])) t := fun t q => k209_ t (st210 t q)
    have ne_b12_b210 : b12 ≠ b210 := Nat.ne_of_lt (Nat.lt_of_lt_of_le V_b12.lt (Nat.le_of_eq g210.symm))
    have ne_b35_b210 : b35 ≠ b210 := Nat.ne_of_lt (Nat.lt_of_lt_of_le V_b35.lt (Nat.le_of_eq g210.symm))
    have ne_b54_b210 : b54 ≠ b210 := Nat.ne_of_lt (Nat.lt_of_lt_of_le V_b54.lt (Nat.le_of_eq g210.symm))
    have ne_b168_b210 : b168 ≠ b210 := Nat.ne_of_lt (Nat.lt_of_lt_of_le V_b168.lt (Nat.le_of_eq g210.symm))
    have ne_b191_b210 : b191 ≠ b210 := Nat.ne_of_lt (Nat.lt_of_lt_of_le V_b191.lt (Nat.le_of_eq g210.symm))
    have g_b210 : n0 ≤ b210 := Nat.le_trans Zn (Nat.le_of_eq g210.symm)
    replace Zn := Nat.le_trans Zn E210.1
    replace V_b12 := V_b12.ext E210
    replace V_b35 := V_b35.ext E210
    replace V_b54 := V_b54.ext E210
    replace V_b168 := V_b168.ext E210
    replace V_b191 := V_b191.ext E210
    have V_b210 : Arv Z h210 b210 c210 .double (4 : Int32) [(.double (FP.l2d (0 : Int64))), (.double (FP.l2d (0 : Int64))), (.double (FP.l2d (0 : Int64))), (.double (FP.l2d (0 : Int64)))] (.double (FP.l2d (0 : Int64))) := (Arv.newD A210 (by decide)).pad (pad_rep [] (.double (FP.l2d (0 : Int64))) 4)
    have k212_ : ∀ t, Steps p.tables e below (T210.setTop (mkF m 242 #[.val (.int p0), .val (.int p1), .val (.int p2), .val (.int p3), .val (.int p4), .val (.int u), .val (.int r), .val (.int o), .val (.int sv), .val (.int iv), .val (.ref b12), .val (.ref b35), .val (.ref b54), .val (.double (FP.l2d (p4.toInt64))), .second, .val (.int o), .val (.ref b168), .val (.ref b191), .unset, .unset] [(.double (FP.l2d (1 : Int64))), (.int (0 : Int32)), (.ref b210), (.ref b210)])) t → Steps p.tables e below (s₁.setTop (mkF m 0 #[.val (.int p0), .val (.int p1), .val (.int p2), .val (.int p3), .val (.int p4), .unset, .unset, .unset, .unset, .unset, .unset, .unset, .unset, .unset, .unset, .unset, .unset, .unset, .unset, .unset] [])) t := by
      intro t q
      refine k211_ _ ?_
      show Steps p.tables e below (T210.setTop (mkF m 239 #[.val (.int p0), .val (.int p1), .val (.int p2), .val (.int p3), .val (.int p4), .val (.int u), .val (.int r), .val (.int o), .val (.int sv), .val (.int iv), .val (.ref b12), .val (.ref b35), .val (.ref b54), .val (.double (FP.l2d (p4.toInt64))), .second, .val (.int o), .val (.ref b168), .val (.ref b191), .unset, .unset] [(.ref b210)])) _
      refine XS.dup X210.here hx rfl (hb hby at_239) rfl rfl ?_
      show Steps p.tables e below (T210.setTop (mkF m 240 #[.val (.int p0), .val (.int p1), .val (.int p2), .val (.int p3), .val (.int p4), .val (.int u), .val (.int r), .val (.int o), .val (.int sv), .val (.int iv), .val (.ref b12), .val (.ref b35), .val (.ref b54), .val (.double (FP.l2d (p4.toInt64))), .second, .val (.int o), .val (.ref b168), .val (.ref b191), .unset, .unset] [(.ref b210), (.ref b210)])) _
      refine XS.iconst X210.here hx rfl (hb hby at_240) ?_
      show Steps p.tables e below (T210.setTop (mkF m 241 #[.val (.int p0), .val (.int p1), .val (.int p2), .val (.int p3), .val (.int p4), .val (.int u), .val (.int r), .val (.int o), .val (.int sv), .val (.int iv), .val (.ref b12), .val (.ref b35), .val (.ref b54), .val (.double (FP.l2d (p4.toInt64))), .second, .val (.int o), .val (.ref b168), .val (.ref b191), .unset, .unset] [(.int (0 : Int32)), (.ref b210), (.ref b210)])) _
      refine XS.dconst1 X210.here hx rfl (hb hby at_241) (v := FP.l2d (1 : Int64)) own_dc1 ?_
      show Steps p.tables e below (T210.setTop (mkF m 242 #[.val (.int p0), .val (.int p1), .val (.int p2), .val (.int p3), .val (.int p4), .val (.int u), .val (.int r), .val (.int o), .val (.int sv), .val (.int iv), .val (.ref b12), .val (.ref b35), .val (.ref b54), .val (.double (FP.l2d (p4.toInt64))), .second, .val (.int o), .val (.ref b168), .val (.ref b191), .unset, .unset] [(.double (FP.l2d (1 : Int64))), (.int (0 : Int32)), (.ref b210), (.ref b210)])) _
      exact q
    obtain ⟨cl213, Ar213, q213, S213, M213, H213, G213⟩ := V_b210
    obtain ⟨T214, h214, X214, e214, W214, st214⟩ := stD X210 hx hZ e210 Ar213 (j := (0 : Int32)) (inb_of S213 ⟨by decide, by decide⟩) (g := (mkF m 242 #[.val (.int p0), .val (.int p1), .val (.int p2), .val (.int p3), .val (.int p4), .val (.int u), .val (.int r), .val (.int o), .val (.int sv), .val (.int iv), .val (.ref b12), .val (.ref b35), .val (.ref b54), .val (.double (FP.l2d (p4.toInt64))), .second, .val (.int o), .val (.ref b168), .val (.ref b191), .unset, .unset] [(.double (FP.l2d (1 : Int64))), (.int (0 : Int32)), (.ref b210), (.ref b210)])) rfl rfl (hb hby at_242)
    have k215_ : ∀ t, Steps p.tables e below (T214.setTop (mkF m 243 #[.val (.int p0), .val (.int p1), .val (.int p2), .val (.int p3), .val (.int p4), .val (.int u), .val (.int r), .val (.int o), .val (.int sv), .val (.int iv), .val (.ref b12), .val (.ref b35), .val (.ref b54), .val (.double (FP.l2d (p4.toInt64))), .second, .val (.int o), .val (.ref b168), .val (.ref b191), .unset, .unset] [(.ref b210)])) t → Steps p.tables e below (s₁.setTop (mkF m 0 #[.val (.int p0), .val (.int p1), .val (.int p2), .val (.int p3), .val (.int p4), .unset, .unset, .unset, .unset, .unset, .unset, .unset, .unset, .unset, .unset, .unset, .unset, .unset, .unset, .unset] [])) t := fun t q => k212_ t (st214 t q)
    have N214 := Fr.snoc X214 N207 g_b210
    replace Zn := Nat.le_trans Zn (Keep.of_wr W214).1
    replace V_b12 := V_b12.other W214 ne_b12_b210
    replace V_b35 := V_b35.other W214 ne_b35_b210
    replace V_b54 := V_b54.other W214 ne_b54_b210
    replace V_b168 := V_b168.other W214 ne_b168_b210
    replace V_b191 := V_b191.other W214 ne_b191_b210
    have V_b210 : Arv Z h214 b210 c210 .double (4 : Int32) [(.double (FP.l2d (1 : Int64))), (.double (FP.l2d (0 : Int64))), (.double (FP.l2d (0 : Int64))), (.double (FP.l2d (0 : Int64)))] (.double (FP.l2d (0 : Int64))) := Arv.set Ar213 q213 S213 M213 H213 G213 rfl W214 0 rfl (Nat.le_of_ble_eq_true rfl)
    have k216_ : ∀ t, Steps p.tables e below (T214.setTop (mkF m 248 #[.val (.int p0), .val (.int p1), .val (.int p2), .val (.int p3), .val (.int p4), .val (.int u), .val (.int r), .val (.int o), .val (.int sv), .val (.int iv), .val (.ref b12), .val (.ref b35), .val (.ref b54), .val (.double (FP.l2d (p4.toInt64))), .second, .val (.int o), .val (.ref b168), .val (.ref b191), .unset, .unset] [(.double (FP.l2d (2 : Int64))), (.int (1 : Int32)), (.ref b210), (.ref b210)])) t → Steps p.tables e below (s₁.setTop (mkF m 0 #[.val (.int p0), .val (.int p1), .val (.int p2), .val (.int p3), .val (.int p4), .unset, .unset, .unset, .unset, .unset, .unset, .unset, .unset, .unset, .unset, .unset, .unset, .unset, .unset, .unset] [])) t := by
      intro t q
      refine k215_ _ ?_
      show Steps p.tables e below (T214.setTop (mkF m 243 #[.val (.int p0), .val (.int p1), .val (.int p2), .val (.int p3), .val (.int p4), .val (.int u), .val (.int r), .val (.int o), .val (.int sv), .val (.int iv), .val (.ref b12), .val (.ref b35), .val (.ref b54), .val (.double (FP.l2d (p4.toInt64))), .second, .val (.int o), .val (.ref b168), .val (.ref b191), .unset, .unset] [(.ref b210)])) _
      refine XS.dup X214.here hx rfl (hb hby at_243) rfl rfl ?_
      show Steps p.tables e below (T214.setTop (mkF m 244 #[.val (.int p0), .val (.int p1), .val (.int p2), .val (.int p3), .val (.int p4), .val (.int u), .val (.int r), .val (.int o), .val (.int sv), .val (.int iv), .val (.ref b12), .val (.ref b35), .val (.ref b54), .val (.double (FP.l2d (p4.toInt64))), .second, .val (.int o), .val (.ref b168), .val (.ref b191), .unset, .unset] [(.ref b210), (.ref b210)])) _
      refine XS.iconst X214.here hx rfl (hb hby at_244) ?_
      show Steps p.tables e below (T214.setTop (mkF m 245 #[.val (.int p0), .val (.int p1), .val (.int p2), .val (.int p3), .val (.int p4), .val (.int u), .val (.int r), .val (.int o), .val (.int sv), .val (.int iv), .val (.ref b12), .val (.ref b35), .val (.ref b54), .val (.double (FP.l2d (p4.toInt64))), .second, .val (.int o), .val (.ref b168), .val (.ref b191), .unset, .unset] [(.int (1 : Int32)), (.ref b210), (.ref b210)])) _
      refine X214.ldc2DoubleC hx hown (mvT hZ (hw _ (List.mem_of_getElem? (i := 3) rfl))) (g := (mkF m 245 #[.val (.int p0), .val (.int p1), .val (.int p2), .val (.int p3), .val (.int p4), .val (.int u), .val (.int r), .val (.int o), .val (.int sv), .val (.int iv), .val (.ref b12), .val (.ref b35), .val (.ref b54), .val (.double (FP.l2d (p4.toInt64))), .second, .val (.int o), .val (.ref b168), .val (.ref b191), .unset, .unset] [(.int (1 : Int32)), (.ref b210), (.ref b210)])) rfl (hb hby at_245) _ ?_
      rw [own_c2]
      show Steps p.tables e below (T214.setTop (mkF m 248 #[.val (.int p0), .val (.int p1), .val (.int p2), .val (.int p3), .val (.int p4), .val (.int u), .val (.int r), .val (.int o), .val (.int sv), .val (.int iv), .val (.ref b12), .val (.ref b35), .val (.ref b54), .val (.double (FP.l2d (p4.toInt64))), .second, .val (.int o), .val (.ref b168), .val (.ref b191), .unset, .unset] [(.double (FP.l2d (2 : Int64))), (.int (1 : Int32)), (.ref b210), (.ref b210)])) _
      exact q
    obtain ⟨cl217, Ar217, q217, S217, M217, H217, G217⟩ := V_b210
    obtain ⟨T218, h218, X218, e218, W218, st218⟩ := stD X214 hx hZ e214 Ar217 (j := (1 : Int32)) (inb_of S217 ⟨by decide, by decide⟩) (g := (mkF m 248 #[.val (.int p0), .val (.int p1), .val (.int p2), .val (.int p3), .val (.int p4), .val (.int u), .val (.int r), .val (.int o), .val (.int sv), .val (.int iv), .val (.ref b12), .val (.ref b35), .val (.ref b54), .val (.double (FP.l2d (p4.toInt64))), .second, .val (.int o), .val (.ref b168), .val (.ref b191), .unset, .unset] [(.double (FP.l2d (2 : Int64))), (.int (1 : Int32)), (.ref b210), (.ref b210)])) rfl rfl (hb hby at_248)
    have k219_ : ∀ t, Steps p.tables e below (T218.setTop (mkF m 249 #[.val (.int p0), .val (.int p1), .val (.int p2), .val (.int p3), .val (.int p4), .val (.int u), .val (.int r), .val (.int o), .val (.int sv), .val (.int iv), .val (.ref b12), .val (.ref b35), .val (.ref b54), .val (.double (FP.l2d (p4.toInt64))), .second, .val (.int o), .val (.ref b168), .val (.ref b191), .unset, .unset] [(.ref b210)])) t → Steps p.tables e below (s₁.setTop (mkF m 0 #[.val (.int p0), .val (.int p1), .val (.int p2), .val (.int p3), .val (.int p4), .unset, .unset, .unset, .unset, .unset, .unset, .unset, .unset, .unset, .unset, .unset, .unset, .unset, .unset, .unset] [])) t := fun t q => k216_ t (st218 t q)
    have N218 := Fr.snoc X218 N214 g_b210
    replace Zn := Nat.le_trans Zn (Keep.of_wr W218).1
    replace V_b12 := V_b12.other W218 ne_b12_b210
    replace V_b35 := V_b35.other W218 ne_b35_b210
    replace V_b54 := V_b54.other W218 ne_b54_b210
    replace V_b168 := V_b168.other W218 ne_b168_b210
    replace V_b191 := V_b191.other W218 ne_b191_b210
    have V_b210 : Arv Z h218 b210 c210 .double (4 : Int32) [(.double (FP.l2d (1 : Int64))), (.double (FP.l2d (2 : Int64))), (.double (FP.l2d (0 : Int64))), (.double (FP.l2d (0 : Int64)))] (.double (FP.l2d (0 : Int64))) := Arv.set Ar217 q217 S217 M217 H217 G217 rfl W218 1 rfl (Nat.le_of_ble_eq_true rfl)
    have k220_ : ∀ t, Steps p.tables e below (T218.setTop (mkF m 254 #[.val (.int p0), .val (.int p1), .val (.int p2), .val (.int p3), .val (.int p4), .val (.int u), .val (.int r), .val (.int o), .val (.int sv), .val (.int iv), .val (.ref b12), .val (.ref b35), .val (.ref b54), .val (.double (FP.l2d (p4.toInt64))), .second, .val (.int o), .val (.ref b168), .val (.ref b191), .unset, .unset] [(.double (FP.l2d (3 : Int64))), (.int (2 : Int32)), (.ref b210), (.ref b210)])) t → Steps p.tables e below (s₁.setTop (mkF m 0 #[.val (.int p0), .val (.int p1), .val (.int p2), .val (.int p3), .val (.int p4), .unset, .unset, .unset, .unset, .unset, .unset, .unset, .unset, .unset, .unset, .unset, .unset, .unset, .unset, .unset] [])) t := by
      intro t q
      refine k219_ _ ?_
      show Steps p.tables e below (T218.setTop (mkF m 249 #[.val (.int p0), .val (.int p1), .val (.int p2), .val (.int p3), .val (.int p4), .val (.int u), .val (.int r), .val (.int o), .val (.int sv), .val (.int iv), .val (.ref b12), .val (.ref b35), .val (.ref b54), .val (.double (FP.l2d (p4.toInt64))), .second, .val (.int o), .val (.ref b168), .val (.ref b191), .unset, .unset] [(.ref b210)])) _
      refine XS.dup X218.here hx rfl (hb hby at_249) rfl rfl ?_
      show Steps p.tables e below (T218.setTop (mkF m 250 #[.val (.int p0), .val (.int p1), .val (.int p2), .val (.int p3), .val (.int p4), .val (.int u), .val (.int r), .val (.int o), .val (.int sv), .val (.int iv), .val (.ref b12), .val (.ref b35), .val (.ref b54), .val (.double (FP.l2d (p4.toInt64))), .second, .val (.int o), .val (.ref b168), .val (.ref b191), .unset, .unset] [(.ref b210), (.ref b210)])) _
      refine XS.iconst X218.here hx rfl (hb hby at_250) ?_
      show Steps p.tables e below (T218.setTop (mkF m 251 #[.val (.int p0), .val (.int p1), .val (.int p2), .val (.int p3), .val (.int p4), .val (.int u), .val (.int r), .val (.int o), .val (.int sv), .val (.int iv), .val (.ref b12), .val (.ref b35), .val (.ref b54), .val (.double (FP.l2d (p4.toInt64))), .second, .val (.int o), .val (.ref b168), .val (.ref b191), .unset, .unset] [(.int (2 : Int32)), (.ref b210), (.ref b210)])) _
      refine X218.ldc2DoubleC hx hown (mvT hZ (hw _ (List.mem_of_getElem? (i := 4) rfl))) (g := (mkF m 251 #[.val (.int p0), .val (.int p1), .val (.int p2), .val (.int p3), .val (.int p4), .val (.int u), .val (.int r), .val (.int o), .val (.int sv), .val (.int iv), .val (.ref b12), .val (.ref b35), .val (.ref b54), .val (.double (FP.l2d (p4.toInt64))), .second, .val (.int o), .val (.ref b168), .val (.ref b191), .unset, .unset] [(.int (2 : Int32)), (.ref b210), (.ref b210)])) rfl (hb hby at_251) _ ?_
      rw [own_c3]
      show Steps p.tables e below (T218.setTop (mkF m 254 #[.val (.int p0), .val (.int p1), .val (.int p2), .val (.int p3), .val (.int p4), .val (.int u), .val (.int r), .val (.int o), .val (.int sv), .val (.int iv), .val (.ref b12), .val (.ref b35), .val (.ref b54), .val (.double (FP.l2d (p4.toInt64))), .second, .val (.int o), .val (.ref b168), .val (.ref b191), .unset, .unset] [(.double (FP.l2d (3 : Int64))), (.int (2 : Int32)), (.ref b210), (.ref b210)])) _
      exact q
    obtain ⟨cl221, Ar221, q221, S221, M221, H221, G221⟩ := V_b210
    obtain ⟨T222, h222, X222, e222, W222, st222⟩ := stD X218 hx hZ e218 Ar221 (j := (2 : Int32)) (inb_of S221 ⟨by decide, by decide⟩) (g := (mkF m 254 #[.val (.int p0), .val (.int p1), .val (.int p2), .val (.int p3), .val (.int p4), .val (.int u), .val (.int r), .val (.int o), .val (.int sv), .val (.int iv), .val (.ref b12), .val (.ref b35), .val (.ref b54), .val (.double (FP.l2d (p4.toInt64))), .second, .val (.int o), .val (.ref b168), .val (.ref b191), .unset, .unset] [(.double (FP.l2d (3 : Int64))), (.int (2 : Int32)), (.ref b210), (.ref b210)])) rfl rfl (hb hby at_254)
    have k223_ : ∀ t, Steps p.tables e below (T222.setTop (mkF m 255 #[.val (.int p0), .val (.int p1), .val (.int p2), .val (.int p3), .val (.int p4), .val (.int u), .val (.int r), .val (.int o), .val (.int sv), .val (.int iv), .val (.ref b12), .val (.ref b35), .val (.ref b54), .val (.double (FP.l2d (p4.toInt64))), .second, .val (.int o), .val (.ref b168), .val (.ref b191), .unset, .unset] [(.ref b210)])) t → Steps p.tables e below (s₁.setTop (mkF m 0 #[.val (.int p0), .val (.int p1), .val (.int p2), .val (.int p3), .val (.int p4), .unset, .unset, .unset, .unset, .unset, .unset, .unset, .unset, .unset, .unset, .unset, .unset, .unset, .unset, .unset] [])) t := fun t q => k220_ t (st222 t q)
    have N222 := Fr.snoc X222 N218 g_b210
    replace Zn := Nat.le_trans Zn (Keep.of_wr W222).1
    replace V_b12 := V_b12.other W222 ne_b12_b210
    replace V_b35 := V_b35.other W222 ne_b35_b210
    replace V_b54 := V_b54.other W222 ne_b54_b210
    replace V_b168 := V_b168.other W222 ne_b168_b210
    replace V_b191 := V_b191.other W222 ne_b191_b210
    have V_b210 : Arv Z h222 b210 c210 .double (4 : Int32) [(.double (FP.l2d (1 : Int64))), (.double (FP.l2d (2 : Int64))), (.double (FP.l2d (3 : Int64))), (.double (FP.l2d (0 : Int64)))] (.double (FP.l2d (0 : Int64))) := Arv.set Ar221 q221 S221 M221 H221 G221 rfl W222 2 rfl (Nat.le_of_ble_eq_true rfl)
    have k224_ : ∀ t, Steps p.tables e below (T222.setTop (mkF m 260 #[.val (.int p0), .val (.int p1), .val (.int p2), .val (.int p3), .val (.int p4), .val (.int u), .val (.int r), .val (.int o), .val (.int sv), .val (.int iv), .val (.ref b12), .val (.ref b35), .val (.ref b54), .val (.double (FP.l2d (p4.toInt64))), .second, .val (.int o), .val (.ref b168), .val (.ref b191), .unset, .unset] [(.double (FP.l2d (4 : Int64))), (.int (3 : Int32)), (.ref b210), (.ref b210)])) t → Steps p.tables e below (s₁.setTop (mkF m 0 #[.val (.int p0), .val (.int p1), .val (.int p2), .val (.int p3), .val (.int p4), .unset, .unset, .unset, .unset, .unset, .unset, .unset, .unset, .unset, .unset, .unset, .unset, .unset, .unset, .unset] [])) t := by
      intro t q
      refine k223_ _ ?_
      show Steps p.tables e below (T222.setTop (mkF m 255 #[.val (.int p0), .val (.int p1), .val (.int p2), .val (.int p3), .val (.int p4), .val (.int u), .val (.int r), .val (.int o), .val (.int sv), .val (.int iv), .val (.ref b12), .val (.ref b35), .val (.ref b54), .val (.double (FP.l2d (p4.toInt64))), .second, .val (.int o), .val (.ref b168), .val (.ref b191), .unset, .unset] [(.ref b210)])) _
      refine XS.dup X222.here hx rfl (hb hby at_255) rfl rfl ?_
      show Steps p.tables e below (T222.setTop (mkF m 256 #[.val (.int p0), .val (.int p1), .val (.int p2), .val (.int p3), .val (.int p4), .val (.int u), .val (.int r), .val (.int o), .val (.int sv), .val (.int iv), .val (.ref b12), .val (.ref b35), .val (.ref b54), .val (.double (FP.l2d (p4.toInt64))), .second, .val (.int o), .val (.ref b168), .val (.ref b191), .unset, .unset] [(.ref b210), (.ref b210)])) _
      refine XS.iconst X222.here hx rfl (hb hby at_256) ?_
      show Steps p.tables e below (T222.setTop (mkF m 257 #[.val (.int p0), .val (.int p1), .val (.int p2), .val (.int p3), .val (.int p4), .val (.int u), .val (.int r), .val (.int o), .val (.int sv), .val (.int iv), .val (.ref b12), .val (.ref b35), .val (.ref b54), .val (.double (FP.l2d (p4.toInt64))), .second, .val (.int o), .val (.ref b168), .val (.ref b191), .unset, .unset] [(.int (3 : Int32)), (.ref b210), (.ref b210)])) _
      refine X222.ldc2DoubleC hx hown (mvT hZ (hw _ (List.mem_of_getElem? (i := 5) rfl))) (g := (mkF m 257 #[.val (.int p0), .val (.int p1), .val (.int p2), .val (.int p3), .val (.int p4), .val (.int u), .val (.int r), .val (.int o), .val (.int sv), .val (.int iv), .val (.ref b12), .val (.ref b35), .val (.ref b54), .val (.double (FP.l2d (p4.toInt64))), .second, .val (.int o), .val (.ref b168), .val (.ref b191), .unset, .unset] [(.int (3 : Int32)), (.ref b210), (.ref b210)])) rfl (hb hby at_257) _ ?_
      rw [own_c4]
      show Steps p.tables e below (T222.setTop (mkF m 260 #[.val (.int p0), .val (.int p1), .val (.int p2), .val (.int p3), .val (.int p4), .val (.int u), .val (.int r), .val (.int o), .val (.int sv), .val (.int iv), .val (.ref b12), .val (.ref b35), .val (.ref b54), .val (.double (FP.l2d (p4.toInt64))), .second, .val (.int o), .val (.ref b168), .val (.ref b191), .unset, .unset] [(.double (FP.l2d (4 : Int64))), (.int (3 : Int32)), (.ref b210), (.ref b210)])) _
      exact q
    obtain ⟨cl225, Ar225, q225, S225, M225, H225, G225⟩ := V_b210
    obtain ⟨T226, h226, X226, e226, W226, st226⟩ := stD X222 hx hZ e222 Ar225 (j := (3 : Int32)) (inb_of S225 ⟨by decide, by decide⟩) (g := (mkF m 260 #[.val (.int p0), .val (.int p1), .val (.int p2), .val (.int p3), .val (.int p4), .val (.int u), .val (.int r), .val (.int o), .val (.int sv), .val (.int iv), .val (.ref b12), .val (.ref b35), .val (.ref b54), .val (.double (FP.l2d (p4.toInt64))), .second, .val (.int o), .val (.ref b168), .val (.ref b191), .unset, .unset] [(.double (FP.l2d (4 : Int64))), (.int (3 : Int32)), (.ref b210), (.ref b210)])) rfl rfl (hb hby at_260)
    have k227_ : ∀ t, Steps p.tables e below (T226.setTop (mkF m 261 #[.val (.int p0), .val (.int p1), .val (.int p2), .val (.int p3), .val (.int p4), .val (.int u), .val (.int r), .val (.int o), .val (.int sv), .val (.int iv), .val (.ref b12), .val (.ref b35), .val (.ref b54), .val (.double (FP.l2d (p4.toInt64))), .second, .val (.int o), .val (.ref b168), .val (.ref b191), .unset, .unset] [(.ref b210)])) t → Steps p.tables e below (s₁.setTop (mkF m 0 #[.val (.int p0), .val (.int p1), .val (.int p2), .val (.int p3), .val (.int p4), .unset, .unset, .unset, .unset, .unset, .unset, .unset, .unset, .unset, .unset, .unset, .unset, .unset, .unset, .unset] [])) t := fun t q => k224_ t (st226 t q)
    have N226 := Fr.snoc X226 N222 g_b210
    replace Zn := Nat.le_trans Zn (Keep.of_wr W226).1
    replace V_b12 := V_b12.other W226 ne_b12_b210
    replace V_b35 := V_b35.other W226 ne_b35_b210
    replace V_b54 := V_b54.other W226 ne_b54_b210
    replace V_b168 := V_b168.other W226 ne_b168_b210
    replace V_b191 := V_b191.other W226 ne_b191_b210
    have V_b210 : Arv Z h226 b210 c210 .double (4 : Int32) [(.double (FP.l2d (1 : Int64))), (.double (FP.l2d (2 : Int64))), (.double (FP.l2d (3 : Int64))), (.double (FP.l2d (4 : Int64)))] (.double (FP.l2d (0 : Int64))) := Arv.set Ar225 q225 S225 M225 H225 G225 rfl W226 3 rfl (Nat.le_of_ble_eq_true rfl)
    replace V_b210 : Arv Z h226 b210 c210 .double (4 : Int32) (own_d0.map own_dv) (.double (FP.l2d (0 : Int64))) := V_b210
    have k228_ : ∀ t, Steps p.tables e below (T226.setTop (mkF m 265 #[.val (.int p0), .val (.int p1), .val (.int p2), .val (.int p3), .val (.int p4), .val (.int u), .val (.int r), .val (.int o), .val (.int sv), .val (.int iv), .val (.ref b12), .val (.ref b35), .val (.ref b54), .val (.double (FP.l2d (p4.toInt64))), .second, .val (.int o), .val (.ref b168), .val (.ref b191), .val (.ref b210), .unset] [(.int iv)])) t → Steps p.tables e below (s₁.setTop (mkF m 0 #[.val (.int p0), .val (.int p1), .val (.int p2), .val (.int p3), .val (.int p4), .unset, .unset, .unset, .unset, .unset, .unset, .unset, .unset, .unset, .unset, .unset, .unset, .unset, .unset, .unset] [])) t := by
      intro t q
      refine k227_ _ ?_
      show Steps p.tables e below (T226.setTop (mkF m 261 #[.val (.int p0), .val (.int p1), .val (.int p2), .val (.int p3), .val (.int p4), .val (.int u), .val (.int r), .val (.int o), .val (.int sv), .val (.int iv), .val (.ref b12), .val (.ref b35), .val (.ref b54), .val (.double (FP.l2d (p4.toInt64))), .second, .val (.int o), .val (.ref b168), .val (.ref b191), .unset, .unset] [(.ref b210)])) _
      refine XS.astore X226.here hx rfl (hb hby at_261) rfl rfl (l' := #[.val (.int p0), .val (.int p1), .val (.int p2), .val (.int p3), .val (.int p4), .val (.int u), .val (.int r), .val (.int o), .val (.int sv), .val (.int iv), .val (.ref b12), .val (.ref b35), .val (.ref b54), .val (.double (FP.l2d (p4.toInt64))), .second, .val (.int o), .val (.ref b168), .val (.ref b191), .val (.ref b210), .unset]) rfl ?_
      show Steps p.tables e below (T226.setTop (mkF m 263 #[.val (.int p0), .val (.int p1), .val (.int p2), .val (.int p3), .val (.int p4), .val (.int u), .val (.int r), .val (.int o), .val (.int sv), .val (.int iv), .val (.ref b12), .val (.ref b35), .val (.ref b54), .val (.double (FP.l2d (p4.toInt64))), .second, .val (.int o), .val (.ref b168), .val (.ref b191), .val (.ref b210), .unset] [])) _
      refine XS.iload X226.here hx rfl (hb hby at_263) rfl ?_
      show Steps p.tables e below (T226.setTop (mkF m 265 #[.val (.int p0), .val (.int p1), .val (.int p2), .val (.int p3), .val (.int p4), .val (.int u), .val (.int r), .val (.int o), .val (.int sv), .val (.int iv), .val (.ref b12), .val (.ref b35), .val (.ref b54), .val (.double (FP.l2d (p4.toInt64))), .second, .val (.int o), .val (.ref b168), .val (.ref b191), .val (.ref b210), .unset] [(.int iv)])) _
      exact q
    have k229_ : ∀ t, Steps p.tables e below (T226.setTop (mkF m 268 #[.val (.int p0), .val (.int p1), .val (.int p2), .val (.int p3), .val (.int p4), .val (.int u), .val (.int r), .val (.int o), .val (.int sv), .val (.int iv), .val (.ref b12), .val (.ref b35), .val (.ref b54), .val (.double (FP.l2d (p4.toInt64))), .second, .val (.int o), .val (.ref b168), .val (.ref b191), .val (.ref b210), .unset] [])) t → Steps p.tables e below (s₁.setTop (mkF m 0 #[.val (.int p0), .val (.int p1), .val (.int p2), .val (.int p3), .val (.int p4), .unset, .unset, .unset, .unset, .unset, .unset, .unset, .unset, .unset, .unset, .unset, .unset, .unset, .unset, .unset] [])) t := by
      intro t q
      refine k228_ _ ?_
      show Steps p.tables e below (T226.setTop (mkF m 265 #[.val (.int p0), .val (.int p1), .val (.int p2), .val (.int p3), .val (.int p4), .val (.int u), .val (.int r), .val (.int o), .val (.int sv), .val (.int iv), .val (.ref b12), .val (.ref b35), .val (.ref b54), .val (.double (FP.l2d (p4.toInt64))), .second, .val (.int o), .val (.ref b168), .val (.ref b191), .val (.ref b210), .unset] [(.int iv)])) _
      refine XS.ifNo X226.here hx rfl (hb hby at_265) rfl ((if0 _ _).trans (feq (by rw [hi]; decide)).1) ?_
      show Steps p.tables e below (T226.setTop (mkF m 268 #[.val (.int p0), .val (.int p1), .val (.int p2), .val (.int p3), .val (.int p4), .val (.int u), .val (.int r), .val (.int o), .val (.int sv), .val (.int iv), .val (.ref b12), .val (.ref b35), .val (.ref b54), .val (.double (FP.l2d (p4.toInt64))), .second, .val (.int o), .val (.ref b168), .val (.ref b191), .val (.ref b210), .unset] [])) _
      exact q
    have k230_ : ∀ t, Steps p.tables e below (T226.setTop (mkF m 282 #[.val (.int p0), .val (.int p1), .val (.int p2), .val (.int p3), .val (.int p4), .val (.int u), .val (.int r), .val (.int o), .val (.int sv), .val (.int iv), .val (.ref b12), .val (.ref b35), .val (.ref b54), .val (.double (FP.l2d (p4.toInt64))), .second, .val (.int o), .val (.ref b168), .val (.ref b191), .val (.ref b210), .unset] [(.double (FP.l2d (((sv + (1 : Int32)).toInt64) + (p4.toInt64)))), (.int sv), (.ref b210)])) t → Steps p.tables e below (s₁.setTop (mkF m 0 #[.val (.int p0), .val (.int p1), .val (.int p2), .val (.int p3), .val (.int p4), .unset, .unset, .unset, .unset, .unset, .unset, .unset, .unset, .unset, .unset, .unset, .unset, .unset, .unset, .unset] [])) t := by
      intro t q
      refine k229_ _ ?_
      show Steps p.tables e below (T226.setTop (mkF m 268 #[.val (.int p0), .val (.int p1), .val (.int p2), .val (.int p3), .val (.int p4), .val (.int u), .val (.int r), .val (.int o), .val (.int sv), .val (.int iv), .val (.ref b12), .val (.ref b35), .val (.ref b54), .val (.double (FP.l2d (p4.toInt64))), .second, .val (.int o), .val (.ref b168), .val (.ref b191), .val (.ref b210), .unset] [])) _
      refine XS.aload X226.here hx rfl (hb hby at_268) rfl rfl ?_
      show Steps p.tables e below (T226.setTop (mkF m 270 #[.val (.int p0), .val (.int p1), .val (.int p2), .val (.int p3), .val (.int p4), .val (.int u), .val (.int r), .val (.int o), .val (.int sv), .val (.int iv), .val (.ref b12), .val (.ref b35), .val (.ref b54), .val (.double (FP.l2d (p4.toInt64))), .second, .val (.int o), .val (.ref b168), .val (.ref b191), .val (.ref b210), .unset] [(.ref b210)])) _
      refine XS.iload X226.here hx rfl (hb hby at_270) rfl ?_
      show Steps p.tables e below (T226.setTop (mkF m 272 #[.val (.int p0), .val (.int p1), .val (.int p2), .val (.int p3), .val (.int p4), .val (.int u), .val (.int r), .val (.int o), .val (.int sv), .val (.int iv), .val (.ref b12), .val (.ref b35), .val (.ref b54), .val (.double (FP.l2d (p4.toInt64))), .second, .val (.int o), .val (.ref b168), .val (.ref b191), .val (.ref b210), .unset] [(.int sv), (.ref b210)])) _
      refine XS.iload X226.here hx rfl (hb hby at_272) rfl ?_
      show Steps p.tables e below (T226.setTop (mkF m 274 #[.val (.int p0), .val (.int p1), .val (.int p2), .val (.int p3), .val (.int p4), .val (.int u), .val (.int r), .val (.int o), .val (.int sv), .val (.int iv), .val (.ref b12), .val (.ref b35), .val (.ref b54), .val (.double (FP.l2d (p4.toInt64))), .second, .val (.int o), .val (.ref b168), .val (.ref b191), .val (.ref b210), .unset] [(.int sv), (.int sv), (.ref b210)])) _
      refine XS.iconst X226.here hx rfl (hb hby at_274) ?_
      show Steps p.tables e below (T226.setTop (mkF m 275 #[.val (.int p0), .val (.int p1), .val (.int p2), .val (.int p3), .val (.int p4), .val (.int u), .val (.int r), .val (.int o), .val (.int sv), .val (.int iv), .val (.ref b12), .val (.ref b35), .val (.ref b54), .val (.double (FP.l2d (p4.toInt64))), .second, .val (.int o), .val (.ref b168), .val (.ref b191), .val (.ref b210), .unset] [(.int (1 : Int32)), (.int sv), (.int sv), (.ref b210)])) _
      refine XS.iadd X226.here hx rfl (hb hby at_275) rfl ?_
      show Steps p.tables e below (T226.setTop (mkF m 276 #[.val (.int p0), .val (.int p1), .val (.int p2), .val (.int p3), .val (.int p4), .val (.int u), .val (.int r), .val (.int o), .val (.int sv), .val (.int iv), .val (.ref b12), .val (.ref b35), .val (.ref b54), .val (.double (FP.l2d (p4.toInt64))), .second, .val (.int o), .val (.ref b168), .val (.ref b191), .val (.ref b210), .unset] [(.int (sv + (1 : Int32))), (.int sv), (.ref b210)])) _
      refine XS.i2l X226.here hx rfl (hb hby at_276) rfl ?_
      show Steps p.tables e below (T226.setTop (mkF m 277 #[.val (.int p0), .val (.int p1), .val (.int p2), .val (.int p3), .val (.int p4), .val (.int u), .val (.int r), .val (.int o), .val (.int sv), .val (.int iv), .val (.ref b12), .val (.ref b35), .val (.ref b54), .val (.double (FP.l2d (p4.toInt64))), .second, .val (.int o), .val (.ref b168), .val (.ref b191), .val (.ref b210), .unset] [(.long ((sv + (1 : Int32)).toInt64)), (.int sv), (.ref b210)])) _
      refine XS.iload X226.here hx rfl (hb hby at_277) rfl ?_
      show Steps p.tables e below (T226.setTop (mkF m 279 #[.val (.int p0), .val (.int p1), .val (.int p2), .val (.int p3), .val (.int p4), .val (.int u), .val (.int r), .val (.int o), .val (.int sv), .val (.int iv), .val (.ref b12), .val (.ref b35), .val (.ref b54), .val (.double (FP.l2d (p4.toInt64))), .second, .val (.int o), .val (.ref b168), .val (.ref b191), .val (.ref b210), .unset] [(.int p4), (.long ((sv + (1 : Int32)).toInt64)), (.int sv), (.ref b210)])) _
      refine XS.i2l X226.here hx rfl (hb hby at_279) rfl ?_
      show Steps p.tables e below (T226.setTop (mkF m 280 #[.val (.int p0), .val (.int p1), .val (.int p2), .val (.int p3), .val (.int p4), .val (.int u), .val (.int r), .val (.int o), .val (.int sv), .val (.int iv), .val (.ref b12), .val (.ref b35), .val (.ref b54), .val (.double (FP.l2d (p4.toInt64))), .second, .val (.int o), .val (.ref b168), .val (.ref b191), .val (.ref b210), .unset] [(.long (p4.toInt64)), (.long ((sv + (1 : Int32)).toInt64)), (.int sv), (.ref b210)])) _
      refine XS.ladd X226.here hx rfl (hb hby at_280) rfl ?_
      show Steps p.tables e below (T226.setTop (mkF m 281 #[.val (.int p0), .val (.int p1), .val (.int p2), .val (.int p3), .val (.int p4), .val (.int u), .val (.int r), .val (.int o), .val (.int sv), .val (.int iv), .val (.ref b12), .val (.ref b35), .val (.ref b54), .val (.double (FP.l2d (p4.toInt64))), .second, .val (.int o), .val (.ref b168), .val (.ref b191), .val (.ref b210), .unset] [(.long (((sv + (1 : Int32)).toInt64) + (p4.toInt64))), (.int sv), (.ref b210)])) _
      refine XS.l2dS X226.here hx rfl (hb hby at_281) rfl (v := FP.l2d (((sv + (1 : Int32)).toInt64) + (p4.toInt64))) rfl ?_
      show Steps p.tables e below (T226.setTop (mkF m 282 #[.val (.int p0), .val (.int p1), .val (.int p2), .val (.int p3), .val (.int p4), .val (.int u), .val (.int r), .val (.int o), .val (.int sv), .val (.int iv), .val (.ref b12), .val (.ref b35), .val (.ref b54), .val (.double (FP.l2d (p4.toInt64))), .second, .val (.int o), .val (.ref b168), .val (.ref b191), .val (.ref b210), .unset] [(.double (FP.l2d (((sv + (1 : Int32)).toInt64) + (p4.toInt64)))), (.int sv), (.ref b210)])) _
      exact q
    obtain ⟨cl231, Ar231, q231, S231, M231, H231, G231⟩ := V_b210
    obtain ⟨T232, h232, X232, e232, W232, st232⟩ := stD X226 hx hZ e226 Ar231 (j := sv) (inb_of S231 ⟨hs2, hs3⟩) (g := (mkF m 282 #[.val (.int p0), .val (.int p1), .val (.int p2), .val (.int p3), .val (.int p4), .val (.int u), .val (.int r), .val (.int o), .val (.int sv), .val (.int iv), .val (.ref b12), .val (.ref b35), .val (.ref b54), .val (.double (FP.l2d (p4.toInt64))), .second, .val (.int o), .val (.ref b168), .val (.ref b191), .val (.ref b210), .unset] [(.double (FP.l2d (((sv + (1 : Int32)).toInt64) + (p4.toInt64)))), (.int sv), (.ref b210)])) rfl rfl (hb hby at_282)
    have k233_ : ∀ t, Steps p.tables e below (T232.setTop (mkF m 283 #[.val (.int p0), .val (.int p1), .val (.int p2), .val (.int p3), .val (.int p4), .val (.int u), .val (.int r), .val (.int o), .val (.int sv), .val (.int iv), .val (.ref b12), .val (.ref b35), .val (.ref b54), .val (.double (FP.l2d (p4.toInt64))), .second, .val (.int o), .val (.ref b168), .val (.ref b191), .val (.ref b210), .unset] [])) t → Steps p.tables e below (s₁.setTop (mkF m 0 #[.val (.int p0), .val (.int p1), .val (.int p2), .val (.int p3), .val (.int p4), .unset, .unset, .unset, .unset, .unset, .unset, .unset, .unset, .unset, .unset, .unset, .unset, .unset, .unset, .unset] [])) t := fun t q => k230_ t (st232 t q)
    have N232 := Fr.snoc X232 N226 g_b210
    replace Zn := Nat.le_trans Zn (Keep.of_wr W232).1
    replace V_b12 := V_b12.other W232 ne_b12_b210
    replace V_b35 := V_b35.other W232 ne_b35_b210
    replace V_b54 := V_b54.other W232 ne_b54_b210
    replace V_b168 := V_b168.other W232 ne_b168_b210
    replace V_b191 := V_b191.other W232 ne_b191_b210
    have V_b210 : Arv Z h232 b210 c210 .double (4 : Int32) ((own_d0.set (sv).toNatClampNeg ((sv + (1 : Int32)).toInt64 + p4.toInt64)).map own_dv) (.double (FP.l2d (0 : Int64))) := by rw [List.map_set]; exact Arv.set Ar231 q231 S231 M231 H231 G231 rfl W232 _ rfl (own_ix hs2 hs3 rfl)
    rw [(own_d0s hs2 hs3).2] at V_b54
    have k234_ : ∀ t, Steps p.tables e below (T232.setTop (mkF m 322 #[.val (.int p0), .val (.int p1), .val (.int p2), .val (.int p3), .val (.int p4), .val (.int u), .val (.int r), .val (.int o), .val (.int sv), .val (.int iv), .val (.ref b12), .val (.ref b35), .val (.ref b54), .val (.double (FP.l2d (p4.toInt64))), .second, .val (.int o), .val (.ref b168), .val (.ref b191), .val (.ref b210), .val (.int o)] [(.int o), (.int o)])) t → Steps p.tables e below (s₁.setTop (mkF m 0 #[.val (.int p0), .val (.int p1), .val (.int p2), .val (.int p3), .val (.int p4), .unset, .unset, .unset, .unset, .unset, .unset, .unset, .unset, .unset, .unset, .unset, .unset, .unset, .unset, .unset] [])) t := by
      intro t q
      refine k233_ _ ?_
      show Steps p.tables e below (T232.setTop (mkF m 283 #[.val (.int p0), .val (.int p1), .val (.int p2), .val (.int p3), .val (.int p4), .val (.int u), .val (.int r), .val (.int o), .val (.int sv), .val (.int iv), .val (.ref b12), .val (.ref b35), .val (.ref b54), .val (.double (FP.l2d (p4.toInt64))), .second, .val (.int o), .val (.ref b168), .val (.ref b191), .val (.ref b210), .unset] [])) _
      refine XS.iload X232.here hx rfl (hb hby at_283) rfl ?_
      show Steps p.tables e below (T232.setTop (mkF m 285 #[.val (.int p0), .val (.int p1), .val (.int p2), .val (.int p3), .val (.int p4), .val (.int u), .val (.int r), .val (.int o), .val (.int sv), .val (.int iv), .val (.ref b12), .val (.ref b35), .val (.ref b54), .val (.double (FP.l2d (p4.toInt64))), .second, .val (.int o), .val (.ref b168), .val (.ref b191), .val (.ref b210), .unset] [(.int o)])) _
      refine XS.istore X232.here hx rfl (hb hby at_285) rfl (l' := #[.val (.int p0), .val (.int p1), .val (.int p2), .val (.int p3), .val (.int p4), .val (.int u), .val (.int r), .val (.int o), .val (.int sv), .val (.int iv), .val (.ref b12), .val (.ref b35), .val (.ref b54), .val (.double (FP.l2d (p4.toInt64))), .second, .val (.int o), .val (.ref b168), .val (.ref b191), .val (.ref b210), .val (.int o)]) rfl ?_
      show Steps p.tables e below (T232.setTop (mkF m 287 #[.val (.int p0), .val (.int p1), .val (.int p2), .val (.int p3), .val (.int p4), .val (.int u), .val (.int r), .val (.int o), .val (.int sv), .val (.int iv), .val (.ref b12), .val (.ref b35), .val (.ref b54), .val (.double (FP.l2d (p4.toInt64))), .second, .val (.int o), .val (.ref b168), .val (.ref b191), .val (.ref b210), .val (.int o)] [])) _
      refine XS.goto X232.here hx rfl (pc0 := 287) (pc' := 318) rfl (hb hby at_287) (by decide) (by decide) ?_
      show Steps p.tables e below (T232.setTop (mkF m 318 #[.val (.int p0), .val (.int p1), .val (.int p2), .val (.int p3), .val (.int p4), .val (.int u), .val (.int r), .val (.int o), .val (.int sv), .val (.int iv), .val (.ref b12), .val (.ref b35), .val (.ref b54), .val (.double (FP.l2d (p4.toInt64))), .second, .val (.int o), .val (.ref b168), .val (.ref b191), .val (.ref b210), .val (.int o)] [])) _
      refine XS.iload X232.here hx rfl (hb hby at_318) rfl ?_
      show Steps p.tables e below (T232.setTop (mkF m 320 #[.val (.int p0), .val (.int p1), .val (.int p2), .val (.int p3), .val (.int p4), .val (.int u), .val (.int r), .val (.int o), .val (.int sv), .val (.int iv), .val (.ref b12), .val (.ref b35), .val (.ref b54), .val (.double (FP.l2d (p4.toInt64))), .second, .val (.int o), .val (.ref b168), .val (.ref b191), .val (.ref b210), .val (.int o)] [(.int o)])) _
      refine XS.iload X232.here hx rfl (hb hby at_320) rfl ?_
      show Steps p.tables e below (T232.setTop (mkF m 322 #[.val (.int p0), .val (.int p1), .val (.int p2), .val (.int p3), .val (.int p4), .val (.int u), .val (.int r), .val (.int o), .val (.int sv), .val (.int iv), .val (.ref b12), .val (.ref b35), .val (.ref b54), .val (.double (FP.l2d (p4.toInt64))), .second, .val (.int o), .val (.ref b168), .val (.ref b191), .val (.ref b210), .val (.int o)] [(.int o), (.int o)])) _
      exact q
    have k235_ : ∀ t, Steps p.tables e below (T232.setTop (mkF m 325 #[.val (.int p0), .val (.int p1), .val (.int p2), .val (.int p3), .val (.int p4), .val (.int u), .val (.int r), .val (.int o), .val (.int sv), .val (.int iv), .val (.ref b12), .val (.ref b35), .val (.ref b54), .val (.double (FP.l2d (p4.toInt64))), .second, .val (.int o), .val (.ref b168), .val (.ref b191), .val (.ref b210), .val (.int o)] [])) t → Steps p.tables e below (s₁.setTop (mkF m 0 #[.val (.int p0), .val (.int p1), .val (.int p2), .val (.int p3), .val (.int p4), .unset, .unset, .unset, .unset, .unset, .unset, .unset, .unset, .unset, .unset, .unset, .unset, .unset, .unset, .unset] [])) t := by
      intro t q
      refine k234_ _ ?_
      show Steps p.tables e below (T232.setTop (mkF m 322 #[.val (.int p0), .val (.int p1), .val (.int p2), .val (.int p3), .val (.int p4), .val (.int u), .val (.int r), .val (.int o), .val (.int sv), .val (.int iv), .val (.ref b12), .val (.ref b35), .val (.ref b54), .val (.double (FP.l2d (p4.toInt64))), .second, .val (.int o), .val (.ref b168), .val (.ref b191), .val (.ref b210), .val (.int o)] [(.int o), (.int o)])) _
      refine XS.icmpNo X232.here hx rfl (hb hby at_322) rfl (teq rfl).2 ?_
      show Steps p.tables e below (T232.setTop (mkF m 325 #[.val (.int p0), .val (.int p1), .val (.int p2), .val (.int p3), .val (.int p4), .val (.int u), .val (.int r), .val (.int o), .val (.int sv), .val (.int iv), .val (.ref b12), .val (.ref b35), .val (.ref b54), .val (.double (FP.l2d (p4.toInt64))), .second, .val (.int o), .val (.ref b168), .val (.ref b191), .val (.ref b210), .val (.int o)] [])) _
      exact q
    have k236_ : ∀ t, Steps p.tables e below (T232.setTop (mkF m 329 #[.val (.int p0), .val (.int p1), .val (.int p2), .val (.int p3), .val (.int p4), .val (.int u), .val (.int r), .val (.int o), .val (.int sv), .val (.int iv), .val (.ref b12), .val (.ref b35), .val (.ref b54), .val (.double (FP.l2d (p4.toInt64))), .second, .val (.int o), .val (.ref b168), .val (.ref b191), .val (.ref b210), .val (.int o)] [(.ref b168), (.ref b12)])) t → Steps p.tables e below (s₁.setTop (mkF m 0 #[.val (.int p0), .val (.int p1), .val (.int p2), .val (.int p3), .val (.int p4), .unset, .unset, .unset, .unset, .unset, .unset, .unset, .unset, .unset, .unset, .unset, .unset, .unset, .unset, .unset] [])) t := by
      intro t q
      refine k235_ _ ?_
      show Steps p.tables e below (T232.setTop (mkF m 325 #[.val (.int p0), .val (.int p1), .val (.int p2), .val (.int p3), .val (.int p4), .val (.int u), .val (.int r), .val (.int o), .val (.int sv), .val (.int iv), .val (.ref b12), .val (.ref b35), .val (.ref b54), .val (.double (FP.l2d (p4.toInt64))), .second, .val (.int o), .val (.ref b168), .val (.ref b191), .val (.ref b210), .val (.int o)] [])) _
      refine XS.aload X232.here hx rfl (hb hby at_325) rfl rfl ?_
      show Steps p.tables e below (T232.setTop (mkF m 327 #[.val (.int p0), .val (.int p1), .val (.int p2), .val (.int p3), .val (.int p4), .val (.int u), .val (.int r), .val (.int o), .val (.int sv), .val (.int iv), .val (.ref b12), .val (.ref b35), .val (.ref b54), .val (.double (FP.l2d (p4.toInt64))), .second, .val (.int o), .val (.ref b168), .val (.ref b191), .val (.ref b210), .val (.int o)] [(.ref b12)])) _
      refine XS.aload X232.here hx rfl (hb hby at_327) rfl rfl ?_
      show Steps p.tables e below (T232.setTop (mkF m 329 #[.val (.int p0), .val (.int p1), .val (.int p2), .val (.int p3), .val (.int p4), .val (.int u), .val (.int r), .val (.int o), .val (.int sv), .val (.int iv), .val (.ref b12), .val (.ref b35), .val (.ref b54), .val (.double (FP.l2d (p4.toInt64))), .second, .val (.int o), .val (.ref b168), .val (.ref b191), .val (.ref b210), .val (.int o)] [(.ref b168), (.ref b12)])) _
      exact q
    obtain ⟨_, _, ⟨T237, L237, kk237, n237⟩, -, X237, ⟨Lc237, hQ237, l237, y237, z237⟩, st237⟩ := Jvm.LawKit.callS X232 hx (y := (⟨"com/example/weir/weir/kway/GraphAddToRowPinLaw", "sameInts", "([I[I)Z"⟩ : MethodName)) hown (mvT hZ (hw _ (List.mem_of_getElem? (i := 10) rfl))) (mvT hZ (hw _ (List.mem_of_getElem? (i := 11) rfl))) (mvT hZ (hw _ (List.mem_of_getElem? (i := 12) rfl))) (mvT hZ (hw _ (List.mem_of_getElem? (i := 13) rfl))) (by decide) (backOf (W := 0) (rmS l Z a0 hw [] b12 b168 c12 c168 (own_x0.set u.toNatClampNeg sv) h232 n0 Zn V_b12 V_b168) hZ (hw _ (List.mem_of_getElem? (i := 13) rfl)) (hw _ (List.mem_of_getElem? (i := 12) rfl)) (by decide) (by decide)) (g := (mkF m 329 #[.val (.int p0), .val (.int p1), .val (.int p2), .val (.int p3), .val (.int p4), .val (.int u), .val (.int r), .val (.int o), .val (.int sv), .val (.int iv), .val (.ref b12), .val (.ref b35), .val (.ref b54), .val (.double (FP.l2d (p4.toInt64))), .second, .val (.int o), .val (.ref b168), .val (.ref b191), .val (.ref b210), .val (.int o)] [(.ref b168), (.ref b12)])) rfl (by rw [hml]; rfl) (argsL := [(.ref b12), (.ref b168)]) (rest := []) (lenOf pd_5997 rfl) rfl (by show 2 * 0 + _ ≤ _; exact Nat.le_of_eq rfl) (hb hby at_329) (fun _ _ => ⟨rfl, e232, (by decide : 0 + 1 + 1 + 1 + 0 + 1 + 1 + 1 + 0 ≤ _), (by decide : 0 + 4 + 4 + 4 + 0 + 4 + 4 + 4 + 0 ≤ _)⟩)
    dsimp only [Pt.U, Pt.locs, Pt.cells, Pt.slots] at X237 l237 y237 z237 st237 hQ237
    rw [l237, y237, z237] at X237
    obtain ⟨rfl, Nq237, hq237⟩ := hQ237
    have N237 := Fr.app N232 Nq237
    have k238_ : ∀ t, Steps p.tables e below (T237.setTop (mkF m 332 #[.val (.int p0), .val (.int p1), .val (.int p2), .val (.int p3), .val (.int p4), .val (.int u), .val (.int r), .val (.int o), .val (.int sv), .val (.int iv), .val (.ref b12), .val (.ref b35), .val (.ref b54), .val (.double (FP.l2d (p4.toInt64))), .second, .val (.int o), .val (.ref b168), .val (.ref b191), .val (.ref b210), .val (.int o)] [(.int (1 : Int32))])) t → Steps p.tables e below (s₁.setTop (mkF m 0 #[.val (.int p0), .val (.int p1), .val (.int p2), .val (.int p3), .val (.int p4), .unset, .unset, .unset, .unset, .unset, .unset, .unset, .unset, .unset, .unset, .unset, .unset, .unset, .unset, .unset] [])) t := fun t q => k236_ t (st237 t q)
    have k239_ : ∀ t, Steps p.tables e below (T237.setTop (mkF m 335 #[.val (.int p0), .val (.int p1), .val (.int p2), .val (.int p3), .val (.int p4), .val (.int u), .val (.int r), .val (.int o), .val (.int sv), .val (.int iv), .val (.ref b12), .val (.ref b35), .val (.ref b54), .val (.double (FP.l2d (p4.toInt64))), .second, .val (.int o), .val (.ref b168), .val (.ref b191), .val (.ref b210), .val (.int o)] [])) t → Steps p.tables e below (s₁.setTop (mkF m 0 #[.val (.int p0), .val (.int p1), .val (.int p2), .val (.int p3), .val (.int p4), .unset, .unset, .unset, .unset, .unset, .unset, .unset, .unset, .unset, .unset, .unset, .unset, .unset, .unset, .unset] [])) t := by
      intro t q
      refine k238_ _ ?_
      show Steps p.tables e below (T237.setTop (mkF m 332 #[.val (.int p0), .val (.int p1), .val (.int p2), .val (.int p3), .val (.int p4), .val (.int u), .val (.int r), .val (.int o), .val (.int sv), .val (.int iv), .val (.ref b12), .val (.ref b35), .val (.ref b54), .val (.double (FP.l2d (p4.toInt64))), .second, .val (.int o), .val (.ref b168), .val (.ref b191), .val (.ref b210), .val (.int o)] [(.int (1 : Int32))])) _
      refine XS.ifNo X237.here hx rfl (hb hby at_332) rfl ((if0 _ _).trans (feq (by decide)).1) ?_
      show Steps p.tables e below (T237.setTop (mkF m 335 #[.val (.int p0), .val (.int p1), .val (.int p2), .val (.int p3), .val (.int p4), .val (.int u), .val (.int r), .val (.int o), .val (.int sv), .val (.int iv), .val (.ref b12), .val (.ref b35), .val (.ref b54), .val (.double (FP.l2d (p4.toInt64))), .second, .val (.int o), .val (.ref b168), .val (.ref b191), .val (.ref b210), .val (.int o)] [])) _
      exact q
    have k240_ : ∀ t, Steps p.tables e below (T237.setTop (mkF m 339 #[.val (.int p0), .val (.int p1), .val (.int p2), .val (.int p3), .val (.int p4), .val (.int u), .val (.int r), .val (.int o), .val (.int sv), .val (.int iv), .val (.ref b12), .val (.ref b35), .val (.ref b54), .val (.double (FP.l2d (p4.toInt64))), .second, .val (.int o), .val (.ref b168), .val (.ref b191), .val (.ref b210), .val (.int o)] [(.ref b191), (.ref b35)])) t → Steps p.tables e below (s₁.setTop (mkF m 0 #[.val (.int p0), .val (.int p1), .val (.int p2), .val (.int p3), .val (.int p4), .unset, .unset, .unset, .unset, .unset, .unset, .unset, .unset, .unset, .unset, .unset, .unset, .unset, .unset, .unset] [])) t := by
      intro t q
      refine k239_ _ ?_
      show Steps p.tables e below (T237.setTop (mkF m 335 #[.val (.int p0), .val (.int p1), .val (.int p2), .val (.int p3), .val (.int p4), .val (.int u), .val (.int r), .val (.int o), .val (.int sv), .val (.int iv), .val (.ref b12), .val (.ref b35), .val (.ref b54), .val (.double (FP.l2d (p4.toInt64))), .second, .val (.int o), .val (.ref b168), .val (.ref b191), .val (.ref b210), .val (.int o)] [])) _
      refine XS.aload X237.here hx rfl (hb hby at_335) rfl rfl ?_
      show Steps p.tables e below (T237.setTop (mkF m 337 #[.val (.int p0), .val (.int p1), .val (.int p2), .val (.int p3), .val (.int p4), .val (.int u), .val (.int r), .val (.int o), .val (.int sv), .val (.int iv), .val (.ref b12), .val (.ref b35), .val (.ref b54), .val (.double (FP.l2d (p4.toInt64))), .second, .val (.int o), .val (.ref b168), .val (.ref b191), .val (.ref b210), .val (.int o)] [(.ref b35)])) _
      refine XS.aload X237.here hx rfl (hb hby at_337) rfl rfl ?_
      show Steps p.tables e below (T237.setTop (mkF m 339 #[.val (.int p0), .val (.int p1), .val (.int p2), .val (.int p3), .val (.int p4), .val (.int u), .val (.int r), .val (.int o), .val (.int sv), .val (.int iv), .val (.ref b12), .val (.ref b35), .val (.ref b54), .val (.double (FP.l2d (p4.toInt64))), .second, .val (.int o), .val (.ref b168), .val (.ref b191), .val (.ref b210), .val (.int o)] [(.ref b191), (.ref b35)])) _
      exact q
    obtain ⟨_, _, ⟨T241, L241, kk241, n241⟩, -, X241, ⟨Lc241, hQ241, l241, y241, z241⟩, st241⟩ := Jvm.LawKit.callS X237 hx (y := (⟨"com/example/weir/weir/kway/GraphAddToRowPinLaw", "sameInts", "([I[I)Z"⟩ : MethodName)) hown (mvT hZ (hw _ (List.mem_of_getElem? (i := 10) rfl))) (mvT hZ (hw _ (List.mem_of_getElem? (i := 11) rfl))) (mvT hZ (hw _ (List.mem_of_getElem? (i := 12) rfl))) (mvT hZ (hw _ (List.mem_of_getElem? (i := 13) rfl))) (by decide) (backOf (W := 0) (rmS l Z a0 hw [] b35 b191 c35 c191 own_n0 h232 n0 Zn V_b35 V_b191) hZ (hw _ (List.mem_of_getElem? (i := 13) rfl)) (hw _ (List.mem_of_getElem? (i := 12) rfl)) (by decide) (by decide)) (g := (mkF m 339 #[.val (.int p0), .val (.int p1), .val (.int p2), .val (.int p3), .val (.int p4), .val (.int u), .val (.int r), .val (.int o), .val (.int sv), .val (.int iv), .val (.ref b12), .val (.ref b35), .val (.ref b54), .val (.double (FP.l2d (p4.toInt64))), .second, .val (.int o), .val (.ref b168), .val (.ref b191), .val (.ref b210), .val (.int o)] [(.ref b191), (.ref b35)])) rfl (by rw [hml]; rfl) (argsL := [(.ref b35), (.ref b191)]) (rest := []) (lenOf pd_5997 rfl) rfl (by show 2 * 0 + _ ≤ _; exact Nat.le_of_eq rfl) (hb hby at_339) (fun _ _ => ⟨rfl, hq237, (by decide : 0 + 1 + 1 + 1 + 0 + 1 + 1 + 1 + 0 + 0 ≤ _), (by decide : 0 + 4 + 4 + 4 + 0 + 4 + 4 + 4 + 0 + 0 ≤ _)⟩)
    dsimp only [Pt.U, Pt.locs, Pt.cells, Pt.slots] at X241 l241 y241 z241 st241 hQ241
    rw [l241, y241, z241] at X241
    obtain ⟨rfl, Nq241, hq241⟩ := hQ241
    have N241 := Fr.app N237 Nq241
    have k242_ : ∀ t, Steps p.tables e below (T241.setTop (mkF m 342 #[.val (.int p0), .val (.int p1), .val (.int p2), .val (.int p3), .val (.int p4), .val (.int u), .val (.int r), .val (.int o), .val (.int sv), .val (.int iv), .val (.ref b12), .val (.ref b35), .val (.ref b54), .val (.double (FP.l2d (p4.toInt64))), .second, .val (.int o), .val (.ref b168), .val (.ref b191), .val (.ref b210), .val (.int o)] [(.int (1 : Int32))])) t → Steps p.tables e below (s₁.setTop (mkF m 0 #[.val (.int p0), .val (.int p1), .val (.int p2), .val (.int p3), .val (.int p4), .unset, .unset, .unset, .unset, .unset, .unset, .unset, .unset, .unset, .unset, .unset, .unset, .unset, .unset, .unset] [])) t := fun t q => k240_ t (st241 t q)
    have k243_ : ∀ t, Steps p.tables e below (T241.setTop (mkF m 345 #[.val (.int p0), .val (.int p1), .val (.int p2), .val (.int p3), .val (.int p4), .val (.int u), .val (.int r), .val (.int o), .val (.int sv), .val (.int iv), .val (.ref b12), .val (.ref b35), .val (.ref b54), .val (.double (FP.l2d (p4.toInt64))), .second, .val (.int o), .val (.ref b168), .val (.ref b191), .val (.ref b210), .val (.int o)] [])) t → Steps p.tables e below (s₁.setTop (mkF m 0 #[.val (.int p0), .val (.int p1), .val (.int p2), .val (.int p3), .val (.int p4), .unset, .unset, .unset, .unset, .unset, .unset, .unset, .unset, .unset, .unset, .unset, .unset, .unset, .unset, .unset] [])) t := by
      intro t q
      refine k242_ _ ?_
      show Steps p.tables e below (T241.setTop (mkF m 342 #[.val (.int p0), .val (.int p1), .val (.int p2), .val (.int p3), .val (.int p4), .val (.int u), .val (.int r), .val (.int o), .val (.int sv), .val (.int iv), .val (.ref b12), .val (.ref b35), .val (.ref b54), .val (.double (FP.l2d (p4.toInt64))), .second, .val (.int o), .val (.ref b168), .val (.ref b191), .val (.ref b210), .val (.int o)] [(.int (1 : Int32))])) _
      refine XS.ifNo X241.here hx rfl (hb hby at_342) rfl ((if0 _ _).trans (feq (by decide)).1) ?_
      show Steps p.tables e below (T241.setTop (mkF m 345 #[.val (.int p0), .val (.int p1), .val (.int p2), .val (.int p3), .val (.int p4), .val (.int u), .val (.int r), .val (.int o), .val (.int sv), .val (.int iv), .val (.ref b12), .val (.ref b35), .val (.ref b54), .val (.double (FP.l2d (p4.toInt64))), .second, .val (.int o), .val (.ref b168), .val (.ref b191), .val (.ref b210), .val (.int o)] [])) _
      exact q
    have k244_ : ∀ t, Steps p.tables e below (T241.setTop (mkF m 349 #[.val (.int p0), .val (.int p1), .val (.int p2), .val (.int p3), .val (.int p4), .val (.int u), .val (.int r), .val (.int o), .val (.int sv), .val (.int iv), .val (.ref b12), .val (.ref b35), .val (.ref b54), .val (.double (FP.l2d (p4.toInt64))), .second, .val (.int o), .val (.ref b168), .val (.ref b191), .val (.ref b210), .val (.int o)] [(.ref b210), (.ref b54)])) t → Steps p.tables e below (s₁.setTop (mkF m 0 #[.val (.int p0), .val (.int p1), .val (.int p2), .val (.int p3), .val (.int p4), .unset, .unset, .unset, .unset, .unset, .unset, .unset, .unset, .unset, .unset, .unset, .unset, .unset, .unset, .unset] [])) t := by
      intro t q
      refine k243_ _ ?_
      show Steps p.tables e below (T241.setTop (mkF m 345 #[.val (.int p0), .val (.int p1), .val (.int p2), .val (.int p3), .val (.int p4), .val (.int u), .val (.int r), .val (.int o), .val (.int sv), .val (.int iv), .val (.ref b12), .val (.ref b35), .val (.ref b54), .val (.double (FP.l2d (p4.toInt64))), .second, .val (.int o), .val (.ref b168), .val (.ref b191), .val (.ref b210), .val (.int o)] [])) _
      refine XS.aload X241.here hx rfl (hb hby at_345) rfl rfl ?_
      show Steps p.tables e below (T241.setTop (mkF m 347 #[.val (.int p0), .val (.int p1), .val (.int p2), .val (.int p3), .val (.int p4), .val (.int u), .val (.int r), .val (.int o), .val (.int sv), .val (.int iv), .val (.ref b12), .val (.ref b35), .val (.ref b54), .val (.double (FP.l2d (p4.toInt64))), .second, .val (.int o), .val (.ref b168), .val (.ref b191), .val (.ref b210), .val (.int o)] [(.ref b54)])) _
      refine XS.aload X241.here hx rfl (hb hby at_347) rfl rfl ?_
      show Steps p.tables e below (T241.setTop (mkF m 349 #[.val (.int p0), .val (.int p1), .val (.int p2), .val (.int p3), .val (.int p4), .val (.int u), .val (.int r), .val (.int o), .val (.int sv), .val (.int iv), .val (.ref b12), .val (.ref b35), .val (.ref b54), .val (.double (FP.l2d (p4.toInt64))), .second, .val (.int o), .val (.ref b168), .val (.ref b191), .val (.ref b210), .val (.int o)] [(.ref b210), (.ref b54)])) _
      exact q
    obtain ⟨_, _, ⟨T245, L245, kk245, n245⟩, -, X245, ⟨Lc245, hQ245, l245, y245, z245⟩, st245⟩ := Jvm.LawKit.callS X241 hx (y := (⟨"com/example/weir/weir/kway/GraphAddToRowPinLaw", "sameDoubles", "([D[D)Z"⟩ : MethodName)) hown (mvT hZ (hw _ (List.mem_of_getElem? (i := 14) rfl))) (mvT hZ (hw _ (List.mem_of_getElem? (i := 15) rfl))) (mvT hZ (hw _ (List.mem_of_getElem? (i := 12) rfl))) (mvT hZ (hw _ (List.mem_of_getElem? (i := 16) rfl))) (by decide) (backOf (W := 0) (rmT l Z a0 hw [] b54 b210 c54 c210 (own_d0.set sv.toNatClampNeg ((sv + (1 : Int32)).toInt64 + p4.toInt64)) h232 n0 Zn V_b54 V_b210) hZ (hw _ (List.mem_of_getElem? (i := 16) rfl)) (hw _ (List.mem_of_getElem? (i := 12) rfl)) (by decide) (by decide)) (g := (mkF m 349 #[.val (.int p0), .val (.int p1), .val (.int p2), .val (.int p3), .val (.int p4), .val (.int u), .val (.int r), .val (.int o), .val (.int sv), .val (.int iv), .val (.ref b12), .val (.ref b35), .val (.ref b54), .val (.double (FP.l2d (p4.toInt64))), .second, .val (.int o), .val (.ref b168), .val (.ref b191), .val (.ref b210), .val (.int o)] [(.ref b210), (.ref b54)])) rfl (by rw [hml]; rfl) (argsL := [(.ref b54), (.ref b210)]) (rest := []) (lenOf pd_83602 rfl) rfl (by show 2 * 0 + _ ≤ _; exact Nat.le_of_eq rfl) (hb hby at_349) (fun _ _ => ⟨rfl, hq241, (by decide : 0 + 1 + 1 + 1 + 0 + 1 + 1 + 1 + 0 + 0 + 0 ≤ _), (by decide : 0 + 4 + 4 + 4 + 0 + 4 + 4 + 4 + 0 + 0 + 0 ≤ _)⟩)
    dsimp only [Pt.U, Pt.locs, Pt.cells, Pt.slots] at X245 l245 y245 z245 st245 hQ245
    rw [l245, y245, z245] at X245
    obtain ⟨rfl, Nq245, hq245⟩ := hQ245
    have N245 := Fr.app N241 Nq245
    have k246_ : ∀ t, Steps p.tables e below (T245.setTop (mkF m 352 #[.val (.int p0), .val (.int p1), .val (.int p2), .val (.int p3), .val (.int p4), .val (.int u), .val (.int r), .val (.int o), .val (.int sv), .val (.int iv), .val (.ref b12), .val (.ref b35), .val (.ref b54), .val (.double (FP.l2d (p4.toInt64))), .second, .val (.int o), .val (.ref b168), .val (.ref b191), .val (.ref b210), .val (.int o)] [(.int (1 : Int32))])) t → Steps p.tables e below (s₁.setTop (mkF m 0 #[.val (.int p0), .val (.int p1), .val (.int p2), .val (.int p3), .val (.int p4), .unset, .unset, .unset, .unset, .unset, .unset, .unset, .unset, .unset, .unset, .unset, .unset, .unset, .unset, .unset] [])) t := fun t q => k244_ t (st245 t q)
    have k247_ : ∀ t, Steps p.tables e below (T245.setTop (mkF m 355 #[.val (.int p0), .val (.int p1), .val (.int p2), .val (.int p3), .val (.int p4), .val (.int u), .val (.int r), .val (.int o), .val (.int sv), .val (.int iv), .val (.ref b12), .val (.ref b35), .val (.ref b54), .val (.double (FP.l2d (p4.toInt64))), .second, .val (.int o), .val (.ref b168), .val (.ref b191), .val (.ref b210), .val (.int o)] [])) t → Steps p.tables e below (s₁.setTop (mkF m 0 #[.val (.int p0), .val (.int p1), .val (.int p2), .val (.int p3), .val (.int p4), .unset, .unset, .unset, .unset, .unset, .unset, .unset, .unset, .unset, .unset, .unset, .unset, .unset, .unset, .unset] [])) t := by
      intro t q
      refine k246_ _ ?_
      show Steps p.tables e below (T245.setTop (mkF m 352 #[.val (.int p0), .val (.int p1), .val (.int p2), .val (.int p3), .val (.int p4), .val (.int u), .val (.int r), .val (.int o), .val (.int sv), .val (.int iv), .val (.ref b12), .val (.ref b35), .val (.ref b54), .val (.double (FP.l2d (p4.toInt64))), .second, .val (.int o), .val (.ref b168), .val (.ref b191), .val (.ref b210), .val (.int o)] [(.int (1 : Int32))])) _
      refine XS.ifNo X245.here hx rfl (hb hby at_352) rfl ((if0 _ _).trans (feq (by decide)).1) ?_
      show Steps p.tables e below (T245.setTop (mkF m 355 #[.val (.int p0), .val (.int p1), .val (.int p2), .val (.int p3), .val (.int p4), .val (.int u), .val (.int r), .val (.int o), .val (.int sv), .val (.int iv), .val (.ref b12), .val (.ref b35), .val (.ref b54), .val (.double (FP.l2d (p4.toInt64))), .second, .val (.int o), .val (.ref b168), .val (.ref b191), .val (.ref b210), .val (.int o)] [])) _
      exact q
    have k248_ : ∀ t, Steps p.tables e below (T245.setTop (mkF m 360 #[.val (.int p0), .val (.int p1), .val (.int p2), .val (.int p3), .val (.int p4), .val (.int u), .val (.int r), .val (.int o), .val (.int sv), .val (.int iv), .val (.ref b12), .val (.ref b35), .val (.ref b54), .val (.double (FP.l2d (p4.toInt64))), .second, .val (.int o), .val (.ref b168), .val (.ref b191), .val (.ref b210), .val (.int o)] [(.int (1 : Int32))])) t → Steps p.tables e below (s₁.setTop (mkF m 0 #[.val (.int p0), .val (.int p1), .val (.int p2), .val (.int p3), .val (.int p4), .unset, .unset, .unset, .unset, .unset, .unset, .unset, .unset, .unset, .unset, .unset, .unset, .unset, .unset, .unset] [])) t := by
      intro t q
      refine k247_ _ ?_
      show Steps p.tables e below (T245.setTop (mkF m 355 #[.val (.int p0), .val (.int p1), .val (.int p2), .val (.int p3), .val (.int p4), .val (.int u), .val (.int r), .val (.int o), .val (.int sv), .val (.int iv), .val (.ref b12), .val (.ref b35), .val (.ref b54), .val (.double (FP.l2d (p4.toInt64))), .second, .val (.int o), .val (.ref b168), .val (.ref b191), .val (.ref b210), .val (.int o)] [])) _
      refine XS.iconst X245.here hx rfl (hb hby at_355) ?_
      show Steps p.tables e below (T245.setTop (mkF m 356 #[.val (.int p0), .val (.int p1), .val (.int p2), .val (.int p3), .val (.int p4), .val (.int u), .val (.int r), .val (.int o), .val (.int sv), .val (.int iv), .val (.ref b12), .val (.ref b35), .val (.ref b54), .val (.double (FP.l2d (p4.toInt64))), .second, .val (.int o), .val (.ref b168), .val (.ref b191), .val (.ref b210), .val (.int o)] [(.int (1 : Int32))])) _
      refine XS.goto X245.here hx rfl (pc0 := 356) (pc' := 360) rfl (hb hby at_356) (by decide) (by decide) ?_
      show Steps p.tables e below (T245.setTop (mkF m 360 #[.val (.int p0), .val (.int p1), .val (.int p2), .val (.int p3), .val (.int p4), .val (.int u), .val (.int r), .val (.int o), .val (.int sv), .val (.int iv), .val (.ref b12), .val (.ref b35), .val (.ref b54), .val (.double (FP.l2d (p4.toInt64))), .second, .val (.int o), .val (.ref b168), .val (.ref b191), .val (.ref b210), .val (.int o)] [(.int (1 : Int32))])) _
      exact q
    obtain ⟨fs, hr, hrun, hended, hW, hsame⟩ := X245.leave (v := some (.int (1 : Int32))) (fun h => by rw [Bd.returns] at h; cases h)
    refine ⟨_, _, pre0 _ (k248_ _ ?_), hrun, hended, _, _, rfl, ?_, ⟨_, rfl⟩, hW, hsame.mono (by decide) (by decide)⟩
    · show Steps p.tables e below (T245.setTop (mkF m 360 #[.val (.int p0), .val (.int p1), .val (.int p2), .val (.int p3), .val (.int p4), .val (.int u), .val (.int r), .val (.int o), .val (.int sv), .val (.int iv), .val (.ref b12), .val (.ref b35), .val (.ref b54), .val (.double (FP.l2d (p4.toInt64))), .second, .val (.int o), .val (.ref b168), .val (.ref b191), .val (.ref b210), .val (.int o)] [(.int (1 : Int32))])) _
      exact retN X245 hx (t := .boolean) Bd.returns (by simp) (hb hby at_360) hr
    · show Q0 Z p0 p1 p2 p3 p4 h0 n0 _ T245.heap _
      rw [hq245]
      exact ⟨rfl, N245⟩
set_option maxRecDepth 65536 in
set_option maxHeartbeats 40000000 in
theorem comes_1 {Post : Tables → Env → Array Value → State → Outcome → State → Prop} (hpost : ∀ tb e args s v u, (limb_1_1.after args s (.returned v) u = true ∧ limb_1_2.after args s (.returned v) u = true ∧ True) → FrameEnd s (.returned v) u (Jvm.fieldLocs frame_1_writes args s ++ Jvm.arrayLocs frame_1_arrays args s ++ Jvm.staticLocs frame_1_statics s) 24 128 → Post tb e args s (.returned v) u) :
    ArmFor flags0 classFile x code maxLocals ret World_1 tables_1 room_1 Calls_1 rest_1 Pre_1 Post := by
  intro l hfl _ _ p e ha hc hk s m args below hf hA hF happ hP
  obtain ⟨hcalls, hrest, hpre⟩ := hP
  obtain ⟨-, -, -, hnamed, -, -, -, hat⟩ := (Spec.applies_iff hf).mp happ
  obtain ⟨hg, hn⟩ := and_e (Cond.before_iff.mp (show (Jvm.Cond.and given_1 narrow_1).before args s = true from hpre))
  obtain ⟨hcnt, hg0⟩ := and_e hg
  obtain ⟨hi0, hg1⟩ := and_e hg0
  obtain ⟨hi1, hg2⟩ := and_e hg1
  obtain ⟨hi2, hg3⟩ := and_e hg2
  obtain ⟨hi3, hg4⟩ := and_e hg3
  have hi4 := hg4
  obtain ⟨w0, w1, w2, w3, w4, rfl⟩ : ∃ w0 w1 w2 w3 w4 : Value, args = #[w0, w1, w2, w3, w4] := by
    have hs : args.size = 5 := by simpa [Cond.value, given_1] using hcnt
    obtain ⟨L⟩ := args
    match L, hs with
    | [w0, w1, w2, w3, w4], _ => exact ⟨w0, w1, w2, w3, w4, rfl⟩
  have hw := fun d (hd : d ∈ tables_1) => atoms_spec (ws := Jvm.Cond.code x code maxLocals ret :: tables_1) hat d (List.mem_cons_of_mem _ hd)
  have hfit : Fit s := fun {y c} hc i hi => by
    obtain ⟨ha, rfl⟩ := Array.getElem?_eq_some_iff.mp hc
    have q := List.all_eq_true.mp ((Array.all_eq_true_iff_forall_mem.mp hF) _ (Array.getElem_mem ha)) i (List.mem_range.mpr hi)
    simpa [Array.getElem?_eq_getElem hi] using q
  obtain ⟨i0, ei0⟩ := is_v hi0
  obtain rfl : w0 = (.int i0) := Option.some.inj ei0
  obtain ⟨i1, ei1⟩ := is_v hi1
  obtain rfl : w1 = (.int i1) := Option.some.inj ei1
  obtain ⟨i2, ei2⟩ := is_v hi2
  obtain rfl : w2 = (.int i2) := Option.some.inj ei2
  obtain ⟨i3, ei3⟩ := is_v hi3
  obtain rfl : w3 = (.int i3) := Option.some.inj ei3
  obtain ⟨i4, ei4⟩ := is_v hi4
  obtain rfl : w4 = (.int i4) := Option.some.inj ei4
  obtain ⟨n, o, h1, h2, h3, _, L, rfl, ⟨rfl, N⟩, hq⟩ := rm0 l s _ hw tables_1 i0 i1 i2 i3 i4  s.heap s.heap.size (Nat.le_refl _)  p e ha hc hk s m _ below hf ((Spec.applies_iff_loose hf).mp happ).1 ⟨rfl, State.Warmed39.refl s, rfl⟩ trivial
  refine ⟨n, _, h1, h2, h3, hpost _ _ _ _ _ _ ⟨Cond.after_iff.mpr rfl, Cond.after_iff.mpr (eq_i res_at (Term.int_eval (1)) rfl), trivial⟩ ⟨hq.1, hq.2.1, (hq.2.2.sift fun y hy => Or.inr (N y hy)).mono (by decide) (by decide)⟩⟩
theorem main_1_1 : Claimed_1_1 := comes_1 fun _ _ _ _ _ _ h hF => ⟨h.1, hF⟩
theorem main_1_2 : Claimed_1_2 := comes_1 fun _ _ _ _ _ _ h hF => ⟨h.2.1, hF⟩
end Jvm.Pilot.@@N@@
namespace Jvm.Pilot.@@N@@
open Jvm Jvm.ClassFile Sem Op Lib Jvm.Free Jvm.Stand Jvm.Pilot.@@N@@.Jvm.D
/-! MADE BY PROGRAM (witnessworld.py) out of the Statement's table words and the real class files: 9 classes; the members and pool entries that the words name. The judged class is class 1, her method 1. -/
namespace start1
open Jvm.ClassFile
def u (s : String) : CpInfo := .utf8 (stringToUtf16 s)
/-- a pool by its gaps: so many unusable entries, then the entry; so many at the end -/
def gap : Nat → List CpInfo → List CpInfo
  | 0, r => r
  | n + 1, r => .unusable :: gap n r
def poolList (es : List (Nat × CpInfo)) (last : Nat) : List CpInfo := es.foldr (fun e r => gap e.1 (e.2 :: r)) (gap last [])
def pool (es : List (Nat × CpInfo)) (last : Nat) : Array CpInfo := ⟨poolList es last⟩
def fileOf (pool : Array CpInfo) (this : Nat) (attrs : Array Attribute := #[]) (ms : Array MethodInfo := #[]) (fl : Nat := 33) (sup : Nat := 0) (ifs : Array Nat := #[]) (fds : Array FieldInfo := #[]) : ClassFile where
  minorVersion := 0
  majorVersion := 65
  constantPool := pool
  accessFlags := fl
  thisClass := this
  superClass := sup
  interfaces := ifs
  fields := fds
  methods := ms
  attributes := attrs
def plain (name : String) (sup : Option ClassId) : Class where
  name := name
  kind := .ordinary
  loader := none
  accessFlags := 33
  super := sup
  interfaces := #[]
  cf := none
  fields := #[]
  methods := #[]
  instanceTypes := #[]
  staticTypes := #[]
  resolved := #[]
  callSites := []
  init := .initialized
  statics := none
  mirror := none

def pool0 : Array CpInfo := pool [(5, u "<init>"), (0, u "()V"), (1, .class_ 10), (1, u "java/lang/Object")] 113

def k0m0 : Method := { name := "<init>", desc := "()V", sig := { parameters := [], returnType := none }, accessFlags := 1, code := none }
/-- java/lang/Object -/
def k0 : Class := { plain "java/lang/Object" none with
  accessFlags := 33
  interfaces := #[]
  cf := some (fileOf pool0 8 #[] #[{ accessFlags := 1, nameIndex := 5, descriptorIndex := 6, attributes := #[] }] 33 0 #[] #[])
  fields := #[]
  methods := #[k0m0]
  instanceTypes := #[]
  staticTypes := #[]
  resolved := Array.replicate 124 none
  statics := none }

def pool1 : Array CpInfo := pool [(2, .class_ 4), (1, u "java/lang/Object"), (0, u "<init>"), (0, u "()V"), (0, .integer 2147483647), (0, .double 4611686018427387904), (1, .double 4613937818241073152), (1, .double 4616189618054758400), (1, .methodref 15 16), (0, .class_ 17), (0, .nameAndType 18 19), (0, u "com/example/weir/weir/kway/Graph"), (0, u "addToRow"), (0, u "([IIIID[I[D)I"), (0, .methodref 21 22), (0, .class_ 23), (0, .nameAndType 24 25), (0, u "com/example/weir/weir/kway/GraphAddToRowPinLaw"), (0, u "sameInts"), (0, u "([I[I)Z"), (0, .methodref 21 27), (0, .nameAndType 28 29), (0, u "sameDoubles"), (0, u "([D[D)Z"), (2, u "law"), (0, u "(IIIII)Z")] 7

def k1m0 : Method := { name := "<init>", desc := "()V", sig := { parameters := [], returnType := none }, accessFlags := 1, code := none }
def k1c1 : Code := { maxStack := 8, maxLocals := 20, code := code, exceptionTable := #[], attributes := #[] }
def k1m1 : Method := { name := "law", desc := "(IIIII)Z", sig := { parameters := [.int, .int, .int, .int, .int], returnType := some .boolean }, accessFlags := 9, code := some k1c1 }
def k1c2 : Code := { maxStack := 3, maxLocals := 2, code := method_3_code, exceptionTable := #[], attributes := #[] }
def k1m2 : Method := { name := "sameInts", desc := "([I[I)Z", sig := { parameters := [(.array .int), (.array .int)], returnType := some .boolean }, accessFlags := 10, code := some k1c2 }
def k1c3 : Code := { maxStack := 4, maxLocals := 2, code := method_4_code, exceptionTable := #[], attributes := #[] }
def k1m3 : Method := { name := "sameDoubles", desc := "([D[D)Z", sig := { parameters := [(.array .double), (.array .double)], returnType := some .boolean }, accessFlags := 10, code := some k1c3 }
/-- com/example/weir/weir/kway/GraphAddToRowPinLaw -/
def k1 : Class := { plain "com/example/weir/weir/kway/GraphAddToRowPinLaw" (some 0) with
  accessFlags := 49
  interfaces := #[]
  cf := some (fileOf pool1 21 #[] #[{ accessFlags := 1, nameIndex := 5, descriptorIndex := 6, attributes := #[] }, { accessFlags := 9, nameIndex := 32, descriptorIndex := 33, attributes := #[] }, { accessFlags := 10, nameIndex := 24, descriptorIndex := 25, attributes := #[] }, { accessFlags := 10, nameIndex := 28, descriptorIndex := 29, attributes := #[] }] 49 2 #[] #[])
  fields := #[]
  methods := #[k1m0, k1m1, k1m2, k1m3]
  instanceTypes := #[]
  staticTypes := #[]
  resolved := Array.replicate 41 none
  statics := none }

def pool2 : Array CpInfo := pool [(2, .class_ 4), (1, u "com/example/weir/weir/kway/Graph"), (0, u "wholeWeights"), (10, .class_ 18), (1, u "java/lang/Object"), (3, u "vertexWeight"), (0, u "[I"), (2, u "start"), (2, u "neighbour"), (2, u "weight"), (0, u "[D"), (2, u "totalVertexWeight"), (0, u "J"), (2, u "Z"), (78, u "addToRow"), (0, u "([IIIID[I[D)I")] 43

def k2c0 : Code := { maxStack := 6, maxLocals := 8, code := prog_45_method_19_code, exceptionTable := #[], attributes := #[] }
def k2m0 : Method := { name := "addToRow", desc := "([IIIID[I[D)I", sig := { parameters := [(.array .int), .int, .int, .int, .double, (.array .int), (.array .double)], returnType := some .int }, accessFlags := 8, code := some k2c0 }
/-- com/example/weir/weir/kway/Graph -/
def k2 : Class := { plain "com/example/weir/weir/kway/Graph" (some 0) with
  accessFlags := 49
  interfaces := #[]
  cf := some (fileOf pool2 2 #[] #[{ accessFlags := 8, nameIndex := 119, descriptorIndex := 120, attributes := #[] }] 49 16 #[] #[{ accessFlags := 18, nameIndex := 22, descriptorIndex := 23, attributes := #[] }, { accessFlags := 18, nameIndex := 26, descriptorIndex := 23, attributes := #[] }, { accessFlags := 18, nameIndex := 29, descriptorIndex := 23, attributes := #[] }, { accessFlags := 18, nameIndex := 32, descriptorIndex := 33, attributes := #[] }, { accessFlags := 18, nameIndex := 36, descriptorIndex := 37, attributes := #[] }, { accessFlags := 18, nameIndex := 5, descriptorIndex := 40, attributes := #[] }])
  fields := #[{ name := "vertexWeight", type := (.array .int), accessFlags := 18, slot := 0, constantValue := 0 }, { name := "start", type := (.array .int), accessFlags := 18, slot := 1, constantValue := 0 }, { name := "neighbour", type := (.array .int), accessFlags := 18, slot := 2, constantValue := 0 }, { name := "weight", type := (.array .double), accessFlags := 18, slot := 3, constantValue := 0 }, { name := "totalVertexWeight", type := .long, accessFlags := 18, slot := 4, constantValue := 0 }, { name := "wholeWeights", type := .boolean, accessFlags := 18, slot := 5, constantValue := 0 }]
  methods := #[k2m0]
  instanceTypes := #[(.array .int), (.array .int), (.array .int), (.array .double), .long, .boolean]
  staticTypes := #[]
  resolved := Array.replicate 164 none
  statics := none }

def pool3 : Array CpInfo := pool [(1, u "java/lang/Cloneable"), (0, .class_ 1), (0, u "java/lang/Object"), (0, .class_ 3)] 3

/-- java/lang/Cloneable -/
def k3 : Class := { plain "java/lang/Cloneable" (some 0) with
  accessFlags := 1537
  interfaces := #[]
  cf := some (fileOf pool3 2 #[] #[] 1537 4 #[] #[])
  fields := #[]
  methods := #[]
  instanceTypes := #[]
  staticTypes := #[]
  resolved := Array.replicate 8 none
  statics := none }

def pool4 : Array CpInfo := pool [(1, u "java/io/Serializable"), (0, .class_ 1), (0, u "java/lang/Object"), (0, .class_ 3)] 3

/-- java/io/Serializable -/
def k4 : Class := { plain "java/io/Serializable" (some 0) with
  accessFlags := 1537
  interfaces := #[]
  cf := some (fileOf pool4 2 #[] #[] 1537 4 #[] #[])
  fields := #[]
  methods := #[]
  instanceTypes := #[]
  staticTypes := #[]
  resolved := Array.replicate 8 none
  statics := none }

/-- the primitive byte -/
def k5 : Class := { plain "byte" none with kind := .primitive 'B', accessFlags := 0x411 }
/-- [B -/
def k6 : Class := { plain "[B" (some 0) with kind := .array 5 .byte, interfaces := #[3, 4], accessFlags := 1041 }

/-- the primitive int -/
def k7 : Class := { plain "int" none with kind := .primitive 'I', accessFlags := 0x411 }
/-- [I -/
def k8 : Class := { plain "[I" (some 0) with kind := .array 7 .int, interfaces := #[3, 4], accessFlags := 1041 }
/-- double -/
def k9 : Class := { plain "double" none with kind := .primitive 'D', accessFlags := 0x411 }
/-- [D -/
def k10 : Class := { plain "[D" (some 0) with kind := .array 9 .double, interfaces := #[3, 4], accessFlags := 1041 }

def heap : Heap := #[]
def classes : Array Class := #[k0, k1, k2, k3, k4, k5, k6, k7, k8, k9, k10]
def interned : List (Array UInt16 × Addr) := []
def slotsUsed : Nat := 0
def theMethod : MethodId := ⟨1, 1⟩
def args0 : Array Value := #[.int 5, .int 5, .int 5, .int 5, .int 5]
def aboutOver (below : List Frame) : State where
  vm := { classes := classes, interned := interned.toArray }
  heap := heap
  slotsUsed := slotsUsed
  threads := #[{ frames := .invoking theMethod args0 :: below }]
def below0 : List Frame := [.native { method := ⟨0, 0⟩, args := #[] }]
def about1 : State := aboutOver below0
def p0 : Program := .bare "" "" ""
def e0 : Env := launch0.env 0 0 0
theorem w_frames : about1.frames = Frame.invoking theMethod args0 :: below0 := rfl
set_option maxRecDepth 65536 in
theorem w_args : argsFit about1.vm theMethod args0 = true := by decide +kernel
set_option maxRecDepth 65536 in
theorem w_heap : heapFits about1 = true := by decide +kernel
set_option maxRecDepth 65536 in
theorem w_runnable : about1.curStatus? = some .runnable := by decide +kernel
set_option maxRecDepth 65536 in
theorem w_alone : about1.alone = true := by decide +kernel
set_option maxRecDepth 65536 in
theorem w_named : about1.methodNamed? x = some theMethod := by decide +kernel
set_option maxRecDepth 65536 in
theorem w_hears : about1.hears theMethod below0 = true := by decide +kernel
set_option maxRecDepth 65536 in
theorem w_ripe : about1.ripe theMethod args0 below0 = true := by decide +kernel
theorem w_running : about1.status = .running := rfl
set_option maxRecDepth 65536 in
theorem w_room : about1.hasRoom e0.platform room_1 = true :=
  launch0.hasRoom_least _ room_1 (by decide +kernel) (by decide +kernel) (by decide +kernel) (by decide +kernel) (by decide +kernel) (by decide +kernel)
theorem allAtoms_all (ts : List Jvm.Cond) (a : Array Jvm.Value) (st : Jvm.State) : (allAtoms ts).before a st = ts.all (fun c => c.before a st) := by
  induction ts with
  | nil => rfl
  | cons c t ih =>
    show (Jvm.Cond.and c (allAtoms t)).before a st = _
    rw [Jvm.Cond.before_and, ih, List.all_cons]
def words1 : List Jvm.Cond := Jvm.Cond.code x code maxLocals ret :: tables_1
/-- a 'code' word, met by the world's own term for the bytes: nothing is compared byte by byte -/
theorem code_word {y : MethodName} {bytes : ByteArray} {mx : Nat} {rt : Option FieldType} {a : Array Value} {s : State} {m : MethodId} {meth : Method} {c : Code} (h1 : s.methodNamed? y = some m) (h2 : s.vm.method? m = some meth) (h3 : meth.code = some c) (h4 : c.code = bytes)
    (h5 : (c.maxLocals == mx && c.exceptionTable.isEmpty && decide (c.maxStack ≤ mostOperands) && decide (meth.sig.returnType = rt) && !meth.locks && decide (parseMethodDescriptor y.desc = some meth.sig)) = true) : (Jvm.Cond.code y bytes mx rt).before a s = true := by
  simp only [Bool.and_eq_true, beq_iff_eq, Bool.not_eq_true', decide_eq_true_eq] at h5
  obtain ⟨⟨⟨⟨⟨g1, g2⟩, g3⟩, g4⟩, g5⟩, g6⟩ := h5
  simp [Cond.before, Cond.holds, Cond.value, h1, h2, h3, h4, g1, g2, g3, g4, g5, g6]
def isCode : Jvm.Cond → Bool
  | .code _ _ _ _ => true
  | _ => false
theorem all_split {L : List Jvm.Cond} {P : Jvm.Cond → Bool} (h1 : L.all (fun c => isCode c || P c) = true) (h2 : ∀ c ∈ L.filter isCode, P c = true) : L.all P = true := by
  refine List.all_eq_true.mpr fun c hc => ?_
  have h := List.all_eq_true.mp h1 c hc
  rcases Bool.eq_false_or_eq_true (isCode c) with hi | hi
  · exact h2 c (List.mem_filter.mpr ⟨hc, hi⟩)
  · simpa [hi] using h
set_option maxRecDepth 65536 in
theorem w_c0 : (Jvm.Cond.code x code maxLocals ret).before args0 about1 = true := code_word (m := ⟨1, 1⟩) (meth := k1m1) (c := k1c1) (by decide +kernel) rfl rfl rfl (by decide +kernel)
set_option maxRecDepth 65536 in
theorem w_c1 : (Jvm.Cond.code ({ cls := "com/example/weir/weir/kway/Graph", name := "addToRow", desc := "([IIIID[I[D)I" } : Jvm.MethodName) prog_45_method_19_code (8 : Nat) (Option.some Jvm.ClassFile.FieldType.int)).before args0 about1 = true := code_word (m := ⟨2, 0⟩) (meth := k2m0) (c := k2c0) (by decide +kernel) rfl rfl rfl (by decide +kernel)
set_option maxRecDepth 65536 in
theorem w_c2 : (Jvm.Cond.code ({ cls := "com/example/weir/weir/kway/GraphAddToRowPinLaw", name := "sameInts", desc := "([I[I)Z" } : Jvm.MethodName) method_3_code (2 : Nat) (Option.some Jvm.ClassFile.FieldType.boolean)).before args0 about1 = true := code_word (m := ⟨1, 2⟩) (meth := k1m2) (c := k1c2) (by decide +kernel) rfl rfl rfl (by decide +kernel)
set_option maxRecDepth 65536 in
theorem w_c3 : (Jvm.Cond.code ({ cls := "com/example/weir/weir/kway/GraphAddToRowPinLaw", name := "sameDoubles", desc := "([D[D)Z" } : Jvm.MethodName) method_4_code (2 : Nat) (Option.some Jvm.ClassFile.FieldType.boolean)).before args0 about1 = true := code_word (m := ⟨1, 3⟩) (meth := k1m3) (c := k1c3) (by decide +kernel) rfl rfl rfl (by decide +kernel)
def codes1 : List Jvm.Cond := [Jvm.Cond.code x code maxLocals ret, Jvm.Cond.code ({ cls := "com/example/weir/weir/kway/Graph", name := "addToRow", desc := "([IIIID[I[D)I" } : Jvm.MethodName) prog_45_method_19_code (8 : Nat) (Option.some Jvm.ClassFile.FieldType.int), Jvm.Cond.code ({ cls := "com/example/weir/weir/kway/GraphAddToRowPinLaw", name := "sameInts", desc := "([I[I)Z" } : Jvm.MethodName) method_3_code (2 : Nat) (Option.some Jvm.ClassFile.FieldType.boolean), Jvm.Cond.code ({ cls := "com/example/weir/weir/kway/GraphAddToRowPinLaw", name := "sameDoubles", desc := "([D[D)Z" } : Jvm.MethodName) method_4_code (2 : Nat) (Option.some Jvm.ClassFile.FieldType.boolean)]
set_option maxRecDepth 65536 in
theorem codes_eq : words1.filter isCode = codes1 := rfl
theorem w_codes : ∀ c ∈ words1.filter isCode, c.before args0 about1 = true := by
  rw [codes_eq]
  intro c hc
  simp only [codes1, List.mem_cons, List.not_mem_nil, or_false] at hc
  rcases hc with rfl | rfl | rfl | rfl
  · exact w_c0
  · exact w_c1
  · exact w_c2
  · exact w_c3
set_option maxRecDepth 65536 in
theorem w_t1 : words1.all (fun c => isCode c || c.before args0 about1) = true := by decide +kernel
theorem w_tables : (allAtoms (Jvm.Cond.code x code maxLocals ret :: tables_1)).before args0 about1 = true := by
  rw [allAtoms_all]
  show words1.all (fun c => c.before args0 about1) = true
  refine all_split ?_ w_codes
  rw [w_t1]
set_option maxRecDepth 65536 in
theorem w_case : (Jvm.Cond.and given_1 narrow_1).before args0 about1 = true := by decide +kernel
theorem w_applies : (headSpec (Jvm.Cond.code x code maxLocals ret :: tables_1) room_1).applies x e0.platform about1 = true :=
  (Spec.applies_iff w_frames).mpr ⟨w_running, w_runnable, w_alone, w_named, w_hears, w_ripe, w_room, w_tables⟩
theorem atStart : AtStart classFile x code maxLocals ret World_1 tables_1 room_1 Calls_1 rest_1 Pre_1 launch0 p0 e0 about1 theMethod args0 below0 :=
  ⟨lists_1, trivial, launch0.admits_env _ _ _, launch0.least_env, fairChoices_fair.cas, fairChoices_fair.clock, w_frames, w_args, w_heap, w_applies, trivial, trivial, w_case⟩
end start1
theorem witness_1 : WitnessClaimed_1 := ⟨start1.p0, start1.e0, start1.about1, start1.theMethod, start1.args0, start1.below0, start1.atStart⟩
end Jvm.Pilot.@@N@@
