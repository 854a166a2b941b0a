import JvmDerived
import JvmDerived.Pilot.@@N@@Statement
import JvmDerived.Pilot.@@N@@Code
set_option linter.unusedVariables false
set_option linter.unusedSimpArgs false
namespace Jvm.RoadKit
open Sem ClassFile Op Lib Jvm.Stand Jvm.Free Jvm.LawKit
section New
variable {p : Program} {l : Launch} {e : Env} {R : Room} {s : State} {m : MethodId} {args : Array Value} {below : List Frame} {meth : Method} {c : Code} {T : State} {locs : List Loc} {cells slots : Nat}
theorem retI (X : Stand p l e R s m args below meth c T locs cells slots) (hx : p.tables.exec = Jvm.exec) {pc : Nat} {Ls : Array Slot} {z : Int32} {rest : List Value} (hret : meth.sig.returnType = some .int) (hd : decode c.code pc = .ok (.ireturn, 1)) {fs : List Frame}
    (hl : ∀ (f : JFrame) (acts : List Action), f.method = m → f.locked = none → f.entered = [] → (doReturn e (T.setTop f) acts (some (.int z))).1 = T.setFrames fs) : Steps p.tables e below (T.setTop (mkF m pc Ls (.int z :: rest))) (T.setFrames fs) := by
  have hm' : T.vm.method? m = some meth := X.method'
  have hn : narrow .int (.int z) = .int z := rfl
  show Steps p.tables e below (T.setTop { method := m, pc := pc, locals := Ls, stack := _ :: rest, locked := none }) _
  jvm_step X.here [X.here.top, hx, hd, hm', hret, hn]
  first | (intro acts; rw [hl _ acts rfl rfl rfl]) | rw [hl _ _ rfl rfl rfl]
  exact Steps.refl _
end New
end Jvm.RoadKit
namespace Jvm.RoadKit
open Sem ClassFile Op Lib Jvm.Stand Jvm.Free Jvm.LawKit
theorem own_lsw {tb : Tables} [Ours tb] {e : Env} {below : List Frame} {T target : State} {m : MethodId} {c : Code} {g : JFrame} (h : At T m c below) (hx : tb.exec = Jvm.exec) (hg : g.method = m) {dflt : Int} {pairs : Array (Int × Int)} {len : Nat} {pc0 pc' : Nat} (hpc : g.pc = pc0) (hd : decode c.code g.pc = .ok (.lookupswitch dflt pairs, len)) {i : Int32} {rest : List Value} (hs : g.stack = .int i :: rest) {o : Int}
    (hoff : lookupswitch.offset pairs.toList dflt i.toInt = o) (hso : (pairs.toList.zip (pairs.toList.drop 1)).all (fun (a, next) => a.1 < next.1) = true) (ho : 0 ≤ (pc0 : Int) + o) (hp : ((pc0 : Int) + o).toNat = pc')
    (hr : Steps tb e below (T.setTop { g with pc := pc', stack := rest }) target) : Steps tb e below (T.setTop g) target := by
  subst hg hpc hp
  jvm_step h [h.top, hx, hd, hs, hoff, ho, lookupswitch.wp_chain]
  exact ⟨by simpa using hso, hr⟩
theorem own_off_no {k d : Int} : ∀ {L : List (Int × Int)}, (∀ q ∈ L, ¬ q.1 = k) → lookupswitch.offset L d k = d
  | [], _ => rfl
  | (a, o) :: r, h => by rw [lookupswitch.offset_cons, if_neg (h (a, o) (List.mem_cons_self ..))]; exact own_off_no fun q hq => h q (List.mem_cons_of_mem _ hq)
theorem own_ne_lit {x k : Int32} (h : ¬ x = k) {z : Int} (hz : k.toInt = z) : ¬ z = x.toInt := fun q => h (Int32.toInt_inj.mp (by rw [← q, hz]))
def own_rem (x y : Int32) : Int32 := x - (x / y) * y
def bi (P : Prop) [Decidable P] : Int32 := if P then 1 else 0
theorem bi_t {P : Prop} [Decidable P] (h : P) : bi P = 1 := if_pos h
theorem bi_f {P : Prop} [Decidable P] (h : ¬ P) : bi P = 0 := if_neg h
theorem bi_nar {P : Prop} [Decidable P] : nar .boolean (bi P) = bi P := by unfold bi; split <;> rfl
theorem bi_0 {P : Prop} [Decidable P] : (bi P = 0) ↔ ¬ P := by unfold bi; split <;> simp_all
theorem bi_inj {P Q : Prop} [Decidable P] [Decidable Q] (h : P ↔ Q) : bi P = bi Q := by unfold bi; simp only [h]
end Jvm.RoadKit
namespace Jvm.RoadKit
open Sem ClassFile Op Lib Jvm.Stand Jvm.Free Jvm.LawKit
section OwnWords
variable {args : Array Value} {s : State} {idx : List Nat} {t i : Term} {aT : Addr} {cl : Cell} {b k A B z : Int32}
theorem own_or {G Y : Cond} (h : (Cond.or G Y).value args s none s idx = some true) (hg : G.value args s none s idx = some false) : Y.value args s none s idx = some true := by
  simpa only [Cond.value, hg] using h
theorem own_el (h : (Cond.eq (.elem t i) (.int b)).value args s none s idx = some true) (ht : t.eval args s none idx s = some (.ref aT)) (hi : i.eval args s none idx s = some (.int k)) (hc : s.heap[aT]? = some cl) : atv cl k = b := by
  obtain ⟨x, y, e1, e2, -, -⟩ := cmp_v (Or.inl h)
  obtain ⟨-, e3⟩ := elem_in e1 ht hi hc
  have e4 : (Term.int b).eval args s none idx s = some (.int b) := rfl
  cases e4.symm.trans e2
  have e5 : x = .int b := by cases x <;> simp [Cond.value, e1, e4] at h; rw [h]
  subst e5
  exact atv_of e3
theorem own_r1 (h : (Cond.all t (.or (.le (.int A) (.index 0)) (.eq (.elem t (.index 0)) (.int b)))).value args s none s [] = some true) (ht : ∀ idx, t.eval args s none idx s = some (.ref aT)) (hc : s.heap[aT]? = some cl) (ha : s.arrayAt? aT = some cl) {n : Nat} (hn : n < cl.slots.size) (h1 : ¬ A ≤ n.toInt32) : atv cl n.toInt32 = b := by
  have q := Cond.all_elim (ht []) ha h n hn
  exact own_el (own_or q (by simp [Cond.value, Term.eval, h1])) (ht _) (by simp [Term.eval]) hc
theorem own_r2 (h : (Cond.all t (.or (.lt (.index 0) (.int A)) (.or (.le (.int B) (.index 0)) (.eq (.elem t (.index 0)) (.int b))))).value args s none s [] = some true) (ht : ∀ idx, t.eval args s none idx s = some (.ref aT)) (hc : s.heap[aT]? = some cl) (ha : s.arrayAt? aT = some cl) {n : Nat} (hn : n < cl.slots.size) (h1 : ¬ n.toInt32 < A) (h2 : ¬ B ≤ n.toInt32) : atv cl n.toInt32 = b := by
  have q := Cond.all_elim (ht []) ha h n hn
  exact own_el (own_or (own_or q (by simp [Cond.value, Term.eval, h1])) (by simp [Cond.value, Term.eval, h2])) (ht _) (by simp [Term.eval]) hc
theorem own_len (h : (Cond.eq (.length t) (.int z)).value args s none s idx = some true) (ht : t.eval args s none idx s = some (.ref aT)) (ha : s.arrayAt? aT = some cl) : cl.slots.size < 2 ^ 31 ∧ cl.slots.size.toInt32 = z := by
  by_cases q : cl.slots.size < 2 ^ 31
  · simp [Cond.value, Term.eval, ht, ha, q] at h; exact ⟨q, h⟩
  · simp [Cond.value, Term.eval, ht, ha, q] at h
theorem own_sta_idx {C n d : String} {v : Value} (h : (Term.static C n d).eval args s none [] s = some v) (idx : List Nat) : (Term.static C n d).eval args s none idx s = some v := by
  simp only [Term.eval] at h ⊢; exact h
end OwnWords
theorem own_toInt_ofNat {n : Nat} (h : n < 2147483648) : (Int32.ofNat n).toInt = n := Int32.toInt_ofNat_small h
theorem own_of_rng {c : Int32} (h0 : ¬ c < 0) : c = Int32.ofNat c.toInt.toNat := by
  have h0' : 0 ≤ c.toInt := by rw [Int32.lt_iff_toInt_lt] at h0; have : (0 : Int32).toInt = 0 := rfl; omega
  have := c.toInt_lt
  apply Int32.toInt_inj.mp
  rw [own_toInt_ofNat (by omega)]; omega
end Jvm.RoadKit
namespace Jvm.RoadKit
open Sem ClassFile Op Lib Jvm.Stand Jvm.Free Jvm.LawKit
theorem own_ord {args : Array Value} {s : State} {t : Term} {a : Addr} {k : Int32} {C n d : String} (h : (Cond.eq (.field t C n d) (.int k)).value args s none s [] = some true) (ht : t.eval args s none [] s = some (.ref a)) : s.fieldOf? a C n d = some (.int k) := by
  obtain ⟨x, y, e1, e2, -, -⟩ := cmp_v (Or.inl h)
  have e4 : (Term.int k).eval args s none [] s = some (.int k) := rfl
  have e5 : x = .int k := by cases x <;> simp [Cond.value, e1, e4] at h; rw [h]
  rw [fld_at ht] at e1
  rw [e1, e5]
theorem own_ord_ne {o : Addr → Option Value} {a b : Addr} {j k : Int32} (h1 : o a = some (.int j)) (h2 : o b = some (.int k)) (hjk : ¬ j = k) : ¬ a = b := fun e => by
  subst e; exact hjk (Value.int.inj (Option.some.inj (h1.symm.trans h2)))
theorem own_and7 (x : Int32) : (x &&& 7).toInt = 0 ∨ (x &&& 7).toInt = 1 ∨ (x &&& 7).toInt = 2 ∨ (x &&& 7).toInt = 3 ∨ (x &&& 7).toInt = 4 ∨ (x &&& 7).toInt = 5 ∨ (x &&& 7).toInt = 6 ∨ (x &&& 7).toInt = 7 := by
  have h := c_mask x 7 3 (by decide) (by decide)
  have : ((2 ^ 3 : Nat) : Int) = 8 := rfl
  omega
theorem own_i32 {x k : Int32} {z : Int} (h : x.toInt = z) (hk : k.toInt = z) : x = k := Int32.toInt_inj.mp (h.trans hk.symm)
end Jvm.RoadKit
namespace Jvm.Pilot.@@N@@
open Jvm Jvm.ClassFile Sem Op Lib Jvm.Free Jvm.Stand Jvm.LawKit Jvm.RoadKit Bundle Jvm.Pilot.@@N@@.Jvm.D
abbrev own_dg (c : Int32) : Prop := ¬ c < (48 : Int32) ∧ ¬ (57 : Int32) < c
def own_hex (c : Int32) : Int32 := if bi (own_dg c) = (0 : Int32) then (if c < (65 : Int32) ∨ (70 : Int32) < c then (if c < (97 : Int32) ∨ (102 : Int32) < c then -1 else (c - (97 : Int32)) + (10 : Int32)) else (c - (65 : Int32)) + (10 : Int32)) else c - (48 : Int32)
def own_ref (c : Int32) : Int32 := if (c - (48 : Int32)) < (0 : Int32) ∨ ¬ (c - (48 : Int32)) < (10 : Int32) then (if ((c ||| (32 : Int32)) - (97 : Int32)) < (0 : Int32) ∨ ¬ ((c ||| (32 : Int32)) - (97 : Int32)) < (6 : Int32) then -1 else ((c ||| (32 : Int32)) - (97 : Int32)) + (10 : Int32)) else c - (48 : Int32)
def QKn (Z : State) (i : Int32) (n : Int32) (h0 : Heap) (n0 : Nat) (v : Option Value) (h : Heap) (L : List Loc) : Prop := v = some (.int i) ∧ Fr n0 L ∧ h = h0
theorem ef_Kn (m : MethodId) (x0 : Int32) (x1 : Int32) : entryFrame m #[(.int x0), (.int x1), .null] 3 = mkF m 0 #[.val (.int x0), .val (.int x1), .val .null] [] := by first | (simp [entryFrame, mkF, argsToLocals, Value.category]; done) | rfl
theorem pn_Preconditions : plainName "jdk/internal/util/Preconditions" = true := by first | (simp [plainName, overriddenIn]; done) | decide +kernel
theorem d_jdk_41_method_11_0 : decode jdk_41_method_11_code 0 = .ok (.iload_n 0, 1) := by decide +kernel
theorem d_jdk_41_method_11_1 : decode jdk_41_method_11_code 1 = .ok (.ifCond .lt 8, 3) := by decide +kernel
theorem d_jdk_41_method_11_4 : decode jdk_41_method_11_code 4 = .ok (.iload_n 0, 1) := by decide +kernel
theorem d_jdk_41_method_11_5 : decode jdk_41_method_11_code 5 = .ok (.iload_n 1, 1) := by decide +kernel
theorem d_jdk_41_method_11_6 : decode jdk_41_method_11_code 6 = .ok (.if_icmp .lt 10, 3) := by decide +kernel
theorem d_jdk_41_method_11_16 : decode jdk_41_method_11_code 16 = .ok (.iload_n 0, 1) := by decide +kernel
theorem d_jdk_41_method_11_17 : decode jdk_41_method_11_code 17 = .ok (.ireturn, 1) := by decide +kernel
set_option maxRecDepth 65536 in
set_option maxHeartbeats 40000000 in
theorem rmKn (l : Launch) (Z : State) (a0 : Array Value) (hw : ∀ d ∈ tables_1, d.before a0 Z = true) (ws : List Jvm.Cond) (i : Int32) (n : Int32) (h0 : Heap) (n0 : Nat) (Z0 : n0 ≤ h0.size) (hi0 : ¬ i < (0 : Int32)) (hin : i < n) :
    MetFree l (⟨"jdk/internal/util/Preconditions", "checkIndex", "(IILjava/util/function/BiFunction;)I"⟩ : MethodName) (head1 (Jvm.Cond.code (⟨"jdk/internal/util/Preconditions", "checkIndex", "(IILjava/util/function/BiFunction;)I"⟩ : MethodName) jdk_41_method_11_code 3 (some .int) :: ws) ({ frames := 0, cells := 0, slots := 0, locals := 0 } : Room)) (fun a' U => a' = #[(.int i), (.int n), .null] ∧ Z.Warmed39 U.vm ∧ U.heap = h0) (fun _ _ _ _ _ => True) (fun _ U o U' => ∃ v L, o = .returned v ∧ QKn Z i n h0 n0 v U'.heap L ∧ FrameEnd U o U' L ({ frames := 0, cells := 0, slots := 0, locals := 0 } : Room).cells ({ frames := 0, cells := 0, slots := 0, locals := 0 } : Room).slots) := by
  refine MetFree.of_bodySF (plainFor_of_name pn_Preconditions) hisR ?_
  intro p e s m args below meth c s₁ Bd hml0 hP hK
  obtain ⟨rfl, hZ, hh⟩ := hP
  have hx := Bd.exec
  have hby := Bd.bytes
  have hml : c.maxLocals = 3 := hml0
  have hown : s.vm.findClass "jdk/internal/util/Preconditions" = some m.cls := findClass_of_methodNamed Bd.named
  have hnm := (name_of_methodNamed Bd.named Bd.method).1
  have X0 : Stand p l e ({ frames := 0, cells := 0, slots := 0, locals := 0 } : Room) s m #[(.int i), (.int n), .null] below meth c s₁ [] 0 0 := Stand.of_body Bd
  have e0 : s₁.heap = h0 := by rw [← hh, Bd.state]; rfl
  have N0 := Fr.nil n0
  have Zn := Z0
  have pre0 : ∀ t, Steps p.tables e below (s₁.setTop (mkF m 0 #[.val (.int i), .val (.int n), .val .null] [])) t → Steps p.tables e below (s₁.setTop (entryFrame m #[(.int i), (.int n), .null] 3)) t := fun t q => castTop (ef_Kn m i n) q
  have k0 : ∀ t, Steps p.tables e below (s₁.setTop (mkF m 0 #[.val (.int i), .val (.int n), .val .null] [])) t → Steps p.tables e below (s₁.setTop (mkF m 0 #[.val (.int i), .val (.int n), .val .null] [])) t := fun t q => q
  have k1_ : ∀ t, Steps p.tables e below (s₁.setTop (mkF m 1 #[.val (.int i), .val (.int n), .val .null] [(.int i)])) t → Steps p.tables e below (s₁.setTop (mkF m 0 #[.val (.int i), .val (.int n), .val .null] [])) t := by
    intro t q
    refine k0 _ ?_
    show Steps p.tables e below (s₁.setTop (mkF m 0 #[.val (.int i), .val (.int n), .val .null] [])) _
    refine XS.iloadN X0.here hx rfl (hb hby d_jdk_41_method_11_0) rfl ?_
    show Steps p.tables e below (s₁.setTop (mkF m 1 #[.val (.int i), .val (.int n), .val .null] [(.int i)])) _
    exact q
  have k2_ : ∀ t, Steps p.tables e below (s₁.setTop (mkF m 4 #[.val (.int i), .val (.int n), .val .null] [])) t → Steps p.tables e below (s₁.setTop (mkF m 0 #[.val (.int i), .val (.int n), .val .null] [])) t := by
    intro t q
    refine k1_ _ ?_
    show Steps p.tables e below (s₁.setTop (mkF m 1 #[.val (.int i), .val (.int n), .val .null] [(.int i)])) _
    refine XS.ifNo X0.here hx rfl (hb hby d_jdk_41_method_11_1) rfl ((if0 _ _).trans (flt hi0).1) ?_
    show Steps p.tables e below (s₁.setTop (mkF m 4 #[.val (.int i), .val (.int n), .val .null] [])) _
    exact q
  have k3_ : ∀ t, Steps p.tables e below (s₁.setTop (mkF m 6 #[.val (.int i), .val (.int n), .val .null] [(.int n), (.int i)])) t → Steps p.tables e below (s₁.setTop (mkF m 0 #[.val (.int i), .val (.int n), .val .null] [])) t := by
    intro t q
    refine k2_ _ ?_
    show Steps p.tables e below (s₁.setTop (mkF m 4 #[.val (.int i), .val (.int n), .val .null] [])) _
    refine XS.iloadN X0.here hx rfl (hb hby d_jdk_41_method_11_4) rfl ?_
    show Steps p.tables e below (s₁.setTop (mkF m 5 #[.val (.int i), .val (.int n), .val .null] [(.int i)])) _
    refine XS.iloadN X0.here hx rfl (hb hby d_jdk_41_method_11_5) rfl ?_
    show Steps p.tables e below (s₁.setTop (mkF m 6 #[.val (.int i), .val (.int n), .val .null] [(.int n), (.int i)])) _
    exact q
  have k4_ : ∀ t, Steps p.tables e below (s₁.setTop (mkF m 16 #[.val (.int i), .val (.int n), .val .null] [])) t → Steps p.tables e below (s₁.setTop (mkF m 0 #[.val (.int i), .val (.int n), .val .null] [])) t := by
    intro t q
    refine k3_ _ ?_
    show Steps p.tables e below (s₁.setTop (mkF m 6 #[.val (.int i), .val (.int n), .val .null] [(.int n), (.int i)])) _
    refine XS.icmpYes X0.here hx rfl (pc0 := 6) (pc' := 16) rfl (hb hby d_jdk_41_method_11_6) rfl (tlt hin).1 (by decide) (by decide) ?_
    show Steps p.tables e below (s₁.setTop (mkF m 16 #[.val (.int i), .val (.int n), .val .null] [])) _
    exact q
  have k5_ : ∀ t, Steps p.tables e below (s₁.setTop (mkF m 17 #[.val (.int i), .val (.int n), .val .null] [(.int i)])) t → Steps p.tables e below (s₁.setTop (mkF m 0 #[.val (.int i), .val (.int n), .val .null] [])) t := by
    intro t q
    refine k4_ _ ?_
    show Steps p.tables e below (s₁.setTop (mkF m 16 #[.val (.int i), .val (.int n), .val .null] [])) _
    refine XS.iloadN X0.here hx rfl (hb hby d_jdk_41_method_11_16) rfl ?_
    show Steps p.tables e below (s₁.setTop (mkF m 17 #[.val (.int i), .val (.int n), .val .null] [(.int i)])) _
    exact q
  obtain ⟨fs, hr, hrun, hended, hW, hsame⟩ := X0.leave (v := some (.int i)) (fun h => by rw [Bd.returns] at h; cases h)
  refine ⟨_, _, pre0 _ (k5_ _ ?_), hrun, hended, _, _, rfl, ?_, ⟨_, rfl⟩, hW, hsame.mono (by decide) (by decide)⟩
  · show Steps p.tables e below (s₁.setTop (mkF m 17 #[.val (.int i), .val (.int n), .val .null] [(.int i)])) _
    exact retI X0 hx Bd.returns (hb hby d_jdk_41_method_11_17) hr
  · show QKn Z i n h0 n0 _ s₁.heap _
    rw [e0]
    exact ⟨rfl, N0, rfl⟩
def QKr (Z : State) (i : Int32) (n : Int32) (af : Addr) (h0 : Heap) (n0 : Nat) (v : Option Value) (h : Heap) (L : List Loc) : Prop := v = some (.int i) ∧ Fr n0 L ∧ h = h0
theorem ef_Kr (m : MethodId) (x0 : Int32) (x1 : Int32) (x2 : Addr) : entryFrame m #[(.int x0), (.int x1), (.ref x2)] 3 = mkF m 0 #[.val (.int x0), .val (.int x1), .val (.ref x2)] [] := by first | (simp [entryFrame, mkF, argsToLocals, Value.category]; done) | rfl
set_option maxRecDepth 65536 in
set_option maxHeartbeats 40000000 in
theorem rmKr (l : Launch) (Z : State) (a0 : Array Value) (hw : ∀ d ∈ tables_1, d.before a0 Z = true) (ws : List Jvm.Cond) (i : Int32) (n : Int32) (af : Addr) (h0 : Heap) (n0 : Nat) (Z0 : n0 ≤ h0.size) (hi0 : ¬ i < (0 : Int32)) (hin : i < n) :
    MetFree l (⟨"jdk/internal/util/Preconditions", "checkIndex", "(IILjava/util/function/BiFunction;)I"⟩ : MethodName) (head1 (Jvm.Cond.code (⟨"jdk/internal/util/Preconditions", "checkIndex", "(IILjava/util/function/BiFunction;)I"⟩ : MethodName) jdk_41_method_11_code 3 (some .int) :: ws) ({ frames := 0, cells := 0, slots := 0, locals := 0 } : Room)) (fun a' U => a' = #[(.int i), (.int n), (.ref af)] ∧ Z.Warmed39 U.vm ∧ U.heap = h0) (fun _ _ _ _ _ => True) (fun _ U o U' => ∃ v L, o = .returned v ∧ QKr Z i n af h0 n0 v U'.heap L ∧ FrameEnd U o U' L ({ frames := 0, cells := 0, slots := 0, locals := 0 } : Room).cells ({ frames := 0, cells := 0, slots := 0, locals := 0 } : Room).slots) := by
  refine MetFree.of_bodySF (plainFor_of_name pn_Preconditions) hisR ?_
  intro p e s m args below meth c s₁ Bd hml0 hP hK
  obtain ⟨rfl, hZ, hh⟩ := hP
  have hx := Bd.exec
  have hby := Bd.bytes
  have hml : c.maxLocals = 3 := hml0
  have hown : s.vm.findClass "jdk/internal/util/Preconditions" = some m.cls := findClass_of_methodNamed Bd.named
  have hnm := (name_of_methodNamed Bd.named Bd.method).1
  have X0 : Stand p l e ({ frames := 0, cells := 0, slots := 0, locals := 0 } : Room) s m #[(.int i), (.int n), (.ref af)] below meth c s₁ [] 0 0 := Stand.of_body Bd
  have e0 : s₁.heap = h0 := by rw [← hh, Bd.state]; rfl
  have N0 := Fr.nil n0
  have Zn := Z0
  have pre0 : ∀ t, Steps p.tables e below (s₁.setTop (mkF m 0 #[.val (.int i), .val (.int n), .val (.ref af)] [])) t → Steps p.tables e below (s₁.setTop (entryFrame m #[(.int i), (.int n), (.ref af)] 3)) t := fun t q => castTop (ef_Kr m i n af) q
  have k0 : ∀ t, Steps p.tables e below (s₁.setTop (mkF m 0 #[.val (.int i), .val (.int n), .val (.ref af)] [])) t → Steps p.tables e below (s₁.setTop (mkF m 0 #[.val (.int i), .val (.int n), .val (.ref af)] [])) t := fun t q => q
  have k1_ : ∀ t, Steps p.tables e below (s₁.setTop (mkF m 1 #[.val (.int i), .val (.int n), .val (.ref af)] [(.int i)])) t → Steps p.tables e below (s₁.setTop (mkF m 0 #[.val (.int i), .val (.int n), .val (.ref af)] [])) t := by
    intro t q
    refine k0 _ ?_
    show Steps p.tables e below (s₁.setTop (mkF m 0 #[.val (.int i), .val (.int n), .val (.ref af)] [])) _
    refine XS.iloadN X0.here hx rfl (hb hby d_jdk_41_method_11_0) rfl ?_
    show Steps p.tables e below (s₁.setTop (mkF m 1 #[.val (.int i), .val (.int n), .val (.ref af)] [(.int i)])) _
    exact q
  have k2_ : ∀ t, Steps p.tables e below (s₁.setTop (mkF m 4 #[.val (.int i), .val (.int n), .val (.ref af)] [])) t → Steps p.tables e below (s₁.setTop (mkF m 0 #[.val (.int i), .val (.int n), .val (.ref af)] [])) t := by
    intro t q
    refine k1_ _ ?_
    show Steps p.tables e below (s₁.setTop (mkF m 1 #[.val (.int i), .val (.int n), .val (.ref af)] [(.int i)])) _
    refine XS.ifNo X0.here hx rfl (hb hby d_jdk_41_method_11_1) rfl ((if0 _ _).trans (flt hi0).1) ?_
    show Steps p.tables e below (s₁.setTop (mkF m 4 #[.val (.int i), .val (.int n), .val (.ref af)] [])) _
    exact q
  have k3_ : ∀ t, Steps p.tables e below (s₁.setTop (mkF m 6 #[.val (.int i), .val (.int n), .val (.ref af)] [(.int n), (.int i)])) t → Steps p.tables e below (s₁.setTop (mkF m 0 #[.val (.int i), .val (.int n), .val (.ref af)] [])) t := by
    intro t q
    refine k2_ _ ?_
    show Steps p.tables e below (s₁.setTop (mkF m 4 #[.val (.int i), .val (.int n), .val (.ref af)] [])) _
    refine XS.iloadN X0.here hx rfl (hb hby d_jdk_41_method_11_4) rfl ?_
    show Steps p.tables e below (s₁.setTop (mkF m 5 #[.val (.int i), .val (.int n), .val (.ref af)] [(.int i)])) _
    refine XS.iloadN X0.here hx rfl (hb hby d_jdk_41_method_11_5) rfl ?_
    show Steps p.tables e below (s₁.setTop (mkF m 6 #[.val (.int i), .val (.int n), .val (.ref af)] [(.int n), (.int i)])) _
    exact q
  have k4_ : ∀ t, Steps p.tables e below (s₁.setTop (mkF m 16 #[.val (.int i), .val (.int n), .val (.ref af)] [])) t → Steps p.tables e below (s₁.setTop (mkF m 0 #[.val (.int i), .val (.int n), .val (.ref af)] [])) t := by
    intro t q
    refine k3_ _ ?_
    show Steps p.tables e below (s₁.setTop (mkF m 6 #[.val (.int i), .val (.int n), .val (.ref af)] [(.int n), (.int i)])) _
    refine XS.icmpYes X0.here hx rfl (pc0 := 6) (pc' := 16) rfl (hb hby d_jdk_41_method_11_6) rfl (tlt hin).1 (by decide) (by decide) ?_
    show Steps p.tables e below (s₁.setTop (mkF m 16 #[.val (.int i), .val (.int n), .val (.ref af)] [])) _
    exact q
  have k5_ : ∀ t, Steps p.tables e below (s₁.setTop (mkF m 17 #[.val (.int i), .val (.int n), .val (.ref af)] [(.int i)])) t → Steps p.tables e below (s₁.setTop (mkF m 0 #[.val (.int i), .val (.int n), .val (.ref af)] [])) t := by
    intro t q
    refine k4_ _ ?_
    show Steps p.tables e below (s₁.setTop (mkF m 16 #[.val (.int i), .val (.int n), .val (.ref af)] [])) _
    refine XS.iloadN X0.here hx rfl (hb hby d_jdk_41_method_11_16) rfl ?_
    show Steps p.tables e below (s₁.setTop (mkF m 17 #[.val (.int i), .val (.int n), .val (.ref af)] [(.int i)])) _
    exact q
  obtain ⟨fs, hr, hrun, hended, hW, hsame⟩ := X0.leave (v := some (.int i)) (fun h => by rw [Bd.returns] at h; cases h)
  refine ⟨_, _, pre0 _ (k5_ _ ?_), hrun, hended, _, _, rfl, ?_, ⟨_, rfl⟩, hW, hsame.mono (by decide) (by decide)⟩
  · show Steps p.tables e below (s₁.setTop (mkF m 17 #[.val (.int i), .val (.int n), .val (.ref af)] [(.int i)])) _
    exact retI X0 hx Bd.returns (hb hby d_jdk_41_method_11_17) hr
  · show QKr Z i n af h0 n0 _ s₁.heap _
    rw [e0]
    exact ⟨rfl, N0, rfl⟩
def QX (Z : State) (i : Int32) (n : Int32) (fv : Value) (h0 : Heap) (n0 : Nat) (v : Option Value) (h : Heap) (L : List Loc) : Prop := v = none ∧ Fr n0 L ∧ h = h0
theorem ef_X (m : MethodId) (x0 : Int32) (x1 : Int32) : entryFrame m #[(.int x0), (.int x1)] 2 = mkF m 0 #[.val (.int x0), .val (.int x1)] [] := by first | (simp [entryFrame, mkF, argsToLocals, Value.category]; done) | rfl
theorem pn_String : plainName "java/lang/String" = true := by first | (simp [plainName, overriddenIn]; done) | decide +kernel
theorem d_jdk_42_method_155_0 : decode jdk_42_method_155_code 0 = .ok (.iload_n 0, 1) := by decide +kernel
theorem d_jdk_42_method_155_1 : decode jdk_42_method_155_code 1 = .ok (.iload_n 1, 1) := by decide +kernel
theorem d_jdk_42_method_155_2 : decode jdk_42_method_155_code 2 = .ok (.getstatic 1053, 3) := by decide +kernel
theorem pd_23570 : parseMethodDescriptor "(IILjava/util/function/BiFunction;)I" = some ⟨[.int, .int, (.object "java/util/function/BiFunction")], some .int⟩ := by decide +kernel
theorem d_jdk_42_method_155_5 : decode jdk_42_method_155_code 5 = .ok (.invokestatic 1059, 3) := by decide +kernel
theorem d_jdk_42_method_155_8 : decode jdk_42_method_155_code 8 = .ok (.pop, 1) := by decide +kernel
theorem d_jdk_42_method_155_9 : decode jdk_42_method_155_code 9 = .ok (.return_, 1) := by decide +kernel
set_option maxRecDepth 65536 in
set_option maxHeartbeats 40000000 in
theorem rmX (l : Launch) (Z : State) (a0 : Array Value) (hw : ∀ d ∈ tables_1, d.before a0 Z = true) (ws : List Jvm.Cond) (i : Int32) (n : Int32) (fv : Value) (h0 : Heap) (n0 : Nat) (Z0 : n0 ≤ h0.size) (hi0 : ¬ i < (0 : Int32)) (hin : i < n) (SF : Sta Z h0 "jdk/internal/util/Preconditions" "SIOOBE_FORMATTER" "Ljava/util/function/BiFunction;" fv) (hf : fv.isRef = true) :
    MetFree l (⟨"java/lang/String", "checkIndex", "(II)V"⟩ : MethodName) (head1 (Jvm.Cond.code (⟨"java/lang/String", "checkIndex", "(II)V"⟩ : MethodName) jdk_42_method_155_code 2 none :: ws) ({ frames := 1, cells := 0, slots := 0, locals := 14 } : Room)) (fun a' U => a' = #[(.int i), (.int n)] ∧ Z.Warmed39 U.vm ∧ U.heap = h0) (fun _ _ _ _ _ => True) (fun _ U o U' => ∃ v L, o = .returned v ∧ QX Z i n fv h0 n0 v U'.heap L ∧ FrameEnd U o U' L ({ frames := 1, cells := 0, slots := 0, locals := 14 } : Room).cells ({ frames := 1, cells := 0, slots := 0, locals := 14 } : Room).slots) := by
  refine MetFree.of_bodySF (plainFor_of_name pn_String) hisR ?_
  intro p e s m args below meth c s₁ Bd hml0 hP hK
  obtain ⟨rfl, hZ, hh⟩ := hP
  have hx := Bd.exec
  have hby := Bd.bytes
  have hml : c.maxLocals = 2 := hml0
  have hown : s.vm.findClass "java/lang/String" = some m.cls := findClass_of_methodNamed Bd.named
  have hnm := (name_of_methodNamed Bd.named Bd.method).1
  have X0 : Stand p l e ({ frames := 1, cells := 0, slots := 0, locals := 14 } : Room) s m #[(.int i), (.int n)] below meth c s₁ [] 0 0 := Stand.of_body Bd
  have e0 : s₁.heap = h0 := by rw [← hh, Bd.state]; rfl
  have N0 := Fr.nil n0
  have Zn := Z0
  have pre0 : ∀ t, Steps p.tables e below (s₁.setTop (mkF m 0 #[.val (.int i), .val (.int n)] [])) t → Steps p.tables e below (s₁.setTop (entryFrame m #[(.int i), (.int n)] 2)) t := fun t q => castTop (ef_X m i n) q
  have k0 : ∀ t, Steps p.tables e below (s₁.setTop (mkF m 0 #[.val (.int i), .val (.int n)] [])) t → Steps p.tables e below (s₁.setTop (mkF m 0 #[.val (.int i), .val (.int n)] [])) t := fun t q => q
  rcases ref_cases hf with rfl | ⟨af, rfl⟩
  · have k1_ : ∀ t, Steps p.tables e below (s₁.setTop (mkF m 2 #[.val (.int i), .val (.int n)] [(.int n), (.int i)])) t → Steps p.tables e below (s₁.setTop (mkF m 0 #[.val (.int i), .val (.int n)] [])) t := by
      intro t q
      refine k0 _ ?_
      show Steps p.tables e below (s₁.setTop (mkF m 0 #[.val (.int i), .val (.int n)] [])) _
      refine XS.iloadN X0.here hx rfl (hb hby d_jdk_42_method_155_0) rfl ?_
      show Steps p.tables e below (s₁.setTop (mkF m 1 #[.val (.int i), .val (.int n)] [(.int i)])) _
      refine XS.iloadN X0.here hx rfl (hb hby d_jdk_42_method_155_1) rfl ?_
      show Steps p.tables e below (s₁.setTop (mkF m 2 #[.val (.int i), .val (.int n)] [(.int n), (.int i)])) _
      exact q
    obtain ⟨T2, X2, e2, st2⟩ := getS2 X0 hx hZ hown (host := "") (Or.inl (hw _ (List.mem_of_getElem? (i := 29) rfl))) Via.refl e0 SF (g := (mkF m 2 #[.val (.int i), .val (.int n)] [(.int n), (.int i)])) rfl (hb hby d_jdk_42_method_155_2)
    have k3_ : ∀ t, Steps p.tables e below (T2.setTop (mkF m 5 #[.val (.int i), .val (.int n)] [.null, (.int n), (.int i)])) t → Steps p.tables e below (s₁.setTop (mkF m 0 #[.val (.int i), .val (.int n)] [])) t := fun t q => k1_ t (st2 t q)
    obtain ⟨_, _, ⟨T4, L4, kk4, n4⟩, -, X4, ⟨Lc4, hQ4, l4, y4, z4⟩, st4⟩ := Jvm.LawKit.callS X2 hx (y := (⟨"jdk/internal/util/Preconditions", "checkIndex", "(IILjava/util/function/BiFunction;)I"⟩ : MethodName)) hown (mvT hZ (hw _ (List.mem_of_getElem? (i := 31) rfl))) (mvT hZ (hw _ (List.mem_of_getElem? (i := 32) rfl))) (mvT hZ (hw _ (List.mem_of_getElem? (i := 30) rfl))) (mvT hZ (hw _ (List.mem_of_getElem? (i := 33) rfl))) (by decide) (backOf (W := 0) (rmKn l Z a0 hw [] i n h0 n0 Zn hi0 hin) hZ (hw _ (List.mem_of_getElem? (i := 33) rfl)) (hw _ (List.mem_of_getElem? (i := 30) rfl)) (by decide) (by decide)) (g := (mkF m 5 #[.val (.int i), .val (.int n)] [.null, (.int n), (.int i)])) rfl (by rw [hml]; rfl) (argsL := [(.int i), (.int n), .null]) (rest := []) (lenOf pd_23570 rfl) rfl (by show 2 * 0 + _ ≤ _; exact Nat.le_of_eq rfl) (hb hby d_jdk_42_method_155_5) (fun _ _ => ⟨rfl, e2, (by decide : 0 + 0 ≤ _), (by decide : 0 + 0 ≤ _)⟩)
    dsimp only [Pt.U, Pt.locs, Pt.cells, Pt.slots] at X4 l4 y4 z4 st4 hQ4
    subst l4 y4 z4
    obtain ⟨rfl, Nq4, hq4⟩ := hQ4
    have N4 := Fr.app N0 Nq4
    have k5_ : ∀ t, Steps p.tables e below (T4.setTop (mkF m 8 #[.val (.int i), .val (.int n)] [(.int i)])) t → Steps p.tables e below (s₁.setTop (mkF m 0 #[.val (.int i), .val (.int n)] [])) t := fun t q => k3_ t (st4 t q)
    have k6_ : ∀ t, Steps p.tables e below (T4.setTop (mkF m 9 #[.val (.int i), .val (.int n)] [])) t → Steps p.tables e below (s₁.setTop (mkF m 0 #[.val (.int i), .val (.int n)] [])) t := by
      intro t q
      refine k5_ _ ?_
      show Steps p.tables e below (T4.setTop (mkF m 8 #[.val (.int i), .val (.int n)] [(.int i)])) _
      refine XT.pop X4.here hx rfl (hb hby d_jdk_42_method_155_8) rfl rfl ?_
      show Steps p.tables e below (T4.setTop (mkF m 9 #[.val (.int i), .val (.int n)] [])) _
      exact q
    obtain ⟨fs, hr, hrun, hended, hW, hsame⟩ := X4.leave (v := none) (fun _ => rfl)
    refine ⟨_, _, pre0 _ (k6_ _ ?_), hrun, hended, _, _, rfl, ?_, ⟨_, rfl⟩, hW, hsame.mono (by decide) (by decide)⟩
    · show Steps p.tables e below (T4.setTop (mkF m 9 #[.val (.int i), .val (.int n)] [])) _
      exact X4.returnOut hx Bd.returns (hb hby d_jdk_42_method_155_9) hr
    · show QX Z i n _ h0 n0 _ T4.heap _
      rw [hq4]
      exact ⟨rfl, N4, rfl⟩
  · have k7_ : ∀ t, Steps p.tables e below (s₁.setTop (mkF m 2 #[.val (.int i), .val (.int n)] [(.int n), (.int i)])) t → Steps p.tables e below (s₁.setTop (mkF m 0 #[.val (.int i), .val (.int n)] [])) t := by
      intro t q
      refine k0 _ ?_
      show Steps p.tables e below (s₁.setTop (mkF m 0 #[.val (.int i), .val (.int n)] [])) _
      refine XS.iloadN X0.here hx rfl (hb hby d_jdk_42_method_155_0) rfl ?_
      show Steps p.tables e below (s₁.setTop (mkF m 1 #[.val (.int i), .val (.int n)] [(.int i)])) _
      refine XS.iloadN X0.here hx rfl (hb hby d_jdk_42_method_155_1) rfl ?_
      show Steps p.tables e below (s₁.setTop (mkF m 2 #[.val (.int i), .val (.int n)] [(.int n), (.int i)])) _
      exact q
    obtain ⟨T8, X8, e8, st8⟩ := getS2 X0 hx hZ hown (host := "") (Or.inl (hw _ (List.mem_of_getElem? (i := 29) rfl))) Via.refl e0 SF (g := (mkF m 2 #[.val (.int i), .val (.int n)] [(.int n), (.int i)])) rfl (hb hby d_jdk_42_method_155_2)
    have k9_ : ∀ t, Steps p.tables e below (T8.setTop (mkF m 5 #[.val (.int i), .val (.int n)] [(.ref af), (.int n), (.int i)])) t → Steps p.tables e below (s₁.setTop (mkF m 0 #[.val (.int i), .val (.int n)] [])) t := fun t q => k7_ t (st8 t q)
    obtain ⟨_, _, ⟨T10, L10, kk10, n10⟩, -, X10, ⟨Lc10, hQ10, l10, y10, z10⟩, st10⟩ := Jvm.LawKit.callS X8 hx (y := (⟨"jdk/internal/util/Preconditions", "checkIndex", "(IILjava/util/function/BiFunction;)I"⟩ : MethodName)) hown (mvT hZ (hw _ (List.mem_of_getElem? (i := 31) rfl))) (mvT hZ (hw _ (List.mem_of_getElem? (i := 32) rfl))) (mvT hZ (hw _ (List.mem_of_getElem? (i := 30) rfl))) (mvT hZ (hw _ (List.mem_of_getElem? (i := 33) rfl))) (by decide) (backOf (W := 0) (rmKr l Z a0 hw [] i n af h0 n0 Zn hi0 hin) hZ (hw _ (List.mem_of_getElem? (i := 33) rfl)) (hw _ (List.mem_of_getElem? (i := 30) rfl)) (by decide) (by decide)) (g := (mkF m 5 #[.val (.int i), .val (.int n)] [(.ref af), (.int n), (.int i)])) rfl (by rw [hml]; rfl) (argsL := [(.int i), (.int n), (.ref af)]) (rest := []) (lenOf pd_23570 rfl) rfl (by show 2 * 0 + _ ≤ _; exact Nat.le_of_eq rfl) (hb hby d_jdk_42_method_155_5) (fun _ _ => ⟨rfl, e8, (by decide : 0 + 0 ≤ _), (by decide : 0 + 0 ≤ _)⟩)
    dsimp only [Pt.U, Pt.locs, Pt.cells, Pt.slots] at X10 l10 y10 z10 st10 hQ10
    subst l10 y10 z10
    obtain ⟨rfl, Nq10, hq10⟩ := hQ10
    have N10 := Fr.app N0 Nq10
    have k11_ : ∀ t, Steps p.tables e below (T10.setTop (mkF m 8 #[.val (.int i), .val (.int n)] [(.int i)])) t → Steps p.tables e below (s₁.setTop (mkF m 0 #[.val (.int i), .val (.int n)] [])) t := fun t q => k9_ t (st10 t q)
    have k12_ : ∀ t, Steps p.tables e below (T10.setTop (mkF m 9 #[.val (.int i), .val (.int n)] [])) t → Steps p.tables e below (s₁.setTop (mkF m 0 #[.val (.int i), .val (.int n)] [])) t := by
      intro t q
      refine k11_ _ ?_
      show Steps p.tables e below (T10.setTop (mkF m 8 #[.val (.int i), .val (.int n)] [(.int i)])) _
      refine XT.pop X10.here hx rfl (hb hby d_jdk_42_method_155_8) rfl rfl ?_
      show Steps p.tables e below (T10.setTop (mkF m 9 #[.val (.int i), .val (.int n)] [])) _
      exact q
    obtain ⟨fs, hr, hrun, hended, hW, hsame⟩ := X10.leave (v := none) (fun _ => rfl)
    refine ⟨_, _, pre0 _ (k12_ _ ?_), hrun, hended, _, _, rfl, ?_, ⟨_, rfl⟩, hW, hsame.mono (by decide) (by decide)⟩
    · show Steps p.tables e below (T10.setTop (mkF m 9 #[.val (.int i), .val (.int n)] [])) _
      exact X10.returnOut hx Bd.returns (hb hby d_jdk_42_method_155_9) hr
    · show QX Z i n _ h0 n0 _ T10.heap _
      rw [hq10]
      exact ⟨rfl, N10, rfl⟩
def QM (Z : State) (b : Addr) (i : Int32) (k : ClassId) (z : Int32) (vs : List Value) (bv : Int32) (fv : Value) (h0 : Heap) (n0 : Nat) (v : Option Value) (h : Heap) (L : List Loc) : Prop := v = some (.int (bv &&& (255 : Int32))) ∧ Fr n0 L ∧ h = h0
theorem ef_M (m : MethodId) (x0 : Addr) (x1 : Int32) : entryFrame m #[(.ref x0), (.int x1)] 2 = mkF m 0 #[.val (.ref x0), .val (.int x1)] [] := by first | (simp [entryFrame, mkF, argsToLocals, Value.category]; done) | rfl
theorem pn_StringLatin1 : plainName "java/lang/StringLatin1" = true := by first | (simp [plainName, overriddenIn]; done) | decide +kernel
theorem d_jdk_43_method_2_0 : decode jdk_43_method_2_code 0 = .ok (.iload_n 1, 1) := by decide +kernel
theorem d_jdk_43_method_2_1 : decode jdk_43_method_2_code 1 = .ok (.aload_n 0, 1) := by decide +kernel
theorem d_jdk_43_method_2_2 : decode jdk_43_method_2_code 2 = .ok (.arraylength, 1) := by decide +kernel
theorem pd_90433 : parseMethodDescriptor "(II)V" = some ⟨[.int, .int], none⟩ := by decide +kernel
theorem d_jdk_43_method_2_3 : decode jdk_43_method_2_code 3 = .ok (.invokestatic 9, 3) := by decide +kernel
theorem d_jdk_43_method_2_6 : decode jdk_43_method_2_code 6 = .ok (.aload_n 0, 1) := by decide +kernel
theorem d_jdk_43_method_2_7 : decode jdk_43_method_2_code 7 = .ok (.iload_n 1, 1) := by decide +kernel
theorem d_jdk_43_method_2_8 : decode jdk_43_method_2_code 8 = .ok (.baload, 1) := by decide +kernel
theorem d_jdk_43_method_2_9 : decode jdk_43_method_2_code 9 = .ok (.sipush 255, 3) := by decide +kernel
theorem d_jdk_43_method_2_12 : decode jdk_43_method_2_code 12 = .ok (.iand, 1) := by decide +kernel
theorem d_jdk_43_method_2_13 : decode jdk_43_method_2_code 13 = .ok (.i2c, 1) := by decide +kernel
theorem d_jdk_43_method_2_14 : decode jdk_43_method_2_code 14 = .ok (.ireturn, 1) := by decide +kernel
set_option maxRecDepth 65536 in
set_option maxHeartbeats 40000000 in
theorem rmM (l : Launch) (Z : State) (a0 : Array Value) (hw : ∀ d ∈ tables_1, d.before a0 Z = true) (ws : List Jvm.Cond) (b : Addr) (i : Int32) (k : ClassId) (z : Int32) (vs : List Value) (bv : Int32) (fv : Value) (h0 : Heap) (n0 : Nat) (Z0 : n0 ≤ h0.size) (VB : Arv Z h0 b k .byte z vs (.int 0)) (hi0 : ¬ i < (0 : Int32)) (hin : i < z) (hbv : vs.getD i.toNatClampNeg (.int 0) = .int bv) (SF : Sta Z h0 "jdk/internal/util/Preconditions" "SIOOBE_FORMATTER" "Ljava/util/function/BiFunction;" fv) (hf : fv.isRef = true) :
    MetFree l (⟨"java/lang/StringLatin1", "charAt", "([BI)C"⟩ : MethodName) (head1 (Jvm.Cond.code (⟨"java/lang/StringLatin1", "charAt", "([BI)C"⟩ : MethodName) jdk_43_method_2_code 2 (some .char) :: ws) ({ frames := 2, cells := 0, slots := 0, locals := 27 } : Room)) (fun a' U => a' = #[(.ref b), (.int i)] ∧ Z.Warmed39 U.vm ∧ U.heap = h0) (fun _ _ _ _ _ => True) (fun _ U o U' => ∃ v L, o = .returned v ∧ QM Z b i k z vs bv fv h0 n0 v U'.heap L ∧ FrameEnd U o U' L ({ frames := 2, cells := 0, slots := 0, locals := 27 } : Room).cells ({ frames := 2, cells := 0, slots := 0, locals := 27 } : Room).slots) := by
  refine MetFree.of_bodySF (plainFor_of_name pn_StringLatin1) hisR ?_
  intro p e s m args below meth c s₁ Bd hml0 hP hK
  obtain ⟨rfl, hZ, hh⟩ := hP
  have hx := Bd.exec
  have hby := Bd.bytes
  have hml : c.maxLocals = 2 := hml0
  have hown : s.vm.findClass "java/lang/StringLatin1" = some m.cls := findClass_of_methodNamed Bd.named
  have hnm := (name_of_methodNamed Bd.named Bd.method).1
  have X0 : Stand p l e ({ frames := 2, cells := 0, slots := 0, locals := 27 } : Room) s m #[(.ref b), (.int i)] below meth c s₁ [] 0 0 := Stand.of_body Bd
  have e0 : s₁.heap = h0 := by rw [← hh, Bd.state]; rfl
  have N0 := Fr.nil n0
  have Zn := Z0
  have pre0 : ∀ t, Steps p.tables e below (s₁.setTop (mkF m 0 #[.val (.ref b), .val (.int i)] [])) t → Steps p.tables e below (s₁.setTop (entryFrame m #[(.ref b), (.int i)] 2)) t := fun t q => castTop (ef_M m b i) q
  have k0 : ∀ t, Steps p.tables e below (s₁.setTop (mkF m 0 #[.val (.ref b), .val (.int i)] [])) t → Steps p.tables e below (s₁.setTop (mkF m 0 #[.val (.ref b), .val (.int i)] [])) t := fun t q => q
  obtain ⟨cb, Ar, qb, Sb, Mb, Hb, Gb⟩ := VB
  have k1_ : ∀ t, Steps p.tables e below (s₁.setTop (mkF m 3 #[.val (.ref b), .val (.int i)] [(.int z), (.int i)])) t → Steps p.tables e below (s₁.setTop (mkF m 0 #[.val (.ref b), .val (.int i)] [])) t := by
    intro t q
    refine k0 _ ?_
    show Steps p.tables e below (s₁.setTop (mkF m 0 #[.val (.ref b), .val (.int i)] [])) _
    refine XS.iloadN X0.here hx rfl (hb hby d_jdk_43_method_2_0) rfl ?_
    show Steps p.tables e below (s₁.setTop (mkF m 1 #[.val (.ref b), .val (.int i)] [(.int i)])) _
    refine XS.aloadN X0.here hx rfl (hb hby d_jdk_43_method_2_1) rfl rfl ?_
    show Steps p.tables e below (s₁.setTop (mkF m 2 #[.val (.ref b), .val (.int i)] [(.ref b), (.int i)])) _
    refine X0.arraylength hx (by rw [e0]; exact Ar.1) (State.isArrayOf_alike hZ.alike Ar.2.1) (g := (mkF m 2 #[.val (.ref b), .val (.int i)] [(.ref b), (.int i)])) rfl rfl (hb hby d_jdk_43_method_2_2) _ ?_
    rw [len_of Sb Mb]
    show Steps p.tables e below (s₁.setTop (mkF m 3 #[.val (.ref b), .val (.int i)] [(.int z), (.int i)])) _
    exact q
  obtain ⟨_, _, ⟨T2, L2, kk2, n2⟩, -, X2, ⟨Lc2, hQ2, l2, y2, z2⟩, st2⟩ := Jvm.LawKit.callS X0 hx (y := (⟨"java/lang/String", "checkIndex", "(II)V"⟩ : MethodName)) hown (mvT hZ (hw _ (List.mem_of_getElem? (i := 26) rfl))) (mvT hZ (hw _ (List.mem_of_getElem? (i := 27) rfl))) (mvT hZ (hw _ (List.mem_of_getElem? (i := 2) rfl))) (mvT hZ (hw _ (List.mem_of_getElem? (i := 28) rfl))) (by decide) (backOf (W := 0) (rmX l Z a0 hw [] i z fv h0 n0 Zn hi0 hin SF hf) hZ (hw _ (List.mem_of_getElem? (i := 28) rfl)) (hw _ (List.mem_of_getElem? (i := 2) rfl)) (by decide) (by decide)) (g := (mkF m 3 #[.val (.ref b), .val (.int i)] [(.int z), (.int i)])) rfl (by rw [hml]; rfl) (argsL := [(.int i), (.int z)]) (rest := []) (lenOf pd_90433 rfl) rfl (by show 2 * 0 + _ ≤ _; exact Nat.le_of_eq rfl) (hb hby d_jdk_43_method_2_3) (fun _ _ => ⟨rfl, e0, (by decide : 0 + 0 ≤ _), (by decide : 0 + 0 ≤ _)⟩)
  dsimp only [Pt.U, Pt.locs, Pt.cells, Pt.slots] at X2 l2 y2 z2 st2 hQ2
  subst l2 y2 z2
  obtain ⟨rfl, Nq2, hq2⟩ := hQ2
  have N2 := Fr.app N0 Nq2
  have k3_ : ∀ t, Steps p.tables e below (T2.setTop (mkF m 6 #[.val (.ref b), .val (.int i)] [])) t → Steps p.tables e below (s₁.setTop (mkF m 0 #[.val (.ref b), .val (.int i)] [])) t := fun t q => k1_ t (st2 t q)
  have k4_ : ∀ t, Steps p.tables e below (T2.setTop (mkF m 14 #[.val (.ref b), .val (.int i)] [(.int ((bv &&& (255 : Int32)).toUInt32.toUInt16.toUInt32.toInt32))])) t → Steps p.tables e below (s₁.setTop (mkF m 0 #[.val (.ref b), .val (.int i)] [])) t := by
    intro t q
    refine k3_ _ ?_
    show Steps p.tables e below (T2.setTop (mkF m 6 #[.val (.ref b), .val (.int i)] [])) _
    refine XS.aloadN X2.here hx rfl (hb hby d_jdk_43_method_2_6) rfl rfl ?_
    show Steps p.tables e below (T2.setTop (mkF m 7 #[.val (.ref b), .val (.int i)] [(.ref b)])) _
    refine XS.iloadN X2.here hx rfl (hb hby d_jdk_43_method_2_7) rfl ?_
    show Steps p.tables e below (T2.setTop (mkF m 8 #[.val (.ref b), .val (.int i)] [(.int i), (.ref b)])) _
    refine X2.baloadBytes hx (j := i) (v := (.int bv)) (by rw [hq2]; exact Ar.1) (State.isArrayOf_alike hZ.alike Ar.2.1) Ar.2.2 (inb_of Sb ⟨hi0, hin⟩) (Hb.at (inb_of Sb ⟨hi0, hin⟩) hbv) (g := (mkF m 8 #[.val (.ref b), .val (.int i)] [(.int i), (.ref b)])) rfl rfl (hb hby d_jdk_43_method_2_8) _ ?_
    show Steps p.tables e below (T2.setTop (mkF m 9 #[.val (.ref b), .val (.int i)] [(.int bv)])) _
    refine XS.sipush X2.here hx rfl (hb hby d_jdk_43_method_2_9) ?_
    show Steps p.tables e below (T2.setTop (mkF m 12 #[.val (.ref b), .val (.int i)] [(.int (255 : Int32)), (.int bv)])) _
    refine XS.iand X2.here hx rfl (hb hby d_jdk_43_method_2_12) rfl ?_
    show Steps p.tables e below (T2.setTop (mkF m 13 #[.val (.ref b), .val (.int i)] [(.int (bv &&& (255 : Int32)))])) _
    refine XS.i2c X2.here hx rfl (hb hby d_jdk_43_method_2_13) rfl ?_
    show Steps p.tables e below (T2.setTop (mkF m 14 #[.val (.ref b), .val (.int i)] [(.int ((bv &&& (255 : Int32)).toUInt32.toUInt16.toUInt32.toInt32))])) _
    exact q
  obtain ⟨fs, hr, hrun, hended, hW, hsame⟩ := X2.leave (v := some (.int (nar .char ((bv &&& (255 : Int32)).toUInt32.toUInt16.toUInt32.toInt32)))) (fun h => by rw [Bd.returns] at h; cases h)
  refine ⟨_, _, pre0 _ (k4_ _ ?_), hrun, hended, _, _, rfl, ?_, ⟨_, rfl⟩, hW, hsame.mono (by decide) (by decide)⟩
  · show Steps p.tables e below (T2.setTop (mkF m 14 #[.val (.ref b), .val (.int i)] [(.int ((bv &&& (255 : Int32)).toUInt32.toUInt16.toUInt32.toInt32))])) _
    exact retN X2 hx (t := .char) Bd.returns (by simp) (hb hby d_jdk_43_method_2_14) hr
  · show QM Z b i k z vs bv fv h0 n0 _ T2.heap _
    rw [hq2]
    exact ⟨congrArg (fun q => some (Value.int q)) (show nar .char _ = _ by rw [i2c_mask]; exact i2c_mask bv), N2, rfl⟩
def QL (Z : State) (a : Addr) (cs : Int32) (h0 : Heap) (n0 : Nat) (v : Option Value) (h : Heap) (L : List Loc) : Prop := v = some (.int 1) ∧ Fr n0 L ∧ h = h0
theorem ef_L (m : MethodId) (x0 : Addr) : entryFrame m #[(.ref x0)] 1 = mkF m 0 #[.val (.ref x0)] [] := by first | (simp [entryFrame, mkF, argsToLocals, Value.category]; done) | rfl
theorem d_jdk_42_method_154_0 : decode jdk_42_method_154_code 0 = .ok (.getstatic 38, 3) := by decide +kernel
theorem d_jdk_42_method_154_3 : decode jdk_42_method_154_code 3 = .ok (.ifCond .eq 14, 3) := by decide +kernel
theorem d_jdk_42_method_154_6 : decode jdk_42_method_154_code 6 = .ok (.aload_n 0, 1) := by decide +kernel
theorem d_jdk_42_method_154_7 : decode jdk_42_method_154_code 7 = .ok (.getfield 15, 3) := by decide +kernel
theorem d_jdk_42_method_154_10 : decode jdk_42_method_154_code 10 = .ok (.ifCond .ne 7, 3) := by decide +kernel
theorem d_jdk_42_method_154_13 : decode jdk_42_method_154_code 13 = .ok (.iconst 1, 1) := by decide +kernel
theorem d_jdk_42_method_154_14 : decode jdk_42_method_154_code 14 = .ok (.goto 4, 3) := by decide +kernel
theorem d_jdk_42_method_154_18 : decode jdk_42_method_154_code 18 = .ok (.ireturn, 1) := by decide +kernel
set_option maxRecDepth 65536 in
set_option maxHeartbeats 40000000 in
theorem rmL (l : Launch) (Z : State) (a0 : Array Value) (hw : ∀ d ∈ tables_1, d.before a0 Z = true) (ws : List Jvm.Cond) (a : Addr) (cs : Int32) (h0 : Heap) (n0 : Nat) (Z0 : n0 ≤ h0.size) (SC : Sta Z h0 "java/lang/String" "COMPACT_STRINGS" "Z" (.int cs)) (hcs : ¬ cs = (0 : Int32)) (FC : Fld Z h0 a "java/lang/String" "coder" "B" (.int 0)) :
    MetFree l (⟨"java/lang/String", "isLatin1", "()Z"⟩ : MethodName) (head1 (Jvm.Cond.code (⟨"java/lang/String", "isLatin1", "()Z"⟩ : MethodName) jdk_42_method_154_code 1 (some .boolean) :: ws) ({ frames := 0, cells := 0, slots := 0, locals := 0 } : Room)) (fun a' U => a' = #[(.ref a)] ∧ Z.Warmed39 U.vm ∧ U.heap = h0) (fun _ _ _ _ _ => True) (fun _ U o U' => ∃ v L, o = .returned v ∧ QL Z a cs h0 n0 v U'.heap L ∧ FrameEnd U o U' L ({ frames := 0, cells := 0, slots := 0, locals := 0 } : Room).cells ({ frames := 0, cells := 0, slots := 0, locals := 0 } : Room).slots) := by
  refine MetFree.of_bodySF (plainFor_of_name pn_String) hisR ?_
  intro p e s m args below meth c s₁ Bd hml0 hP hK
  obtain ⟨rfl, hZ, hh⟩ := hP
  have hx := Bd.exec
  have hby := Bd.bytes
  have hml : c.maxLocals = 1 := hml0
  have hown : s.vm.findClass "java/lang/String" = some m.cls := findClass_of_methodNamed Bd.named
  have hnm := (name_of_methodNamed Bd.named Bd.method).1
  have X0 : Stand p l e ({ frames := 0, cells := 0, slots := 0, locals := 0 } : Room) s m #[(.ref a)] below meth c s₁ [] 0 0 := Stand.of_body Bd
  have e0 : s₁.heap = h0 := by rw [← hh, Bd.state]; rfl
  have N0 := Fr.nil n0
  have Zn := Z0
  have pre0 : ∀ t, Steps p.tables e below (s₁.setTop (mkF m 0 #[.val (.ref a)] [])) t → Steps p.tables e below (s₁.setTop (entryFrame m #[(.ref a)] 1)) t := fun t q => castTop (ef_L m a) q
  have k0 : ∀ t, Steps p.tables e below (s₁.setTop (mkF m 0 #[.val (.ref a)] [])) t → Steps p.tables e below (s₁.setTop (mkF m 0 #[.val (.ref a)] [])) t := fun t q => q
  obtain ⟨T1, X1, e1, st1⟩ := getS2 X0 hx hZ hown (host := "") (Or.inl (hw _ (List.mem_of_getElem? (i := 19) rfl))) Via.refl e0 SC (g := (mkF m 0 #[.val (.ref a)] [])) rfl (hb hby d_jdk_42_method_154_0)
  have k2_ : ∀ t, Steps p.tables e below (T1.setTop (mkF m 3 #[.val (.ref a)] [(.int cs)])) t → Steps p.tables e below (s₁.setTop (mkF m 0 #[.val (.ref a)] [])) t := fun t q => k0 t (st1 t q)
  have k3_ : ∀ t, Steps p.tables e below (T1.setTop (mkF m 6 #[.val (.ref a)] [])) t → Steps p.tables e below (s₁.setTop (mkF m 0 #[.val (.ref a)] [])) t := by
    intro t q
    refine k2_ _ ?_
    show Steps p.tables e below (T1.setTop (mkF m 3 #[.val (.ref a)] [(.int cs)])) _
    refine XS.ifNo X1.here hx rfl (hb hby d_jdk_42_method_154_3) rfl ((if0 _ _).trans (feq hcs).1) ?_
    show Steps p.tables e below (T1.setTop (mkF m 6 #[.val (.ref a)] [])) _
    exact q
  have k4_ : ∀ t, Steps p.tables e below (T1.setTop (mkF m 7 #[.val (.ref a)] [(.ref a)])) t → Steps p.tables e below (s₁.setTop (mkF m 0 #[.val (.ref a)] [])) t := by
    intro t q
    refine k3_ _ ?_
    show Steps p.tables e below (T1.setTop (mkF m 6 #[.val (.ref a)] [])) _
    refine XS.aloadN X1.here hx rfl (hb hby d_jdk_42_method_154_6) rfl rfl ?_
    show Steps p.tables e below (T1.setTop (mkF m 7 #[.val (.ref a)] [(.ref a)])) _
    exact q
  obtain ⟨T5, X5, e5, st5⟩ := getF X1 hx hZ hown (host := "") (Or.inl (hw _ (List.mem_of_getElem? (i := 20) rfl))) Via.refl e1 FC (g := (mkF m 7 #[.val (.ref a)] [(.ref a)])) rfl rfl (hb hby d_jdk_42_method_154_7)
  have k6_ : ∀ t, Steps p.tables e below (T5.setTop (mkF m 10 #[.val (.ref a)] [(.int (0 : Int32))])) t → Steps p.tables e below (s₁.setTop (mkF m 0 #[.val (.ref a)] [])) t := fun t q => k4_ t (st5 t q)
  have k7_ : ∀ t, Steps p.tables e below (T5.setTop (mkF m 13 #[.val (.ref a)] [])) t → Steps p.tables e below (s₁.setTop (mkF m 0 #[.val (.ref a)] [])) t := by
    intro t q
    refine k6_ _ ?_
    show Steps p.tables e below (T5.setTop (mkF m 10 #[.val (.ref a)] [(.int (0 : Int32))])) _
    refine XS.ifNo X5.here hx rfl (hb hby d_jdk_42_method_154_10) rfl ((if0 _ _).trans (teq rfl).2) ?_
    show Steps p.tables e below (T5.setTop (mkF m 13 #[.val (.ref a)] [])) _
    exact q
  have k8_ : ∀ t, Steps p.tables e below (T5.setTop (mkF m 18 #[.val (.ref a)] [(.int (1 : Int32))])) t → Steps p.tables e below (s₁.setTop (mkF m 0 #[.val (.ref a)] [])) t := by
    intro t q
    refine k7_ _ ?_
    show Steps p.tables e below (T5.setTop (mkF m 13 #[.val (.ref a)] [])) _
    refine XS.iconst X5.here hx rfl (hb hby d_jdk_42_method_154_13) ?_
    show Steps p.tables e below (T5.setTop (mkF m 14 #[.val (.ref a)] [(.int (1 : Int32))])) _
    refine XS.goto X5.here hx rfl (pc0 := 14) (pc' := 18) rfl (hb hby d_jdk_42_method_154_14) (by decide) (by decide) ?_
    show Steps p.tables e below (T5.setTop (mkF m 18 #[.val (.ref a)] [(.int (1 : Int32))])) _
    exact q
  obtain ⟨fs, hr, hrun, hended, hW, hsame⟩ := X5.leave (v := some (.int (1 : Int32))) (fun h => by rw [Bd.returns] at h; cases h)
  refine ⟨_, _, pre0 _ (k8_ _ ?_), hrun, hended, _, _, rfl, ?_, ⟨_, rfl⟩, hW, hsame.mono (by decide) (by decide)⟩
  · show Steps p.tables e below (T5.setTop (mkF m 18 #[.val (.ref a)] [(.int (1 : Int32))])) _
    exact retN X5 hx (t := .boolean) Bd.returns (by simp) (hb hby d_jdk_42_method_154_18) hr
  · show QL Z a cs h0 n0 _ T5.heap _
    rw [e5]
    exact ⟨rfl, N0, rfl⟩
def QA (Z : State) (a : Addr) (cs : Int32) (b : Addr) (i : Int32) (k : ClassId) (z : Int32) (vs : List Value) (bv : Int32) (fv : Value) (h0 : Heap) (n0 : Nat) (v : Option Value) (h : Heap) (L : List Loc) : Prop := v = some (.int (bv &&& (255 : Int32))) ∧ Fr n0 L ∧ h = h0
theorem ef_A (m : MethodId) (x0 : Addr) (x1 : Int32) : entryFrame m #[(.ref x0), (.int x1)] 2 = mkF m 0 #[.val (.ref x0), .val (.int x1)] [] := by first | (simp [entryFrame, mkF, argsToLocals, Value.category]; done) | rfl
theorem d_jdk_42_method_56_0 : decode jdk_42_method_56_code 0 = .ok (.aload_n 0, 1) := by decide +kernel
theorem pd_48338 : parseMethodDescriptor "()Z" = some ⟨[], some .boolean⟩ := by decide +kernel
theorem d_jdk_42_method_56_1 : decode jdk_42_method_56_code 1 = .ok (.invokevirtual 492, 3) := by decide +kernel
theorem d_jdk_42_method_56_4 : decode jdk_42_method_56_code 4 = .ok (.ifCond .eq 12, 3) := by decide +kernel
theorem d_jdk_42_method_56_7 : decode jdk_42_method_56_code 7 = .ok (.aload_n 0, 1) := by decide +kernel
theorem d_jdk_42_method_56_8 : decode jdk_42_method_56_code 8 = .ok (.getfield 9, 3) := by decide +kernel
theorem d_jdk_42_method_56_11 : decode jdk_42_method_56_code 11 = .ok (.iload_n 1, 1) := by decide +kernel
theorem pd_47586 : parseMethodDescriptor "([BI)C" = some ⟨[(.array .byte), .int], some .char⟩ := by decide +kernel
theorem d_jdk_42_method_56_12 : decode jdk_42_method_56_code 12 = .ok (.invokestatic 495, 3) := by decide +kernel
theorem d_jdk_42_method_56_15 : decode jdk_42_method_56_code 15 = .ok (.ireturn, 1) := by decide +kernel
set_option maxRecDepth 65536 in
set_option maxHeartbeats 40000000 in
theorem rmA (l : Launch) (Z : State) (a0 : Array Value) (hw : ∀ d ∈ tables_1, d.before a0 Z = true) (ws : List Jvm.Cond) (a : Addr) (cs : Int32) (b : Addr) (i : Int32) (k : ClassId) (z : Int32) (vs : List Value) (bv : Int32) (fv : Value) (h0 : Heap) (n0 : Nat) (Z0 : n0 ≤ h0.size) (EA : Exa Z h0 a "java/lang/String") (FC : Fld Z h0 a "java/lang/String" "coder" "B" (.int 0)) (FV : Fld Z h0 a "java/lang/String" "value" "[B" (.ref b)) (SC : Sta Z h0 "java/lang/String" "COMPACT_STRINGS" "Z" (.int cs)) (hcs : ¬ cs = (0 : Int32)) (VB : Arv Z h0 b k .byte z vs (.int 0)) (hi0 : ¬ i < (0 : Int32)) (hin : i < z) (hbv : vs.getD i.toNatClampNeg (.int 0) = .int bv) (SF : Sta Z h0 "jdk/internal/util/Preconditions" "SIOOBE_FORMATTER" "Ljava/util/function/BiFunction;" fv) (hf : fv.isRef = true) :
    MetFree l (⟨"java/lang/String", "charAt", "(I)C"⟩ : MethodName) (head1 (Jvm.Cond.code (⟨"java/lang/String", "charAt", "(I)C"⟩ : MethodName) jdk_42_method_56_code 2 (some .char) :: ws) ({ frames := 3, cells := 0, slots := 0, locals := 40 } : Room)) (fun a' U => a' = #[(.ref a), (.int i)] ∧ Z.Warmed39 U.vm ∧ U.heap = h0) (fun _ _ _ _ _ => True) (fun _ U o U' => ∃ v L, o = .returned v ∧ QA Z a cs b i k z vs bv fv h0 n0 v U'.heap L ∧ FrameEnd U o U' L ({ frames := 3, cells := 0, slots := 0, locals := 40 } : Room).cells ({ frames := 3, cells := 0, slots := 0, locals := 40 } : Room).slots) := by
  refine MetFree.of_bodySF (plainFor_of_name pn_String) hisR ?_
  intro p e s m args below meth c s₁ Bd hml0 hP hK
  obtain ⟨rfl, hZ, hh⟩ := hP
  have hx := Bd.exec
  have hby := Bd.bytes
  have hml : c.maxLocals = 2 := hml0
  have hown : s.vm.findClass "java/lang/String" = some m.cls := findClass_of_methodNamed Bd.named
  have hnm := (name_of_methodNamed Bd.named Bd.method).1
  have X0 : Stand p l e ({ frames := 3, cells := 0, slots := 0, locals := 40 } : Room) s m #[(.ref a), (.int i)] below meth c s₁ [] 0 0 := Stand.of_body Bd
  have e0 : s₁.heap = h0 := by rw [← hh, Bd.state]; rfl
  have N0 := Fr.nil n0
  have Zn := Z0
  have pre0 : ∀ t, Steps p.tables e below (s₁.setTop (mkF m 0 #[.val (.ref a), .val (.int i)] [])) t → Steps p.tables e below (s₁.setTop (entryFrame m #[(.ref a), (.int i)] 2)) t := fun t q => castTop (ef_A m a i) q
  have k0 : ∀ t, Steps p.tables e below (s₁.setTop (mkF m 0 #[.val (.ref a), .val (.int i)] [])) t → Steps p.tables e below (s₁.setTop (mkF m 0 #[.val (.ref a), .val (.int i)] [])) t := fun t q => q
  have k1_ : ∀ t, Steps p.tables e below (s₁.setTop (mkF m 1 #[.val (.ref a), .val (.int i)] [(.ref a)])) t → Steps p.tables e below (s₁.setTop (mkF m 0 #[.val (.ref a), .val (.int i)] [])) t := by
    intro t q
    refine k0 _ ?_
    show Steps p.tables e below (s₁.setTop (mkF m 0 #[.val (.ref a), .val (.int i)] [])) _
    refine XS.aloadN X0.here hx rfl (hb hby d_jdk_42_method_56_0) rfl rfl ?_
    show Steps p.tables e below (s₁.setTop (mkF m 1 #[.val (.ref a), .val (.int i)] [(.ref a)])) _
    exact q
  obtain ⟨cq2, kq2, q2a, q2b, q2c⟩ := isOf hZ e0 EA
  obtain ⟨_, _, ⟨T2, L2, kk2, n2⟩, -, X2, ⟨Lc2, hQ2, l2, y2, z2⟩, st2⟩ := X0.virtualBack hx (y := (⟨"java/lang/String", "isLatin1", "()Z"⟩ : MethodName)) (z := (⟨"java/lang/String", "isLatin1", "()Z"⟩ : MethodName)) hown (mvT hZ (hw _ (List.mem_of_getElem? (i := 14) rfl))) (mvT hZ (hw _ (List.mem_of_getElem? (i := 15) rfl))) (notFace_of_selects (args := #[]) (mvT hZ (hw _ (List.mem_of_getElem? (i := 17) rfl)))) (mvT hZ (hw _ (List.mem_of_getElem? (i := 17) rfl))) (mvT hZ (hw _ (List.mem_of_getElem? (i := 16) rfl))) (by decide) (backOf (W := 0) (rmL l Z a0 hw [] a cs h0 n0 Zn SC hcs FC) hZ (hw _ (List.mem_of_getElem? (i := 18) rfl)) (hw _ (List.mem_of_getElem? (i := 2) rfl)) (by decide) (by decide)) q2a q2c (g := (mkF m 1 #[.val (.ref a), .val (.int i)] [(.ref a)])) rfl (by rw [hml]; rfl) (Steps.refl _) (argsL := []) (rest := []) (lenOf pd_48338 rfl) rfl (by show 2 * 0 + _ ≤ _; exact Nat.le_of_eq rfl) (hb hby d_jdk_42_method_56_1) (fun _ _ => ⟨rfl, e0, (by decide : 0 + 0 ≤ _), (by decide : 0 + 0 ≤ _)⟩)
  dsimp only [Pt.U, Pt.locs, Pt.cells, Pt.slots] at X2 l2 y2 z2 st2 hQ2
  subst l2 y2 z2
  obtain ⟨rfl, Nq2, hq2⟩ := hQ2
  have N2 := Fr.app N0 Nq2
  have k3_ : ∀ t, Steps p.tables e below (T2.setTop (mkF m 4 #[.val (.ref a), .val (.int i)] [(.int (1 : Int32))])) t → Steps p.tables e below (s₁.setTop (mkF m 0 #[.val (.ref a), .val (.int i)] [])) t := fun t q => k1_ t (st2.trans q)
  have k4_ : ∀ t, Steps p.tables e below (T2.setTop (mkF m 7 #[.val (.ref a), .val (.int i)] [])) t → Steps p.tables e below (s₁.setTop (mkF m 0 #[.val (.ref a), .val (.int i)] [])) t := by
    intro t q
    refine k3_ _ ?_
    show Steps p.tables e below (T2.setTop (mkF m 4 #[.val (.ref a), .val (.int i)] [(.int (1 : Int32))])) _
    refine XS.ifNo X2.here hx rfl (hb hby d_jdk_42_method_56_4) rfl ((if0 _ _).trans (feq (by decide)).1) ?_
    show Steps p.tables e below (T2.setTop (mkF m 7 #[.val (.ref a), .val (.int i)] [])) _
    exact q
  have k5_ : ∀ t, Steps p.tables e below (T2.setTop (mkF m 8 #[.val (.ref a), .val (.int i)] [(.ref a)])) t → Steps p.tables e below (s₁.setTop (mkF m 0 #[.val (.ref a), .val (.int i)] [])) t := by
    intro t q
    refine k4_ _ ?_
    show Steps p.tables e below (T2.setTop (mkF m 7 #[.val (.ref a), .val (.int i)] [])) _
    refine XS.aloadN X2.here hx rfl (hb hby d_jdk_42_method_56_7) rfl rfl ?_
    show Steps p.tables e below (T2.setTop (mkF m 8 #[.val (.ref a), .val (.int i)] [(.ref a)])) _
    exact q
  obtain ⟨T6, X6, e6, st6⟩ := getF X2 hx hZ hown (host := "") (Or.inl (hw _ (List.mem_of_getElem? (i := 21) rfl))) Via.refl hq2 FV (g := (mkF m 8 #[.val (.ref a), .val (.int i)] [(.ref a)])) rfl rfl (hb hby d_jdk_42_method_56_8)
  have k7_ : ∀ t, Steps p.tables e below (T6.setTop (mkF m 11 #[.val (.ref a), .val (.int i)] [(.ref b)])) t → Steps p.tables e below (s₁.setTop (mkF m 0 #[.val (.ref a), .val (.int i)] [])) t := fun t q => k5_ t (st6 t q)
  have k8_ : ∀ t, Steps p.tables e below (T6.setTop (mkF m 12 #[.val (.ref a), .val (.int i)] [(.int i), (.ref b)])) t → Steps p.tables e below (s₁.setTop (mkF m 0 #[.val (.ref a), .val (.int i)] [])) t := by
    intro t q
    refine k7_ _ ?_
    show Steps p.tables e below (T6.setTop (mkF m 11 #[.val (.ref a), .val (.int i)] [(.ref b)])) _
    refine XS.iloadN X6.here hx rfl (hb hby d_jdk_42_method_56_11) rfl ?_
    show Steps p.tables e below (T6.setTop (mkF m 12 #[.val (.ref a), .val (.int i)] [(.int i), (.ref b)])) _
    exact q
  obtain ⟨_, _, ⟨T9, L9, kk9, n9⟩, -, X9, ⟨Lc9, hQ9, l9, y9, z9⟩, st9⟩ := Jvm.LawKit.callS X6 hx (y := (⟨"java/lang/StringLatin1", "charAt", "([BI)C"⟩ : MethodName)) hown (mvT hZ (hw _ (List.mem_of_getElem? (i := 22) rfl))) (mvT hZ (hw _ (List.mem_of_getElem? (i := 23) rfl))) (mvT hZ (hw _ (List.mem_of_getElem? (i := 24) rfl))) (mvT hZ (hw _ (List.mem_of_getElem? (i := 25) rfl))) (by decide) (backOf (W := 0) (rmM l Z a0 hw [] b i k z vs bv fv h0 n0 Zn VB hi0 hin hbv SF hf) hZ (hw _ (List.mem_of_getElem? (i := 25) rfl)) (hw _ (List.mem_of_getElem? (i := 24) rfl)) (by decide) (by decide)) (g := (mkF m 12 #[.val (.ref a), .val (.int i)] [(.int i), (.ref b)])) rfl (by rw [hml]; rfl) (argsL := [(.ref b), (.int i)]) (rest := []) (lenOf pd_47586 rfl) rfl (by show 2 * 0 + _ ≤ _; exact Nat.le_of_eq rfl) (hb hby d_jdk_42_method_56_12) (fun _ _ => ⟨rfl, e6, (by decide : 0 + 0 + 0 ≤ _), (by decide : 0 + 0 + 0 ≤ _)⟩)
  dsimp only [Pt.U, Pt.locs, Pt.cells, Pt.slots] at X9 l9 y9 z9 st9 hQ9
  subst l9 y9 z9
  obtain ⟨rfl, Nq9, hq9⟩ := hQ9
  have N9 := Fr.app N2 Nq9
  have k10_ : ∀ t, Steps p.tables e below (T9.setTop (mkF m 15 #[.val (.ref a), .val (.int i)] [(.int (bv &&& (255 : Int32)))])) t → Steps p.tables e below (s₁.setTop (mkF m 0 #[.val (.ref a), .val (.int i)] [])) t := fun t q => k8_ t (st9 t q)
  obtain ⟨fs, hr, hrun, hended, hW, hsame⟩ := X9.leave (v := some (.int (nar .char (bv &&& (255 : Int32))))) (fun h => by rw [Bd.returns] at h; cases h)
  refine ⟨_, _, pre0 _ (k10_ _ ?_), hrun, hended, _, _, rfl, ?_, ⟨_, rfl⟩, hW, hsame.mono (by decide) (by decide)⟩
  · show Steps p.tables e below (T9.setTop (mkF m 15 #[.val (.ref a), .val (.int i)] [(.int (bv &&& (255 : Int32)))])) _
    exact retN X9 hx (t := .char) Bd.returns (by simp) (hb hby d_jdk_42_method_56_15) hr
  · show QA Z a cs b i k z vs bv fv h0 n0 _ T9.heap _
    rw [hq9]
    exact ⟨congrArg (fun q => some (Value.int q)) (i2c_mask bv), N9, rfl⟩
def QD (Z : State) (p1 : Int32) (h0 : Heap) (n0 : Nat) (v : Option Value) (h : Heap) (L : List Loc) : Prop := v = some (.int (bi (own_dg p1))) ∧ Fr n0 L ∧ h = h0
theorem ef_D (m : MethodId) (x0 : Int32) : entryFrame m #[(.int x0)] 1 = mkF m 0 #[.val (.int x0)] [] := by first | (simp [entryFrame, mkF, argsToLocals, Value.category]; done) | rfl
theorem pn_UriSyntax : plainName "com/example/lean_router/leanrouter/uri/UriSyntax" = true := by first | (simp [plainName, overriddenIn]; done) | decide +kernel
theorem d_prog_34_method_11_0 : decode prog_34_method_11_code 0 = .ok (.iload_n 0, 1) := by decide +kernel
theorem d_prog_34_method_11_1 : decode prog_34_method_11_code 1 = .ok (.bipush 48, 2) := by decide +kernel
theorem d_prog_34_method_11_3 : decode prog_34_method_11_code 3 = .ok (.if_icmp .lt 13, 3) := by decide +kernel
theorem d_prog_34_method_11_16 : decode prog_34_method_11_code 16 = .ok (.iconst 0, 1) := by decide +kernel
theorem d_prog_34_method_11_6 : decode prog_34_method_11_code 6 = .ok (.iload_n 0, 1) := by decide +kernel
theorem d_prog_34_method_11_7 : decode prog_34_method_11_code 7 = .ok (.bipush 57, 2) := by decide +kernel
theorem d_prog_34_method_11_9 : decode prog_34_method_11_code 9 = .ok (.if_icmp .gt 7, 3) := by decide +kernel
theorem d_prog_34_method_11_12 : decode prog_34_method_11_code 12 = .ok (.iconst 1, 1) := by decide +kernel
theorem d_prog_34_method_11_13 : decode prog_34_method_11_code 13 = .ok (.goto 4, 3) := by decide +kernel
theorem d_prog_34_method_11_17 : decode prog_34_method_11_code 17 = .ok (.ireturn, 1) := by decide +kernel
set_option maxRecDepth 65536 in
set_option maxHeartbeats 40000000 in
theorem rmD (l : Launch) (Z : State) (a0 : Array Value) (hw : ∀ d ∈ tables_1, d.before a0 Z = true) (ws : List Jvm.Cond) (p1 : Int32) (h0 : Heap) (n0 : Nat) (Z0 : n0 ≤ h0.size) :
    MetFree l (⟨"com/example/lean_router/leanrouter/uri/UriSyntax", "isDigit", "(I)Z"⟩ : MethodName) (head1 (Jvm.Cond.code (⟨"com/example/lean_router/leanrouter/uri/UriSyntax", "isDigit", "(I)Z"⟩ : MethodName) prog_34_method_11_code 1 (some .boolean) :: ws) ({ frames := 0, cells := 0, slots := 0, locals := 0 } : Room)) (fun a' U => a' = #[(.int p1)] ∧ Z.Warmed39 U.vm ∧ U.heap = h0) (fun _ _ _ _ _ => True) (fun _ U o U' => ∃ v L, o = .returned v ∧ QD Z p1 h0 n0 v U'.heap L ∧ FrameEnd U o U' L ({ frames := 0, cells := 0, slots := 0, locals := 0 } : Room).cells ({ frames := 0, cells := 0, slots := 0, locals := 0 } : Room).slots) := by
  refine MetFree.of_bodySF (plainFor_of_name pn_UriSyntax) hisR ?_
  intro p e s m args below meth c s₁ Bd hml0 hP hK
  obtain ⟨rfl, hZ, hh⟩ := hP
  have hx := Bd.exec
  have hby := Bd.bytes
  have hml : c.maxLocals = 1 := hml0
  have hown : s.vm.findClass "com/example/lean_router/leanrouter/uri/UriSyntax" = some m.cls := findClass_of_methodNamed Bd.named
  have hnm := (name_of_methodNamed Bd.named Bd.method).1
  have X0 : Stand p l e ({ frames := 0, cells := 0, slots := 0, locals := 0 } : Room) s m #[(.int p1)] below meth c s₁ [] 0 0 := Stand.of_body Bd
  have e0 : s₁.heap = h0 := by rw [← hh, Bd.state]; rfl
  have N0 := Fr.nil n0
  have Zn := Z0
  have pre0 : ∀ t, Steps p.tables e below (s₁.setTop (mkF m 0 #[.val (.int p1)] [])) t → Steps p.tables e below (s₁.setTop (entryFrame m #[(.int p1)] 1)) t := fun t q => castTop (ef_D m p1) q
  have k0 : ∀ t, Steps p.tables e below (s₁.setTop (mkF m 0 #[.val (.int p1)] [])) t → Steps p.tables e below (s₁.setTop (mkF m 0 #[.val (.int p1)] [])) t := fun t q => q
  have k1_ : ∀ t, Steps p.tables e below (s₁.setTop (mkF m 17 #[.val (.int p1)] [(.int (bi (own_dg p1)))])) t → Steps p.tables e below (s₁.setTop (mkF m 0 #[.val (.int p1)] [])) t := by
    intro t q
    refine k0 _ ?_
    show Steps p.tables e below (s₁.setTop (mkF m 0 #[.val (.int p1)] [])) _
    refine XS.iloadN X0.here hx rfl (hb hby d_prog_34_method_11_0) rfl ?_
    show Steps p.tables e below (s₁.setTop (mkF m 1 #[.val (.int p1)] [(.int p1)])) _
    refine XS.bipush X0.here hx rfl (hb hby d_prog_34_method_11_1) ?_
    show Steps p.tables e below (s₁.setTop (mkF m 3 #[.val (.int p1)] [(.int (48 : Int32)), (.int p1)])) _
    by_cases hc3 : p1 < (48 : Int32)
    · refine XS.icmpYes X0.here hx rfl (pc0 := 3) (pc' := 16) rfl (hb hby d_prog_34_method_11_3) rfl (tlt hc3).1 (by decide) (by decide) ?_
      show Steps p.tables e below (s₁.setTop (mkF m 16 #[.val (.int p1)] [])) _
      refine XS.iconst X0.here hx rfl (hb hby d_prog_34_method_11_16) ?_
      show Steps p.tables e below (s₁.setTop (mkF m 17 #[.val (.int p1)] [(.int (0 : Int32))])) _
      have w0 : (bi (own_dg p1)) = (0 : Int32) := by exact bi_f (by simp [own_dg, hc3])
      replace q := Eq.mp (congrArg (fun z => Steps p.tables e below (s₁.setTop (mkF m 17 #[.val (.int p1)] [(.int z)])) t) w0) q
      exact q
    · refine XS.icmpNo X0.here hx rfl (hb hby d_prog_34_method_11_3) rfl (flt hc3).1 ?_
      show Steps p.tables e below (s₁.setTop (mkF m 6 #[.val (.int p1)] [])) _
      refine XS.iloadN X0.here hx rfl (hb hby d_prog_34_method_11_6) rfl ?_
      show Steps p.tables e below (s₁.setTop (mkF m 7 #[.val (.int p1)] [(.int p1)])) _
      refine XS.bipush X0.here hx rfl (hb hby d_prog_34_method_11_7) ?_
      show Steps p.tables e below (s₁.setTop (mkF m 9 #[.val (.int p1)] [(.int (57 : Int32)), (.int p1)])) _
      by_cases hc9 : (57 : Int32) < p1
      · refine XS.icmpYes X0.here hx rfl (pc0 := 9) (pc' := 16) rfl (hb hby d_prog_34_method_11_9) rfl (tlt hc9).2.2.1 (by decide) (by decide) ?_
        show Steps p.tables e below (s₁.setTop (mkF m 16 #[.val (.int p1)] [])) _
        refine XS.iconst X0.here hx rfl (hb hby d_prog_34_method_11_16) ?_
        show Steps p.tables e below (s₁.setTop (mkF m 17 #[.val (.int p1)] [(.int (0 : Int32))])) _
        have w0 : (bi (own_dg p1)) = (0 : Int32) := by exact bi_f (by simp [own_dg, hc3, hc9])
        replace q := Eq.mp (congrArg (fun z => Steps p.tables e below (s₁.setTop (mkF m 17 #[.val (.int p1)] [(.int z)])) t) w0) q
        exact q
      · refine XS.icmpNo X0.here hx rfl (hb hby d_prog_34_method_11_9) rfl (flt hc9).2.2.1 ?_
        show Steps p.tables e below (s₁.setTop (mkF m 12 #[.val (.int p1)] [])) _
        refine XS.iconst X0.here hx rfl (hb hby d_prog_34_method_11_12) ?_
        show Steps p.tables e below (s₁.setTop (mkF m 13 #[.val (.int p1)] [(.int (1 : Int32))])) _
        refine XS.goto X0.here hx rfl (pc0 := 13) (pc' := 17) rfl (hb hby d_prog_34_method_11_13) (by decide) (by decide) ?_
        show Steps p.tables e below (s₁.setTop (mkF m 17 #[.val (.int p1)] [(.int (1 : Int32))])) _
        have w0 : (bi (own_dg p1)) = (1 : Int32) := by exact bi_t (by simp [own_dg, hc3, hc9])
        replace q := Eq.mp (congrArg (fun z => Steps p.tables e below (s₁.setTop (mkF m 17 #[.val (.int p1)] [(.int z)])) t) w0) q
        exact q
  obtain ⟨fs, hr, hrun, hended, hW, hsame⟩ := X0.leave (v := some (.int (nar .boolean (bi (own_dg p1))))) (fun h => by rw [Bd.returns] at h; cases h)
  refine ⟨_, _, pre0 _ (k1_ _ ?_), hrun, hended, _, _, rfl, ?_, ⟨_, rfl⟩, hW, hsame.mono (by decide) (by decide)⟩
  · show Steps p.tables e below (s₁.setTop (mkF m 17 #[.val (.int p1)] [(.int (bi (own_dg p1)))])) _
    exact retN X0 hx (t := .boolean) Bd.returns (by simp) (hb hby d_prog_34_method_11_17) hr
  · show QD Z p1 h0 n0 _ s₁.heap _
    rw [e0]
    exact ⟨by rw [bi_nar], N0, rfl⟩
def QH (Z : State) (p1 : Int32) (h0 : Heap) (n0 : Nat) (v : Option Value) (h : Heap) (L : List Loc) : Prop := v = some (.int (own_hex p1)) ∧ Fr n0 L ∧ h = h0
theorem ef_H (m : MethodId) (x0 : Int32) : entryFrame m #[(.int x0)] 2 = mkF m 0 #[.val (.int x0), .unset] [] := by first | (simp [entryFrame, mkF, argsToLocals, Value.category]; done) | rfl
theorem d_prog_34_method_8_0 : decode prog_34_method_8_code 0 = .ok (.iconst (-1), 1) := by decide +kernel
theorem d_prog_34_method_8_1 : decode prog_34_method_8_code 1 = .ok (.istore_n 1, 1) := by decide +kernel
theorem d_prog_34_method_8_2 : decode prog_34_method_8_code 2 = .ok (.iload_n 0, 1) := by decide +kernel
theorem pd_27780 : parseMethodDescriptor "(I)Z" = some ⟨[.int], some .boolean⟩ := by decide +kernel
theorem d_prog_34_method_8_3 : decode prog_34_method_8_code 3 = .ok (.invokestatic 27, 3) := by decide +kernel
theorem d_prog_34_method_8_6 : decode prog_34_method_8_code 6 = .ok (.ifCond .eq 11, 3) := by decide +kernel
theorem d_prog_34_method_8_17 : decode prog_34_method_8_code 17 = .ok (.iload_n 0, 1) := by decide +kernel
theorem d_prog_34_method_8_18 : decode prog_34_method_8_code 18 = .ok (.bipush 65, 2) := by decide +kernel
theorem d_prog_34_method_8_20 : decode prog_34_method_8_code 20 = .ok (.if_icmp .lt 20, 3) := by decide +kernel
theorem d_prog_34_method_8_40 : decode prog_34_method_8_code 40 = .ok (.iload_n 0, 1) := by decide +kernel
theorem d_prog_34_method_8_41 : decode prog_34_method_8_code 41 = .ok (.bipush 97, 2) := by decide +kernel
theorem d_prog_34_method_8_43 : decode prog_34_method_8_code 43 = .ok (.if_icmp .lt 17, 3) := by decide +kernel
theorem d_prog_34_method_8_46 : decode prog_34_method_8_code 46 = .ok (.iload_n 0, 1) := by decide +kernel
theorem d_prog_34_method_8_47 : decode prog_34_method_8_code 47 = .ok (.bipush 102, 2) := by decide +kernel
theorem d_prog_34_method_8_49 : decode prog_34_method_8_code 49 = .ok (.if_icmp .gt 11, 3) := by decide +kernel
theorem d_prog_34_method_8_52 : decode prog_34_method_8_code 52 = .ok (.iload_n 0, 1) := by decide +kernel
theorem d_prog_34_method_8_53 : decode prog_34_method_8_code 53 = .ok (.bipush 97, 2) := by decide +kernel
theorem d_prog_34_method_8_55 : decode prog_34_method_8_code 55 = .ok (.isub, 1) := by decide +kernel
theorem d_prog_34_method_8_56 : decode prog_34_method_8_code 56 = .ok (.bipush 10, 2) := by decide +kernel
theorem d_prog_34_method_8_58 : decode prog_34_method_8_code 58 = .ok (.iadd, 1) := by decide +kernel
theorem d_prog_34_method_8_59 : decode prog_34_method_8_code 59 = .ok (.istore_n 1, 1) := by decide +kernel
theorem d_prog_34_method_8_23 : decode prog_34_method_8_code 23 = .ok (.iload_n 0, 1) := by decide +kernel
theorem d_prog_34_method_8_24 : decode prog_34_method_8_code 24 = .ok (.bipush 70, 2) := by decide +kernel
theorem d_prog_34_method_8_26 : decode prog_34_method_8_code 26 = .ok (.if_icmp .gt 14, 3) := by decide +kernel
theorem d_prog_34_method_8_29 : decode prog_34_method_8_code 29 = .ok (.iload_n 0, 1) := by decide +kernel
theorem d_prog_34_method_8_30 : decode prog_34_method_8_code 30 = .ok (.bipush 65, 2) := by decide +kernel
theorem d_prog_34_method_8_32 : decode prog_34_method_8_code 32 = .ok (.isub, 1) := by decide +kernel
theorem d_prog_34_method_8_33 : decode prog_34_method_8_code 33 = .ok (.bipush 10, 2) := by decide +kernel
theorem d_prog_34_method_8_35 : decode prog_34_method_8_code 35 = .ok (.iadd, 1) := by decide +kernel
theorem d_prog_34_method_8_36 : decode prog_34_method_8_code 36 = .ok (.istore_n 1, 1) := by decide +kernel
theorem d_prog_34_method_8_37 : decode prog_34_method_8_code 37 = .ok (.goto 23, 3) := by decide +kernel
theorem d_prog_34_method_8_9 : decode prog_34_method_8_code 9 = .ok (.iload_n 0, 1) := by decide +kernel
theorem d_prog_34_method_8_10 : decode prog_34_method_8_code 10 = .ok (.bipush 48, 2) := by decide +kernel
theorem d_prog_34_method_8_12 : decode prog_34_method_8_code 12 = .ok (.isub, 1) := by decide +kernel
theorem d_prog_34_method_8_13 : decode prog_34_method_8_code 13 = .ok (.istore_n 1, 1) := by decide +kernel
theorem d_prog_34_method_8_14 : decode prog_34_method_8_code 14 = .ok (.goto 46, 3) := by decide +kernel
theorem d_prog_34_method_8_60 : decode prog_34_method_8_code 60 = .ok (.iload_n 1, 1) := by decide +kernel
theorem d_prog_34_method_8_61 : decode prog_34_method_8_code 61 = .ok (.ireturn, 1) := by decide +kernel
set_option maxRecDepth 65536 in
set_option maxHeartbeats 40000000 in
theorem rmH (l : Launch) (Z : State) (a0 : Array Value) (hw : ∀ d ∈ tables_1, d.before a0 Z = true) (ws : List Jvm.Cond) (p1 : Int32) (h0 : Heap) (n0 : Nat) (Z0 : n0 ≤ h0.size) :
    MetFree l (⟨"com/example/lean_router/leanrouter/uri/UriSyntax", "hexValue", "(I)I"⟩ : MethodName) (head1 (Jvm.Cond.code (⟨"com/example/lean_router/leanrouter/uri/UriSyntax", "hexValue", "(I)I"⟩ : MethodName) prog_34_method_8_code 2 (some .int) :: ws) ({ frames := 1, cells := 0, slots := 0, locals := 12 } : Room)) (fun a' U => a' = #[(.int p1)] ∧ Z.Warmed39 U.vm ∧ U.heap = h0) (fun _ _ _ _ _ => True) (fun _ U o U' => ∃ v L, o = .returned v ∧ QH Z p1 h0 n0 v U'.heap L ∧ FrameEnd U o U' L ({ frames := 1, cells := 0, slots := 0, locals := 12 } : Room).cells ({ frames := 1, cells := 0, slots := 0, locals := 12 } : Room).slots) := by
  refine MetFree.of_bodySF (plainFor_of_name pn_UriSyntax) hisR ?_
  intro p e s m args below meth c s₁ Bd hml0 hP hK
  obtain ⟨rfl, hZ, hh⟩ := hP
  have hx := Bd.exec
  have hby := Bd.bytes
  have hml : c.maxLocals = 2 := hml0
  have hown : s.vm.findClass "com/example/lean_router/leanrouter/uri/UriSyntax" = some m.cls := findClass_of_methodNamed Bd.named
  have hnm := (name_of_methodNamed Bd.named Bd.method).1
  have X0 : Stand p l e ({ frames := 1, cells := 0, slots := 0, locals := 12 } : Room) s m #[(.int p1)] below meth c s₁ [] 0 0 := Stand.of_body Bd
  have e0 : s₁.heap = h0 := by rw [← hh, Bd.state]; rfl
  have N0 := Fr.nil n0
  have Zn := Z0
  have pre0 : ∀ t, Steps p.tables e below (s₁.setTop (mkF m 0 #[.val (.int p1), .unset] [])) t → Steps p.tables e below (s₁.setTop (entryFrame m #[(.int p1)] 2)) t := fun t q => castTop (ef_H m p1) q
  have k0 : ∀ t, Steps p.tables e below (s₁.setTop (mkF m 0 #[.val (.int p1), .unset] [])) t → Steps p.tables e below (s₁.setTop (mkF m 0 #[.val (.int p1), .unset] [])) t := fun t q => q
  have k1_ : ∀ t, Steps p.tables e below (s₁.setTop (mkF m 3 #[.val (.int p1), .val (.int (-1 : Int32))] [(.int p1)])) t → Steps p.tables e below (s₁.setTop (mkF m 0 #[.val (.int p1), .unset] [])) t := by
    intro t q
    refine k0 _ ?_
    show Steps p.tables e below (s₁.setTop (mkF m 0 #[.val (.int p1), .unset] [])) _
    refine XS.iconst X0.here hx rfl (hb hby d_prog_34_method_8_0) ?_
    show Steps p.tables e below (s₁.setTop (mkF m 1 #[.val (.int p1), .unset] [(.int (-1 : Int32))])) _
    refine XS.istoreN X0.here hx rfl (hb hby d_prog_34_method_8_1) rfl (l' := #[.val (.int p1), .val (.int (-1 : Int32))]) rfl ?_
    show Steps p.tables e below (s₁.setTop (mkF m 2 #[.val (.int p1), .val (.int (-1 : Int32))] [])) _
    refine XS.iloadN X0.here hx rfl (hb hby d_prog_34_method_8_2) rfl ?_
    show Steps p.tables e below (s₁.setTop (mkF m 3 #[.val (.int p1), .val (.int (-1 : Int32))] [(.int p1)])) _
    exact q
  obtain ⟨_, _, ⟨T2, L2, kk2, n2⟩, -, X2, ⟨Lc2, hQ2, l2, y2, z2⟩, st2⟩ := Jvm.LawKit.callS X0 hx (y := (⟨"com/example/lean_router/leanrouter/uri/UriSyntax", "isDigit", "(I)Z"⟩ : MethodName)) hown (mvT hZ (hw _ (List.mem_of_getElem? (i := 38) rfl))) (mvT hZ (hw _ (List.mem_of_getElem? (i := 39) rfl))) (mvT hZ (hw _ (List.mem_of_getElem? (i := 36) rfl))) (mvT hZ (hw _ (List.mem_of_getElem? (i := 40) rfl))) (by decide) (backOf (W := 0) (rmD l Z a0 hw [] p1 h0 n0 Zn) hZ (hw _ (List.mem_of_getElem? (i := 40) rfl)) (hw _ (List.mem_of_getElem? (i := 36) rfl)) (by decide) (by decide)) (g := (mkF m 3 #[.val (.int p1), .val (.int (-1 : Int32))] [(.int p1)])) rfl (by rw [hml]; rfl) (argsL := [(.int p1)]) (rest := []) (lenOf pd_27780 rfl) rfl (by show 2 * 0 + _ ≤ _; exact Nat.le_of_eq rfl) (hb hby d_prog_34_method_8_3) (fun _ _ => ⟨rfl, e0, (by decide : 0 + 0 ≤ _), (by decide : 0 + 0 ≤ _)⟩)
  dsimp only [Pt.U, Pt.locs, Pt.cells, Pt.slots] at X2 l2 y2 z2 st2 hQ2
  subst l2 y2 z2
  obtain ⟨rfl, Nq2, hq2⟩ := hQ2
  have N2 := Fr.app N0 Nq2
  have k3_ : ∀ t, Steps p.tables e below (T2.setTop (mkF m 6 #[.val (.int p1), .val (.int (-1 : Int32))] [(.int (bi (own_dg p1)))])) t → Steps p.tables e below (s₁.setTop (mkF m 0 #[.val (.int p1), .unset] [])) t := fun t q => k1_ t (st2 t q)
  have k4_ : ∀ t, Steps p.tables e below (T2.setTop (mkF m 60 #[.val (.int p1), .val (.int (own_hex p1))] [])) t → Steps p.tables e below (s₁.setTop (mkF m 0 #[.val (.int p1), .unset] [])) t := by
    intro t q
    refine k3_ _ ?_
    show Steps p.tables e below (T2.setTop (mkF m 6 #[.val (.int p1), .val (.int (-1 : Int32))] [(.int (bi (own_dg p1)))])) _
    by_cases hc6 : (bi (own_dg p1)) = (0 : Int32)
    · refine XS.ifYes X2.here hx rfl (pc0 := 6) (pc' := 17) rfl (hb hby d_prog_34_method_8_6) rfl ((if0 _ _).trans (teq hc6).1) (by decide) (by decide) ?_
      show Steps p.tables e below (T2.setTop (mkF m 17 #[.val (.int p1), .val (.int (-1 : Int32))] [])) _
      refine XS.iloadN X2.here hx rfl (hb hby d_prog_34_method_8_17) rfl ?_
      show Steps p.tables e below (T2.setTop (mkF m 18 #[.val (.int p1), .val (.int (-1 : Int32))] [(.int p1)])) _
      refine XS.bipush X2.here hx rfl (hb hby d_prog_34_method_8_18) ?_
      show Steps p.tables e below (T2.setTop (mkF m 20 #[.val (.int p1), .val (.int (-1 : Int32))] [(.int (65 : Int32)), (.int p1)])) _
      by_cases hc20 : p1 < (65 : Int32)
      · refine XS.icmpYes X2.here hx rfl (pc0 := 20) (pc' := 40) rfl (hb hby d_prog_34_method_8_20) rfl (tlt hc20).1 (by decide) (by decide) ?_
        show Steps p.tables e below (T2.setTop (mkF m 40 #[.val (.int p1), .val (.int (-1 : Int32))] [])) _
        refine XS.iloadN X2.here hx rfl (hb hby d_prog_34_method_8_40) rfl ?_
        show Steps p.tables e below (T2.setTop (mkF m 41 #[.val (.int p1), .val (.int (-1 : Int32))] [(.int p1)])) _
        refine XS.bipush X2.here hx rfl (hb hby d_prog_34_method_8_41) ?_
        show Steps p.tables e below (T2.setTop (mkF m 43 #[.val (.int p1), .val (.int (-1 : Int32))] [(.int (97 : Int32)), (.int p1)])) _
        by_cases hc43 : p1 < (97 : Int32)
        · refine XS.icmpYes X2.here hx rfl (pc0 := 43) (pc' := 60) rfl (hb hby d_prog_34_method_8_43) rfl (tlt hc43).1 (by decide) (by decide) ?_
          show Steps p.tables e below (T2.setTop (mkF m 60 #[.val (.int p1), .val (.int (-1 : Int32))] [])) _
          have w0 : (own_hex p1) = (-1 : Int32) := by unfold own_hex; simp [hc6, hc20, hc43]
          replace q := Eq.mp (congrArg (fun z => Steps p.tables e below (T2.setTop (mkF m 60 #[.val (.int p1), .val (.int z)] [])) t) w0) q
          exact q
        · refine XS.icmpNo X2.here hx rfl (hb hby d_prog_34_method_8_43) rfl (flt hc43).1 ?_
          show Steps p.tables e below (T2.setTop (mkF m 46 #[.val (.int p1), .val (.int (-1 : Int32))] [])) _
          refine XS.iloadN X2.here hx rfl (hb hby d_prog_34_method_8_46) rfl ?_
          show Steps p.tables e below (T2.setTop (mkF m 47 #[.val (.int p1), .val (.int (-1 : Int32))] [(.int p1)])) _
          refine XS.bipush X2.here hx rfl (hb hby d_prog_34_method_8_47) ?_
          show Steps p.tables e below (T2.setTop (mkF m 49 #[.val (.int p1), .val (.int (-1 : Int32))] [(.int (102 : Int32)), (.int p1)])) _
          by_cases hc49 : (102 : Int32) < p1
          · refine XS.icmpYes X2.here hx rfl (pc0 := 49) (pc' := 60) rfl (hb hby d_prog_34_method_8_49) rfl (tlt hc49).2.2.1 (by decide) (by decide) ?_
            show Steps p.tables e below (T2.setTop (mkF m 60 #[.val (.int p1), .val (.int (-1 : Int32))] [])) _
            have w0 : (own_hex p1) = (-1 : Int32) := by unfold own_hex; simp [hc6, hc20, hc43, hc49]
            replace q := Eq.mp (congrArg (fun z => Steps p.tables e below (T2.setTop (mkF m 60 #[.val (.int p1), .val (.int z)] [])) t) w0) q
            exact q
          · refine XS.icmpNo X2.here hx rfl (hb hby d_prog_34_method_8_49) rfl (flt hc49).2.2.1 ?_
            show Steps p.tables e below (T2.setTop (mkF m 52 #[.val (.int p1), .val (.int (-1 : Int32))] [])) _
            refine XS.iloadN X2.here hx rfl (hb hby d_prog_34_method_8_52) rfl ?_
            show Steps p.tables e below (T2.setTop (mkF m 53 #[.val (.int p1), .val (.int (-1 : Int32))] [(.int p1)])) _
            refine XS.bipush X2.here hx rfl (hb hby d_prog_34_method_8_53) ?_
            show Steps p.tables e below (T2.setTop (mkF m 55 #[.val (.int p1), .val (.int (-1 : Int32))] [(.int (97 : Int32)), (.int p1)])) _
            refine XS.isub X2.here hx rfl (hb hby d_prog_34_method_8_55) rfl ?_
            show Steps p.tables e below (T2.setTop (mkF m 56 #[.val (.int p1), .val (.int (-1 : Int32))] [(.int (p1 - (97 : Int32)))])) _
            refine XS.bipush X2.here hx rfl (hb hby d_prog_34_method_8_56) ?_
            show Steps p.tables e below (T2.setTop (mkF m 58 #[.val (.int p1), .val (.int (-1 : Int32))] [(.int (10 : Int32)), (.int (p1 - (97 : Int32)))])) _
            refine XS.iadd X2.here hx rfl (hb hby d_prog_34_method_8_58) rfl ?_
            show Steps p.tables e below (T2.setTop (mkF m 59 #[.val (.int p1), .val (.int (-1 : Int32))] [(.int ((p1 - (97 : Int32)) + (10 : Int32)))])) _
            refine XS.istoreN X2.here hx rfl (hb hby d_prog_34_method_8_59) rfl (l' := #[.val (.int p1), .val (.int ((p1 - (97 : Int32)) + (10 : Int32)))]) rfl ?_
            show Steps p.tables e below (T2.setTop (mkF m 60 #[.val (.int p1), .val (.int ((p1 - (97 : Int32)) + (10 : Int32)))] [])) _
            have w0 : (own_hex p1) = ((p1 - (97 : Int32)) + (10 : Int32)) := by unfold own_hex; simp [hc6, hc20, hc43, hc49]
            replace q := Eq.mp (congrArg (fun z => Steps p.tables e below (T2.setTop (mkF m 60 #[.val (.int p1), .val (.int z)] [])) t) w0) q
            exact q
      · refine XS.icmpNo X2.here hx rfl (hb hby d_prog_34_method_8_20) rfl (flt hc20).1 ?_
        show Steps p.tables e below (T2.setTop (mkF m 23 #[.val (.int p1), .val (.int (-1 : Int32))] [])) _
        refine XS.iloadN X2.here hx rfl (hb hby d_prog_34_method_8_23) rfl ?_
        show Steps p.tables e below (T2.setTop (mkF m 24 #[.val (.int p1), .val (.int (-1 : Int32))] [(.int p1)])) _
        refine XS.bipush X2.here hx rfl (hb hby d_prog_34_method_8_24) ?_
        show Steps p.tables e below (T2.setTop (mkF m 26 #[.val (.int p1), .val (.int (-1 : Int32))] [(.int (70 : Int32)), (.int p1)])) _
        by_cases hc26 : (70 : Int32) < p1
        · refine XS.icmpYes X2.here hx rfl (pc0 := 26) (pc' := 40) rfl (hb hby d_prog_34_method_8_26) rfl (tlt hc26).2.2.1 (by decide) (by decide) ?_
          show Steps p.tables e below (T2.setTop (mkF m 40 #[.val (.int p1), .val (.int (-1 : Int32))] [])) _
          refine XS.iloadN X2.here hx rfl (hb hby d_prog_34_method_8_40) rfl ?_
          show Steps p.tables e below (T2.setTop (mkF m 41 #[.val (.int p1), .val (.int (-1 : Int32))] [(.int p1)])) _
          refine XS.bipush X2.here hx rfl (hb hby d_prog_34_method_8_41) ?_
          show Steps p.tables e below (T2.setTop (mkF m 43 #[.val (.int p1), .val (.int (-1 : Int32))] [(.int (97 : Int32)), (.int p1)])) _
          by_cases hc43 : p1 < (97 : Int32)
          · refine XS.icmpYes X2.here hx rfl (pc0 := 43) (pc' := 60) rfl (hb hby d_prog_34_method_8_43) rfl (tlt hc43).1 (by decide) (by decide) ?_
            show Steps p.tables e below (T2.setTop (mkF m 60 #[.val (.int p1), .val (.int (-1 : Int32))] [])) _
            have w0 : (own_hex p1) = (-1 : Int32) := by unfold own_hex; simp [hc6, hc20, hc26, hc43]
            replace q := Eq.mp (congrArg (fun z => Steps p.tables e below (T2.setTop (mkF m 60 #[.val (.int p1), .val (.int z)] [])) t) w0) q
            exact q
          · refine XS.icmpNo X2.here hx rfl (hb hby d_prog_34_method_8_43) rfl (flt hc43).1 ?_
            show Steps p.tables e below (T2.setTop (mkF m 46 #[.val (.int p1), .val (.int (-1 : Int32))] [])) _
            refine XS.iloadN X2.here hx rfl (hb hby d_prog_34_method_8_46) rfl ?_
            show Steps p.tables e below (T2.setTop (mkF m 47 #[.val (.int p1), .val (.int (-1 : Int32))] [(.int p1)])) _
            refine XS.bipush X2.here hx rfl (hb hby d_prog_34_method_8_47) ?_
            show Steps p.tables e below (T2.setTop (mkF m 49 #[.val (.int p1), .val (.int (-1 : Int32))] [(.int (102 : Int32)), (.int p1)])) _
            by_cases hc49 : (102 : Int32) < p1
            · refine XS.icmpYes X2.here hx rfl (pc0 := 49) (pc' := 60) rfl (hb hby d_prog_34_method_8_49) rfl (tlt hc49).2.2.1 (by decide) (by decide) ?_
              show Steps p.tables e below (T2.setTop (mkF m 60 #[.val (.int p1), .val (.int (-1 : Int32))] [])) _
              have w0 : (own_hex p1) = (-1 : Int32) := by unfold own_hex; simp [hc6, hc20, hc26, hc43, hc49]
              replace q := Eq.mp (congrArg (fun z => Steps p.tables e below (T2.setTop (mkF m 60 #[.val (.int p1), .val (.int z)] [])) t) w0) q
              exact q
            · refine XS.icmpNo X2.here hx rfl (hb hby d_prog_34_method_8_49) rfl (flt hc49).2.2.1 ?_
              show Steps p.tables e below (T2.setTop (mkF m 52 #[.val (.int p1), .val (.int (-1 : Int32))] [])) _
              refine XS.iloadN X2.here hx rfl (hb hby d_prog_34_method_8_52) rfl ?_
              show Steps p.tables e below (T2.setTop (mkF m 53 #[.val (.int p1), .val (.int (-1 : Int32))] [(.int p1)])) _
              refine XS.bipush X2.here hx rfl (hb hby d_prog_34_method_8_53) ?_
              show Steps p.tables e below (T2.setTop (mkF m 55 #[.val (.int p1), .val (.int (-1 : Int32))] [(.int (97 : Int32)), (.int p1)])) _
              refine XS.isub X2.here hx rfl (hb hby d_prog_34_method_8_55) rfl ?_
              show Steps p.tables e below (T2.setTop (mkF m 56 #[.val (.int p1), .val (.int (-1 : Int32))] [(.int (p1 - (97 : Int32)))])) _
              refine XS.bipush X2.here hx rfl (hb hby d_prog_34_method_8_56) ?_
              show Steps p.tables e below (T2.setTop (mkF m 58 #[.val (.int p1), .val (.int (-1 : Int32))] [(.int (10 : Int32)), (.int (p1 - (97 : Int32)))])) _
              refine XS.iadd X2.here hx rfl (hb hby d_prog_34_method_8_58) rfl ?_
              show Steps p.tables e below (T2.setTop (mkF m 59 #[.val (.int p1), .val (.int (-1 : Int32))] [(.int ((p1 - (97 : Int32)) + (10 : Int32)))])) _
              refine XS.istoreN X2.here hx rfl (hb hby d_prog_34_method_8_59) rfl (l' := #[.val (.int p1), .val (.int ((p1 - (97 : Int32)) + (10 : Int32)))]) rfl ?_
              show Steps p.tables e below (T2.setTop (mkF m 60 #[.val (.int p1), .val (.int ((p1 - (97 : Int32)) + (10 : Int32)))] [])) _
              have w0 : (own_hex p1) = ((p1 - (97 : Int32)) + (10 : Int32)) := by unfold own_hex; simp [hc6, hc20, hc26, hc43, hc49]
              replace q := Eq.mp (congrArg (fun z => Steps p.tables e below (T2.setTop (mkF m 60 #[.val (.int p1), .val (.int z)] [])) t) w0) q
              exact q
        · refine XS.icmpNo X2.here hx rfl (hb hby d_prog_34_method_8_26) rfl (flt hc26).2.2.1 ?_
          show Steps p.tables e below (T2.setTop (mkF m 29 #[.val (.int p1), .val (.int (-1 : Int32))] [])) _
          refine XS.iloadN X2.here hx rfl (hb hby d_prog_34_method_8_29) rfl ?_
          show Steps p.tables e below (T2.setTop (mkF m 30 #[.val (.int p1), .val (.int (-1 : Int32))] [(.int p1)])) _
          refine XS.bipush X2.here hx rfl (hb hby d_prog_34_method_8_30) ?_
          show Steps p.tables e below (T2.setTop (mkF m 32 #[.val (.int p1), .val (.int (-1 : Int32))] [(.int (65 : Int32)), (.int p1)])) _
          refine XS.isub X2.here hx rfl (hb hby d_prog_34_method_8_32) rfl ?_
          show Steps p.tables e below (T2.setTop (mkF m 33 #[.val (.int p1), .val (.int (-1 : Int32))] [(.int (p1 - (65 : Int32)))])) _
          refine XS.bipush X2.here hx rfl (hb hby d_prog_34_method_8_33) ?_
          show Steps p.tables e below (T2.setTop (mkF m 35 #[.val (.int p1), .val (.int (-1 : Int32))] [(.int (10 : Int32)), (.int (p1 - (65 : Int32)))])) _
          refine XS.iadd X2.here hx rfl (hb hby d_prog_34_method_8_35) rfl ?_
          show Steps p.tables e below (T2.setTop (mkF m 36 #[.val (.int p1), .val (.int (-1 : Int32))] [(.int ((p1 - (65 : Int32)) + (10 : Int32)))])) _
          refine XS.istoreN X2.here hx rfl (hb hby d_prog_34_method_8_36) rfl (l' := #[.val (.int p1), .val (.int ((p1 - (65 : Int32)) + (10 : Int32)))]) rfl ?_
          show Steps p.tables e below (T2.setTop (mkF m 37 #[.val (.int p1), .val (.int ((p1 - (65 : Int32)) + (10 : Int32)))] [])) _
          refine XS.goto X2.here hx rfl (pc0 := 37) (pc' := 60) rfl (hb hby d_prog_34_method_8_37) (by decide) (by decide) ?_
          show Steps p.tables e below (T2.setTop (mkF m 60 #[.val (.int p1), .val (.int ((p1 - (65 : Int32)) + (10 : Int32)))] [])) _
          have w0 : (own_hex p1) = ((p1 - (65 : Int32)) + (10 : Int32)) := by unfold own_hex; simp [hc6, hc20, hc26]
          replace q := Eq.mp (congrArg (fun z => Steps p.tables e below (T2.setTop (mkF m 60 #[.val (.int p1), .val (.int z)] [])) t) w0) q
          exact q
    · refine XS.ifNo X2.here hx rfl (hb hby d_prog_34_method_8_6) rfl ((if0 _ _).trans (feq hc6).1) ?_
      show Steps p.tables e below (T2.setTop (mkF m 9 #[.val (.int p1), .val (.int (-1 : Int32))] [])) _
      refine XS.iloadN X2.here hx rfl (hb hby d_prog_34_method_8_9) rfl ?_
      show Steps p.tables e below (T2.setTop (mkF m 10 #[.val (.int p1), .val (.int (-1 : Int32))] [(.int p1)])) _
      refine XS.bipush X2.here hx rfl (hb hby d_prog_34_method_8_10) ?_
      show Steps p.tables e below (T2.setTop (mkF m 12 #[.val (.int p1), .val (.int (-1 : Int32))] [(.int (48 : Int32)), (.int p1)])) _
      refine XS.isub X2.here hx rfl (hb hby d_prog_34_method_8_12) rfl ?_
      show Steps p.tables e below (T2.setTop (mkF m 13 #[.val (.int p1), .val (.int (-1 : Int32))] [(.int (p1 - (48 : Int32)))])) _
      refine XS.istoreN X2.here hx rfl (hb hby d_prog_34_method_8_13) rfl (l' := #[.val (.int p1), .val (.int (p1 - (48 : Int32)))]) rfl ?_
      show Steps p.tables e below (T2.setTop (mkF m 14 #[.val (.int p1), .val (.int (p1 - (48 : Int32)))] [])) _
      refine XS.goto X2.here hx rfl (pc0 := 14) (pc' := 60) rfl (hb hby d_prog_34_method_8_14) (by decide) (by decide) ?_
      show Steps p.tables e below (T2.setTop (mkF m 60 #[.val (.int p1), .val (.int (p1 - (48 : Int32)))] [])) _
      have w0 : (own_hex p1) = (p1 - (48 : Int32)) := by unfold own_hex; simp [hc6]
      replace q := Eq.mp (congrArg (fun z => Steps p.tables e below (T2.setTop (mkF m 60 #[.val (.int p1), .val (.int z)] [])) t) w0) q
      exact q
  have k5_ : ∀ t, Steps p.tables e below (T2.setTop (mkF m 61 #[.val (.int p1), .val (.int (own_hex p1))] [(.int (own_hex p1))])) t → Steps p.tables e below (s₁.setTop (mkF m 0 #[.val (.int p1), .unset] [])) t := by
    intro t q
    refine k4_ _ ?_
    show Steps p.tables e below (T2.setTop (mkF m 60 #[.val (.int p1), .val (.int (own_hex p1))] [])) _
    refine XS.iloadN X2.here hx rfl (hb hby d_prog_34_method_8_60) rfl ?_
    show Steps p.tables e below (T2.setTop (mkF m 61 #[.val (.int p1), .val (.int (own_hex p1))] [(.int (own_hex p1))])) _
    exact q
  obtain ⟨fs, hr, hrun, hended, hW, hsame⟩ := X2.leave (v := some (.int (own_hex p1))) (fun h => by rw [Bd.returns] at h; cases h)
  refine ⟨_, _, pre0 _ (k5_ _ ?_), hrun, hended, _, _, rfl, ?_, ⟨_, rfl⟩, hW, hsame.mono (by decide) (by decide)⟩
  · show Steps p.tables e below (T2.setTop (mkF m 61 #[.val (.int p1), .val (.int (own_hex p1))] [(.int (own_hex p1))])) _
    exact retI X2 hx Bd.returns (hb hby d_prog_34_method_8_61) hr
  · show QH Z p1 h0 n0 _ T2.heap _
    rw [hq2]
    exact ⟨rfl, N2, rfl⟩
def QE (Z : State) (p1 : Int32) (h0 : Heap) (n0 : Nat) (v : Option Value) (h : Heap) (L : List Loc) : Prop := v = some (.int (own_ref p1)) ∧ Fr n0 L ∧ h = h0
theorem ef_E (m : MethodId) (x0 : Int32) : entryFrame m #[(.int x0)] 3 = mkF m 0 #[.val (.int x0), .unset, .unset] [] := by first | (simp [entryFrame, mkF, argsToLocals, Value.category]; done) | rfl
theorem pn_UriSyntaxHexValuePinLaw : plainName "com/example/lean_router/leanrouter/uri/UriSyntaxHexValuePinLaw" = true := by first | (simp [plainName, overriddenIn]; done) | decide +kernel
theorem d_method_2_0 : decode method_2_code 0 = .ok (.iload_n 0, 1) := by decide +kernel
theorem d_method_2_1 : decode method_2_code 1 = .ok (.bipush 48, 2) := by decide +kernel
theorem d_method_2_3 : decode method_2_code 3 = .ok (.isub, 1) := by decide +kernel
theorem d_method_2_4 : decode method_2_code 4 = .ok (.istore_n 1, 1) := by decide +kernel
theorem d_method_2_5 : decode method_2_code 5 = .ok (.iload_n 1, 1) := by decide +kernel
theorem d_method_2_6 : decode method_2_code 6 = .ok (.ifCond .lt 11, 3) := by decide +kernel
theorem d_method_2_17 : decode method_2_code 17 = .ok (.iload_n 0, 1) := by decide +kernel
theorem d_method_2_18 : decode method_2_code 18 = .ok (.bipush 32, 2) := by decide +kernel
theorem d_method_2_20 : decode method_2_code 20 = .ok (.ior, 1) := by decide +kernel
theorem d_method_2_21 : decode method_2_code 21 = .ok (.bipush 97, 2) := by decide +kernel
theorem d_method_2_23 : decode method_2_code 23 = .ok (.isub, 1) := by decide +kernel
theorem d_method_2_24 : decode method_2_code 24 = .ok (.istore_n 2, 1) := by decide +kernel
theorem d_method_2_25 : decode method_2_code 25 = .ok (.iload_n 2, 1) := by decide +kernel
theorem d_method_2_26 : decode method_2_code 26 = .ok (.ifCond .lt 14, 3) := by decide +kernel
theorem d_method_2_40 : decode method_2_code 40 = .ok (.iconst (-1), 1) := by decide +kernel
theorem d_method_2_41 : decode method_2_code 41 = .ok (.ireturn, 1) := by decide +kernel
theorem d_method_2_29 : decode method_2_code 29 = .ok (.iload_n 2, 1) := by decide +kernel
theorem d_method_2_30 : decode method_2_code 30 = .ok (.bipush 6, 2) := by decide +kernel
theorem d_method_2_32 : decode method_2_code 32 = .ok (.if_icmp .ge 8, 3) := by decide +kernel
theorem d_method_2_35 : decode method_2_code 35 = .ok (.iload_n 2, 1) := by decide +kernel
theorem d_method_2_36 : decode method_2_code 36 = .ok (.bipush 10, 2) := by decide +kernel
theorem d_method_2_38 : decode method_2_code 38 = .ok (.iadd, 1) := by decide +kernel
theorem d_method_2_39 : decode method_2_code 39 = .ok (.ireturn, 1) := by decide +kernel
theorem d_method_2_9 : decode method_2_code 9 = .ok (.iload_n 1, 1) := by decide +kernel
theorem d_method_2_10 : decode method_2_code 10 = .ok (.bipush 10, 2) := by decide +kernel
theorem d_method_2_12 : decode method_2_code 12 = .ok (.if_icmp .ge 5, 3) := by decide +kernel
theorem d_method_2_15 : decode method_2_code 15 = .ok (.iload_n 1, 1) := by decide +kernel
theorem d_method_2_16 : decode method_2_code 16 = .ok (.ireturn, 1) := by decide +kernel
set_option maxRecDepth 65536 in
set_option maxHeartbeats 40000000 in
theorem rmE (l : Launch) (Z : State) (a0 : Array Value) (hw : ∀ d ∈ tables_1, d.before a0 Z = true) (ws : List Jvm.Cond) (p1 : Int32) (h0 : Heap) (n0 : Nat) (Z0 : n0 ≤ h0.size) :
    MetFree l (⟨"com/example/lean_router/leanrouter/uri/UriSyntaxHexValuePinLaw", "reference", "(I)I"⟩ : MethodName) (head1 (Jvm.Cond.code (⟨"com/example/lean_router/leanrouter/uri/UriSyntaxHexValuePinLaw", "reference", "(I)I"⟩ : MethodName) method_2_code 3 (some .int) :: ws) ({ frames := 0, cells := 0, slots := 0, locals := 0 } : Room)) (fun a' U => a' = #[(.int p1)] ∧ Z.Warmed39 U.vm ∧ U.heap = h0) (fun _ _ _ _ _ => True) (fun _ U o U' => ∃ v L, o = .returned v ∧ QE Z p1 h0 n0 v U'.heap L ∧ FrameEnd U o U' L ({ frames := 0, cells := 0, slots := 0, locals := 0 } : Room).cells ({ frames := 0, cells := 0, slots := 0, locals := 0 } : Room).slots) := by
  refine MetFree.of_bodySF (plainFor_of_name pn_UriSyntaxHexValuePinLaw) hisR ?_
  intro p e s m args below meth c s₁ Bd hml0 hP hK
  obtain ⟨rfl, hZ, hh⟩ := hP
  have hx := Bd.exec
  have hby := Bd.bytes
  have hml : c.maxLocals = 3 := hml0
  have hown : s.vm.findClass "com/example/lean_router/leanrouter/uri/UriSyntaxHexValuePinLaw" = some m.cls := findClass_of_methodNamed Bd.named
  have hnm := (name_of_methodNamed Bd.named Bd.method).1
  have X0 : Stand p l e ({ frames := 0, cells := 0, slots := 0, locals := 0 } : Room) s m #[(.int p1)] below meth c s₁ [] 0 0 := Stand.of_body Bd
  have e0 : s₁.heap = h0 := by rw [← hh, Bd.state]; rfl
  have N0 := Fr.nil n0
  have Zn := Z0
  have pre0 : ∀ t, Steps p.tables e below (s₁.setTop (mkF m 0 #[.val (.int p1), .unset, .unset] [])) t → Steps p.tables e below (s₁.setTop (entryFrame m #[(.int p1)] 3)) t := fun t q => castTop (ef_E m p1) q
  have k0 : ∀ t, Steps p.tables e below (s₁.setTop (mkF m 0 #[.val (.int p1), .unset, .unset] [])) t → Steps p.tables e below (s₁.setTop (mkF m 0 #[.val (.int p1), .unset, .unset] [])) t := fun t q => q
  have k1_ : ∀ t, Steps p.tables e below (s₁.setTop (mkF m 6 #[.val (.int p1), .val (.int (p1 - (48 : Int32))), .unset] [(.int (p1 - (48 : Int32)))])) t → Steps p.tables e below (s₁.setTop (mkF m 0 #[.val (.int p1), .unset, .unset] [])) t := by
    intro t q
    refine k0 _ ?_
    show Steps p.tables e below (s₁.setTop (mkF m 0 #[.val (.int p1), .unset, .unset] [])) _
    refine XS.iloadN X0.here hx rfl (hb hby d_method_2_0) rfl ?_
    show Steps p.tables e below (s₁.setTop (mkF m 1 #[.val (.int p1), .unset, .unset] [(.int p1)])) _
    refine XS.bipush X0.here hx rfl (hb hby d_method_2_1) ?_
    show Steps p.tables e below (s₁.setTop (mkF m 3 #[.val (.int p1), .unset, .unset] [(.int (48 : Int32)), (.int p1)])) _
    refine XS.isub X0.here hx rfl (hb hby d_method_2_3) rfl ?_
    show Steps p.tables e below (s₁.setTop (mkF m 4 #[.val (.int p1), .unset, .unset] [(.int (p1 - (48 : Int32)))])) _
    refine XS.istoreN X0.here hx rfl (hb hby d_method_2_4) rfl (l' := #[.val (.int p1), .val (.int (p1 - (48 : Int32))), .unset]) rfl ?_
    show Steps p.tables e below (s₁.setTop (mkF m 5 #[.val (.int p1), .val (.int (p1 - (48 : Int32))), .unset] [])) _
    refine XS.iloadN X0.here hx rfl (hb hby d_method_2_5) rfl ?_
    show Steps p.tables e below (s₁.setTop (mkF m 6 #[.val (.int p1), .val (.int (p1 - (48 : Int32))), .unset] [(.int (p1 - (48 : Int32)))])) _
    exact q
  by_cases q1 : (p1 - (48 : Int32)) < (0 : Int32)
  · have k2_ : ∀ t, Steps p.tables e below (s₁.setTop (mkF m 17 #[.val (.int p1), .val (.int (p1 - (48 : Int32))), .unset] [])) t → Steps p.tables e below (s₁.setTop (mkF m 0 #[.val (.int p1), .unset, .unset] [])) t := by
      intro t q
      refine k1_ _ ?_
      show Steps p.tables e below (s₁.setTop (mkF m 6 #[.val (.int p1), .val (.int (p1 - (48 : Int32))), .unset] [(.int (p1 - (48 : Int32)))])) _
      refine XS.ifYes X0.here hx rfl (pc0 := 6) (pc' := 17) rfl (hb hby d_method_2_6) rfl ((if0 _ _).trans (tlt q1).1) (by decide) (by decide) ?_
      show Steps p.tables e below (s₁.setTop (mkF m 17 #[.val (.int p1), .val (.int (p1 - (48 : Int32))), .unset] [])) _
      exact q
    have k3_ : ∀ t, Steps p.tables e below (s₁.setTop (mkF m 26 #[.val (.int p1), .val (.int (p1 - (48 : Int32))), .val (.int ((p1 ||| (32 : Int32)) - (97 : Int32)))] [(.int ((p1 ||| (32 : Int32)) - (97 : Int32)))])) t → Steps p.tables e below (s₁.setTop (mkF m 0 #[.val (.int p1), .unset, .unset] [])) t := by
      intro t q
      refine k2_ _ ?_
      show Steps p.tables e below (s₁.setTop (mkF m 17 #[.val (.int p1), .val (.int (p1 - (48 : Int32))), .unset] [])) _
      refine XS.iloadN X0.here hx rfl (hb hby d_method_2_17) rfl ?_
      show Steps p.tables e below (s₁.setTop (mkF m 18 #[.val (.int p1), .val (.int (p1 - (48 : Int32))), .unset] [(.int p1)])) _
      refine XS.bipush X0.here hx rfl (hb hby d_method_2_18) ?_
      show Steps p.tables e below (s₁.setTop (mkF m 20 #[.val (.int p1), .val (.int (p1 - (48 : Int32))), .unset] [(.int (32 : Int32)), (.int p1)])) _
      refine XS.ior X0.here hx rfl (hb hby d_method_2_20) rfl ?_
      show Steps p.tables e below (s₁.setTop (mkF m 21 #[.val (.int p1), .val (.int (p1 - (48 : Int32))), .unset] [(.int (p1 ||| (32 : Int32)))])) _
      refine XS.bipush X0.here hx rfl (hb hby d_method_2_21) ?_
      show Steps p.tables e below (s₁.setTop (mkF m 23 #[.val (.int p1), .val (.int (p1 - (48 : Int32))), .unset] [(.int (97 : Int32)), (.int (p1 ||| (32 : Int32)))])) _
      refine XS.isub X0.here hx rfl (hb hby d_method_2_23) rfl ?_
      show Steps p.tables e below (s₁.setTop (mkF m 24 #[.val (.int p1), .val (.int (p1 - (48 : Int32))), .unset] [(.int ((p1 ||| (32 : Int32)) - (97 : Int32)))])) _
      refine XS.istoreN X0.here hx rfl (hb hby d_method_2_24) rfl (l' := #[.val (.int p1), .val (.int (p1 - (48 : Int32))), .val (.int ((p1 ||| (32 : Int32)) - (97 : Int32)))]) rfl ?_
      show Steps p.tables e below (s₁.setTop (mkF m 25 #[.val (.int p1), .val (.int (p1 - (48 : Int32))), .val (.int ((p1 ||| (32 : Int32)) - (97 : Int32)))] [])) _
      refine XS.iloadN X0.here hx rfl (hb hby d_method_2_25) rfl ?_
      show Steps p.tables e below (s₁.setTop (mkF m 26 #[.val (.int p1), .val (.int (p1 - (48 : Int32))), .val (.int ((p1 ||| (32 : Int32)) - (97 : Int32)))] [(.int ((p1 ||| (32 : Int32)) - (97 : Int32)))])) _
      exact q
    by_cases q3 : ((p1 ||| (32 : Int32)) - (97 : Int32)) < (0 : Int32)
    · have k4_ : ∀ t, Steps p.tables e below (s₁.setTop (mkF m 40 #[.val (.int p1), .val (.int (p1 - (48 : Int32))), .val (.int ((p1 ||| (32 : Int32)) - (97 : Int32)))] [])) t → Steps p.tables e below (s₁.setTop (mkF m 0 #[.val (.int p1), .unset, .unset] [])) t := by
        intro t q
        refine k3_ _ ?_
        show Steps p.tables e below (s₁.setTop (mkF m 26 #[.val (.int p1), .val (.int (p1 - (48 : Int32))), .val (.int ((p1 ||| (32 : Int32)) - (97 : Int32)))] [(.int ((p1 ||| (32 : Int32)) - (97 : Int32)))])) _
        refine XS.ifYes X0.here hx rfl (pc0 := 26) (pc' := 40) rfl (hb hby d_method_2_26) rfl ((if0 _ _).trans (tlt q3).1) (by decide) (by decide) ?_
        show Steps p.tables e below (s₁.setTop (mkF m 40 #[.val (.int p1), .val (.int (p1 - (48 : Int32))), .val (.int ((p1 ||| (32 : Int32)) - (97 : Int32)))] [])) _
        exact q
      have k5_ : ∀ t, Steps p.tables e below (s₁.setTop (mkF m 41 #[.val (.int p1), .val (.int (p1 - (48 : Int32))), .val (.int ((p1 ||| (32 : Int32)) - (97 : Int32)))] [(.int (-1 : Int32))])) t → Steps p.tables e below (s₁.setTop (mkF m 0 #[.val (.int p1), .unset, .unset] [])) t := by
        intro t q
        refine k4_ _ ?_
        show Steps p.tables e below (s₁.setTop (mkF m 40 #[.val (.int p1), .val (.int (p1 - (48 : Int32))), .val (.int ((p1 ||| (32 : Int32)) - (97 : Int32)))] [])) _
        refine XS.iconst X0.here hx rfl (hb hby d_method_2_40) ?_
        show Steps p.tables e below (s₁.setTop (mkF m 41 #[.val (.int p1), .val (.int (p1 - (48 : Int32))), .val (.int ((p1 ||| (32 : Int32)) - (97 : Int32)))] [(.int (-1 : Int32))])) _
        exact q
      obtain ⟨fs, hr, hrun, hended, hW, hsame⟩ := X0.leave (v := some (.int (-1 : Int32))) (fun h => by rw [Bd.returns] at h; cases h)
      refine ⟨_, _, pre0 _ (k5_ _ ?_), hrun, hended, _, _, rfl, ?_, ⟨_, rfl⟩, hW, hsame.mono (by decide) (by decide)⟩
      · show Steps p.tables e below (s₁.setTop (mkF m 41 #[.val (.int p1), .val (.int (p1 - (48 : Int32))), .val (.int ((p1 ||| (32 : Int32)) - (97 : Int32)))] [(.int (-1 : Int32))])) _
        exact retI X0 hx Bd.returns (hb hby d_method_2_41) hr
      · show QE Z p1 h0 n0 _ s₁.heap _
        rw [e0]
        exact ⟨by unfold own_ref; simp [q1, q3], N0, rfl⟩
    · have k6_ : ∀ t, Steps p.tables e below (s₁.setTop (mkF m 29 #[.val (.int p1), .val (.int (p1 - (48 : Int32))), .val (.int ((p1 ||| (32 : Int32)) - (97 : Int32)))] [])) t → Steps p.tables e below (s₁.setTop (mkF m 0 #[.val (.int p1), .unset, .unset] [])) t := by
        intro t q
        refine k3_ _ ?_
        show Steps p.tables e below (s₁.setTop (mkF m 26 #[.val (.int p1), .val (.int (p1 - (48 : Int32))), .val (.int ((p1 ||| (32 : Int32)) - (97 : Int32)))] [(.int ((p1 ||| (32 : Int32)) - (97 : Int32)))])) _
        refine XS.ifNo X0.here hx rfl (hb hby d_method_2_26) rfl ((if0 _ _).trans (flt q3).1) ?_
        show Steps p.tables e below (s₁.setTop (mkF m 29 #[.val (.int p1), .val (.int (p1 - (48 : Int32))), .val (.int ((p1 ||| (32 : Int32)) - (97 : Int32)))] [])) _
        exact q
      have k7_ : ∀ t, Steps p.tables e below (s₁.setTop (mkF m 32 #[.val (.int p1), .val (.int (p1 - (48 : Int32))), .val (.int ((p1 ||| (32 : Int32)) - (97 : Int32)))] [(.int (6 : Int32)), (.int ((p1 ||| (32 : Int32)) - (97 : Int32)))])) t → Steps p.tables e below (s₁.setTop (mkF m 0 #[.val (.int p1), .unset, .unset] [])) t := by
        intro t q
        refine k6_ _ ?_
        show Steps p.tables e below (s₁.setTop (mkF m 29 #[.val (.int p1), .val (.int (p1 - (48 : Int32))), .val (.int ((p1 ||| (32 : Int32)) - (97 : Int32)))] [])) _
        refine XS.iloadN X0.here hx rfl (hb hby d_method_2_29) rfl ?_
        show Steps p.tables e below (s₁.setTop (mkF m 30 #[.val (.int p1), .val (.int (p1 - (48 : Int32))), .val (.int ((p1 ||| (32 : Int32)) - (97 : Int32)))] [(.int ((p1 ||| (32 : Int32)) - (97 : Int32)))])) _
        refine XS.bipush X0.here hx rfl (hb hby d_method_2_30) ?_
        show Steps p.tables e below (s₁.setTop (mkF m 32 #[.val (.int p1), .val (.int (p1 - (48 : Int32))), .val (.int ((p1 ||| (32 : Int32)) - (97 : Int32)))] [(.int (6 : Int32)), (.int ((p1 ||| (32 : Int32)) - (97 : Int32)))])) _
        exact q
      by_cases q4 : ((p1 ||| (32 : Int32)) - (97 : Int32)) < (6 : Int32)
      · have k8_ : ∀ t, Steps p.tables e below (s₁.setTop (mkF m 35 #[.val (.int p1), .val (.int (p1 - (48 : Int32))), .val (.int ((p1 ||| (32 : Int32)) - (97 : Int32)))] [])) t → Steps p.tables e below (s₁.setTop (mkF m 0 #[.val (.int p1), .unset, .unset] [])) t := by
          intro t q
          refine k7_ _ ?_
          show Steps p.tables e below (s₁.setTop (mkF m 32 #[.val (.int p1), .val (.int (p1 - (48 : Int32))), .val (.int ((p1 ||| (32 : Int32)) - (97 : Int32)))] [(.int (6 : Int32)), (.int ((p1 ||| (32 : Int32)) - (97 : Int32)))])) _
          refine XS.icmpNo X0.here hx rfl (hb hby d_method_2_32) rfl (tlt q4).2.1 ?_
          show Steps p.tables e below (s₁.setTop (mkF m 35 #[.val (.int p1), .val (.int (p1 - (48 : Int32))), .val (.int ((p1 ||| (32 : Int32)) - (97 : Int32)))] [])) _
          exact q
        have k9_ : ∀ t, Steps p.tables e below (s₁.setTop (mkF m 39 #[.val (.int p1), .val (.int (p1 - (48 : Int32))), .val (.int ((p1 ||| (32 : Int32)) - (97 : Int32)))] [(.int (((p1 ||| (32 : Int32)) - (97 : Int32)) + (10 : Int32)))])) t → Steps p.tables e below (s₁.setTop (mkF m 0 #[.val (.int p1), .unset, .unset] [])) t := by
          intro t q
          refine k8_ _ ?_
          show Steps p.tables e below (s₁.setTop (mkF m 35 #[.val (.int p1), .val (.int (p1 - (48 : Int32))), .val (.int ((p1 ||| (32 : Int32)) - (97 : Int32)))] [])) _
          refine XS.iloadN X0.here hx rfl (hb hby d_method_2_35) rfl ?_
          show Steps p.tables e below (s₁.setTop (mkF m 36 #[.val (.int p1), .val (.int (p1 - (48 : Int32))), .val (.int ((p1 ||| (32 : Int32)) - (97 : Int32)))] [(.int ((p1 ||| (32 : Int32)) - (97 : Int32)))])) _
          refine XS.bipush X0.here hx rfl (hb hby d_method_2_36) ?_
          show Steps p.tables e below (s₁.setTop (mkF m 38 #[.val (.int p1), .val (.int (p1 - (48 : Int32))), .val (.int ((p1 ||| (32 : Int32)) - (97 : Int32)))] [(.int (10 : Int32)), (.int ((p1 ||| (32 : Int32)) - (97 : Int32)))])) _
          refine XS.iadd X0.here hx rfl (hb hby d_method_2_38) rfl ?_
          show Steps p.tables e below (s₁.setTop (mkF m 39 #[.val (.int p1), .val (.int (p1 - (48 : Int32))), .val (.int ((p1 ||| (32 : Int32)) - (97 : Int32)))] [(.int (((p1 ||| (32 : Int32)) - (97 : Int32)) + (10 : Int32)))])) _
          exact q
        obtain ⟨fs, hr, hrun, hended, hW, hsame⟩ := X0.leave (v := some (.int (((p1 ||| (32 : Int32)) - (97 : Int32)) + (10 : Int32)))) (fun h => by rw [Bd.returns] at h; cases h)
        refine ⟨_, _, pre0 _ (k9_ _ ?_), hrun, hended, _, _, rfl, ?_, ⟨_, rfl⟩, hW, hsame.mono (by decide) (by decide)⟩
        · show Steps p.tables e below (s₁.setTop (mkF m 39 #[.val (.int p1), .val (.int (p1 - (48 : Int32))), .val (.int ((p1 ||| (32 : Int32)) - (97 : Int32)))] [(.int (((p1 ||| (32 : Int32)) - (97 : Int32)) + (10 : Int32)))])) _
          exact retI X0 hx Bd.returns (hb hby d_method_2_39) hr
        · show QE Z p1 h0 n0 _ s₁.heap _
          rw [e0]
          exact ⟨by unfold own_ref; simp [q1, q3, q4], N0, rfl⟩
      · have k10_ : ∀ t, Steps p.tables e below (s₁.setTop (mkF m 40 #[.val (.int p1), .val (.int (p1 - (48 : Int32))), .val (.int ((p1 ||| (32 : Int32)) - (97 : Int32)))] [])) t → Steps p.tables e below (s₁.setTop (mkF m 0 #[.val (.int p1), .unset, .unset] [])) t := by
          intro t q
          refine k7_ _ ?_
          show Steps p.tables e below (s₁.setTop (mkF m 32 #[.val (.int p1), .val (.int (p1 - (48 : Int32))), .val (.int ((p1 ||| (32 : Int32)) - (97 : Int32)))] [(.int (6 : Int32)), (.int ((p1 ||| (32 : Int32)) - (97 : Int32)))])) _
          refine XS.icmpYes X0.here hx rfl (pc0 := 32) (pc' := 40) rfl (hb hby d_method_2_32) rfl (flt q4).2.1 (by decide) (by decide) ?_
          show Steps p.tables e below (s₁.setTop (mkF m 40 #[.val (.int p1), .val (.int (p1 - (48 : Int32))), .val (.int ((p1 ||| (32 : Int32)) - (97 : Int32)))] [])) _
          exact q
        have k11_ : ∀ t, Steps p.tables e below (s₁.setTop (mkF m 41 #[.val (.int p1), .val (.int (p1 - (48 : Int32))), .val (.int ((p1 ||| (32 : Int32)) - (97 : Int32)))] [(.int (-1 : Int32))])) t → Steps p.tables e below (s₁.setTop (mkF m 0 #[.val (.int p1), .unset, .unset] [])) t := by
          intro t q
          refine k10_ _ ?_
          show Steps p.tables e below (s₁.setTop (mkF m 40 #[.val (.int p1), .val (.int (p1 - (48 : Int32))), .val (.int ((p1 ||| (32 : Int32)) - (97 : Int32)))] [])) _
          refine XS.iconst X0.here hx rfl (hb hby d_method_2_40) ?_
          show Steps p.tables e below (s₁.setTop (mkF m 41 #[.val (.int p1), .val (.int (p1 - (48 : Int32))), .val (.int ((p1 ||| (32 : Int32)) - (97 : Int32)))] [(.int (-1 : Int32))])) _
          exact q
        obtain ⟨fs, hr, hrun, hended, hW, hsame⟩ := X0.leave (v := some (.int (-1 : Int32))) (fun h => by rw [Bd.returns] at h; cases h)
        refine ⟨_, _, pre0 _ (k11_ _ ?_), hrun, hended, _, _, rfl, ?_, ⟨_, rfl⟩, hW, hsame.mono (by decide) (by decide)⟩
        · show Steps p.tables e below (s₁.setTop (mkF m 41 #[.val (.int p1), .val (.int (p1 - (48 : Int32))), .val (.int ((p1 ||| (32 : Int32)) - (97 : Int32)))] [(.int (-1 : Int32))])) _
          exact retI X0 hx Bd.returns (hb hby d_method_2_41) hr
        · show QE Z p1 h0 n0 _ s₁.heap _
          rw [e0]
          exact ⟨by unfold own_ref; simp [q1, q3, q4], N0, rfl⟩
  · have k12_ : ∀ t, Steps p.tables e below (s₁.setTop (mkF m 9 #[.val (.int p1), .val (.int (p1 - (48 : Int32))), .unset] [])) t → Steps p.tables e below (s₁.setTop (mkF m 0 #[.val (.int p1), .unset, .unset] [])) t := by
      intro t q
      refine k1_ _ ?_
      show Steps p.tables e below (s₁.setTop (mkF m 6 #[.val (.int p1), .val (.int (p1 - (48 : Int32))), .unset] [(.int (p1 - (48 : Int32)))])) _
      refine XS.ifNo X0.here hx rfl (hb hby d_method_2_6) rfl ((if0 _ _).trans (flt q1).1) ?_
      show Steps p.tables e below (s₁.setTop (mkF m 9 #[.val (.int p1), .val (.int (p1 - (48 : Int32))), .unset] [])) _
      exact q
    have k13_ : ∀ t, Steps p.tables e below (s₁.setTop (mkF m 12 #[.val (.int p1), .val (.int (p1 - (48 : Int32))), .unset] [(.int (10 : Int32)), (.int (p1 - (48 : Int32)))])) t → Steps p.tables e below (s₁.setTop (mkF m 0 #[.val (.int p1), .unset, .unset] [])) t := by
      intro t q
      refine k12_ _ ?_
      show Steps p.tables e below (s₁.setTop (mkF m 9 #[.val (.int p1), .val (.int (p1 - (48 : Int32))), .unset] [])) _
      refine XS.iloadN X0.here hx rfl (hb hby d_method_2_9) rfl ?_
      show Steps p.tables e below (s₁.setTop (mkF m 10 #[.val (.int p1), .val (.int (p1 - (48 : Int32))), .unset] [(.int (p1 - (48 : Int32)))])) _
      refine XS.bipush X0.here hx rfl (hb hby d_method_2_10) ?_
      show Steps p.tables e below (s₁.setTop (mkF m 12 #[.val (.int p1), .val (.int (p1 - (48 : Int32))), .unset] [(.int (10 : Int32)), (.int (p1 - (48 : Int32)))])) _
      exact q
    by_cases q2 : (p1 - (48 : Int32)) < (10 : Int32)
    · have k14_ : ∀ t, Steps p.tables e below (s₁.setTop (mkF m 15 #[.val (.int p1), .val (.int (p1 - (48 : Int32))), .unset] [])) t → Steps p.tables e below (s₁.setTop (mkF m 0 #[.val (.int p1), .unset, .unset] [])) t := by
        intro t q
        refine k13_ _ ?_
        show Steps p.tables e below (s₁.setTop (mkF m 12 #[.val (.int p1), .val (.int (p1 - (48 : Int32))), .unset] [(.int (10 : Int32)), (.int (p1 - (48 : Int32)))])) _
        refine XS.icmpNo X0.here hx rfl (hb hby d_method_2_12) rfl (tlt q2).2.1 ?_
        show Steps p.tables e below (s₁.setTop (mkF m 15 #[.val (.int p1), .val (.int (p1 - (48 : Int32))), .unset] [])) _
        exact q
      have k15_ : ∀ t, Steps p.tables e below (s₁.setTop (mkF m 16 #[.val (.int p1), .val (.int (p1 - (48 : Int32))), .unset] [(.int (p1 - (48 : Int32)))])) t → Steps p.tables e below (s₁.setTop (mkF m 0 #[.val (.int p1), .unset, .unset] [])) t := by
        intro t q
        refine k14_ _ ?_
        show Steps p.tables e below (s₁.setTop (mkF m 15 #[.val (.int p1), .val (.int (p1 - (48 : Int32))), .unset] [])) _
        refine XS.iloadN X0.here hx rfl (hb hby d_method_2_15) rfl ?_
        show Steps p.tables e below (s₁.setTop (mkF m 16 #[.val (.int p1), .val (.int (p1 - (48 : Int32))), .unset] [(.int (p1 - (48 : Int32)))])) _
        exact q
      obtain ⟨fs, hr, hrun, hended, hW, hsame⟩ := X0.leave (v := some (.int (p1 - (48 : Int32)))) (fun h => by rw [Bd.returns] at h; cases h)
      refine ⟨_, _, pre0 _ (k15_ _ ?_), hrun, hended, _, _, rfl, ?_, ⟨_, rfl⟩, hW, hsame.mono (by decide) (by decide)⟩
      · show Steps p.tables e below (s₁.setTop (mkF m 16 #[.val (.int p1), .val (.int (p1 - (48 : Int32))), .unset] [(.int (p1 - (48 : Int32)))])) _
        exact retI X0 hx Bd.returns (hb hby d_method_2_16) hr
      · show QE Z p1 h0 n0 _ s₁.heap _
        rw [e0]
        exact ⟨by unfold own_ref; simp [q1, q2], N0, rfl⟩
    · have k16_ : ∀ t, Steps p.tables e below (s₁.setTop (mkF m 17 #[.val (.int p1), .val (.int (p1 - (48 : Int32))), .unset] [])) t → Steps p.tables e below (s₁.setTop (mkF m 0 #[.val (.int p1), .unset, .unset] [])) t := by
        intro t q
        refine k13_ _ ?_
        show Steps p.tables e below (s₁.setTop (mkF m 12 #[.val (.int p1), .val (.int (p1 - (48 : Int32))), .unset] [(.int (10 : Int32)), (.int (p1 - (48 : Int32)))])) _
        refine XS.icmpYes X0.here hx rfl (pc0 := 12) (pc' := 17) rfl (hb hby d_method_2_12) rfl (flt q2).2.1 (by decide) (by decide) ?_
        show Steps p.tables e below (s₁.setTop (mkF m 17 #[.val (.int p1), .val (.int (p1 - (48 : Int32))), .unset] [])) _
        exact q
      have k17_ : ∀ t, Steps p.tables e below (s₁.setTop (mkF m 26 #[.val (.int p1), .val (.int (p1 - (48 : Int32))), .val (.int ((p1 ||| (32 : Int32)) - (97 : Int32)))] [(.int ((p1 ||| (32 : Int32)) - (97 : Int32)))])) t → Steps p.tables e below (s₁.setTop (mkF m 0 #[.val (.int p1), .unset, .unset] [])) t := by
        intro t q
        refine k16_ _ ?_
        show Steps p.tables e below (s₁.setTop (mkF m 17 #[.val (.int p1), .val (.int (p1 - (48 : Int32))), .unset] [])) _
        refine XS.iloadN X0.here hx rfl (hb hby d_method_2_17) rfl ?_
        show Steps p.tables e below (s₁.setTop (mkF m 18 #[.val (.int p1), .val (.int (p1 - (48 : Int32))), .unset] [(.int p1)])) _
        refine XS.bipush X0.here hx rfl (hb hby d_method_2_18) ?_
        show Steps p.tables e below (s₁.setTop (mkF m 20 #[.val (.int p1), .val (.int (p1 - (48 : Int32))), .unset] [(.int (32 : Int32)), (.int p1)])) _
        refine XS.ior X0.here hx rfl (hb hby d_method_2_20) rfl ?_
        show Steps p.tables e below (s₁.setTop (mkF m 21 #[.val (.int p1), .val (.int (p1 - (48 : Int32))), .unset] [(.int (p1 ||| (32 : Int32)))])) _
        refine XS.bipush X0.here hx rfl (hb hby d_method_2_21) ?_
        show Steps p.tables e below (s₁.setTop (mkF m 23 #[.val (.int p1), .val (.int (p1 - (48 : Int32))), .unset] [(.int (97 : Int32)), (.int (p1 ||| (32 : Int32)))])) _
        refine XS.isub X0.here hx rfl (hb hby d_method_2_23) rfl ?_
        show Steps p.tables e below (s₁.setTop (mkF m 24 #[.val (.int p1), .val (.int (p1 - (48 : Int32))), .unset] [(.int ((p1 ||| (32 : Int32)) - (97 : Int32)))])) _
        refine XS.istoreN X0.here hx rfl (hb hby d_method_2_24) rfl (l' := #[.val (.int p1), .val (.int (p1 - (48 : Int32))), .val (.int ((p1 ||| (32 : Int32)) - (97 : Int32)))]) rfl ?_
        show Steps p.tables e below (s₁.setTop (mkF m 25 #[.val (.int p1), .val (.int (p1 - (48 : Int32))), .val (.int ((p1 ||| (32 : Int32)) - (97 : Int32)))] [])) _
        refine XS.iloadN X0.here hx rfl (hb hby d_method_2_25) rfl ?_
        show Steps p.tables e below (s₁.setTop (mkF m 26 #[.val (.int p1), .val (.int (p1 - (48 : Int32))), .val (.int ((p1 ||| (32 : Int32)) - (97 : Int32)))] [(.int ((p1 ||| (32 : Int32)) - (97 : Int32)))])) _
        exact q
      by_cases q3 : ((p1 ||| (32 : Int32)) - (97 : Int32)) < (0 : Int32)
      · have k18_ : ∀ t, Steps p.tables e below (s₁.setTop (mkF m 40 #[.val (.int p1), .val (.int (p1 - (48 : Int32))), .val (.int ((p1 ||| (32 : Int32)) - (97 : Int32)))] [])) t → Steps p.tables e below (s₁.setTop (mkF m 0 #[.val (.int p1), .unset, .unset] [])) t := by
          intro t q
          refine k17_ _ ?_
          show Steps p.tables e below (s₁.setTop (mkF m 26 #[.val (.int p1), .val (.int (p1 - (48 : Int32))), .val (.int ((p1 ||| (32 : Int32)) - (97 : Int32)))] [(.int ((p1 ||| (32 : Int32)) - (97 : Int32)))])) _
          refine XS.ifYes X0.here hx rfl (pc0 := 26) (pc' := 40) rfl (hb hby d_method_2_26) rfl ((if0 _ _).trans (tlt q3).1) (by decide) (by decide) ?_
          show Steps p.tables e below (s₁.setTop (mkF m 40 #[.val (.int p1), .val (.int (p1 - (48 : Int32))), .val (.int ((p1 ||| (32 : Int32)) - (97 : Int32)))] [])) _
          exact q
        have k19_ : ∀ t, Steps p.tables e below (s₁.setTop (mkF m 41 #[.val (.int p1), .val (.int (p1 - (48 : Int32))), .val (.int ((p1 ||| (32 : Int32)) - (97 : Int32)))] [(.int (-1 : Int32))])) t → Steps p.tables e below (s₁.setTop (mkF m 0 #[.val (.int p1), .unset, .unset] [])) t := by
          intro t q
          refine k18_ _ ?_
          show Steps p.tables e below (s₁.setTop (mkF m 40 #[.val (.int p1), .val (.int (p1 - (48 : Int32))), .val (.int ((p1 ||| (32 : Int32)) - (97 : Int32)))] [])) _
          refine XS.iconst X0.here hx rfl (hb hby d_method_2_40) ?_
          show Steps p.tables e below (s₁.setTop (mkF m 41 #[.val (.int p1), .val (.int (p1 - (48 : Int32))), .val (.int ((p1 ||| (32 : Int32)) - (97 : Int32)))] [(.int (-1 : Int32))])) _
          exact q
        obtain ⟨fs, hr, hrun, hended, hW, hsame⟩ := X0.leave (v := some (.int (-1 : Int32))) (fun h => by rw [Bd.returns] at h; cases h)
        refine ⟨_, _, pre0 _ (k19_ _ ?_), hrun, hended, _, _, rfl, ?_, ⟨_, rfl⟩, hW, hsame.mono (by decide) (by decide)⟩
        · show Steps p.tables e below (s₁.setTop (mkF m 41 #[.val (.int p1), .val (.int (p1 - (48 : Int32))), .val (.int ((p1 ||| (32 : Int32)) - (97 : Int32)))] [(.int (-1 : Int32))])) _
          exact retI X0 hx Bd.returns (hb hby d_method_2_41) hr
        · show QE Z p1 h0 n0 _ s₁.heap _
          rw [e0]
          exact ⟨by unfold own_ref; simp [q1, q2, q3], N0, rfl⟩
      · have k20_ : ∀ t, Steps p.tables e below (s₁.setTop (mkF m 29 #[.val (.int p1), .val (.int (p1 - (48 : Int32))), .val (.int ((p1 ||| (32 : Int32)) - (97 : Int32)))] [])) t → Steps p.tables e below (s₁.setTop (mkF m 0 #[.val (.int p1), .unset, .unset] [])) t := by
          intro t q
          refine k17_ _ ?_
          show Steps p.tables e below (s₁.setTop (mkF m 26 #[.val (.int p1), .val (.int (p1 - (48 : Int32))), .val (.int ((p1 ||| (32 : Int32)) - (97 : Int32)))] [(.int ((p1 ||| (32 : Int32)) - (97 : Int32)))])) _
          refine XS.ifNo X0.here hx rfl (hb hby d_method_2_26) rfl ((if0 _ _).trans (flt q3).1) ?_
          show Steps p.tables e below (s₁.setTop (mkF m 29 #[.val (.int p1), .val (.int (p1 - (48 : Int32))), .val (.int ((p1 ||| (32 : Int32)) - (97 : Int32)))] [])) _
          exact q
        have k21_ : ∀ t, Steps p.tables e below (s₁.setTop (mkF m 32 #[.val (.int p1), .val (.int (p1 - (48 : Int32))), .val (.int ((p1 ||| (32 : Int32)) - (97 : Int32)))] [(.int (6 : Int32)), (.int ((p1 ||| (32 : Int32)) - (97 : Int32)))])) t → Steps p.tables e below (s₁.setTop (mkF m 0 #[.val (.int p1), .unset, .unset] [])) t := by
          intro t q
          refine k20_ _ ?_
          show Steps p.tables e below (s₁.setTop (mkF m 29 #[.val (.int p1), .val (.int (p1 - (48 : Int32))), .val (.int ((p1 ||| (32 : Int32)) - (97 : Int32)))] [])) _
          refine XS.iloadN X0.here hx rfl (hb hby d_method_2_29) rfl ?_
          show Steps p.tables e below (s₁.setTop (mkF m 30 #[.val (.int p1), .val (.int (p1 - (48 : Int32))), .val (.int ((p1 ||| (32 : Int32)) - (97 : Int32)))] [(.int ((p1 ||| (32 : Int32)) - (97 : Int32)))])) _
          refine XS.bipush X0.here hx rfl (hb hby d_method_2_30) ?_
          show Steps p.tables e below (s₁.setTop (mkF m 32 #[.val (.int p1), .val (.int (p1 - (48 : Int32))), .val (.int ((p1 ||| (32 : Int32)) - (97 : Int32)))] [(.int (6 : Int32)), (.int ((p1 ||| (32 : Int32)) - (97 : Int32)))])) _
          exact q
        by_cases q4 : ((p1 ||| (32 : Int32)) - (97 : Int32)) < (6 : Int32)
        · have k22_ : ∀ t, Steps p.tables e below (s₁.setTop (mkF m 35 #[.val (.int p1), .val (.int (p1 - (48 : Int32))), .val (.int ((p1 ||| (32 : Int32)) - (97 : Int32)))] [])) t → Steps p.tables e below (s₁.setTop (mkF m 0 #[.val (.int p1), .unset, .unset] [])) t := by
            intro t q
            refine k21_ _ ?_
            show Steps p.tables e below (s₁.setTop (mkF m 32 #[.val (.int p1), .val (.int (p1 - (48 : Int32))), .val (.int ((p1 ||| (32 : Int32)) - (97 : Int32)))] [(.int (6 : Int32)), (.int ((p1 ||| (32 : Int32)) - (97 : Int32)))])) _
            refine XS.icmpNo X0.here hx rfl (hb hby d_method_2_32) rfl (tlt q4).2.1 ?_
            show Steps p.tables e below (s₁.setTop (mkF m 35 #[.val (.int p1), .val (.int (p1 - (48 : Int32))), .val (.int ((p1 ||| (32 : Int32)) - (97 : Int32)))] [])) _
            exact q
          have k23_ : ∀ t, Steps p.tables e below (s₁.setTop (mkF m 39 #[.val (.int p1), .val (.int (p1 - (48 : Int32))), .val (.int ((p1 ||| (32 : Int32)) - (97 : Int32)))] [(.int (((p1 ||| (32 : Int32)) - (97 : Int32)) + (10 : Int32)))])) t → Steps p.tables e below (s₁.setTop (mkF m 0 #[.val (.int p1), .unset, .unset] [])) t := by
            intro t q
            refine k22_ _ ?_
            show Steps p.tables e below (s₁.setTop (mkF m 35 #[.val (.int p1), .val (.int (p1 - (48 : Int32))), .val (.int ((p1 ||| (32 : Int32)) - (97 : Int32)))] [])) _
            refine XS.iloadN X0.here hx rfl (hb hby d_method_2_35) rfl ?_
            show Steps p.tables e below (s₁.setTop (mkF m 36 #[.val (.int p1), .val (.int (p1 - (48 : Int32))), .val (.int ((p1 ||| (32 : Int32)) - (97 : Int32)))] [(.int ((p1 ||| (32 : Int32)) - (97 : Int32)))])) _
            refine XS.bipush X0.here hx rfl (hb hby d_method_2_36) ?_
            show Steps p.tables e below (s₁.setTop (mkF m 38 #[.val (.int p1), .val (.int (p1 - (48 : Int32))), .val (.int ((p1 ||| (32 : Int32)) - (97 : Int32)))] [(.int (10 : Int32)), (.int ((p1 ||| (32 : Int32)) - (97 : Int32)))])) _
            refine XS.iadd X0.here hx rfl (hb hby d_method_2_38) rfl ?_
            show Steps p.tables e below (s₁.setTop (mkF m 39 #[.val (.int p1), .val (.int (p1 - (48 : Int32))), .val (.int ((p1 ||| (32 : Int32)) - (97 : Int32)))] [(.int (((p1 ||| (32 : Int32)) - (97 : Int32)) + (10 : Int32)))])) _
            exact q
          obtain ⟨fs, hr, hrun, hended, hW, hsame⟩ := X0.leave (v := some (.int (((p1 ||| (32 : Int32)) - (97 : Int32)) + (10 : Int32)))) (fun h => by rw [Bd.returns] at h; cases h)
          refine ⟨_, _, pre0 _ (k23_ _ ?_), hrun, hended, _, _, rfl, ?_, ⟨_, rfl⟩, hW, hsame.mono (by decide) (by decide)⟩
          · show Steps p.tables e below (s₁.setTop (mkF m 39 #[.val (.int p1), .val (.int (p1 - (48 : Int32))), .val (.int ((p1 ||| (32 : Int32)) - (97 : Int32)))] [(.int (((p1 ||| (32 : Int32)) - (97 : Int32)) + (10 : Int32)))])) _
            exact retI X0 hx Bd.returns (hb hby d_method_2_39) hr
          · show QE Z p1 h0 n0 _ s₁.heap _
            rw [e0]
            exact ⟨by unfold own_ref; simp [q1, q2, q3, q4], N0, rfl⟩
        · have k24_ : ∀ t, Steps p.tables e below (s₁.setTop (mkF m 40 #[.val (.int p1), .val (.int (p1 - (48 : Int32))), .val (.int ((p1 ||| (32 : Int32)) - (97 : Int32)))] [])) t → Steps p.tables e below (s₁.setTop (mkF m 0 #[.val (.int p1), .unset, .unset] [])) t := by
            intro t q
            refine k21_ _ ?_
            show Steps p.tables e below (s₁.setTop (mkF m 32 #[.val (.int p1), .val (.int (p1 - (48 : Int32))), .val (.int ((p1 ||| (32 : Int32)) - (97 : Int32)))] [(.int (6 : Int32)), (.int ((p1 ||| (32 : Int32)) - (97 : Int32)))])) _
            refine XS.icmpYes X0.here hx rfl (pc0 := 32) (pc' := 40) rfl (hb hby d_method_2_32) rfl (flt q4).2.1 (by decide) (by decide) ?_
            show Steps p.tables e below (s₁.setTop (mkF m 40 #[.val (.int p1), .val (.int (p1 - (48 : Int32))), .val (.int ((p1 ||| (32 : Int32)) - (97 : Int32)))] [])) _
            exact q
          have k25_ : ∀ t, Steps p.tables e below (s₁.setTop (mkF m 41 #[.val (.int p1), .val (.int (p1 - (48 : Int32))), .val (.int ((p1 ||| (32 : Int32)) - (97 : Int32)))] [(.int (-1 : Int32))])) t → Steps p.tables e below (s₁.setTop (mkF m 0 #[.val (.int p1), .unset, .unset] [])) t := by
            intro t q
            refine k24_ _ ?_
            show Steps p.tables e below (s₁.setTop (mkF m 40 #[.val (.int p1), .val (.int (p1 - (48 : Int32))), .val (.int ((p1 ||| (32 : Int32)) - (97 : Int32)))] [])) _
            refine XS.iconst X0.here hx rfl (hb hby d_method_2_40) ?_
            show Steps p.tables e below (s₁.setTop (mkF m 41 #[.val (.int p1), .val (.int (p1 - (48 : Int32))), .val (.int ((p1 ||| (32 : Int32)) - (97 : Int32)))] [(.int (-1 : Int32))])) _
            exact q
          obtain ⟨fs, hr, hrun, hended, hW, hsame⟩ := X0.leave (v := some (.int (-1 : Int32))) (fun h => by rw [Bd.returns] at h; cases h)
          refine ⟨_, _, pre0 _ (k25_ _ ?_), hrun, hended, _, _, rfl, ?_, ⟨_, rfl⟩, hW, hsame.mono (by decide) (by decide)⟩
          · show Steps p.tables e below (s₁.setTop (mkF m 41 #[.val (.int p1), .val (.int (p1 - (48 : Int32))), .val (.int ((p1 ||| (32 : Int32)) - (97 : Int32)))] [(.int (-1 : Int32))])) _
            exact retI X0 hx Bd.returns (hb hby d_method_2_41) hr
          · show QE Z p1 h0 n0 _ s₁.heap _
            rw [e0]
            exact ⟨by unfold own_ref; simp [q1, q2, q3, q4], N0, rfl⟩
theorem own_hex_far {c : Int32} (h : c < 0 ∨ ¬ c < 128) : own_hex c = -1 := by
  rw [Int32.lt_iff_toInt_lt, Int32.lt_iff_toInt_lt] at h
  have l0 : (0 : Int32).toInt = 0 := rfl; have l1 : (128 : Int32).toInt = 128 := rfl; have l2 : (48 : Int32).toInt = 48 := rfl; have l3 : (57 : Int32).toInt = 57 := rfl; have l4 : (65 : Int32).toInt = 65 := rfl; have l5 : (70 : Int32).toInt = 70 := rfl; have l6 : (97 : Int32).toInt = 97 := rfl; have l7 : (102 : Int32).toInt = 102 := rfl
  unfold own_hex
  rw [if_pos (bi_f (fun q => by have q1 := q.1; have q2 := q.2; rw [Int32.lt_iff_toInt_lt] at q1 q2; omega)), if_pos (by rw [Int32.lt_iff_toInt_lt, Int32.lt_iff_toInt_lt]; omega), if_pos (by rw [Int32.lt_iff_toInt_lt, Int32.lt_iff_toInt_lt]; omega)]
theorem own_ref_far {c : Int32} (h : c < 0 ∨ ¬ c < 128) : own_ref c = -1 := by
  rw [Int32.lt_iff_toInt_lt, Int32.lt_iff_toInt_lt] at h
  have l0 : (0 : Int32).toInt = 0 := rfl; have l1 : (128 : Int32).toInt = 128 := rfl; have l2 : (48 : Int32).toInt = 48 := rfl; have l3 : (10 : Int32).toInt = 10 := rfl; have l4 : (6 : Int32).toInt = 6 := rfl; have l6 : (97 : Int32).toInt = 97 := rfl; have l7 : (32 : Int32).toInt = 32 := rfl
  have s1 := c_isub c 48; have s2 := c_isub (c ||| 32) 97; have r1 := rng32 c; have r2 := rng32 (c - 48); have r3 := rng32 (c ||| 32); have r4 := rng32 ((c ||| 32) - 97)
  have o1 := (c_orS c 32).2.1; have o2 := c_or0 c 32
  unfold own_ref
  rw [if_pos (by rw [Int32.lt_iff_toInt_lt, Int32.lt_iff_toInt_lt]; omega), if_pos (by rw [Int32.lt_iff_toInt_lt, Int32.lt_iff_toInt_lt]; omega)]
def own_dig : List Int32 := [48, 49, 50, 51, 52, 53, 54, 55, 56, 57, 97, 98, 99, 100, 101, 102]
def own_dgU : List Int32 := [48, 49, 50, 51, 52, 53, 54, 55, 56, 57, 65, 66, 67, 68, 69, 70]
theorem own_all : ∀ n : Fin 128, own_hex (Int32.ofNat n.val) = own_ref (Int32.ofNat n.val) ∧ (own_hex (Int32.ofNat n.val) = (-1 : Int32) ∨ (¬ own_hex (Int32.ofNat n.val) < (0 : Int32) ∧ ¬ (15 : Int32) < own_hex (Int32.ofNat n.val) ∧ (own_dig.getD (own_hex (Int32.ofNat n.val)).toNatClampNeg 0 &&& (255 : Int32)) = ((Int32.ofNat n.val) ||| (32 : Int32)))) := by decide +kernel
theorem own_near {c : Int32} (h0 : ¬ c < 0) (h1 : c < 128) : ∃ n : Fin 128, c = Int32.ofNat n.val := by
  have e := own_of_rng h0
  have hn : c.toInt.toNat < 128 := by rw [Int32.lt_iff_toInt_lt] at h0 h1; have : (128 : Int32).toInt = 128 := rfl; have : (0 : Int32).toInt = 0 := rfl; omega
  exact ⟨⟨_, hn⟩, e⟩
theorem own_hr (c : Int32) : own_hex c = own_ref c := by
  by_cases h0 : c < 0
  · rw [own_hex_far (Or.inl h0), own_ref_far (Or.inl h0)]
  · by_cases h1 : c < 128
    · obtain ⟨n, rfl⟩ := own_near h0 h1; exact (own_all n).1
    · rw [own_hex_far (Or.inr h1), own_ref_far (Or.inr h1)]
theorem own_last (c : Int32) (h : ¬ own_hex c = (-1 : Int32)) : ¬ own_hex c < (0 : Int32) ∧ ¬ (15 : Int32) < own_hex c ∧ (own_dig.getD (own_hex c).toNatClampNeg 0 &&& (255 : Int32)) = (c ||| (32 : Int32)) := by
  by_cases h0 : c < 0
  · exact absurd (own_hex_far (Or.inl h0)) h
  · by_cases h1 : c < 128
    · obtain ⟨n, rfl⟩ := own_near h0 h1; exact (own_all n).2.resolve_left h
    · exact absurd (own_hex_far (Or.inr h1)) h
theorem own_getD (L : List Int32) (n : Nat) : (L.map Value.int).getD n (.int 0) = .int (L.getD n 0) := by
  simp only [List.getD, List.getElem?_map]; cases L[n]? <;> rfl
theorem own_remR (x : Int32) : ¬ own_rem (x &&& (2147483647 : Int32)) (16 : Int32) < (0 : Int32) ∧ own_rem (x &&& (2147483647 : Int32)) (16 : Int32) < (16 : Int32) := by
  have h := c_and x 2147483647 (by decide)
  have h2 : (own_rem (x &&& (2147483647 : Int32)) (16 : Int32)).toInt = (x &&& 2147483647).toInt.tmod (16 : Int32).toInt := rem_toInt _ _
  have h3 : (16 : Int32).toInt = 16 := rfl
  have h4 := tmod_bounds (a := (x &&& 2147483647).toInt) (M := 16) (by decide)
  have h5 : 0 ≤ (x &&& 2147483647).toInt.tmod 16 := Int.tmod_nonneg _ h.1
  rw [Int32.lt_iff_toInt_lt, Int32.lt_iff_toInt_lt, h2, h3]
  have h6 : (0 : Int32).toInt = 0 := rfl
  omega
def Q0 (Z : State) (p0 : Int32) (p1 : Int32) (p2 : Int32) (cs : Int32) (fv : Value) (h0 : Heap) (n0 : Nat) (v : Option Value) (h : Heap) (L : List Loc) : Prop := True
theorem ef_0 (m : MethodId) (x0 : Int32) (x1 : Int32) (x2 : Int32) : entryFrame m #[(.int x0), (.int x1), (.int x2)] maxLocals = mkF m 0 #[.val (.int x0), .val (.int x1), .val (.int x2), .unset, .unset, .unset, .unset] [] := by first | (simp [entryFrame, mkF, argsToLocals, Value.category, maxLocals]; done) | rfl
theorem own_lt16 {x : Int32} (h : ¬ (15 : Int32) < x) : x < (16 : Int32) := by rw [Int32.lt_iff_toInt_lt] at h ⊢; have : (15 : Int32).toInt = 15 := rfl; have : (16 : Int32).toInt = 16 := rfl; omega
theorem pd_27763 : parseMethodDescriptor "(I)I" = some ⟨[.int], some .int⟩ := by decide +kernel
theorem pd_27757 : parseMethodDescriptor "(I)C" = some ⟨[.int], some .char⟩ := by decide +kernel
set_option maxRecDepth 65536 in
set_option maxHeartbeats 40000000 in
theorem rm0 (l : Launch) (Z : State) (a0 : Array Value) (hw : ∀ d ∈ tables_1, d.before a0 Z = true) (ws : List Jvm.Cond) (p0 : Int32) (p1 : Int32) (p2 : Int32) (cs : Int32) (fv : Value) (h0 : Heap) (n0 : Nat) (Z0 : n0 ≤ h0.size) (hn0 : n0 = Z.heap.size) (SC : Sta Z h0 "java/lang/String" "COMPACT_STRINGS" "Z" (.int cs)) (hcs : ¬ cs = (0 : Int32)) (SF : Sta Z h0 "jdk/internal/util/Preconditions" "SIOOBE_FORMATTER" "Ljava/util/function/BiFunction;" fv) (hf : fv.isRef = true) (wS : ∀ a ∈ Bundle.stringAtoms, a.before a0 Z = true) (hcw : Jvm.Lit.compactW.before a0 Z = true) (hc8 : Jvm.Lit.constHeld Z "com/example/lean_router/leanrouter/uri/UriSyntaxHexValuePinLaw" 8) (hc16 : Jvm.Lit.constHeld Z "com/example/lean_router/leanrouter/uri/UriSyntaxHexValuePinLaw" 16) :
    MetFree l x (head1 (Jvm.Cond.code x code maxLocals ret :: ws) room_1) (fun a' U => a' = #[(.int p0), (.int p1), (.int p2)] ∧ U = Z ∧ U.heap = h0) (fun _ _ _ _ _ => True) (fun _ U o U' => ∃ L, o = .returned (some (.int 1)) ∧ Fr n0 L ∧ ReturnedEndW U o U' L room_1.cells room_1.slots) := by
  refine MetFree.of_bodySF (plainFor_of_name pn_UriSyntaxHexValuePinLaw) hisR ?_
  intro p e s m args below meth c s₁ Bd hml0 hP hK
  obtain ⟨rfl, hU, hh⟩ := hP
  have hZ : Z.Warmed39 s.vm := by rw [hU]; exact State.Warmed39.refl Z
  have hS : s.Since s.vm s.heap.size := (State.WarmedH.refl s).since _
  have hI : IB Z s.vm [] := by rw [hU]; exact IB.start
  have hkeep : ∀ (b : Addr) (cl : Cell), Z.heap[b]? = some cl → s.heap[b]? = some cl := by rw [hU]; exact fun _ _ h => h
  have hx := Bd.exec
  have hby := Bd.bytes
  have hml : c.maxLocals = 7 := hml0
  have hown : s.vm.findClass "com/example/lean_router/leanrouter/uri/UriSyntaxHexValuePinLaw" = some m.cls := findClass_of_methodNamed Bd.named
  have hnm := (name_of_methodNamed Bd.named Bd.method).1
  have X0 : Stand p l e room_1 s m #[(.int p0), (.int p1), (.int p2)] below meth c s₁ [] 0 0 := Stand.of_body Bd
  have e0 : s₁.heap = h0 := by rw [← hh, Bd.state]; rfl
  have N0 := Fr.nil n0
  have Zn := Z0
  have pre0 : ∀ t, Steps p.tables e below (s₁.setTop (mkF m 0 #[.val (.int p0), .val (.int p1), .val (.int p2), .unset, .unset, .unset, .unset] [])) t → Steps p.tables e below (s₁.setTop (entryFrame m #[(.int p0), (.int p1), (.int p2)] maxLocals)) t := fun t q => castTop (ef_0 m p0 p1 p2) q
  have k0 : ∀ t, Steps p.tables e below (s₁.setTop (mkF m 0 #[.val (.int p0), .val (.int p1), .val (.int p2), .unset, .unset, .unset, .unset] [])) t → Steps p.tables e below (s₁.setTop (mkF m 0 #[.val (.int p0), .val (.int p1), .val (.int p2), .unset, .unset, .unset, .unset] [])) t := fun t q => q
  have hkT : s.heap.size ≤ h0.size := by rw [hh]; exact Nat.le_refl _
  have k1_ : ∀ t, Steps p.tables e below (s₁.setTop (mkF m 11 #[.val (.int p0), .val (.int p1), .val (.int p2), .val (.int (p2 &&& (3 : Int32))), .val (.int (p1 &&& (2147483647 : Int32))), .unset, .unset] [(.int (p2 &&& (3 : Int32)))])) t → Steps p.tables e below (s₁.setTop (mkF m 0 #[.val (.int p0), .val (.int p1), .val (.int p2), .unset, .unset, .unset, .unset] [])) t := by
    intro t q
    refine k0 _ ?_
    show Steps p.tables e below (s₁.setTop (mkF m 0 #[.val (.int p0), .val (.int p1), .val (.int p2), .unset, .unset, .unset, .unset] [])) _
    refine XS.iloadN X0.here hx rfl (hb hby at_0) rfl ?_
    show Steps p.tables e below (s₁.setTop (mkF m 1 #[.val (.int p0), .val (.int p1), .val (.int p2), .unset, .unset, .unset, .unset] [(.int p2)])) _
    refine XS.iconst X0.here hx rfl (hb hby at_1) ?_
    show Steps p.tables e below (s₁.setTop (mkF m 2 #[.val (.int p0), .val (.int p1), .val (.int p2), .unset, .unset, .unset, .unset] [(.int (3 : Int32)), (.int p2)])) _
    refine XS.iand X0.here hx rfl (hb hby at_2) rfl ?_
    show Steps p.tables e below (s₁.setTop (mkF m 3 #[.val (.int p0), .val (.int p1), .val (.int p2), .unset, .unset, .unset, .unset] [(.int (p2 &&& (3 : Int32)))])) _
    refine XS.istoreN X0.here hx rfl (hb hby at_3) rfl (l' := #[.val (.int p0), .val (.int p1), .val (.int p2), .val (.int (p2 &&& (3 : Int32))), .unset, .unset, .unset]) rfl ?_
    show Steps p.tables e below (s₁.setTop (mkF m 4 #[.val (.int p0), .val (.int p1), .val (.int p2), .val (.int (p2 &&& (3 : Int32))), .unset, .unset, .unset] [])) _
    refine XS.iloadN X0.here hx rfl (hb hby at_4) rfl ?_
    show Steps p.tables e below (s₁.setTop (mkF m 5 #[.val (.int p0), .val (.int p1), .val (.int p2), .val (.int (p2 &&& (3 : Int32))), .unset, .unset, .unset] [(.int p1)])) _
    refine X0.ldcInt hx hown (mvT hZ (hw _ (List.mem_of_getElem? (i := 0) rfl))) (g := (mkF m 5 #[.val (.int p0), .val (.int p1), .val (.int p2), .val (.int (p2 &&& (3 : Int32))), .unset, .unset, .unset] [(.int p1)])) rfl (hb hby at_5) _ ?_
    show Steps p.tables e below (s₁.setTop (mkF m 7 #[.val (.int p0), .val (.int p1), .val (.int p2), .val (.int (p2 &&& (3 : Int32))), .unset, .unset, .unset] [(.int (2147483647 : Int32)), (.int p1)])) _
    refine XS.iand X0.here hx rfl (hb hby at_7) rfl ?_
    show Steps p.tables e below (s₁.setTop (mkF m 8 #[.val (.int p0), .val (.int p1), .val (.int p2), .val (.int (p2 &&& (3 : Int32))), .unset, .unset, .unset] [(.int (p1 &&& (2147483647 : Int32)))])) _
    refine XS.istore X0.here hx rfl (hb hby at_8) rfl (l' := #[.val (.int p0), .val (.int p1), .val (.int p2), .val (.int (p2 &&& (3 : Int32))), .val (.int (p1 &&& (2147483647 : Int32))), .unset, .unset]) rfl ?_
    show Steps p.tables e below (s₁.setTop (mkF m 10 #[.val (.int p0), .val (.int p1), .val (.int p2), .val (.int (p2 &&& (3 : Int32))), .val (.int (p1 &&& (2147483647 : Int32))), .unset, .unset] [])) _
    refine XS.iloadN X0.here hx rfl (hb hby at_10) rfl ?_
    show Steps p.tables e below (s₁.setTop (mkF m 11 #[.val (.int p0), .val (.int p1), .val (.int p2), .val (.int (p2 &&& (3 : Int32))), .val (.int (p1 &&& (2147483647 : Int32))), .unset, .unset] [(.int (p2 &&& (3 : Int32)))])) _
    exact q
  by_cases b0 : (p2 &&& (3 : Int32)) = (0 : Int32)
  · have k2_ : ∀ t, Steps p.tables e below (s₁.setTop (mkF m 14 #[.val (.int p0), .val (.int p1), .val (.int p2), .val (.int (p2 &&& (3 : Int32))), .val (.int (p1 &&& (2147483647 : Int32))), .unset, .unset] [])) t → Steps p.tables e below (s₁.setTop (mkF m 0 #[.val (.int p0), .val (.int p1), .val (.int p2), .unset, .unset, .unset, .unset] [])) t := by
      intro t q
      refine k1_ _ ?_
      show Steps p.tables e below (s₁.setTop (mkF m 11 #[.val (.int p0), .val (.int p1), .val (.int p2), .val (.int (p2 &&& (3 : Int32))), .val (.int (p1 &&& (2147483647 : Int32))), .unset, .unset] [(.int (p2 &&& (3 : Int32)))])) _
      refine XS.ifNo X0.here hx rfl (hb hby at_11) rfl ((if0 _ _).trans (teq b0).2) ?_
      show Steps p.tables e below (s₁.setTop (mkF m 14 #[.val (.int p0), .val (.int p1), .val (.int p2), .val (.int (p2 &&& (3 : Int32))), .val (.int (p1 &&& (2147483647 : Int32))), .unset, .unset] [])) _
      exact q
    have k3_ : ∀ t, Steps p.tables e below (s₁.setTop (mkF m 70 #[.val (.int p0), .val (.int p1), .val (.int p2), .val (.int (p2 &&& (3 : Int32))), .val (.int (p1 &&& (2147483647 : Int32))), .val (.int p0), .unset] [])) t → Steps p.tables e below (s₁.setTop (mkF m 0 #[.val (.int p0), .val (.int p1), .val (.int p2), .unset, .unset, .unset, .unset] [])) t := by
      intro t q
      refine k2_ _ ?_
      show Steps p.tables e below (s₁.setTop (mkF m 14 #[.val (.int p0), .val (.int p1), .val (.int p2), .val (.int (p2 &&& (3 : Int32))), .val (.int (p1 &&& (2147483647 : Int32))), .unset, .unset] [])) _
      refine XS.iloadN X0.here hx rfl (hb hby at_14) rfl ?_
      show Steps p.tables e below (s₁.setTop (mkF m 15 #[.val (.int p0), .val (.int p1), .val (.int p2), .val (.int (p2 &&& (3 : Int32))), .val (.int (p1 &&& (2147483647 : Int32))), .unset, .unset] [(.int p0)])) _
      refine XS.istore X0.here hx rfl (hb hby at_15) rfl (l' := #[.val (.int p0), .val (.int p1), .val (.int p2), .val (.int (p2 &&& (3 : Int32))), .val (.int (p1 &&& (2147483647 : Int32))), .val (.int p0), .unset]) rfl ?_
      show Steps p.tables e below (s₁.setTop (mkF m 17 #[.val (.int p0), .val (.int p1), .val (.int p2), .val (.int (p2 &&& (3 : Int32))), .val (.int (p1 &&& (2147483647 : Int32))), .val (.int p0), .unset] [])) _
      refine XS.goto X0.here hx rfl (pc0 := 17) (pc' := 70) rfl (hb hby at_17) (by decide) (by decide) ?_
      show Steps p.tables e below (s₁.setTop (mkF m 70 #[.val (.int p0), .val (.int p1), .val (.int p2), .val (.int (p2 &&& (3 : Int32))), .val (.int (p1 &&& (2147483647 : Int32))), .val (.int p0), .unset] [])) _
      exact q
    obtain ⟨cc, e_cc⟩ : ∃ z, z = p0 := ⟨_, rfl⟩
    have k4_ : ∀ t, Steps p.tables e below (s₁.setTop (mkF m 70 #[.val (.int cc), .val (.int p1), .val (.int p2), .val (.int (p2 &&& (3 : Int32))), .val (.int (p1 &&& (2147483647 : Int32))), .val (.int cc), .unset] [])) t → Steps p.tables e below (s₁.setTop (mkF m 0 #[.val (.int p0), .val (.int p1), .val (.int p2), .unset, .unset, .unset, .unset] [])) t := by rw [e_cc]; exact k3_
    have k5_ : ∀ t, Steps p.tables e below (s₁.setTop (mkF m 72 #[.val (.int cc), .val (.int p1), .val (.int p2), .val (.int (p2 &&& (3 : Int32))), .val (.int (p1 &&& (2147483647 : Int32))), .val (.int cc), .unset] [(.int cc)])) t → Steps p.tables e below (s₁.setTop (mkF m 0 #[.val (.int p0), .val (.int p1), .val (.int p2), .unset, .unset, .unset, .unset] [])) t := by
      intro t q
      refine k4_ _ ?_
      show Steps p.tables e below (s₁.setTop (mkF m 70 #[.val (.int cc), .val (.int p1), .val (.int p2), .val (.int (p2 &&& (3 : Int32))), .val (.int (p1 &&& (2147483647 : Int32))), .val (.int cc), .unset] [])) _
      refine XS.iload X0.here hx rfl (hb hby at_70) rfl ?_
      show Steps p.tables e below (s₁.setTop (mkF m 72 #[.val (.int cc), .val (.int p1), .val (.int p2), .val (.int (p2 &&& (3 : Int32))), .val (.int (p1 &&& (2147483647 : Int32))), .val (.int cc), .unset] [(.int cc)])) _
      exact q
    obtain ⟨_, _, ⟨T6, L6, kk6, n6⟩, -, X6, ⟨Lc6, hQ6, l6, y6, z6⟩, st6⟩ := Jvm.LawKit.callS X0 hx (y := (⟨"com/example/lean_router/leanrouter/uri/UriSyntax", "hexValue", "(I)I"⟩ : MethodName)) hown (mvT hZ (hw _ (List.mem_of_getElem? (i := 34) rfl))) (mvT hZ (hw _ (List.mem_of_getElem? (i := 35) rfl))) (mvT hZ (hw _ (List.mem_of_getElem? (i := 36) rfl))) (mvT hZ (hw _ (List.mem_of_getElem? (i := 37) rfl))) (by decide) (backOf (W := 0) (rmH l Z a0 hw [] cc h0 n0 Zn) hZ (hw _ (List.mem_of_getElem? (i := 37) rfl)) (hw _ (List.mem_of_getElem? (i := 36) rfl)) (by decide) (by decide)) (g := (mkF m 72 #[.val (.int cc), .val (.int p1), .val (.int p2), .val (.int (p2 &&& (3 : Int32))), .val (.int (p1 &&& (2147483647 : Int32))), .val (.int cc), .unset] [(.int cc)])) rfl (by rw [hml]; rfl) (argsL := [(.int cc)]) (rest := []) (lenOf pd_27763 rfl) rfl (by show 2 * 0 + _ ≤ _; exact Nat.le_of_eq rfl) (hb hby at_72) (fun _ _ => ⟨rfl, e0, (by decide : 0 + 0 ≤ _), (by decide : 0 + 0 ≤ _)⟩)
    dsimp only [Pt.U, Pt.locs, Pt.cells, Pt.slots] at X6 l6 y6 z6 st6 hQ6
    subst l6 y6 z6
    obtain ⟨rfl, Nq6, hq6⟩ := hQ6
    have N6 := Fr.app N0 Nq6
    have k7_ : ∀ t, Steps p.tables e below (T6.setTop (mkF m 75 #[.val (.int cc), .val (.int p1), .val (.int p2), .val (.int (p2 &&& (3 : Int32))), .val (.int (p1 &&& (2147483647 : Int32))), .val (.int cc), .unset] [(.int (own_hex cc))])) t → Steps p.tables e below (s₁.setTop (mkF m 0 #[.val (.int p0), .val (.int p1), .val (.int p2), .unset, .unset, .unset, .unset] [])) t := fun t q => k5_ t (st6 t q)
    have k8_ : ∀ t, Steps p.tables e below (T6.setTop (mkF m 81 #[.val (.int cc), .val (.int p1), .val (.int p2), .val (.int (p2 &&& (3 : Int32))), .val (.int (p1 &&& (2147483647 : Int32))), .val (.int cc), .val (.int (own_hex cc))] [(.int cc), (.int (own_hex cc))])) t → Steps p.tables e below (s₁.setTop (mkF m 0 #[.val (.int p0), .val (.int p1), .val (.int p2), .unset, .unset, .unset, .unset] [])) t := by
      intro t q
      refine k7_ _ ?_
      show Steps p.tables e below (T6.setTop (mkF m 75 #[.val (.int cc), .val (.int p1), .val (.int p2), .val (.int (p2 &&& (3 : Int32))), .val (.int (p1 &&& (2147483647 : Int32))), .val (.int cc), .unset] [(.int (own_hex cc))])) _
      refine XS.istore X6.here hx rfl (hb hby at_75) rfl (l' := #[.val (.int cc), .val (.int p1), .val (.int p2), .val (.int (p2 &&& (3 : Int32))), .val (.int (p1 &&& (2147483647 : Int32))), .val (.int cc), .val (.int (own_hex cc))]) rfl ?_
      show Steps p.tables e below (T6.setTop (mkF m 77 #[.val (.int cc), .val (.int p1), .val (.int p2), .val (.int (p2 &&& (3 : Int32))), .val (.int (p1 &&& (2147483647 : Int32))), .val (.int cc), .val (.int (own_hex cc))] [])) _
      refine XS.iload X6.here hx rfl (hb hby at_77) rfl ?_
      show Steps p.tables e below (T6.setTop (mkF m 79 #[.val (.int cc), .val (.int p1), .val (.int p2), .val (.int (p2 &&& (3 : Int32))), .val (.int (p1 &&& (2147483647 : Int32))), .val (.int cc), .val (.int (own_hex cc))] [(.int (own_hex cc))])) _
      refine XS.iload X6.here hx rfl (hb hby at_79) rfl ?_
      show Steps p.tables e below (T6.setTop (mkF m 81 #[.val (.int cc), .val (.int p1), .val (.int p2), .val (.int (p2 &&& (3 : Int32))), .val (.int (p1 &&& (2147483647 : Int32))), .val (.int cc), .val (.int (own_hex cc))] [(.int cc), (.int (own_hex cc))])) _
      exact q
    obtain ⟨_, _, ⟨T9, L9, kk9, n9⟩, -, X9, ⟨Lc9, hQ9, l9, y9, z9⟩, st9⟩ := Jvm.LawKit.callS X6 hx (y := (⟨"com/example/lean_router/leanrouter/uri/UriSyntaxHexValuePinLaw", "reference", "(I)I"⟩ : MethodName)) hown (mvT hZ (hw _ (List.mem_of_getElem? (i := 41) rfl))) (mvT hZ (hw _ (List.mem_of_getElem? (i := 42) rfl))) (mvT hZ (hw _ (List.mem_of_getElem? (i := 43) rfl))) (mvT hZ (hw _ (List.mem_of_getElem? (i := 44) rfl))) (by decide) (backOf (W := 1) (rmE l Z a0 hw [] cc h0 n0 Zn) hZ (hw _ (List.mem_of_getElem? (i := 44) rfl)) (hw _ (List.mem_of_getElem? (i := 43) rfl)) (by decide) (by decide)) (g := (mkF m 81 #[.val (.int cc), .val (.int p1), .val (.int p2), .val (.int (p2 &&& (3 : Int32))), .val (.int (p1 &&& (2147483647 : Int32))), .val (.int cc), .val (.int (own_hex cc))] [(.int cc), (.int (own_hex cc))])) rfl (by rw [hml]; rfl) (argsL := [(.int cc)]) (rest := [(.int (own_hex cc))]) (lenOf pd_27763 rfl) rfl (by show 2 * 0 + _ ≤ _; exact Nat.le_of_eq rfl) (hb hby at_81) (fun _ _ => ⟨rfl, hq6, (by decide : 0 + 0 + 0 ≤ _), (by decide : 0 + 0 + 0 ≤ _)⟩)
    dsimp only [Pt.U, Pt.locs, Pt.cells, Pt.slots] at X9 l9 y9 z9 st9 hQ9
    subst l9 y9 z9
    obtain ⟨rfl, Nq9, hq9⟩ := hQ9
    have N9 := Fr.app N6 Nq9
    have k10_ : ∀ t, Steps p.tables e below (T9.setTop (mkF m 84 #[.val (.int cc), .val (.int p1), .val (.int p2), .val (.int (p2 &&& (3 : Int32))), .val (.int (p1 &&& (2147483647 : Int32))), .val (.int cc), .val (.int (own_hex cc))] [(.int (own_ref cc)), (.int (own_hex cc))])) t → Steps p.tables e below (s₁.setTop (mkF m 0 #[.val (.int p0), .val (.int p1), .val (.int p2), .unset, .unset, .unset, .unset] [])) t := fun t q => k8_ t (st9 t q)
    have k11_ : ∀ t, Steps p.tables e below (T9.setTop (mkF m 89 #[.val (.int cc), .val (.int p1), .val (.int p2), .val (.int (p2 &&& (3 : Int32))), .val (.int (p1 &&& (2147483647 : Int32))), .val (.int cc), .val (.int (own_hex cc))] [])) t → Steps p.tables e below (s₁.setTop (mkF m 0 #[.val (.int p0), .val (.int p1), .val (.int p2), .unset, .unset, .unset, .unset] [])) t := by
      intro t q
      refine k10_ _ ?_
      show Steps p.tables e below (T9.setTop (mkF m 84 #[.val (.int cc), .val (.int p1), .val (.int p2), .val (.int (p2 &&& (3 : Int32))), .val (.int (p1 &&& (2147483647 : Int32))), .val (.int cc), .val (.int (own_hex cc))] [(.int (own_ref cc)), (.int (own_hex cc))])) _
      refine XS.icmpYes X9.here hx rfl (pc0 := 84) (pc' := 89) rfl (hb hby at_84) rfl (teq (own_hr cc)).1 (by decide) (by decide) ?_
      show Steps p.tables e below (T9.setTop (mkF m 89 #[.val (.int cc), .val (.int p1), .val (.int p2), .val (.int (p2 &&& (3 : Int32))), .val (.int (p1 &&& (2147483647 : Int32))), .val (.int cc), .val (.int (own_hex cc))] [])) _
      exact q
    have k12_ : ∀ t, Steps p.tables e below (T9.setTop (mkF m 92 #[.val (.int cc), .val (.int p1), .val (.int p2), .val (.int (p2 &&& (3 : Int32))), .val (.int (p1 &&& (2147483647 : Int32))), .val (.int cc), .val (.int (own_hex cc))] [(.int (-1 : Int32)), (.int (own_hex cc))])) t → Steps p.tables e below (s₁.setTop (mkF m 0 #[.val (.int p0), .val (.int p1), .val (.int p2), .unset, .unset, .unset, .unset] [])) t := by
      intro t q
      refine k11_ _ ?_
      show Steps p.tables e below (T9.setTop (mkF m 89 #[.val (.int cc), .val (.int p1), .val (.int p2), .val (.int (p2 &&& (3 : Int32))), .val (.int (p1 &&& (2147483647 : Int32))), .val (.int cc), .val (.int (own_hex cc))] [])) _
      refine XS.iload X9.here hx rfl (hb hby at_89) rfl ?_
      show Steps p.tables e below (T9.setTop (mkF m 91 #[.val (.int cc), .val (.int p1), .val (.int p2), .val (.int (p2 &&& (3 : Int32))), .val (.int (p1 &&& (2147483647 : Int32))), .val (.int cc), .val (.int (own_hex cc))] [(.int (own_hex cc))])) _
      refine XS.iconst X9.here hx rfl (hb hby at_91) ?_
      show Steps p.tables e below (T9.setTop (mkF m 92 #[.val (.int cc), .val (.int p1), .val (.int p2), .val (.int (p2 &&& (3 : Int32))), .val (.int (p1 &&& (2147483647 : Int32))), .val (.int cc), .val (.int (own_hex cc))] [(.int (-1 : Int32)), (.int (own_hex cc))])) _
      exact q
    by_cases hm : (own_hex cc) = (-1 : Int32)
    · have k13_ : ∀ t, Steps p.tables e below (T9.setTop (mkF m 95 #[.val (.int cc), .val (.int p1), .val (.int p2), .val (.int (p2 &&& (3 : Int32))), .val (.int (p1 &&& (2147483647 : Int32))), .val (.int cc), .val (.int (own_hex cc))] [])) t → Steps p.tables e below (s₁.setTop (mkF m 0 #[.val (.int p0), .val (.int p1), .val (.int p2), .unset, .unset, .unset, .unset] [])) t := by
        intro t q
        refine k12_ _ ?_
        show Steps p.tables e below (T9.setTop (mkF m 92 #[.val (.int cc), .val (.int p1), .val (.int p2), .val (.int (p2 &&& (3 : Int32))), .val (.int (p1 &&& (2147483647 : Int32))), .val (.int cc), .val (.int (own_hex cc))] [(.int (-1 : Int32)), (.int (own_hex cc))])) _
        refine XS.icmpNo X9.here hx rfl (hb hby at_92) rfl (teq hm).2 ?_
        show Steps p.tables e below (T9.setTop (mkF m 95 #[.val (.int cc), .val (.int p1), .val (.int p2), .val (.int (p2 &&& (3 : Int32))), .val (.int (p1 &&& (2147483647 : Int32))), .val (.int cc), .val (.int (own_hex cc))] [])) _
        exact q
      have k14_ : ∀ t, Steps p.tables e below (T9.setTop (mkF m 96 #[.val (.int cc), .val (.int p1), .val (.int p2), .val (.int (p2 &&& (3 : Int32))), .val (.int (p1 &&& (2147483647 : Int32))), .val (.int cc), .val (.int (own_hex cc))] [(.int (1 : Int32))])) t → Steps p.tables e below (s₁.setTop (mkF m 0 #[.val (.int p0), .val (.int p1), .val (.int p2), .unset, .unset, .unset, .unset] [])) t := by
        intro t q
        refine k13_ _ ?_
        show Steps p.tables e below (T9.setTop (mkF m 95 #[.val (.int cc), .val (.int p1), .val (.int p2), .val (.int (p2 &&& (3 : Int32))), .val (.int (p1 &&& (2147483647 : Int32))), .val (.int cc), .val (.int (own_hex cc))] [])) _
        refine XS.iconst X9.here hx rfl (hb hby at_95) ?_
        show Steps p.tables e below (T9.setTop (mkF m 96 #[.val (.int cc), .val (.int p1), .val (.int p2), .val (.int (p2 &&& (3 : Int32))), .val (.int (p1 &&& (2147483647 : Int32))), .val (.int cc), .val (.int (own_hex cc))] [(.int (1 : Int32))])) _
        exact q
      obtain ⟨fs, hr, hrun, hended, r1, r2, r3, r4⟩ := Stand.leaveW (s := s) (vm₁ := s.vm) (show Stand p l e room_1 (s.setVm s.vm) m _ below meth c T9 _ _ _ from X9) hS (by rw [hq9]; exact hkT) (v := some (.int (1 : Int32))) (fun h => by rw [Bd.returns] at h; cases h)
      refine ⟨_, _, pre0 _ (k14_ _ ?_), hrun, hended, _, rfl, N9, r1, r2, r3, r4.mono (by decide) (by decide)⟩
      show Steps p.tables e below (T9.setTop (mkF m 96 #[.val (.int cc), .val (.int p1), .val (.int p2), .val (.int (p2 &&& (3 : Int32))), .val (.int (p1 &&& (2147483647 : Int32))), .val (.int cc), .val (.int (own_hex cc))] [(.int (1 : Int32))])) _
      exact retN X9 hx (t := .boolean) Bd.returns (by simp) (hb hby at_96) hr
    · have k15_ : ∀ t, Steps p.tables e below (T9.setTop (mkF m 97 #[.val (.int cc), .val (.int p1), .val (.int p2), .val (.int (p2 &&& (3 : Int32))), .val (.int (p1 &&& (2147483647 : Int32))), .val (.int cc), .val (.int (own_hex cc))] [])) t → Steps p.tables e below (s₁.setTop (mkF m 0 #[.val (.int p0), .val (.int p1), .val (.int p2), .unset, .unset, .unset, .unset] [])) t := by
        intro t q
        refine k12_ _ ?_
        show Steps p.tables e below (T9.setTop (mkF m 92 #[.val (.int cc), .val (.int p1), .val (.int p2), .val (.int (p2 &&& (3 : Int32))), .val (.int (p1 &&& (2147483647 : Int32))), .val (.int cc), .val (.int (own_hex cc))] [(.int (-1 : Int32)), (.int (own_hex cc))])) _
        refine XS.icmpYes X9.here hx rfl (pc0 := 92) (pc' := 97) rfl (hb hby at_92) rfl (feq hm).2 (by decide) (by decide) ?_
        show Steps p.tables e below (T9.setTop (mkF m 97 #[.val (.int cc), .val (.int p1), .val (.int p2), .val (.int (p2 &&& (3 : Int32))), .val (.int (p1 &&& (2147483647 : Int32))), .val (.int cc), .val (.int (own_hex cc))] [])) _
        exact q
      obtain ⟨u1, u2, u3⟩ := own_last cc hm
      have k16_ : ∀ t, Steps p.tables e below (T9.setTop (mkF m 99 #[.val (.int cc), .val (.int p1), .val (.int p2), .val (.int (p2 &&& (3 : Int32))), .val (.int (p1 &&& (2147483647 : Int32))), .val (.int cc), .val (.int (own_hex cc))] [(.int (own_hex cc))])) t → Steps p.tables e below (s₁.setTop (mkF m 0 #[.val (.int p0), .val (.int p1), .val (.int p2), .unset, .unset, .unset, .unset] [])) t := by
        intro t q
        refine k15_ _ ?_
        show Steps p.tables e below (T9.setTop (mkF m 97 #[.val (.int cc), .val (.int p1), .val (.int p2), .val (.int (p2 &&& (3 : Int32))), .val (.int (p1 &&& (2147483647 : Int32))), .val (.int cc), .val (.int (own_hex cc))] [])) _
        refine XS.iload X9.here hx rfl (hb hby at_97) rfl ?_
        show Steps p.tables e below (T9.setTop (mkF m 99 #[.val (.int cc), .val (.int p1), .val (.int p2), .val (.int (p2 &&& (3 : Int32))), .val (.int (p1 &&& (2147483647 : Int32))), .val (.int cc), .val (.int (own_hex cc))] [(.int (own_hex cc))])) _
        exact q
      have k17_ : ∀ t, Steps p.tables e below (T9.setTop (mkF m 102 #[.val (.int cc), .val (.int p1), .val (.int p2), .val (.int (p2 &&& (3 : Int32))), .val (.int (p1 &&& (2147483647 : Int32))), .val (.int cc), .val (.int (own_hex cc))] [])) t → Steps p.tables e below (s₁.setTop (mkF m 0 #[.val (.int p0), .val (.int p1), .val (.int p2), .unset, .unset, .unset, .unset] [])) t := by
        intro t q
        refine k16_ _ ?_
        show Steps p.tables e below (T9.setTop (mkF m 99 #[.val (.int cc), .val (.int p1), .val (.int p2), .val (.int (p2 &&& (3 : Int32))), .val (.int (p1 &&& (2147483647 : Int32))), .val (.int cc), .val (.int (own_hex cc))] [(.int (own_hex cc))])) _
        refine XS.ifNo X9.here hx rfl (hb hby at_99) rfl ((if0 _ _).trans (flt u1).1) ?_
        show Steps p.tables e below (T9.setTop (mkF m 102 #[.val (.int cc), .val (.int p1), .val (.int p2), .val (.int (p2 &&& (3 : Int32))), .val (.int (p1 &&& (2147483647 : Int32))), .val (.int cc), .val (.int (own_hex cc))] [])) _
        exact q
      have k18_ : ∀ t, Steps p.tables e below (T9.setTop (mkF m 106 #[.val (.int cc), .val (.int p1), .val (.int p2), .val (.int (p2 &&& (3 : Int32))), .val (.int (p1 &&& (2147483647 : Int32))), .val (.int cc), .val (.int (own_hex cc))] [(.int (15 : Int32)), (.int (own_hex cc))])) t → Steps p.tables e below (s₁.setTop (mkF m 0 #[.val (.int p0), .val (.int p1), .val (.int p2), .unset, .unset, .unset, .unset] [])) t := by
        intro t q
        refine k17_ _ ?_
        show Steps p.tables e below (T9.setTop (mkF m 102 #[.val (.int cc), .val (.int p1), .val (.int p2), .val (.int (p2 &&& (3 : Int32))), .val (.int (p1 &&& (2147483647 : Int32))), .val (.int cc), .val (.int (own_hex cc))] [])) _
        refine XS.iload X9.here hx rfl (hb hby at_102) rfl ?_
        show Steps p.tables e below (T9.setTop (mkF m 104 #[.val (.int cc), .val (.int p1), .val (.int p2), .val (.int (p2 &&& (3 : Int32))), .val (.int (p1 &&& (2147483647 : Int32))), .val (.int cc), .val (.int (own_hex cc))] [(.int (own_hex cc))])) _
        refine XS.bipush X9.here hx rfl (hb hby at_104) ?_
        show Steps p.tables e below (T9.setTop (mkF m 106 #[.val (.int cc), .val (.int p1), .val (.int p2), .val (.int (p2 &&& (3 : Int32))), .val (.int (p1 &&& (2147483647 : Int32))), .val (.int cc), .val (.int (own_hex cc))] [(.int (15 : Int32)), (.int (own_hex cc))])) _
        exact q
      have k19_ : ∀ t, Steps p.tables e below (T9.setTop (mkF m 109 #[.val (.int cc), .val (.int p1), .val (.int p2), .val (.int (p2 &&& (3 : Int32))), .val (.int (p1 &&& (2147483647 : Int32))), .val (.int cc), .val (.int (own_hex cc))] [])) t → Steps p.tables e below (s₁.setTop (mkF m 0 #[.val (.int p0), .val (.int p1), .val (.int p2), .unset, .unset, .unset, .unset] [])) t := by
        intro t q
        refine k18_ _ ?_
        show Steps p.tables e below (T9.setTop (mkF m 106 #[.val (.int cc), .val (.int p1), .val (.int p2), .val (.int (p2 &&& (3 : Int32))), .val (.int (p1 &&& (2147483647 : Int32))), .val (.int cc), .val (.int (own_hex cc))] [(.int (15 : Int32)), (.int (own_hex cc))])) _
        refine XS.icmpNo X9.here hx rfl (hb hby at_106) rfl (flt u2).2.2.1 ?_
        show Steps p.tables e below (T9.setTop (mkF m 109 #[.val (.int cc), .val (.int p1), .val (.int p2), .val (.int (p2 &&& (3 : Int32))), .val (.int (p1 &&& (2147483647 : Int32))), .val (.int cc), .val (.int (own_hex cc))] [])) _
        exact q
      obtain ⟨a_last, T20, h20, kk20, b_last, kc_last, X20, e20, E20, hS20, hk20, hZ20, hown20, EA_last, FC_last, FV_last, VB_last, -, -, hI20, LT_last, st20⟩ := ldcSVL (s := s) (vm0 := s.vm) (Ts := []) (show Stand p l e room_1 (s.setVm s.vm) m _ below meth c T9 _ _ _ from X9) hx hZ hown (hw _ (List.mem_of_getElem? (i := 45) rfl)) wS hq9 hS hkT (by rw [hU, ← hn0]; exact N9) hkeep hI (by decide) hc8 hcw (vs := [(.int (48 : Int32)), (.int (49 : Int32)), (.int (50 : Int32)), (.int (51 : Int32)), (.int (52 : Int32)), (.int (53 : Int32)), (.int (54 : Int32)), (.int (55 : Int32)), (.int (56 : Int32)), (.int (57 : Int32)), (.int (97 : Int32)), (.int (98 : Int32)), (.int (99 : Int32)), (.int (100 : Int32)), (.int (101 : Int32)), (.int (102 : Int32))]) (z := 16) ⟨by decide, by decide⟩ (by decide) rfl (g := (mkF m 109 #[.val (.int cc), .val (.int p1), .val (.int p2), .val (.int (p2 &&& (3 : Int32))), .val (.int (p1 &&& (2147483647 : Int32))), .val (.int cc), .val (.int (own_hex cc))] [])) rfl (hb hby at_109) (n := 64) (by decide) (by decide) (by decide) (by decide)
      replace hZ := hZ20
      replace hown := hown20
      replace hS := hS20
      have hk := hk20
      replace hI := hI20
      replace Zn := Nat.le_trans Zn E20.1
      replace SC := SC.ext E20
      replace SF := SF.ext E20
      have k21_ : ∀ t, Steps p.tables e below (T20.setTop (mkF m 111 #[.val (.int cc), .val (.int p1), .val (.int p2), .val (.int (p2 &&& (3 : Int32))), .val (.int (p1 &&& (2147483647 : Int32))), .val (.int cc), .val (.int (own_hex cc))] [(.ref a_last)])) t → Steps p.tables e below (s₁.setTop (mkF m 0 #[.val (.int p0), .val (.int p1), .val (.int p2), .unset, .unset, .unset, .unset] [])) t := fun t q => k19_ t (st20 t q)
      have k22_ : ∀ t, Steps p.tables e below (T20.setTop (mkF m 113 #[.val (.int cc), .val (.int p1), .val (.int p2), .val (.int (p2 &&& (3 : Int32))), .val (.int (p1 &&& (2147483647 : Int32))), .val (.int cc), .val (.int (own_hex cc))] [(.int (own_hex cc)), (.ref a_last)])) t → Steps p.tables e below (s₁.setTop (mkF m 0 #[.val (.int p0), .val (.int p1), .val (.int p2), .unset, .unset, .unset, .unset] [])) t := by
        intro t q
        refine k21_ _ ?_
        show Steps p.tables e below (T20.setTop (mkF m 111 #[.val (.int cc), .val (.int p1), .val (.int p2), .val (.int (p2 &&& (3 : Int32))), .val (.int (p1 &&& (2147483647 : Int32))), .val (.int cc), .val (.int (own_hex cc))] [(.ref a_last)])) _
        refine XS.iload X20.here hx rfl (hb hby at_111) rfl ?_
        show Steps p.tables e below (T20.setTop (mkF m 113 #[.val (.int cc), .val (.int p1), .val (.int p2), .val (.int (p2 &&& (3 : Int32))), .val (.int (p1 &&& (2147483647 : Int32))), .val (.int cc), .val (.int (own_hex cc))] [(.int (own_hex cc)), (.ref a_last)])) _
        exact q
      obtain ⟨cq23, kq23, q23a, q23b, q23c⟩ := isOf hZ e20 EA_last
      obtain ⟨_, _, ⟨T23, L23, kk23, n23⟩, -, X23, ⟨Lc23, hQ23, l23, y23, z23⟩, st23⟩ := X20.virtualBack hx (y := (⟨"java/lang/String", "charAt", "(I)C"⟩ : MethodName)) (z := (⟨"java/lang/String", "charAt", "(I)C"⟩ : MethodName)) hown (mvT hZ (hw _ (List.mem_of_getElem? (i := 9) rfl))) (mvT hZ (hw _ (List.mem_of_getElem? (i := 10) rfl))) (notFace_of_selects (args := #[]) (mvT hZ (hw _ (List.mem_of_getElem? (i := 12) rfl)))) (mvT hZ (hw _ (List.mem_of_getElem? (i := 12) rfl))) (mvT hZ (hw _ (List.mem_of_getElem? (i := 11) rfl))) (by decide) (backOf (W := 0) (rmA l Z a0 hw [] a_last cs b_last (own_hex cc) kc_last 16 _ (own_dig.getD ((own_hex cc)).toNatClampNeg 0) fv h20 n0 Zn EA_last FC_last FV_last SC hcs VB_last u1 (own_lt16 u2) (own_getD own_dig _) SF hf) hZ (hw _ (List.mem_of_getElem? (i := 13) rfl)) (hw _ (List.mem_of_getElem? (i := 2) rfl)) (by decide) (by decide)) q23a q23c (g := (mkF m 113 #[.val (.int cc), .val (.int p1), .val (.int p2), .val (.int (p2 &&& (3 : Int32))), .val (.int (p1 &&& (2147483647 : Int32))), .val (.int cc), .val (.int (own_hex cc))] [(.int (own_hex cc)), (.ref a_last)])) rfl (by rw [hml]; rfl) (Steps.refl _) (argsL := [(.int (own_hex cc))]) (rest := []) (lenOf pd_27757 rfl) rfl (by show 2 * 0 + _ ≤ _; exact Nat.le_of_eq rfl) (hb hby at_113) (fun _ _ => ⟨rfl, e20, (by decide : 0 + 0 + 0 + 2 + 0 ≤ _), (by decide : 0 + 0 + 0 + (64 + 4) + 0 ≤ _)⟩)
      dsimp only [Pt.U, Pt.locs, Pt.cells, Pt.slots] at X23 l23 y23 z23 st23 hQ23
      subst l23 y23 z23
      obtain ⟨rfl, Nq23, hq23⟩ := hQ23
      have N23 := Fr.app N9 Nq23
      have k24_ : ∀ t, Steps p.tables e below (T23.setTop (mkF m 116 #[.val (.int cc), .val (.int p1), .val (.int p2), .val (.int (p2 &&& (3 : Int32))), .val (.int (p1 &&& (2147483647 : Int32))), .val (.int cc), .val (.int (own_hex cc))] [(.int ((own_dig.getD ((own_hex cc)).toNatClampNeg 0) &&& (255 : Int32)))])) t → Steps p.tables e below (s₁.setTop (mkF m 0 #[.val (.int p0), .val (.int p1), .val (.int p2), .unset, .unset, .unset, .unset] [])) t := fun t q => k22_ t (st23.trans q)
      have k25_ : ∀ t, Steps p.tables e below (T23.setTop (mkF m 121 #[.val (.int cc), .val (.int p1), .val (.int p2), .val (.int (p2 &&& (3 : Int32))), .val (.int (p1 &&& (2147483647 : Int32))), .val (.int cc), .val (.int (own_hex cc))] [(.int (cc ||| (32 : Int32))), (.int ((own_dig.getD ((own_hex cc)).toNatClampNeg 0) &&& (255 : Int32)))])) t → Steps p.tables e below (s₁.setTop (mkF m 0 #[.val (.int p0), .val (.int p1), .val (.int p2), .unset, .unset, .unset, .unset] [])) t := by
        intro t q
        refine k24_ _ ?_
        show Steps p.tables e below (T23.setTop (mkF m 116 #[.val (.int cc), .val (.int p1), .val (.int p2), .val (.int (p2 &&& (3 : Int32))), .val (.int (p1 &&& (2147483647 : Int32))), .val (.int cc), .val (.int (own_hex cc))] [(.int ((own_dig.getD ((own_hex cc)).toNatClampNeg 0) &&& (255 : Int32)))])) _
        refine XS.iload X23.here hx rfl (hb hby at_116) rfl ?_
        show Steps p.tables e below (T23.setTop (mkF m 118 #[.val (.int cc), .val (.int p1), .val (.int p2), .val (.int (p2 &&& (3 : Int32))), .val (.int (p1 &&& (2147483647 : Int32))), .val (.int cc), .val (.int (own_hex cc))] [(.int cc), (.int ((own_dig.getD ((own_hex cc)).toNatClampNeg 0) &&& (255 : Int32)))])) _
        refine XS.bipush X23.here hx rfl (hb hby at_118) ?_
        show Steps p.tables e below (T23.setTop (mkF m 120 #[.val (.int cc), .val (.int p1), .val (.int p2), .val (.int (p2 &&& (3 : Int32))), .val (.int (p1 &&& (2147483647 : Int32))), .val (.int cc), .val (.int (own_hex cc))] [(.int (32 : Int32)), (.int cc), (.int ((own_dig.getD ((own_hex cc)).toNatClampNeg 0) &&& (255 : Int32)))])) _
        refine XS.ior X23.here hx rfl (hb hby at_120) rfl ?_
        show Steps p.tables e below (T23.setTop (mkF m 121 #[.val (.int cc), .val (.int p1), .val (.int p2), .val (.int (p2 &&& (3 : Int32))), .val (.int (p1 &&& (2147483647 : Int32))), .val (.int cc), .val (.int (own_hex cc))] [(.int (cc ||| (32 : Int32))), (.int ((own_dig.getD ((own_hex cc)).toNatClampNeg 0) &&& (255 : Int32)))])) _
        exact q
      have k26_ : ∀ t, Steps p.tables e below (T23.setTop (mkF m 124 #[.val (.int cc), .val (.int p1), .val (.int p2), .val (.int (p2 &&& (3 : Int32))), .val (.int (p1 &&& (2147483647 : Int32))), .val (.int cc), .val (.int (own_hex cc))] [])) t → Steps p.tables e below (s₁.setTop (mkF m 0 #[.val (.int p0), .val (.int p1), .val (.int p2), .unset, .unset, .unset, .unset] [])) t := by
        intro t q
        refine k25_ _ ?_
        show Steps p.tables e below (T23.setTop (mkF m 121 #[.val (.int cc), .val (.int p1), .val (.int p2), .val (.int (p2 &&& (3 : Int32))), .val (.int (p1 &&& (2147483647 : Int32))), .val (.int cc), .val (.int (own_hex cc))] [(.int (cc ||| (32 : Int32))), (.int ((own_dig.getD ((own_hex cc)).toNatClampNeg 0) &&& (255 : Int32)))])) _
        refine XS.icmpNo X23.here hx rfl (hb hby at_121) rfl (teq u3).2 ?_
        show Steps p.tables e below (T23.setTop (mkF m 124 #[.val (.int cc), .val (.int p1), .val (.int p2), .val (.int (p2 &&& (3 : Int32))), .val (.int (p1 &&& (2147483647 : Int32))), .val (.int cc), .val (.int (own_hex cc))] [])) _
        exact q
      have k27_ : ∀ t, Steps p.tables e below (T23.setTop (mkF m 129 #[.val (.int cc), .val (.int p1), .val (.int p2), .val (.int (p2 &&& (3 : Int32))), .val (.int (p1 &&& (2147483647 : Int32))), .val (.int cc), .val (.int (own_hex cc))] [(.int (1 : Int32))])) t → Steps p.tables e below (s₁.setTop (mkF m 0 #[.val (.int p0), .val (.int p1), .val (.int p2), .unset, .unset, .unset, .unset] [])) t := by
        intro t q
        refine k26_ _ ?_
        show Steps p.tables e below (T23.setTop (mkF m 124 #[.val (.int cc), .val (.int p1), .val (.int p2), .val (.int (p2 &&& (3 : Int32))), .val (.int (p1 &&& (2147483647 : Int32))), .val (.int cc), .val (.int (own_hex cc))] [])) _
        refine XS.iconst X23.here hx rfl (hb hby at_124) ?_
        show Steps p.tables e below (T23.setTop (mkF m 125 #[.val (.int cc), .val (.int p1), .val (.int p2), .val (.int (p2 &&& (3 : Int32))), .val (.int (p1 &&& (2147483647 : Int32))), .val (.int cc), .val (.int (own_hex cc))] [(.int (1 : Int32))])) _
        refine XS.goto X23.here hx rfl (pc0 := 125) (pc' := 129) rfl (hb hby at_125) (by decide) (by decide) ?_
        show Steps p.tables e below (T23.setTop (mkF m 129 #[.val (.int cc), .val (.int p1), .val (.int p2), .val (.int (p2 &&& (3 : Int32))), .val (.int (p1 &&& (2147483647 : Int32))), .val (.int cc), .val (.int (own_hex cc))] [(.int (1 : Int32))])) _
        exact q
      obtain ⟨fs, hr, hrun, hended, r1, r2, r3, r4⟩ := Stand.leaveW (s := s) (vm₁ := T20.vm) X23 hS (by rw [hq23]; exact hk) (v := some (.int (1 : Int32))) (fun h => by rw [Bd.returns] at h; cases h)
      refine ⟨_, _, pre0 _ (k27_ _ ?_), hrun, hended, _, rfl, N23, r1, r2, r3, r4.mono (by decide) (by decide)⟩
      show Steps p.tables e below (T23.setTop (mkF m 129 #[.val (.int cc), .val (.int p1), .val (.int p2), .val (.int (p2 &&& (3 : Int32))), .val (.int (p1 &&& (2147483647 : Int32))), .val (.int cc), .val (.int (own_hex cc))] [(.int (1 : Int32))])) _
      exact retN X23 hx (t := .boolean) Bd.returns (by simp) (hb hby at_129) hr
  · have k28_ : ∀ t, Steps p.tables e below (s₁.setTop (mkF m 20 #[.val (.int p0), .val (.int p1), .val (.int p2), .val (.int (p2 &&& (3 : Int32))), .val (.int (p1 &&& (2147483647 : Int32))), .unset, .unset] [])) t → Steps p.tables e below (s₁.setTop (mkF m 0 #[.val (.int p0), .val (.int p1), .val (.int p2), .unset, .unset, .unset, .unset] [])) t := by
      intro t q
      refine k1_ _ ?_
      show Steps p.tables e below (s₁.setTop (mkF m 11 #[.val (.int p0), .val (.int p1), .val (.int p2), .val (.int (p2 &&& (3 : Int32))), .val (.int (p1 &&& (2147483647 : Int32))), .unset, .unset] [(.int (p2 &&& (3 : Int32)))])) _
      refine XS.ifYes X0.here hx rfl (pc0 := 11) (pc' := 20) rfl (hb hby at_11) rfl ((if0 _ _).trans (feq b0).2) (by decide) (by decide) ?_
      show Steps p.tables e below (s₁.setTop (mkF m 20 #[.val (.int p0), .val (.int p1), .val (.int p2), .val (.int (p2 &&& (3 : Int32))), .val (.int (p1 &&& (2147483647 : Int32))), .unset, .unset] [])) _
      exact q
    have k29_ : ∀ t, Steps p.tables e below (s₁.setTop (mkF m 22 #[.val (.int p0), .val (.int p1), .val (.int p2), .val (.int (p2 &&& (3 : Int32))), .val (.int (p1 &&& (2147483647 : Int32))), .unset, .unset] [(.int (1 : Int32)), (.int (p2 &&& (3 : Int32)))])) t → Steps p.tables e below (s₁.setTop (mkF m 0 #[.val (.int p0), .val (.int p1), .val (.int p2), .unset, .unset, .unset, .unset] [])) t := by
      intro t q
      refine k28_ _ ?_
      show Steps p.tables e below (s₁.setTop (mkF m 20 #[.val (.int p0), .val (.int p1), .val (.int p2), .val (.int (p2 &&& (3 : Int32))), .val (.int (p1 &&& (2147483647 : Int32))), .unset, .unset] [])) _
      refine XS.iloadN X0.here hx rfl (hb hby at_20) rfl ?_
      show Steps p.tables e below (s₁.setTop (mkF m 21 #[.val (.int p0), .val (.int p1), .val (.int p2), .val (.int (p2 &&& (3 : Int32))), .val (.int (p1 &&& (2147483647 : Int32))), .unset, .unset] [(.int (p2 &&& (3 : Int32)))])) _
      refine XS.iconst X0.here hx rfl (hb hby at_21) ?_
      show Steps p.tables e below (s₁.setTop (mkF m 22 #[.val (.int p0), .val (.int p1), .val (.int p2), .val (.int (p2 &&& (3 : Int32))), .val (.int (p1 &&& (2147483647 : Int32))), .unset, .unset] [(.int (1 : Int32)), (.int (p2 &&& (3 : Int32)))])) _
      exact q
    by_cases b1 : (p2 &&& (3 : Int32)) = (1 : Int32)
    · have k30_ : ∀ t, Steps p.tables e below (s₁.setTop (mkF m 25 #[.val (.int p0), .val (.int p1), .val (.int p2), .val (.int (p2 &&& (3 : Int32))), .val (.int (p1 &&& (2147483647 : Int32))), .unset, .unset] [])) t → Steps p.tables e below (s₁.setTop (mkF m 0 #[.val (.int p0), .val (.int p1), .val (.int p2), .unset, .unset, .unset, .unset] [])) t := by
        intro t q
        refine k29_ _ ?_
        show Steps p.tables e below (s₁.setTop (mkF m 22 #[.val (.int p0), .val (.int p1), .val (.int p2), .val (.int (p2 &&& (3 : Int32))), .val (.int (p1 &&& (2147483647 : Int32))), .unset, .unset] [(.int (1 : Int32)), (.int (p2 &&& (3 : Int32)))])) _
        refine XS.icmpNo X0.here hx rfl (hb hby at_22) rfl (teq b1).2 ?_
        show Steps p.tables e below (s₁.setTop (mkF m 25 #[.val (.int p0), .val (.int p1), .val (.int p2), .val (.int (p2 &&& (3 : Int32))), .val (.int (p1 &&& (2147483647 : Int32))), .unset, .unset] [])) _
        exact q
      obtain ⟨a_hexl, T31, h31, kk31, b_hexl, kc_hexl, X31, e31, E31, hS31, hk31, hZ31, hown31, EA_hexl, FC_hexl, FV_hexl, VB_hexl, -, -, hI31, LT_hexl, st31⟩ := ldcSVL (s := s) (vm0 := s.vm) (Ts := []) (show Stand p l e room_1 (s.setVm s.vm) m _ below meth c s₁ _ _ _ from X0) hx hZ hown (hw _ (List.mem_of_getElem? (i := 45) rfl)) wS e0 hS hkT (by rw [hU, ← hn0]; exact N0) hkeep hI (by decide) hc8 hcw (vs := [(.int (48 : Int32)), (.int (49 : Int32)), (.int (50 : Int32)), (.int (51 : Int32)), (.int (52 : Int32)), (.int (53 : Int32)), (.int (54 : Int32)), (.int (55 : Int32)), (.int (56 : Int32)), (.int (57 : Int32)), (.int (97 : Int32)), (.int (98 : Int32)), (.int (99 : Int32)), (.int (100 : Int32)), (.int (101 : Int32)), (.int (102 : Int32))]) (z := 16) ⟨by decide, by decide⟩ (by decide) rfl (g := (mkF m 25 #[.val (.int p0), .val (.int p1), .val (.int p2), .val (.int (p2 &&& (3 : Int32))), .val (.int (p1 &&& (2147483647 : Int32))), .unset, .unset] [])) rfl (hb hby at_25) (n := 64) (by decide) (by decide) (by decide) (by decide)
      replace hZ := hZ31
      replace hown := hown31
      replace hS := hS31
      have hk := hk31
      replace hI := hI31
      replace Zn := Nat.le_trans Zn E31.1
      replace SC := SC.ext E31
      replace SF := SF.ext E31
      have k32_ : ∀ t, Steps p.tables e below (T31.setTop (mkF m 27 #[.val (.int p0), .val (.int p1), .val (.int p2), .val (.int (p2 &&& (3 : Int32))), .val (.int (p1 &&& (2147483647 : Int32))), .unset, .unset] [(.ref a_hexl)])) t → Steps p.tables e below (s₁.setTop (mkF m 0 #[.val (.int p0), .val (.int p1), .val (.int p2), .unset, .unset, .unset, .unset] [])) t := fun t q => k30_ t (st31 t q)
      have k33_ : ∀ t, Steps p.tables e below (T31.setTop (mkF m 32 #[.val (.int p0), .val (.int p1), .val (.int p2), .val (.int (p2 &&& (3 : Int32))), .val (.int (p1 &&& (2147483647 : Int32))), .unset, .unset] [(.int (own_rem (p1 &&& (2147483647 : Int32)) (16 : Int32))), (.ref a_hexl)])) t → Steps p.tables e below (s₁.setTop (mkF m 0 #[.val (.int p0), .val (.int p1), .val (.int p2), .unset, .unset, .unset, .unset] [])) t := by
        intro t q
        refine k32_ _ ?_
        show Steps p.tables e below (T31.setTop (mkF m 27 #[.val (.int p0), .val (.int p1), .val (.int p2), .val (.int (p2 &&& (3 : Int32))), .val (.int (p1 &&& (2147483647 : Int32))), .unset, .unset] [(.ref a_hexl)])) _
        refine XS.iload X31.here hx rfl (hb hby at_27) rfl ?_
        show Steps p.tables e below (T31.setTop (mkF m 29 #[.val (.int p0), .val (.int p1), .val (.int p2), .val (.int (p2 &&& (3 : Int32))), .val (.int (p1 &&& (2147483647 : Int32))), .unset, .unset] [(.int (p1 &&& (2147483647 : Int32))), (.ref a_hexl)])) _
        refine XS.bipush X31.here hx rfl (hb hby at_29) ?_
        show Steps p.tables e below (T31.setTop (mkF m 31 #[.val (.int p0), .val (.int p1), .val (.int p2), .val (.int (p2 &&& (3 : Int32))), .val (.int (p1 &&& (2147483647 : Int32))), .unset, .unset] [(.int (16 : Int32)), (.int (p1 &&& (2147483647 : Int32))), (.ref a_hexl)])) _
        refine XS.irem X31.here hx rfl (hb hby at_31) rfl (by decide) ?_
        show Steps p.tables e below (T31.setTop (mkF m 32 #[.val (.int p0), .val (.int p1), .val (.int p2), .val (.int (p2 &&& (3 : Int32))), .val (.int (p1 &&& (2147483647 : Int32))), .unset, .unset] [(.int (own_rem (p1 &&& (2147483647 : Int32)) (16 : Int32))), (.ref a_hexl)])) _
        exact q
      obtain ⟨cq34, kq34, q34a, q34b, q34c⟩ := isOf hZ e31 EA_hexl
      obtain ⟨_, _, ⟨T34, L34, kk34, n34⟩, -, X34, ⟨Lc34, hQ34, l34, y34, z34⟩, st34⟩ := X31.virtualBack hx (y := (⟨"java/lang/String", "charAt", "(I)C"⟩ : MethodName)) (z := (⟨"java/lang/String", "charAt", "(I)C"⟩ : MethodName)) hown (mvT hZ (hw _ (List.mem_of_getElem? (i := 9) rfl))) (mvT hZ (hw _ (List.mem_of_getElem? (i := 10) rfl))) (notFace_of_selects (args := #[]) (mvT hZ (hw _ (List.mem_of_getElem? (i := 12) rfl)))) (mvT hZ (hw _ (List.mem_of_getElem? (i := 12) rfl))) (mvT hZ (hw _ (List.mem_of_getElem? (i := 11) rfl))) (by decide) (backOf (W := 0) (rmA l Z a0 hw [] a_hexl cs b_hexl (own_rem (p1 &&& (2147483647 : Int32)) (16 : Int32)) kc_hexl 16 _ (own_dig.getD ((own_rem (p1 &&& (2147483647 : Int32)) (16 : Int32))).toNatClampNeg 0) fv h31 n0 Zn EA_hexl FC_hexl FV_hexl SC hcs VB_hexl (own_remR p1).1 (own_remR p1).2 (own_getD own_dig _) SF hf) hZ (hw _ (List.mem_of_getElem? (i := 13) rfl)) (hw _ (List.mem_of_getElem? (i := 2) rfl)) (by decide) (by decide)) q34a q34c (g := (mkF m 32 #[.val (.int p0), .val (.int p1), .val (.int p2), .val (.int (p2 &&& (3 : Int32))), .val (.int (p1 &&& (2147483647 : Int32))), .unset, .unset] [(.int (own_rem (p1 &&& (2147483647 : Int32)) (16 : Int32))), (.ref a_hexl)])) rfl (by rw [hml]; rfl) (Steps.refl _) (argsL := [(.int (own_rem (p1 &&& (2147483647 : Int32)) (16 : Int32)))]) (rest := []) (lenOf pd_27757 rfl) rfl (by show 2 * 0 + _ ≤ _; exact Nat.le_of_eq rfl) (hb hby at_32) (fun _ _ => ⟨rfl, e31, (by decide : 0 + 2 + 0 ≤ _), (by decide : 0 + (64 + 4) + 0 ≤ _)⟩)
      dsimp only [Pt.U, Pt.locs, Pt.cells, Pt.slots] at X34 l34 y34 z34 st34 hQ34
      subst l34 y34 z34
      obtain ⟨rfl, Nq34, hq34⟩ := hQ34
      have N34 := Fr.app N0 Nq34
      have k35_ : ∀ t, Steps p.tables e below (T34.setTop (mkF m 35 #[.val (.int p0), .val (.int p1), .val (.int p2), .val (.int (p2 &&& (3 : Int32))), .val (.int (p1 &&& (2147483647 : Int32))), .unset, .unset] [(.int ((own_dig.getD ((own_rem (p1 &&& (2147483647 : Int32)) (16 : Int32))).toNatClampNeg 0) &&& (255 : Int32)))])) t → Steps p.tables e below (s₁.setTop (mkF m 0 #[.val (.int p0), .val (.int p1), .val (.int p2), .unset, .unset, .unset, .unset] [])) t := fun t q => k33_ t (st34.trans q)
      obtain ⟨ch, e_ch⟩ : ∃ z, z = ((own_dig.getD ((own_rem (p1 &&& (2147483647 : Int32)) (16 : Int32))).toNatClampNeg 0) &&& (255 : Int32)) := ⟨_, rfl⟩
      have k36_ : ∀ t, Steps p.tables e below (T34.setTop (mkF m 35 #[.val (.int p0), .val (.int p1), .val (.int p2), .val (.int (p2 &&& (3 : Int32))), .val (.int (p1 &&& (2147483647 : Int32))), .unset, .unset] [(.int ch)])) t → Steps p.tables e below (s₁.setTop (mkF m 0 #[.val (.int p0), .val (.int p1), .val (.int p2), .unset, .unset, .unset, .unset] [])) t := by rw [e_ch]; exact k35_
      have k37_ : ∀ t, Steps p.tables e below (T34.setTop (mkF m 70 #[.val (.int p0), .val (.int p1), .val (.int p2), .val (.int (p2 &&& (3 : Int32))), .val (.int (p1 &&& (2147483647 : Int32))), .val (.int ch), .unset] [])) t → Steps p.tables e below (s₁.setTop (mkF m 0 #[.val (.int p0), .val (.int p1), .val (.int p2), .unset, .unset, .unset, .unset] [])) t := by
        intro t q
        refine k36_ _ ?_
        show Steps p.tables e below (T34.setTop (mkF m 35 #[.val (.int p0), .val (.int p1), .val (.int p2), .val (.int (p2 &&& (3 : Int32))), .val (.int (p1 &&& (2147483647 : Int32))), .unset, .unset] [(.int ch)])) _
        refine XS.istore X34.here hx rfl (hb hby at_35) rfl (l' := #[.val (.int p0), .val (.int p1), .val (.int p2), .val (.int (p2 &&& (3 : Int32))), .val (.int (p1 &&& (2147483647 : Int32))), .val (.int ch), .unset]) rfl ?_
        show Steps p.tables e below (T34.setTop (mkF m 37 #[.val (.int p0), .val (.int p1), .val (.int p2), .val (.int (p2 &&& (3 : Int32))), .val (.int (p1 &&& (2147483647 : Int32))), .val (.int ch), .unset] [])) _
        refine XS.goto X34.here hx rfl (pc0 := 37) (pc' := 70) rfl (hb hby at_37) (by decide) (by decide) ?_
        show Steps p.tables e below (T34.setTop (mkF m 70 #[.val (.int p0), .val (.int p1), .val (.int p2), .val (.int (p2 &&& (3 : Int32))), .val (.int (p1 &&& (2147483647 : Int32))), .val (.int ch), .unset] [])) _
        exact q
      obtain ⟨cc, e_cc⟩ : ∃ z, z = ch := ⟨_, rfl⟩
      have k38_ : ∀ t, Steps p.tables e below (T34.setTop (mkF m 70 #[.val (.int p0), .val (.int p1), .val (.int p2), .val (.int (p2 &&& (3 : Int32))), .val (.int (p1 &&& (2147483647 : Int32))), .val (.int cc), .unset] [])) t → Steps p.tables e below (s₁.setTop (mkF m 0 #[.val (.int p0), .val (.int p1), .val (.int p2), .unset, .unset, .unset, .unset] [])) t := by rw [e_cc]; exact k37_
      have k39_ : ∀ t, Steps p.tables e below (T34.setTop (mkF m 72 #[.val (.int p0), .val (.int p1), .val (.int p2), .val (.int (p2 &&& (3 : Int32))), .val (.int (p1 &&& (2147483647 : Int32))), .val (.int cc), .unset] [(.int cc)])) t → Steps p.tables e below (s₁.setTop (mkF m 0 #[.val (.int p0), .val (.int p1), .val (.int p2), .unset, .unset, .unset, .unset] [])) t := by
        intro t q
        refine k38_ _ ?_
        show Steps p.tables e below (T34.setTop (mkF m 70 #[.val (.int p0), .val (.int p1), .val (.int p2), .val (.int (p2 &&& (3 : Int32))), .val (.int (p1 &&& (2147483647 : Int32))), .val (.int cc), .unset] [])) _
        refine XS.iload X34.here hx rfl (hb hby at_70) rfl ?_
        show Steps p.tables e below (T34.setTop (mkF m 72 #[.val (.int p0), .val (.int p1), .val (.int p2), .val (.int (p2 &&& (3 : Int32))), .val (.int (p1 &&& (2147483647 : Int32))), .val (.int cc), .unset] [(.int cc)])) _
        exact q
      obtain ⟨_, _, ⟨T40, L40, kk40, n40⟩, -, X40, ⟨Lc40, hQ40, l40, y40, z40⟩, st40⟩ := Jvm.LawKit.callS X34 hx (y := (⟨"com/example/lean_router/leanrouter/uri/UriSyntax", "hexValue", "(I)I"⟩ : MethodName)) hown (mvT hZ (hw _ (List.mem_of_getElem? (i := 34) rfl))) (mvT hZ (hw _ (List.mem_of_getElem? (i := 35) rfl))) (mvT hZ (hw _ (List.mem_of_getElem? (i := 36) rfl))) (mvT hZ (hw _ (List.mem_of_getElem? (i := 37) rfl))) (by decide) (backOf (W := 0) (rmH l Z a0 hw [] cc h31 n0 Zn) hZ (hw _ (List.mem_of_getElem? (i := 37) rfl)) (hw _ (List.mem_of_getElem? (i := 36) rfl)) (by decide) (by decide)) (g := (mkF m 72 #[.val (.int p0), .val (.int p1), .val (.int p2), .val (.int (p2 &&& (3 : Int32))), .val (.int (p1 &&& (2147483647 : Int32))), .val (.int cc), .unset] [(.int cc)])) rfl (by rw [hml]; rfl) (argsL := [(.int cc)]) (rest := []) (lenOf pd_27763 rfl) rfl (by show 2 * 0 + _ ≤ _; exact Nat.le_of_eq rfl) (hb hby at_72) (fun _ _ => ⟨rfl, hq34, (by decide : 0 + 2 + 0 + 0 ≤ _), (by decide : 0 + (64 + 4) + 0 + 0 ≤ _)⟩)
      dsimp only [Pt.U, Pt.locs, Pt.cells, Pt.slots] at X40 l40 y40 z40 st40 hQ40
      subst l40 y40 z40
      obtain ⟨rfl, Nq40, hq40⟩ := hQ40
      have N40 := Fr.app N34 Nq40
      have k41_ : ∀ t, Steps p.tables e below (T40.setTop (mkF m 75 #[.val (.int p0), .val (.int p1), .val (.int p2), .val (.int (p2 &&& (3 : Int32))), .val (.int (p1 &&& (2147483647 : Int32))), .val (.int cc), .unset] [(.int (own_hex cc))])) t → Steps p.tables e below (s₁.setTop (mkF m 0 #[.val (.int p0), .val (.int p1), .val (.int p2), .unset, .unset, .unset, .unset] [])) t := fun t q => k39_ t (st40 t q)
      have k42_ : ∀ t, Steps p.tables e below (T40.setTop (mkF m 81 #[.val (.int p0), .val (.int p1), .val (.int p2), .val (.int (p2 &&& (3 : Int32))), .val (.int (p1 &&& (2147483647 : Int32))), .val (.int cc), .val (.int (own_hex cc))] [(.int cc), (.int (own_hex cc))])) t → Steps p.tables e below (s₁.setTop (mkF m 0 #[.val (.int p0), .val (.int p1), .val (.int p2), .unset, .unset, .unset, .unset] [])) t := by
        intro t q
        refine k41_ _ ?_
        show Steps p.tables e below (T40.setTop (mkF m 75 #[.val (.int p0), .val (.int p1), .val (.int p2), .val (.int (p2 &&& (3 : Int32))), .val (.int (p1 &&& (2147483647 : Int32))), .val (.int cc), .unset] [(.int (own_hex cc))])) _
        refine XS.istore X40.here hx rfl (hb hby at_75) rfl (l' := #[.val (.int p0), .val (.int p1), .val (.int p2), .val (.int (p2 &&& (3 : Int32))), .val (.int (p1 &&& (2147483647 : Int32))), .val (.int cc), .val (.int (own_hex cc))]) rfl ?_
        show Steps p.tables e below (T40.setTop (mkF m 77 #[.val (.int p0), .val (.int p1), .val (.int p2), .val (.int (p2 &&& (3 : Int32))), .val (.int (p1 &&& (2147483647 : Int32))), .val (.int cc), .val (.int (own_hex cc))] [])) _
        refine XS.iload X40.here hx rfl (hb hby at_77) rfl ?_
        show Steps p.tables e below (T40.setTop (mkF m 79 #[.val (.int p0), .val (.int p1), .val (.int p2), .val (.int (p2 &&& (3 : Int32))), .val (.int (p1 &&& (2147483647 : Int32))), .val (.int cc), .val (.int (own_hex cc))] [(.int (own_hex cc))])) _
        refine XS.iload X40.here hx rfl (hb hby at_79) rfl ?_
        show Steps p.tables e below (T40.setTop (mkF m 81 #[.val (.int p0), .val (.int p1), .val (.int p2), .val (.int (p2 &&& (3 : Int32))), .val (.int (p1 &&& (2147483647 : Int32))), .val (.int cc), .val (.int (own_hex cc))] [(.int cc), (.int (own_hex cc))])) _
        exact q
      obtain ⟨_, _, ⟨T43, L43, kk43, n43⟩, -, X43, ⟨Lc43, hQ43, l43, y43, z43⟩, st43⟩ := Jvm.LawKit.callS X40 hx (y := (⟨"com/example/lean_router/leanrouter/uri/UriSyntaxHexValuePinLaw", "reference", "(I)I"⟩ : MethodName)) hown (mvT hZ (hw _ (List.mem_of_getElem? (i := 41) rfl))) (mvT hZ (hw _ (List.mem_of_getElem? (i := 42) rfl))) (mvT hZ (hw _ (List.mem_of_getElem? (i := 43) rfl))) (mvT hZ (hw _ (List.mem_of_getElem? (i := 44) rfl))) (by decide) (backOf (W := 1) (rmE l Z a0 hw [] cc h31 n0 Zn) hZ (hw _ (List.mem_of_getElem? (i := 44) rfl)) (hw _ (List.mem_of_getElem? (i := 43) rfl)) (by decide) (by decide)) (g := (mkF m 81 #[.val (.int p0), .val (.int p1), .val (.int p2), .val (.int (p2 &&& (3 : Int32))), .val (.int (p1 &&& (2147483647 : Int32))), .val (.int cc), .val (.int (own_hex cc))] [(.int cc), (.int (own_hex cc))])) rfl (by rw [hml]; rfl) (argsL := [(.int cc)]) (rest := [(.int (own_hex cc))]) (lenOf pd_27763 rfl) rfl (by show 2 * 0 + _ ≤ _; exact Nat.le_of_eq rfl) (hb hby at_81) (fun _ _ => ⟨rfl, hq40, (by decide : 0 + 2 + 0 + 0 + 0 ≤ _), (by decide : 0 + (64 + 4) + 0 + 0 + 0 ≤ _)⟩)
      dsimp only [Pt.U, Pt.locs, Pt.cells, Pt.slots] at X43 l43 y43 z43 st43 hQ43
      subst l43 y43 z43
      obtain ⟨rfl, Nq43, hq43⟩ := hQ43
      have N43 := Fr.app N40 Nq43
      have k44_ : ∀ t, Steps p.tables e below (T43.setTop (mkF m 84 #[.val (.int p0), .val (.int p1), .val (.int p2), .val (.int (p2 &&& (3 : Int32))), .val (.int (p1 &&& (2147483647 : Int32))), .val (.int cc), .val (.int (own_hex cc))] [(.int (own_ref cc)), (.int (own_hex cc))])) t → Steps p.tables e below (s₁.setTop (mkF m 0 #[.val (.int p0), .val (.int p1), .val (.int p2), .unset, .unset, .unset, .unset] [])) t := fun t q => k42_ t (st43 t q)
      have k45_ : ∀ t, Steps p.tables e below (T43.setTop (mkF m 89 #[.val (.int p0), .val (.int p1), .val (.int p2), .val (.int (p2 &&& (3 : Int32))), .val (.int (p1 &&& (2147483647 : Int32))), .val (.int cc), .val (.int (own_hex cc))] [])) t → Steps p.tables e below (s₁.setTop (mkF m 0 #[.val (.int p0), .val (.int p1), .val (.int p2), .unset, .unset, .unset, .unset] [])) t := by
        intro t q
        refine k44_ _ ?_
        show Steps p.tables e below (T43.setTop (mkF m 84 #[.val (.int p0), .val (.int p1), .val (.int p2), .val (.int (p2 &&& (3 : Int32))), .val (.int (p1 &&& (2147483647 : Int32))), .val (.int cc), .val (.int (own_hex cc))] [(.int (own_ref cc)), (.int (own_hex cc))])) _
        refine XS.icmpYes X43.here hx rfl (pc0 := 84) (pc' := 89) rfl (hb hby at_84) rfl (teq (own_hr cc)).1 (by decide) (by decide) ?_
        show Steps p.tables e below (T43.setTop (mkF m 89 #[.val (.int p0), .val (.int p1), .val (.int p2), .val (.int (p2 &&& (3 : Int32))), .val (.int (p1 &&& (2147483647 : Int32))), .val (.int cc), .val (.int (own_hex cc))] [])) _
        exact q
      have k46_ : ∀ t, Steps p.tables e below (T43.setTop (mkF m 92 #[.val (.int p0), .val (.int p1), .val (.int p2), .val (.int (p2 &&& (3 : Int32))), .val (.int (p1 &&& (2147483647 : Int32))), .val (.int cc), .val (.int (own_hex cc))] [(.int (-1 : Int32)), (.int (own_hex cc))])) t → Steps p.tables e below (s₁.setTop (mkF m 0 #[.val (.int p0), .val (.int p1), .val (.int p2), .unset, .unset, .unset, .unset] [])) t := by
        intro t q
        refine k45_ _ ?_
        show Steps p.tables e below (T43.setTop (mkF m 89 #[.val (.int p0), .val (.int p1), .val (.int p2), .val (.int (p2 &&& (3 : Int32))), .val (.int (p1 &&& (2147483647 : Int32))), .val (.int cc), .val (.int (own_hex cc))] [])) _
        refine XS.iload X43.here hx rfl (hb hby at_89) rfl ?_
        show Steps p.tables e below (T43.setTop (mkF m 91 #[.val (.int p0), .val (.int p1), .val (.int p2), .val (.int (p2 &&& (3 : Int32))), .val (.int (p1 &&& (2147483647 : Int32))), .val (.int cc), .val (.int (own_hex cc))] [(.int (own_hex cc))])) _
        refine XS.iconst X43.here hx rfl (hb hby at_91) ?_
        show Steps p.tables e below (T43.setTop (mkF m 92 #[.val (.int p0), .val (.int p1), .val (.int p2), .val (.int (p2 &&& (3 : Int32))), .val (.int (p1 &&& (2147483647 : Int32))), .val (.int cc), .val (.int (own_hex cc))] [(.int (-1 : Int32)), (.int (own_hex cc))])) _
        exact q
      by_cases hm : (own_hex cc) = (-1 : Int32)
      · have k47_ : ∀ t, Steps p.tables e below (T43.setTop (mkF m 95 #[.val (.int p0), .val (.int p1), .val (.int p2), .val (.int (p2 &&& (3 : Int32))), .val (.int (p1 &&& (2147483647 : Int32))), .val (.int cc), .val (.int (own_hex cc))] [])) t → Steps p.tables e below (s₁.setTop (mkF m 0 #[.val (.int p0), .val (.int p1), .val (.int p2), .unset, .unset, .unset, .unset] [])) t := by
          intro t q
          refine k46_ _ ?_
          show Steps p.tables e below (T43.setTop (mkF m 92 #[.val (.int p0), .val (.int p1), .val (.int p2), .val (.int (p2 &&& (3 : Int32))), .val (.int (p1 &&& (2147483647 : Int32))), .val (.int cc), .val (.int (own_hex cc))] [(.int (-1 : Int32)), (.int (own_hex cc))])) _
          refine XS.icmpNo X43.here hx rfl (hb hby at_92) rfl (teq hm).2 ?_
          show Steps p.tables e below (T43.setTop (mkF m 95 #[.val (.int p0), .val (.int p1), .val (.int p2), .val (.int (p2 &&& (3 : Int32))), .val (.int (p1 &&& (2147483647 : Int32))), .val (.int cc), .val (.int (own_hex cc))] [])) _
          exact q
        have k48_ : ∀ t, Steps p.tables e below (T43.setTop (mkF m 96 #[.val (.int p0), .val (.int p1), .val (.int p2), .val (.int (p2 &&& (3 : Int32))), .val (.int (p1 &&& (2147483647 : Int32))), .val (.int cc), .val (.int (own_hex cc))] [(.int (1 : Int32))])) t → Steps p.tables e below (s₁.setTop (mkF m 0 #[.val (.int p0), .val (.int p1), .val (.int p2), .unset, .unset, .unset, .unset] [])) t := by
          intro t q
          refine k47_ _ ?_
          show Steps p.tables e below (T43.setTop (mkF m 95 #[.val (.int p0), .val (.int p1), .val (.int p2), .val (.int (p2 &&& (3 : Int32))), .val (.int (p1 &&& (2147483647 : Int32))), .val (.int cc), .val (.int (own_hex cc))] [])) _
          refine XS.iconst X43.here hx rfl (hb hby at_95) ?_
          show Steps p.tables e below (T43.setTop (mkF m 96 #[.val (.int p0), .val (.int p1), .val (.int p2), .val (.int (p2 &&& (3 : Int32))), .val (.int (p1 &&& (2147483647 : Int32))), .val (.int cc), .val (.int (own_hex cc))] [(.int (1 : Int32))])) _
          exact q
        obtain ⟨fs, hr, hrun, hended, r1, r2, r3, r4⟩ := Stand.leaveW (s := s) (vm₁ := T31.vm) X43 hS (by rw [hq43]; exact hk) (v := some (.int (1 : Int32))) (fun h => by rw [Bd.returns] at h; cases h)
        refine ⟨_, _, pre0 _ (k48_ _ ?_), hrun, hended, _, rfl, N43, r1, r2, r3, r4.mono (by decide) (by decide)⟩
        show Steps p.tables e below (T43.setTop (mkF m 96 #[.val (.int p0), .val (.int p1), .val (.int p2), .val (.int (p2 &&& (3 : Int32))), .val (.int (p1 &&& (2147483647 : Int32))), .val (.int cc), .val (.int (own_hex cc))] [(.int (1 : Int32))])) _
        exact retN X43 hx (t := .boolean) Bd.returns (by simp) (hb hby at_96) hr
      · have k49_ : ∀ t, Steps p.tables e below (T43.setTop (mkF m 97 #[.val (.int p0), .val (.int p1), .val (.int p2), .val (.int (p2 &&& (3 : Int32))), .val (.int (p1 &&& (2147483647 : Int32))), .val (.int cc), .val (.int (own_hex cc))] [])) t → Steps p.tables e below (s₁.setTop (mkF m 0 #[.val (.int p0), .val (.int p1), .val (.int p2), .unset, .unset, .unset, .unset] [])) t := by
          intro t q
          refine k46_ _ ?_
          show Steps p.tables e below (T43.setTop (mkF m 92 #[.val (.int p0), .val (.int p1), .val (.int p2), .val (.int (p2 &&& (3 : Int32))), .val (.int (p1 &&& (2147483647 : Int32))), .val (.int cc), .val (.int (own_hex cc))] [(.int (-1 : Int32)), (.int (own_hex cc))])) _
          refine XS.icmpYes X43.here hx rfl (pc0 := 92) (pc' := 97) rfl (hb hby at_92) rfl (feq hm).2 (by decide) (by decide) ?_
          show Steps p.tables e below (T43.setTop (mkF m 97 #[.val (.int p0), .val (.int p1), .val (.int p2), .val (.int (p2 &&& (3 : Int32))), .val (.int (p1 &&& (2147483647 : Int32))), .val (.int cc), .val (.int (own_hex cc))] [])) _
          exact q
        obtain ⟨u1, u2, u3⟩ := own_last cc hm
        have k50_ : ∀ t, Steps p.tables e below (T43.setTop (mkF m 99 #[.val (.int p0), .val (.int p1), .val (.int p2), .val (.int (p2 &&& (3 : Int32))), .val (.int (p1 &&& (2147483647 : Int32))), .val (.int cc), .val (.int (own_hex cc))] [(.int (own_hex cc))])) t → Steps p.tables e below (s₁.setTop (mkF m 0 #[.val (.int p0), .val (.int p1), .val (.int p2), .unset, .unset, .unset, .unset] [])) t := by
          intro t q
          refine k49_ _ ?_
          show Steps p.tables e below (T43.setTop (mkF m 97 #[.val (.int p0), .val (.int p1), .val (.int p2), .val (.int (p2 &&& (3 : Int32))), .val (.int (p1 &&& (2147483647 : Int32))), .val (.int cc), .val (.int (own_hex cc))] [])) _
          refine XS.iload X43.here hx rfl (hb hby at_97) rfl ?_
          show Steps p.tables e below (T43.setTop (mkF m 99 #[.val (.int p0), .val (.int p1), .val (.int p2), .val (.int (p2 &&& (3 : Int32))), .val (.int (p1 &&& (2147483647 : Int32))), .val (.int cc), .val (.int (own_hex cc))] [(.int (own_hex cc))])) _
          exact q
        have k51_ : ∀ t, Steps p.tables e below (T43.setTop (mkF m 102 #[.val (.int p0), .val (.int p1), .val (.int p2), .val (.int (p2 &&& (3 : Int32))), .val (.int (p1 &&& (2147483647 : Int32))), .val (.int cc), .val (.int (own_hex cc))] [])) t → Steps p.tables e below (s₁.setTop (mkF m 0 #[.val (.int p0), .val (.int p1), .val (.int p2), .unset, .unset, .unset, .unset] [])) t := by
          intro t q
          refine k50_ _ ?_
          show Steps p.tables e below (T43.setTop (mkF m 99 #[.val (.int p0), .val (.int p1), .val (.int p2), .val (.int (p2 &&& (3 : Int32))), .val (.int (p1 &&& (2147483647 : Int32))), .val (.int cc), .val (.int (own_hex cc))] [(.int (own_hex cc))])) _
          refine XS.ifNo X43.here hx rfl (hb hby at_99) rfl ((if0 _ _).trans (flt u1).1) ?_
          show Steps p.tables e below (T43.setTop (mkF m 102 #[.val (.int p0), .val (.int p1), .val (.int p2), .val (.int (p2 &&& (3 : Int32))), .val (.int (p1 &&& (2147483647 : Int32))), .val (.int cc), .val (.int (own_hex cc))] [])) _
          exact q
        have k52_ : ∀ t, Steps p.tables e below (T43.setTop (mkF m 106 #[.val (.int p0), .val (.int p1), .val (.int p2), .val (.int (p2 &&& (3 : Int32))), .val (.int (p1 &&& (2147483647 : Int32))), .val (.int cc), .val (.int (own_hex cc))] [(.int (15 : Int32)), (.int (own_hex cc))])) t → Steps p.tables e below (s₁.setTop (mkF m 0 #[.val (.int p0), .val (.int p1), .val (.int p2), .unset, .unset, .unset, .unset] [])) t := by
          intro t q
          refine k51_ _ ?_
          show Steps p.tables e below (T43.setTop (mkF m 102 #[.val (.int p0), .val (.int p1), .val (.int p2), .val (.int (p2 &&& (3 : Int32))), .val (.int (p1 &&& (2147483647 : Int32))), .val (.int cc), .val (.int (own_hex cc))] [])) _
          refine XS.iload X43.here hx rfl (hb hby at_102) rfl ?_
          show Steps p.tables e below (T43.setTop (mkF m 104 #[.val (.int p0), .val (.int p1), .val (.int p2), .val (.int (p2 &&& (3 : Int32))), .val (.int (p1 &&& (2147483647 : Int32))), .val (.int cc), .val (.int (own_hex cc))] [(.int (own_hex cc))])) _
          refine XS.bipush X43.here hx rfl (hb hby at_104) ?_
          show Steps p.tables e below (T43.setTop (mkF m 106 #[.val (.int p0), .val (.int p1), .val (.int p2), .val (.int (p2 &&& (3 : Int32))), .val (.int (p1 &&& (2147483647 : Int32))), .val (.int cc), .val (.int (own_hex cc))] [(.int (15 : Int32)), (.int (own_hex cc))])) _
          exact q
        have k53_ : ∀ t, Steps p.tables e below (T43.setTop (mkF m 109 #[.val (.int p0), .val (.int p1), .val (.int p2), .val (.int (p2 &&& (3 : Int32))), .val (.int (p1 &&& (2147483647 : Int32))), .val (.int cc), .val (.int (own_hex cc))] [])) t → Steps p.tables e below (s₁.setTop (mkF m 0 #[.val (.int p0), .val (.int p1), .val (.int p2), .unset, .unset, .unset, .unset] [])) t := by
          intro t q
          refine k52_ _ ?_
          show Steps p.tables e below (T43.setTop (mkF m 106 #[.val (.int p0), .val (.int p1), .val (.int p2), .val (.int (p2 &&& (3 : Int32))), .val (.int (p1 &&& (2147483647 : Int32))), .val (.int cc), .val (.int (own_hex cc))] [(.int (15 : Int32)), (.int (own_hex cc))])) _
          refine XS.icmpNo X43.here hx rfl (hb hby at_106) rfl (flt u2).2.2.1 ?_
          show Steps p.tables e below (T43.setTop (mkF m 109 #[.val (.int p0), .val (.int p1), .val (.int p2), .val (.int (p2 &&& (3 : Int32))), .val (.int (p1 &&& (2147483647 : Int32))), .val (.int cc), .val (.int (own_hex cc))] [])) _
          exact q
        have k54_ : ∀ t, Steps p.tables e below (T43.setTop (mkF m 111 #[.val (.int p0), .val (.int p1), .val (.int p2), .val (.int (p2 &&& (3 : Int32))), .val (.int (p1 &&& (2147483647 : Int32))), .val (.int cc), .val (.int (own_hex cc))] [(.ref a_hexl)])) t → Steps p.tables e below (s₁.setTop (mkF m 0 #[.val (.int p0), .val (.int p1), .val (.int p2), .unset, .unset, .unset, .unset] [])) t := fun t q => k53_ t (ldcAgain (s := s) (vm0 := T31.vm) X43 hx hZ hown (hw _ (List.mem_of_getElem? (i := 45) rfl)) LT_hexl (g := (mkF m 109 #[.val (.int p0), .val (.int p1), .val (.int p2), .val (.int (p2 &&& (3 : Int32))), .val (.int (p1 &&& (2147483647 : Int32))), .val (.int cc), .val (.int (own_hex cc))] [])) rfl (hb hby at_109) t q)
        have k55_ : ∀ t, Steps p.tables e below (T43.setTop (mkF m 113 #[.val (.int p0), .val (.int p1), .val (.int p2), .val (.int (p2 &&& (3 : Int32))), .val (.int (p1 &&& (2147483647 : Int32))), .val (.int cc), .val (.int (own_hex cc))] [(.int (own_hex cc)), (.ref a_hexl)])) t → Steps p.tables e below (s₁.setTop (mkF m 0 #[.val (.int p0), .val (.int p1), .val (.int p2), .unset, .unset, .unset, .unset] [])) t := by
          intro t q
          refine k54_ _ ?_
          show Steps p.tables e below (T43.setTop (mkF m 111 #[.val (.int p0), .val (.int p1), .val (.int p2), .val (.int (p2 &&& (3 : Int32))), .val (.int (p1 &&& (2147483647 : Int32))), .val (.int cc), .val (.int (own_hex cc))] [(.ref a_hexl)])) _
          refine XS.iload X43.here hx rfl (hb hby at_111) rfl ?_
          show Steps p.tables e below (T43.setTop (mkF m 113 #[.val (.int p0), .val (.int p1), .val (.int p2), .val (.int (p2 &&& (3 : Int32))), .val (.int (p1 &&& (2147483647 : Int32))), .val (.int cc), .val (.int (own_hex cc))] [(.int (own_hex cc)), (.ref a_hexl)])) _
          exact q
        obtain ⟨cq56, kq56, q56a, q56b, q56c⟩ := isOf hZ hq43 EA_hexl
        obtain ⟨_, _, ⟨T56, L56, kk56, n56⟩, -, X56, ⟨Lc56, hQ56, l56, y56, z56⟩, st56⟩ := X43.virtualBack hx (y := (⟨"java/lang/String", "charAt", "(I)C"⟩ : MethodName)) (z := (⟨"java/lang/String", "charAt", "(I)C"⟩ : MethodName)) hown (mvT hZ (hw _ (List.mem_of_getElem? (i := 9) rfl))) (mvT hZ (hw _ (List.mem_of_getElem? (i := 10) rfl))) (notFace_of_selects (args := #[]) (mvT hZ (hw _ (List.mem_of_getElem? (i := 12) rfl)))) (mvT hZ (hw _ (List.mem_of_getElem? (i := 12) rfl))) (mvT hZ (hw _ (List.mem_of_getElem? (i := 11) rfl))) (by decide) (backOf (W := 0) (rmA l Z a0 hw [] a_hexl cs b_hexl (own_hex cc) kc_hexl 16 _ (own_dig.getD ((own_hex cc)).toNatClampNeg 0) fv h31 n0 Zn EA_hexl FC_hexl FV_hexl SC hcs VB_hexl u1 (own_lt16 u2) (own_getD own_dig _) SF hf) hZ (hw _ (List.mem_of_getElem? (i := 13) rfl)) (hw _ (List.mem_of_getElem? (i := 2) rfl)) (by decide) (by decide)) q56a q56c (g := (mkF m 113 #[.val (.int p0), .val (.int p1), .val (.int p2), .val (.int (p2 &&& (3 : Int32))), .val (.int (p1 &&& (2147483647 : Int32))), .val (.int cc), .val (.int (own_hex cc))] [(.int (own_hex cc)), (.ref a_hexl)])) rfl (by rw [hml]; rfl) (Steps.refl _) (argsL := [(.int (own_hex cc))]) (rest := []) (lenOf pd_27757 rfl) rfl (by show 2 * 0 + _ ≤ _; exact Nat.le_of_eq rfl) (hb hby at_113) (fun _ _ => ⟨rfl, hq43, (by decide : 0 + 2 + 0 + 0 + 0 + 0 ≤ _), (by decide : 0 + (64 + 4) + 0 + 0 + 0 + 0 ≤ _)⟩)
        dsimp only [Pt.U, Pt.locs, Pt.cells, Pt.slots] at X56 l56 y56 z56 st56 hQ56
        subst l56 y56 z56
        obtain ⟨rfl, Nq56, hq56⟩ := hQ56
        have N56 := Fr.app N43 Nq56
        have k57_ : ∀ t, Steps p.tables e below (T56.setTop (mkF m 116 #[.val (.int p0), .val (.int p1), .val (.int p2), .val (.int (p2 &&& (3 : Int32))), .val (.int (p1 &&& (2147483647 : Int32))), .val (.int cc), .val (.int (own_hex cc))] [(.int ((own_dig.getD ((own_hex cc)).toNatClampNeg 0) &&& (255 : Int32)))])) t → Steps p.tables e below (s₁.setTop (mkF m 0 #[.val (.int p0), .val (.int p1), .val (.int p2), .unset, .unset, .unset, .unset] [])) t := fun t q => k55_ t (st56.trans q)
        have k58_ : ∀ t, Steps p.tables e below (T56.setTop (mkF m 121 #[.val (.int p0), .val (.int p1), .val (.int p2), .val (.int (p2 &&& (3 : Int32))), .val (.int (p1 &&& (2147483647 : Int32))), .val (.int cc), .val (.int (own_hex cc))] [(.int (cc ||| (32 : Int32))), (.int ((own_dig.getD ((own_hex cc)).toNatClampNeg 0) &&& (255 : Int32)))])) t → Steps p.tables e below (s₁.setTop (mkF m 0 #[.val (.int p0), .val (.int p1), .val (.int p2), .unset, .unset, .unset, .unset] [])) t := by
          intro t q
          refine k57_ _ ?_
          show Steps p.tables e below (T56.setTop (mkF m 116 #[.val (.int p0), .val (.int p1), .val (.int p2), .val (.int (p2 &&& (3 : Int32))), .val (.int (p1 &&& (2147483647 : Int32))), .val (.int cc), .val (.int (own_hex cc))] [(.int ((own_dig.getD ((own_hex cc)).toNatClampNeg 0) &&& (255 : Int32)))])) _
          refine XS.iload X56.here hx rfl (hb hby at_116) rfl ?_
          show Steps p.tables e below (T56.setTop (mkF m 118 #[.val (.int p0), .val (.int p1), .val (.int p2), .val (.int (p2 &&& (3 : Int32))), .val (.int (p1 &&& (2147483647 : Int32))), .val (.int cc), .val (.int (own_hex cc))] [(.int cc), (.int ((own_dig.getD ((own_hex cc)).toNatClampNeg 0) &&& (255 : Int32)))])) _
          refine XS.bipush X56.here hx rfl (hb hby at_118) ?_
          show Steps p.tables e below (T56.setTop (mkF m 120 #[.val (.int p0), .val (.int p1), .val (.int p2), .val (.int (p2 &&& (3 : Int32))), .val (.int (p1 &&& (2147483647 : Int32))), .val (.int cc), .val (.int (own_hex cc))] [(.int (32 : Int32)), (.int cc), (.int ((own_dig.getD ((own_hex cc)).toNatClampNeg 0) &&& (255 : Int32)))])) _
          refine XS.ior X56.here hx rfl (hb hby at_120) rfl ?_
          show Steps p.tables e below (T56.setTop (mkF m 121 #[.val (.int p0), .val (.int p1), .val (.int p2), .val (.int (p2 &&& (3 : Int32))), .val (.int (p1 &&& (2147483647 : Int32))), .val (.int cc), .val (.int (own_hex cc))] [(.int (cc ||| (32 : Int32))), (.int ((own_dig.getD ((own_hex cc)).toNatClampNeg 0) &&& (255 : Int32)))])) _
          exact q
        have k59_ : ∀ t, Steps p.tables e below (T56.setTop (mkF m 124 #[.val (.int p0), .val (.int p1), .val (.int p2), .val (.int (p2 &&& (3 : Int32))), .val (.int (p1 &&& (2147483647 : Int32))), .val (.int cc), .val (.int (own_hex cc))] [])) t → Steps p.tables e below (s₁.setTop (mkF m 0 #[.val (.int p0), .val (.int p1), .val (.int p2), .unset, .unset, .unset, .unset] [])) t := by
          intro t q
          refine k58_ _ ?_
          show Steps p.tables e below (T56.setTop (mkF m 121 #[.val (.int p0), .val (.int p1), .val (.int p2), .val (.int (p2 &&& (3 : Int32))), .val (.int (p1 &&& (2147483647 : Int32))), .val (.int cc), .val (.int (own_hex cc))] [(.int (cc ||| (32 : Int32))), (.int ((own_dig.getD ((own_hex cc)).toNatClampNeg 0) &&& (255 : Int32)))])) _
          refine XS.icmpNo X56.here hx rfl (hb hby at_121) rfl (teq u3).2 ?_
          show Steps p.tables e below (T56.setTop (mkF m 124 #[.val (.int p0), .val (.int p1), .val (.int p2), .val (.int (p2 &&& (3 : Int32))), .val (.int (p1 &&& (2147483647 : Int32))), .val (.int cc), .val (.int (own_hex cc))] [])) _
          exact q
        have k60_ : ∀ t, Steps p.tables e below (T56.setTop (mkF m 129 #[.val (.int p0), .val (.int p1), .val (.int p2), .val (.int (p2 &&& (3 : Int32))), .val (.int (p1 &&& (2147483647 : Int32))), .val (.int cc), .val (.int (own_hex cc))] [(.int (1 : Int32))])) t → Steps p.tables e below (s₁.setTop (mkF m 0 #[.val (.int p0), .val (.int p1), .val (.int p2), .unset, .unset, .unset, .unset] [])) t := by
          intro t q
          refine k59_ _ ?_
          show Steps p.tables e below (T56.setTop (mkF m 124 #[.val (.int p0), .val (.int p1), .val (.int p2), .val (.int (p2 &&& (3 : Int32))), .val (.int (p1 &&& (2147483647 : Int32))), .val (.int cc), .val (.int (own_hex cc))] [])) _
          refine XS.iconst X56.here hx rfl (hb hby at_124) ?_
          show Steps p.tables e below (T56.setTop (mkF m 125 #[.val (.int p0), .val (.int p1), .val (.int p2), .val (.int (p2 &&& (3 : Int32))), .val (.int (p1 &&& (2147483647 : Int32))), .val (.int cc), .val (.int (own_hex cc))] [(.int (1 : Int32))])) _
          refine XS.goto X56.here hx rfl (pc0 := 125) (pc' := 129) rfl (hb hby at_125) (by decide) (by decide) ?_
          show Steps p.tables e below (T56.setTop (mkF m 129 #[.val (.int p0), .val (.int p1), .val (.int p2), .val (.int (p2 &&& (3 : Int32))), .val (.int (p1 &&& (2147483647 : Int32))), .val (.int cc), .val (.int (own_hex cc))] [(.int (1 : Int32))])) _
          exact q
        obtain ⟨fs, hr, hrun, hended, r1, r2, r3, r4⟩ := Stand.leaveW (s := s) (vm₁ := T31.vm) X56 hS (by rw [hq56]; exact hk) (v := some (.int (1 : Int32))) (fun h => by rw [Bd.returns] at h; cases h)
        refine ⟨_, _, pre0 _ (k60_ _ ?_), hrun, hended, _, rfl, N56, r1, r2, r3, r4.mono (by decide) (by decide)⟩
        show Steps p.tables e below (T56.setTop (mkF m 129 #[.val (.int p0), .val (.int p1), .val (.int p2), .val (.int (p2 &&& (3 : Int32))), .val (.int (p1 &&& (2147483647 : Int32))), .val (.int cc), .val (.int (own_hex cc))] [(.int (1 : Int32))])) _
        exact retN X56 hx (t := .boolean) Bd.returns (by simp) (hb hby at_129) hr
    · have k61_ : ∀ t, Steps p.tables e below (s₁.setTop (mkF m 40 #[.val (.int p0), .val (.int p1), .val (.int p2), .val (.int (p2 &&& (3 : Int32))), .val (.int (p1 &&& (2147483647 : Int32))), .unset, .unset] [])) t → Steps p.tables e below (s₁.setTop (mkF m 0 #[.val (.int p0), .val (.int p1), .val (.int p2), .unset, .unset, .unset, .unset] [])) t := by
        intro t q
        refine k29_ _ ?_
        show Steps p.tables e below (s₁.setTop (mkF m 22 #[.val (.int p0), .val (.int p1), .val (.int p2), .val (.int (p2 &&& (3 : Int32))), .val (.int (p1 &&& (2147483647 : Int32))), .unset, .unset] [(.int (1 : Int32)), (.int (p2 &&& (3 : Int32)))])) _
        refine XS.icmpYes X0.here hx rfl (pc0 := 22) (pc' := 40) rfl (hb hby at_22) rfl (feq b1).2 (by decide) (by decide) ?_
        show Steps p.tables e below (s₁.setTop (mkF m 40 #[.val (.int p0), .val (.int p1), .val (.int p2), .val (.int (p2 &&& (3 : Int32))), .val (.int (p1 &&& (2147483647 : Int32))), .unset, .unset] [])) _
        exact q
      have k62_ : ∀ t, Steps p.tables e below (s₁.setTop (mkF m 42 #[.val (.int p0), .val (.int p1), .val (.int p2), .val (.int (p2 &&& (3 : Int32))), .val (.int (p1 &&& (2147483647 : Int32))), .unset, .unset] [(.int (2 : Int32)), (.int (p2 &&& (3 : Int32)))])) t → Steps p.tables e below (s₁.setTop (mkF m 0 #[.val (.int p0), .val (.int p1), .val (.int p2), .unset, .unset, .unset, .unset] [])) t := by
        intro t q
        refine k61_ _ ?_
        show Steps p.tables e below (s₁.setTop (mkF m 40 #[.val (.int p0), .val (.int p1), .val (.int p2), .val (.int (p2 &&& (3 : Int32))), .val (.int (p1 &&& (2147483647 : Int32))), .unset, .unset] [])) _
        refine XS.iloadN X0.here hx rfl (hb hby at_40) rfl ?_
        show Steps p.tables e below (s₁.setTop (mkF m 41 #[.val (.int p0), .val (.int p1), .val (.int p2), .val (.int (p2 &&& (3 : Int32))), .val (.int (p1 &&& (2147483647 : Int32))), .unset, .unset] [(.int (p2 &&& (3 : Int32)))])) _
        refine XS.iconst X0.here hx rfl (hb hby at_41) ?_
        show Steps p.tables e below (s₁.setTop (mkF m 42 #[.val (.int p0), .val (.int p1), .val (.int p2), .val (.int (p2 &&& (3 : Int32))), .val (.int (p1 &&& (2147483647 : Int32))), .unset, .unset] [(.int (2 : Int32)), (.int (p2 &&& (3 : Int32)))])) _
        exact q
      by_cases b2 : (p2 &&& (3 : Int32)) = (2 : Int32)
      · have k63_ : ∀ t, Steps p.tables e below (s₁.setTop (mkF m 45 #[.val (.int p0), .val (.int p1), .val (.int p2), .val (.int (p2 &&& (3 : Int32))), .val (.int (p1 &&& (2147483647 : Int32))), .unset, .unset] [])) t → Steps p.tables e below (s₁.setTop (mkF m 0 #[.val (.int p0), .val (.int p1), .val (.int p2), .unset, .unset, .unset, .unset] [])) t := by
          intro t q
          refine k62_ _ ?_
          show Steps p.tables e below (s₁.setTop (mkF m 42 #[.val (.int p0), .val (.int p1), .val (.int p2), .val (.int (p2 &&& (3 : Int32))), .val (.int (p1 &&& (2147483647 : Int32))), .unset, .unset] [(.int (2 : Int32)), (.int (p2 &&& (3 : Int32)))])) _
          refine XS.icmpNo X0.here hx rfl (hb hby at_42) rfl (teq b2).2 ?_
          show Steps p.tables e below (s₁.setTop (mkF m 45 #[.val (.int p0), .val (.int p1), .val (.int p2), .val (.int (p2 &&& (3 : Int32))), .val (.int (p1 &&& (2147483647 : Int32))), .unset, .unset] [])) _
          exact q
        obtain ⟨a_hexu, T64, h64, kk64, b_hexu, kc_hexu, X64, e64, E64, hS64, hk64, hZ64, hown64, EA_hexu, FC_hexu, FV_hexu, VB_hexu, -, -, hI64, LT_hexu, st64⟩ := ldcSVL (s := s) (vm0 := s.vm) (Ts := []) (show Stand p l e room_1 (s.setVm s.vm) m _ below meth c s₁ _ _ _ from X0) hx hZ hown (hw _ (List.mem_of_getElem? (i := 1) rfl)) wS e0 hS hkT (by rw [hU, ← hn0]; exact N0) hkeep hI (by decide) hc16 hcw (vs := [(.int (48 : Int32)), (.int (49 : Int32)), (.int (50 : Int32)), (.int (51 : Int32)), (.int (52 : Int32)), (.int (53 : Int32)), (.int (54 : Int32)), (.int (55 : Int32)), (.int (56 : Int32)), (.int (57 : Int32)), (.int (65 : Int32)), (.int (66 : Int32)), (.int (67 : Int32)), (.int (68 : Int32)), (.int (69 : Int32)), (.int (70 : Int32))]) (z := 16) ⟨by decide, by decide⟩ (by decide) rfl (g := (mkF m 45 #[.val (.int p0), .val (.int p1), .val (.int p2), .val (.int (p2 &&& (3 : Int32))), .val (.int (p1 &&& (2147483647 : Int32))), .unset, .unset] [])) rfl (hb hby at_45) (n := 64) (by decide) (by decide) (by decide) (by decide)
        replace hZ := hZ64
        replace hown := hown64
        replace hS := hS64
        have hk := hk64
        replace hI := hI64
        replace Zn := Nat.le_trans Zn E64.1
        replace SC := SC.ext E64
        replace SF := SF.ext E64
        have k65_ : ∀ t, Steps p.tables e below (T64.setTop (mkF m 47 #[.val (.int p0), .val (.int p1), .val (.int p2), .val (.int (p2 &&& (3 : Int32))), .val (.int (p1 &&& (2147483647 : Int32))), .unset, .unset] [(.ref a_hexu)])) t → Steps p.tables e below (s₁.setTop (mkF m 0 #[.val (.int p0), .val (.int p1), .val (.int p2), .unset, .unset, .unset, .unset] [])) t := fun t q => k63_ t (st64 t q)
        have k66_ : ∀ t, Steps p.tables e below (T64.setTop (mkF m 52 #[.val (.int p0), .val (.int p1), .val (.int p2), .val (.int (p2 &&& (3 : Int32))), .val (.int (p1 &&& (2147483647 : Int32))), .unset, .unset] [(.int (own_rem (p1 &&& (2147483647 : Int32)) (16 : Int32))), (.ref a_hexu)])) t → Steps p.tables e below (s₁.setTop (mkF m 0 #[.val (.int p0), .val (.int p1), .val (.int p2), .unset, .unset, .unset, .unset] [])) t := by
          intro t q
          refine k65_ _ ?_
          show Steps p.tables e below (T64.setTop (mkF m 47 #[.val (.int p0), .val (.int p1), .val (.int p2), .val (.int (p2 &&& (3 : Int32))), .val (.int (p1 &&& (2147483647 : Int32))), .unset, .unset] [(.ref a_hexu)])) _
          refine XS.iload X64.here hx rfl (hb hby at_47) rfl ?_
          show Steps p.tables e below (T64.setTop (mkF m 49 #[.val (.int p0), .val (.int p1), .val (.int p2), .val (.int (p2 &&& (3 : Int32))), .val (.int (p1 &&& (2147483647 : Int32))), .unset, .unset] [(.int (p1 &&& (2147483647 : Int32))), (.ref a_hexu)])) _
          refine XS.bipush X64.here hx rfl (hb hby at_49) ?_
          show Steps p.tables e below (T64.setTop (mkF m 51 #[.val (.int p0), .val (.int p1), .val (.int p2), .val (.int (p2 &&& (3 : Int32))), .val (.int (p1 &&& (2147483647 : Int32))), .unset, .unset] [(.int (16 : Int32)), (.int (p1 &&& (2147483647 : Int32))), (.ref a_hexu)])) _
          refine XS.irem X64.here hx rfl (hb hby at_51) rfl (by decide) ?_
          show Steps p.tables e below (T64.setTop (mkF m 52 #[.val (.int p0), .val (.int p1), .val (.int p2), .val (.int (p2 &&& (3 : Int32))), .val (.int (p1 &&& (2147483647 : Int32))), .unset, .unset] [(.int (own_rem (p1 &&& (2147483647 : Int32)) (16 : Int32))), (.ref a_hexu)])) _
          exact q
        obtain ⟨cq67, kq67, q67a, q67b, q67c⟩ := isOf hZ e64 EA_hexu
        obtain ⟨_, _, ⟨T67, L67, kk67, n67⟩, -, X67, ⟨Lc67, hQ67, l67, y67, z67⟩, st67⟩ := X64.virtualBack hx (y := (⟨"java/lang/String", "charAt", "(I)C"⟩ : MethodName)) (z := (⟨"java/lang/String", "charAt", "(I)C"⟩ : MethodName)) hown (mvT hZ (hw _ (List.mem_of_getElem? (i := 9) rfl))) (mvT hZ (hw _ (List.mem_of_getElem? (i := 10) rfl))) (notFace_of_selects (args := #[]) (mvT hZ (hw _ (List.mem_of_getElem? (i := 12) rfl)))) (mvT hZ (hw _ (List.mem_of_getElem? (i := 12) rfl))) (mvT hZ (hw _ (List.mem_of_getElem? (i := 11) rfl))) (by decide) (backOf (W := 0) (rmA l Z a0 hw [] a_hexu cs b_hexu (own_rem (p1 &&& (2147483647 : Int32)) (16 : Int32)) kc_hexu 16 _ (own_dgU.getD ((own_rem (p1 &&& (2147483647 : Int32)) (16 : Int32))).toNatClampNeg 0) fv h64 n0 Zn EA_hexu FC_hexu FV_hexu SC hcs VB_hexu (own_remR p1).1 (own_remR p1).2 (own_getD own_dgU _) SF hf) hZ (hw _ (List.mem_of_getElem? (i := 13) rfl)) (hw _ (List.mem_of_getElem? (i := 2) rfl)) (by decide) (by decide)) q67a q67c (g := (mkF m 52 #[.val (.int p0), .val (.int p1), .val (.int p2), .val (.int (p2 &&& (3 : Int32))), .val (.int (p1 &&& (2147483647 : Int32))), .unset, .unset] [(.int (own_rem (p1 &&& (2147483647 : Int32)) (16 : Int32))), (.ref a_hexu)])) rfl (by rw [hml]; rfl) (Steps.refl _) (argsL := [(.int (own_rem (p1 &&& (2147483647 : Int32)) (16 : Int32)))]) (rest := []) (lenOf pd_27757 rfl) rfl (by show 2 * 0 + _ ≤ _; exact Nat.le_of_eq rfl) (hb hby at_52) (fun _ _ => ⟨rfl, e64, (by decide : 0 + 2 + 0 ≤ _), (by decide : 0 + (64 + 4) + 0 ≤ _)⟩)
        dsimp only [Pt.U, Pt.locs, Pt.cells, Pt.slots] at X67 l67 y67 z67 st67 hQ67
        subst l67 y67 z67
        obtain ⟨rfl, Nq67, hq67⟩ := hQ67
        have N67 := Fr.app N0 Nq67
        have k68_ : ∀ t, Steps p.tables e below (T67.setTop (mkF m 55 #[.val (.int p0), .val (.int p1), .val (.int p2), .val (.int (p2 &&& (3 : Int32))), .val (.int (p1 &&& (2147483647 : Int32))), .unset, .unset] [(.int ((own_dgU.getD ((own_rem (p1 &&& (2147483647 : Int32)) (16 : Int32))).toNatClampNeg 0) &&& (255 : Int32)))])) t → Steps p.tables e below (s₁.setTop (mkF m 0 #[.val (.int p0), .val (.int p1), .val (.int p2), .unset, .unset, .unset, .unset] [])) t := fun t q => k66_ t (st67.trans q)
        obtain ⟨ch, e_ch⟩ : ∃ z, z = ((own_dgU.getD ((own_rem (p1 &&& (2147483647 : Int32)) (16 : Int32))).toNatClampNeg 0) &&& (255 : Int32)) := ⟨_, rfl⟩
        have k69_ : ∀ t, Steps p.tables e below (T67.setTop (mkF m 55 #[.val (.int p0), .val (.int p1), .val (.int p2), .val (.int (p2 &&& (3 : Int32))), .val (.int (p1 &&& (2147483647 : Int32))), .unset, .unset] [(.int ch)])) t → Steps p.tables e below (s₁.setTop (mkF m 0 #[.val (.int p0), .val (.int p1), .val (.int p2), .unset, .unset, .unset, .unset] [])) t := by rw [e_ch]; exact k68_
        have k70_ : ∀ t, Steps p.tables e below (T67.setTop (mkF m 70 #[.val (.int p0), .val (.int p1), .val (.int p2), .val (.int (p2 &&& (3 : Int32))), .val (.int (p1 &&& (2147483647 : Int32))), .val (.int ch), .unset] [])) t → Steps p.tables e below (s₁.setTop (mkF m 0 #[.val (.int p0), .val (.int p1), .val (.int p2), .unset, .unset, .unset, .unset] [])) t := by
          intro t q
          refine k69_ _ ?_
          show Steps p.tables e below (T67.setTop (mkF m 55 #[.val (.int p0), .val (.int p1), .val (.int p2), .val (.int (p2 &&& (3 : Int32))), .val (.int (p1 &&& (2147483647 : Int32))), .unset, .unset] [(.int ch)])) _
          refine XS.istore X67.here hx rfl (hb hby at_55) rfl (l' := #[.val (.int p0), .val (.int p1), .val (.int p2), .val (.int (p2 &&& (3 : Int32))), .val (.int (p1 &&& (2147483647 : Int32))), .val (.int ch), .unset]) rfl ?_
          show Steps p.tables e below (T67.setTop (mkF m 57 #[.val (.int p0), .val (.int p1), .val (.int p2), .val (.int (p2 &&& (3 : Int32))), .val (.int (p1 &&& (2147483647 : Int32))), .val (.int ch), .unset] [])) _
          refine XS.goto X67.here hx rfl (pc0 := 57) (pc' := 70) rfl (hb hby at_57) (by decide) (by decide) ?_
          show Steps p.tables e below (T67.setTop (mkF m 70 #[.val (.int p0), .val (.int p1), .val (.int p2), .val (.int (p2 &&& (3 : Int32))), .val (.int (p1 &&& (2147483647 : Int32))), .val (.int ch), .unset] [])) _
          exact q
        obtain ⟨cc, e_cc⟩ : ∃ z, z = ch := ⟨_, rfl⟩
        have k71_ : ∀ t, Steps p.tables e below (T67.setTop (mkF m 70 #[.val (.int p0), .val (.int p1), .val (.int p2), .val (.int (p2 &&& (3 : Int32))), .val (.int (p1 &&& (2147483647 : Int32))), .val (.int cc), .unset] [])) t → Steps p.tables e below (s₁.setTop (mkF m 0 #[.val (.int p0), .val (.int p1), .val (.int p2), .unset, .unset, .unset, .unset] [])) t := by rw [e_cc]; exact k70_
        have k72_ : ∀ t, Steps p.tables e below (T67.setTop (mkF m 72 #[.val (.int p0), .val (.int p1), .val (.int p2), .val (.int (p2 &&& (3 : Int32))), .val (.int (p1 &&& (2147483647 : Int32))), .val (.int cc), .unset] [(.int cc)])) t → Steps p.tables e below (s₁.setTop (mkF m 0 #[.val (.int p0), .val (.int p1), .val (.int p2), .unset, .unset, .unset, .unset] [])) t := by
          intro t q
          refine k71_ _ ?_
          show Steps p.tables e below (T67.setTop (mkF m 70 #[.val (.int p0), .val (.int p1), .val (.int p2), .val (.int (p2 &&& (3 : Int32))), .val (.int (p1 &&& (2147483647 : Int32))), .val (.int cc), .unset] [])) _
          refine XS.iload X67.here hx rfl (hb hby at_70) rfl ?_
          show Steps p.tables e below (T67.setTop (mkF m 72 #[.val (.int p0), .val (.int p1), .val (.int p2), .val (.int (p2 &&& (3 : Int32))), .val (.int (p1 &&& (2147483647 : Int32))), .val (.int cc), .unset] [(.int cc)])) _
          exact q
        obtain ⟨_, _, ⟨T73, L73, kk73, n73⟩, -, X73, ⟨Lc73, hQ73, l73, y73, z73⟩, st73⟩ := Jvm.LawKit.callS X67 hx (y := (⟨"com/example/lean_router/leanrouter/uri/UriSyntax", "hexValue", "(I)I"⟩ : MethodName)) hown (mvT hZ (hw _ (List.mem_of_getElem? (i := 34) rfl))) (mvT hZ (hw _ (List.mem_of_getElem? (i := 35) rfl))) (mvT hZ (hw _ (List.mem_of_getElem? (i := 36) rfl))) (mvT hZ (hw _ (List.mem_of_getElem? (i := 37) rfl))) (by decide) (backOf (W := 0) (rmH l Z a0 hw [] cc h64 n0 Zn) hZ (hw _ (List.mem_of_getElem? (i := 37) rfl)) (hw _ (List.mem_of_getElem? (i := 36) rfl)) (by decide) (by decide)) (g := (mkF m 72 #[.val (.int p0), .val (.int p1), .val (.int p2), .val (.int (p2 &&& (3 : Int32))), .val (.int (p1 &&& (2147483647 : Int32))), .val (.int cc), .unset] [(.int cc)])) rfl (by rw [hml]; rfl) (argsL := [(.int cc)]) (rest := []) (lenOf pd_27763 rfl) rfl (by show 2 * 0 + _ ≤ _; exact Nat.le_of_eq rfl) (hb hby at_72) (fun _ _ => ⟨rfl, hq67, (by decide : 0 + 2 + 0 + 0 ≤ _), (by decide : 0 + (64 + 4) + 0 + 0 ≤ _)⟩)
        dsimp only [Pt.U, Pt.locs, Pt.cells, Pt.slots] at X73 l73 y73 z73 st73 hQ73
        subst l73 y73 z73
        obtain ⟨rfl, Nq73, hq73⟩ := hQ73
        have N73 := Fr.app N67 Nq73
        have k74_ : ∀ t, Steps p.tables e below (T73.setTop (mkF m 75 #[.val (.int p0), .val (.int p1), .val (.int p2), .val (.int (p2 &&& (3 : Int32))), .val (.int (p1 &&& (2147483647 : Int32))), .val (.int cc), .unset] [(.int (own_hex cc))])) t → Steps p.tables e below (s₁.setTop (mkF m 0 #[.val (.int p0), .val (.int p1), .val (.int p2), .unset, .unset, .unset, .unset] [])) t := fun t q => k72_ t (st73 t q)
        have k75_ : ∀ t, Steps p.tables e below (T73.setTop (mkF m 81 #[.val (.int p0), .val (.int p1), .val (.int p2), .val (.int (p2 &&& (3 : Int32))), .val (.int (p1 &&& (2147483647 : Int32))), .val (.int cc), .val (.int (own_hex cc))] [(.int cc), (.int (own_hex cc))])) t → Steps p.tables e below (s₁.setTop (mkF m 0 #[.val (.int p0), .val (.int p1), .val (.int p2), .unset, .unset, .unset, .unset] [])) t := by
          intro t q
          refine k74_ _ ?_
          show Steps p.tables e below (T73.setTop (mkF m 75 #[.val (.int p0), .val (.int p1), .val (.int p2), .val (.int (p2 &&& (3 : Int32))), .val (.int (p1 &&& (2147483647 : Int32))), .val (.int cc), .unset] [(.int (own_hex cc))])) _
          refine XS.istore X73.here hx rfl (hb hby at_75) rfl (l' := #[.val (.int p0), .val (.int p1), .val (.int p2), .val (.int (p2 &&& (3 : Int32))), .val (.int (p1 &&& (2147483647 : Int32))), .val (.int cc), .val (.int (own_hex cc))]) rfl ?_
          show Steps p.tables e below (T73.setTop (mkF m 77 #[.val (.int p0), .val (.int p1), .val (.int p2), .val (.int (p2 &&& (3 : Int32))), .val (.int (p1 &&& (2147483647 : Int32))), .val (.int cc), .val (.int (own_hex cc))] [])) _
          refine XS.iload X73.here hx rfl (hb hby at_77) rfl ?_
          show Steps p.tables e below (T73.setTop (mkF m 79 #[.val (.int p0), .val (.int p1), .val (.int p2), .val (.int (p2 &&& (3 : Int32))), .val (.int (p1 &&& (2147483647 : Int32))), .val (.int cc), .val (.int (own_hex cc))] [(.int (own_hex cc))])) _
          refine XS.iload X73.here hx rfl (hb hby at_79) rfl ?_
          show Steps p.tables e below (T73.setTop (mkF m 81 #[.val (.int p0), .val (.int p1), .val (.int p2), .val (.int (p2 &&& (3 : Int32))), .val (.int (p1 &&& (2147483647 : Int32))), .val (.int cc), .val (.int (own_hex cc))] [(.int cc), (.int (own_hex cc))])) _
          exact q
        obtain ⟨_, _, ⟨T76, L76, kk76, n76⟩, -, X76, ⟨Lc76, hQ76, l76, y76, z76⟩, st76⟩ := Jvm.LawKit.callS X73 hx (y := (⟨"com/example/lean_router/leanrouter/uri/UriSyntaxHexValuePinLaw", "reference", "(I)I"⟩ : MethodName)) hown (mvT hZ (hw _ (List.mem_of_getElem? (i := 41) rfl))) (mvT hZ (hw _ (List.mem_of_getElem? (i := 42) rfl))) (mvT hZ (hw _ (List.mem_of_getElem? (i := 43) rfl))) (mvT hZ (hw _ (List.mem_of_getElem? (i := 44) rfl))) (by decide) (backOf (W := 1) (rmE l Z a0 hw [] cc h64 n0 Zn) hZ (hw _ (List.mem_of_getElem? (i := 44) rfl)) (hw _ (List.mem_of_getElem? (i := 43) rfl)) (by decide) (by decide)) (g := (mkF m 81 #[.val (.int p0), .val (.int p1), .val (.int p2), .val (.int (p2 &&& (3 : Int32))), .val (.int (p1 &&& (2147483647 : Int32))), .val (.int cc), .val (.int (own_hex cc))] [(.int cc), (.int (own_hex cc))])) rfl (by rw [hml]; rfl) (argsL := [(.int cc)]) (rest := [(.int (own_hex cc))]) (lenOf pd_27763 rfl) rfl (by show 2 * 0 + _ ≤ _; exact Nat.le_of_eq rfl) (hb hby at_81) (fun _ _ => ⟨rfl, hq73, (by decide : 0 + 2 + 0 + 0 + 0 ≤ _), (by decide : 0 + (64 + 4) + 0 + 0 + 0 ≤ _)⟩)
        dsimp only [Pt.U, Pt.locs, Pt.cells, Pt.slots] at X76 l76 y76 z76 st76 hQ76
        subst l76 y76 z76
        obtain ⟨rfl, Nq76, hq76⟩ := hQ76
        have N76 := Fr.app N73 Nq76
        have k77_ : ∀ t, Steps p.tables e below (T76.setTop (mkF m 84 #[.val (.int p0), .val (.int p1), .val (.int p2), .val (.int (p2 &&& (3 : Int32))), .val (.int (p1 &&& (2147483647 : Int32))), .val (.int cc), .val (.int (own_hex cc))] [(.int (own_ref cc)), (.int (own_hex cc))])) t → Steps p.tables e below (s₁.setTop (mkF m 0 #[.val (.int p0), .val (.int p1), .val (.int p2), .unset, .unset, .unset, .unset] [])) t := fun t q => k75_ t (st76 t q)
        have k78_ : ∀ t, Steps p.tables e below (T76.setTop (mkF m 89 #[.val (.int p0), .val (.int p1), .val (.int p2), .val (.int (p2 &&& (3 : Int32))), .val (.int (p1 &&& (2147483647 : Int32))), .val (.int cc), .val (.int (own_hex cc))] [])) t → Steps p.tables e below (s₁.setTop (mkF m 0 #[.val (.int p0), .val (.int p1), .val (.int p2), .unset, .unset, .unset, .unset] [])) t := by
          intro t q
          refine k77_ _ ?_
          show Steps p.tables e below (T76.setTop (mkF m 84 #[.val (.int p0), .val (.int p1), .val (.int p2), .val (.int (p2 &&& (3 : Int32))), .val (.int (p1 &&& (2147483647 : Int32))), .val (.int cc), .val (.int (own_hex cc))] [(.int (own_ref cc)), (.int (own_hex cc))])) _
          refine XS.icmpYes X76.here hx rfl (pc0 := 84) (pc' := 89) rfl (hb hby at_84) rfl (teq (own_hr cc)).1 (by decide) (by decide) ?_
          show Steps p.tables e below (T76.setTop (mkF m 89 #[.val (.int p0), .val (.int p1), .val (.int p2), .val (.int (p2 &&& (3 : Int32))), .val (.int (p1 &&& (2147483647 : Int32))), .val (.int cc), .val (.int (own_hex cc))] [])) _
          exact q
        have k79_ : ∀ t, Steps p.tables e below (T76.setTop (mkF m 92 #[.val (.int p0), .val (.int p1), .val (.int p2), .val (.int (p2 &&& (3 : Int32))), .val (.int (p1 &&& (2147483647 : Int32))), .val (.int cc), .val (.int (own_hex cc))] [(.int (-1 : Int32)), (.int (own_hex cc))])) t → Steps p.tables e below (s₁.setTop (mkF m 0 #[.val (.int p0), .val (.int p1), .val (.int p2), .unset, .unset, .unset, .unset] [])) t := by
          intro t q
          refine k78_ _ ?_
          show Steps p.tables e below (T76.setTop (mkF m 89 #[.val (.int p0), .val (.int p1), .val (.int p2), .val (.int (p2 &&& (3 : Int32))), .val (.int (p1 &&& (2147483647 : Int32))), .val (.int cc), .val (.int (own_hex cc))] [])) _
          refine XS.iload X76.here hx rfl (hb hby at_89) rfl ?_
          show Steps p.tables e below (T76.setTop (mkF m 91 #[.val (.int p0), .val (.int p1), .val (.int p2), .val (.int (p2 &&& (3 : Int32))), .val (.int (p1 &&& (2147483647 : Int32))), .val (.int cc), .val (.int (own_hex cc))] [(.int (own_hex cc))])) _
          refine XS.iconst X76.here hx rfl (hb hby at_91) ?_
          show Steps p.tables e below (T76.setTop (mkF m 92 #[.val (.int p0), .val (.int p1), .val (.int p2), .val (.int (p2 &&& (3 : Int32))), .val (.int (p1 &&& (2147483647 : Int32))), .val (.int cc), .val (.int (own_hex cc))] [(.int (-1 : Int32)), (.int (own_hex cc))])) _
          exact q
        by_cases hm : (own_hex cc) = (-1 : Int32)
        · have k80_ : ∀ t, Steps p.tables e below (T76.setTop (mkF m 95 #[.val (.int p0), .val (.int p1), .val (.int p2), .val (.int (p2 &&& (3 : Int32))), .val (.int (p1 &&& (2147483647 : Int32))), .val (.int cc), .val (.int (own_hex cc))] [])) t → Steps p.tables e below (s₁.setTop (mkF m 0 #[.val (.int p0), .val (.int p1), .val (.int p2), .unset, .unset, .unset, .unset] [])) t := by
            intro t q
            refine k79_ _ ?_
            show Steps p.tables e below (T76.setTop (mkF m 92 #[.val (.int p0), .val (.int p1), .val (.int p2), .val (.int (p2 &&& (3 : Int32))), .val (.int (p1 &&& (2147483647 : Int32))), .val (.int cc), .val (.int (own_hex cc))] [(.int (-1 : Int32)), (.int (own_hex cc))])) _
            refine XS.icmpNo X76.here hx rfl (hb hby at_92) rfl (teq hm).2 ?_
            show Steps p.tables e below (T76.setTop (mkF m 95 #[.val (.int p0), .val (.int p1), .val (.int p2), .val (.int (p2 &&& (3 : Int32))), .val (.int (p1 &&& (2147483647 : Int32))), .val (.int cc), .val (.int (own_hex cc))] [])) _
            exact q
          have k81_ : ∀ t, Steps p.tables e below (T76.setTop (mkF m 96 #[.val (.int p0), .val (.int p1), .val (.int p2), .val (.int (p2 &&& (3 : Int32))), .val (.int (p1 &&& (2147483647 : Int32))), .val (.int cc), .val (.int (own_hex cc))] [(.int (1 : Int32))])) t → Steps p.tables e below (s₁.setTop (mkF m 0 #[.val (.int p0), .val (.int p1), .val (.int p2), .unset, .unset, .unset, .unset] [])) t := by
            intro t q
            refine k80_ _ ?_
            show Steps p.tables e below (T76.setTop (mkF m 95 #[.val (.int p0), .val (.int p1), .val (.int p2), .val (.int (p2 &&& (3 : Int32))), .val (.int (p1 &&& (2147483647 : Int32))), .val (.int cc), .val (.int (own_hex cc))] [])) _
            refine XS.iconst X76.here hx rfl (hb hby at_95) ?_
            show Steps p.tables e below (T76.setTop (mkF m 96 #[.val (.int p0), .val (.int p1), .val (.int p2), .val (.int (p2 &&& (3 : Int32))), .val (.int (p1 &&& (2147483647 : Int32))), .val (.int cc), .val (.int (own_hex cc))] [(.int (1 : Int32))])) _
            exact q
          obtain ⟨fs, hr, hrun, hended, r1, r2, r3, r4⟩ := Stand.leaveW (s := s) (vm₁ := T64.vm) X76 hS (by rw [hq76]; exact hk) (v := some (.int (1 : Int32))) (fun h => by rw [Bd.returns] at h; cases h)
          refine ⟨_, _, pre0 _ (k81_ _ ?_), hrun, hended, _, rfl, N76, r1, r2, r3, r4.mono (by decide) (by decide)⟩
          show Steps p.tables e below (T76.setTop (mkF m 96 #[.val (.int p0), .val (.int p1), .val (.int p2), .val (.int (p2 &&& (3 : Int32))), .val (.int (p1 &&& (2147483647 : Int32))), .val (.int cc), .val (.int (own_hex cc))] [(.int (1 : Int32))])) _
          exact retN X76 hx (t := .boolean) Bd.returns (by simp) (hb hby at_96) hr
        · have k82_ : ∀ t, Steps p.tables e below (T76.setTop (mkF m 97 #[.val (.int p0), .val (.int p1), .val (.int p2), .val (.int (p2 &&& (3 : Int32))), .val (.int (p1 &&& (2147483647 : Int32))), .val (.int cc), .val (.int (own_hex cc))] [])) t → Steps p.tables e below (s₁.setTop (mkF m 0 #[.val (.int p0), .val (.int p1), .val (.int p2), .unset, .unset, .unset, .unset] [])) t := by
            intro t q
            refine k79_ _ ?_
            show Steps p.tables e below (T76.setTop (mkF m 92 #[.val (.int p0), .val (.int p1), .val (.int p2), .val (.int (p2 &&& (3 : Int32))), .val (.int (p1 &&& (2147483647 : Int32))), .val (.int cc), .val (.int (own_hex cc))] [(.int (-1 : Int32)), (.int (own_hex cc))])) _
            refine XS.icmpYes X76.here hx rfl (pc0 := 92) (pc' := 97) rfl (hb hby at_92) rfl (feq hm).2 (by decide) (by decide) ?_
            show Steps p.tables e below (T76.setTop (mkF m 97 #[.val (.int p0), .val (.int p1), .val (.int p2), .val (.int (p2 &&& (3 : Int32))), .val (.int (p1 &&& (2147483647 : Int32))), .val (.int cc), .val (.int (own_hex cc))] [])) _
            exact q
          obtain ⟨u1, u2, u3⟩ := own_last cc hm
          have k83_ : ∀ t, Steps p.tables e below (T76.setTop (mkF m 99 #[.val (.int p0), .val (.int p1), .val (.int p2), .val (.int (p2 &&& (3 : Int32))), .val (.int (p1 &&& (2147483647 : Int32))), .val (.int cc), .val (.int (own_hex cc))] [(.int (own_hex cc))])) t → Steps p.tables e below (s₁.setTop (mkF m 0 #[.val (.int p0), .val (.int p1), .val (.int p2), .unset, .unset, .unset, .unset] [])) t := by
            intro t q
            refine k82_ _ ?_
            show Steps p.tables e below (T76.setTop (mkF m 97 #[.val (.int p0), .val (.int p1), .val (.int p2), .val (.int (p2 &&& (3 : Int32))), .val (.int (p1 &&& (2147483647 : Int32))), .val (.int cc), .val (.int (own_hex cc))] [])) _
            refine XS.iload X76.here hx rfl (hb hby at_97) rfl ?_
            show Steps p.tables e below (T76.setTop (mkF m 99 #[.val (.int p0), .val (.int p1), .val (.int p2), .val (.int (p2 &&& (3 : Int32))), .val (.int (p1 &&& (2147483647 : Int32))), .val (.int cc), .val (.int (own_hex cc))] [(.int (own_hex cc))])) _
            exact q
          have k84_ : ∀ t, Steps p.tables e below (T76.setTop (mkF m 102 #[.val (.int p0), .val (.int p1), .val (.int p2), .val (.int (p2 &&& (3 : Int32))), .val (.int (p1 &&& (2147483647 : Int32))), .val (.int cc), .val (.int (own_hex cc))] [])) t → Steps p.tables e below (s₁.setTop (mkF m 0 #[.val (.int p0), .val (.int p1), .val (.int p2), .unset, .unset, .unset, .unset] [])) t := by
            intro t q
            refine k83_ _ ?_
            show Steps p.tables e below (T76.setTop (mkF m 99 #[.val (.int p0), .val (.int p1), .val (.int p2), .val (.int (p2 &&& (3 : Int32))), .val (.int (p1 &&& (2147483647 : Int32))), .val (.int cc), .val (.int (own_hex cc))] [(.int (own_hex cc))])) _
            refine XS.ifNo X76.here hx rfl (hb hby at_99) rfl ((if0 _ _).trans (flt u1).1) ?_
            show Steps p.tables e below (T76.setTop (mkF m 102 #[.val (.int p0), .val (.int p1), .val (.int p2), .val (.int (p2 &&& (3 : Int32))), .val (.int (p1 &&& (2147483647 : Int32))), .val (.int cc), .val (.int (own_hex cc))] [])) _
            exact q
          have k85_ : ∀ t, Steps p.tables e below (T76.setTop (mkF m 106 #[.val (.int p0), .val (.int p1), .val (.int p2), .val (.int (p2 &&& (3 : Int32))), .val (.int (p1 &&& (2147483647 : Int32))), .val (.int cc), .val (.int (own_hex cc))] [(.int (15 : Int32)), (.int (own_hex cc))])) t → Steps p.tables e below (s₁.setTop (mkF m 0 #[.val (.int p0), .val (.int p1), .val (.int p2), .unset, .unset, .unset, .unset] [])) t := by
            intro t q
            refine k84_ _ ?_
            show Steps p.tables e below (T76.setTop (mkF m 102 #[.val (.int p0), .val (.int p1), .val (.int p2), .val (.int (p2 &&& (3 : Int32))), .val (.int (p1 &&& (2147483647 : Int32))), .val (.int cc), .val (.int (own_hex cc))] [])) _
            refine XS.iload X76.here hx rfl (hb hby at_102) rfl ?_
            show Steps p.tables e below (T76.setTop (mkF m 104 #[.val (.int p0), .val (.int p1), .val (.int p2), .val (.int (p2 &&& (3 : Int32))), .val (.int (p1 &&& (2147483647 : Int32))), .val (.int cc), .val (.int (own_hex cc))] [(.int (own_hex cc))])) _
            refine XS.bipush X76.here hx rfl (hb hby at_104) ?_
            show Steps p.tables e below (T76.setTop (mkF m 106 #[.val (.int p0), .val (.int p1), .val (.int p2), .val (.int (p2 &&& (3 : Int32))), .val (.int (p1 &&& (2147483647 : Int32))), .val (.int cc), .val (.int (own_hex cc))] [(.int (15 : Int32)), (.int (own_hex cc))])) _
            exact q
          have k86_ : ∀ t, Steps p.tables e below (T76.setTop (mkF m 109 #[.val (.int p0), .val (.int p1), .val (.int p2), .val (.int (p2 &&& (3 : Int32))), .val (.int (p1 &&& (2147483647 : Int32))), .val (.int cc), .val (.int (own_hex cc))] [])) t → Steps p.tables e below (s₁.setTop (mkF m 0 #[.val (.int p0), .val (.int p1), .val (.int p2), .unset, .unset, .unset, .unset] [])) t := by
            intro t q
            refine k85_ _ ?_
            show Steps p.tables e below (T76.setTop (mkF m 106 #[.val (.int p0), .val (.int p1), .val (.int p2), .val (.int (p2 &&& (3 : Int32))), .val (.int (p1 &&& (2147483647 : Int32))), .val (.int cc), .val (.int (own_hex cc))] [(.int (15 : Int32)), (.int (own_hex cc))])) _
            refine XS.icmpNo X76.here hx rfl (hb hby at_106) rfl (flt u2).2.2.1 ?_
            show Steps p.tables e below (T76.setTop (mkF m 109 #[.val (.int p0), .val (.int p1), .val (.int p2), .val (.int (p2 &&& (3 : Int32))), .val (.int (p1 &&& (2147483647 : Int32))), .val (.int cc), .val (.int (own_hex cc))] [])) _
            exact q
          obtain ⟨a_last, T87, h87, kk87, b_last, kc_last, X87, e87, E87, hS87, hk87, hZ87, hown87, EA_last, FC_last, FV_last, VB_last, -, -, hI87, LT_last, st87⟩ := ldcSVL (s := s) (vm0 := T64.vm) (Ts := ["0123456789ABCDEF"]) X76 hx hZ hown (hw _ (List.mem_of_getElem? (i := 45) rfl)) wS hq76 hS hk (by rw [hU, ← hn0]; exact N76) hkeep hI (by decide) hc8 hcw (vs := [(.int (48 : Int32)), (.int (49 : Int32)), (.int (50 : Int32)), (.int (51 : Int32)), (.int (52 : Int32)), (.int (53 : Int32)), (.int (54 : Int32)), (.int (55 : Int32)), (.int (56 : Int32)), (.int (57 : Int32)), (.int (97 : Int32)), (.int (98 : Int32)), (.int (99 : Int32)), (.int (100 : Int32)), (.int (101 : Int32)), (.int (102 : Int32))]) (z := 16) ⟨by decide, by decide⟩ (by decide) rfl (g := (mkF m 109 #[.val (.int p0), .val (.int p1), .val (.int p2), .val (.int (p2 &&& (3 : Int32))), .val (.int (p1 &&& (2147483647 : Int32))), .val (.int cc), .val (.int (own_hex cc))] [])) rfl (hb hby at_109) (n := 64) (by decide) (by decide) (by decide) (by decide)
          replace hZ := hZ87
          replace hown := hown87
          replace hS := hS87
          have hk := hk87
          replace hI := hI87
          replace Zn := Nat.le_trans Zn E87.1
          replace SC := SC.ext E87
          replace SF := SF.ext E87
          replace EA_hexu := EA_hexu.ext E87
          replace FC_hexu := FC_hexu.ext E87
          replace FV_hexu := FV_hexu.ext E87
          replace VB_hexu := VB_hexu.ext E87
          have k88_ : ∀ t, Steps p.tables e below (T87.setTop (mkF m 111 #[.val (.int p0), .val (.int p1), .val (.int p2), .val (.int (p2 &&& (3 : Int32))), .val (.int (p1 &&& (2147483647 : Int32))), .val (.int cc), .val (.int (own_hex cc))] [(.ref a_last)])) t → Steps p.tables e below (s₁.setTop (mkF m 0 #[.val (.int p0), .val (.int p1), .val (.int p2), .unset, .unset, .unset, .unset] [])) t := fun t q => k86_ t (st87 t q)
          have k89_ : ∀ t, Steps p.tables e below (T87.setTop (mkF m 113 #[.val (.int p0), .val (.int p1), .val (.int p2), .val (.int (p2 &&& (3 : Int32))), .val (.int (p1 &&& (2147483647 : Int32))), .val (.int cc), .val (.int (own_hex cc))] [(.int (own_hex cc)), (.ref a_last)])) t → Steps p.tables e below (s₁.setTop (mkF m 0 #[.val (.int p0), .val (.int p1), .val (.int p2), .unset, .unset, .unset, .unset] [])) t := by
            intro t q
            refine k88_ _ ?_
            show Steps p.tables e below (T87.setTop (mkF m 111 #[.val (.int p0), .val (.int p1), .val (.int p2), .val (.int (p2 &&& (3 : Int32))), .val (.int (p1 &&& (2147483647 : Int32))), .val (.int cc), .val (.int (own_hex cc))] [(.ref a_last)])) _
            refine XS.iload X87.here hx rfl (hb hby at_111) rfl ?_
            show Steps p.tables e below (T87.setTop (mkF m 113 #[.val (.int p0), .val (.int p1), .val (.int p2), .val (.int (p2 &&& (3 : Int32))), .val (.int (p1 &&& (2147483647 : Int32))), .val (.int cc), .val (.int (own_hex cc))] [(.int (own_hex cc)), (.ref a_last)])) _
            exact q
          obtain ⟨cq90, kq90, q90a, q90b, q90c⟩ := isOf hZ e87 EA_last
          obtain ⟨_, _, ⟨T90, L90, kk90, n90⟩, -, X90, ⟨Lc90, hQ90, l90, y90, z90⟩, st90⟩ := X87.virtualBack hx (y := (⟨"java/lang/String", "charAt", "(I)C"⟩ : MethodName)) (z := (⟨"java/lang/String", "charAt", "(I)C"⟩ : MethodName)) hown (mvT hZ (hw _ (List.mem_of_getElem? (i := 9) rfl))) (mvT hZ (hw _ (List.mem_of_getElem? (i := 10) rfl))) (notFace_of_selects (args := #[]) (mvT hZ (hw _ (List.mem_of_getElem? (i := 12) rfl)))) (mvT hZ (hw _ (List.mem_of_getElem? (i := 12) rfl))) (mvT hZ (hw _ (List.mem_of_getElem? (i := 11) rfl))) (by decide) (backOf (W := 0) (rmA l Z a0 hw [] a_last cs b_last (own_hex cc) kc_last 16 _ (own_dig.getD ((own_hex cc)).toNatClampNeg 0) fv h87 n0 Zn EA_last FC_last FV_last SC hcs VB_last u1 (own_lt16 u2) (own_getD own_dig _) SF hf) hZ (hw _ (List.mem_of_getElem? (i := 13) rfl)) (hw _ (List.mem_of_getElem? (i := 2) rfl)) (by decide) (by decide)) q90a q90c (g := (mkF m 113 #[.val (.int p0), .val (.int p1), .val (.int p2), .val (.int (p2 &&& (3 : Int32))), .val (.int (p1 &&& (2147483647 : Int32))), .val (.int cc), .val (.int (own_hex cc))] [(.int (own_hex cc)), (.ref a_last)])) rfl (by rw [hml]; rfl) (Steps.refl _) (argsL := [(.int (own_hex cc))]) (rest := []) (lenOf pd_27757 rfl) rfl (by show 2 * 0 + _ ≤ _; exact Nat.le_of_eq rfl) (hb hby at_113) (fun _ _ => ⟨rfl, e87, (by decide : 0 + 2 + 0 + 0 + 0 + 2 + 0 ≤ _), (by decide : 0 + (64 + 4) + 0 + 0 + 0 + (64 + 4) + 0 ≤ _)⟩)
          dsimp only [Pt.U, Pt.locs, Pt.cells, Pt.slots] at X90 l90 y90 z90 st90 hQ90
          subst l90 y90 z90
          obtain ⟨rfl, Nq90, hq90⟩ := hQ90
          have N90 := Fr.app N76 Nq90
          have k91_ : ∀ t, Steps p.tables e below (T90.setTop (mkF m 116 #[.val (.int p0), .val (.int p1), .val (.int p2), .val (.int (p2 &&& (3 : Int32))), .val (.int (p1 &&& (2147483647 : Int32))), .val (.int cc), .val (.int (own_hex cc))] [(.int ((own_dig.getD ((own_hex cc)).toNatClampNeg 0) &&& (255 : Int32)))])) t → Steps p.tables e below (s₁.setTop (mkF m 0 #[.val (.int p0), .val (.int p1), .val (.int p2), .unset, .unset, .unset, .unset] [])) t := fun t q => k89_ t (st90.trans q)
          have k92_ : ∀ t, Steps p.tables e below (T90.setTop (mkF m 121 #[.val (.int p0), .val (.int p1), .val (.int p2), .val (.int (p2 &&& (3 : Int32))), .val (.int (p1 &&& (2147483647 : Int32))), .val (.int cc), .val (.int (own_hex cc))] [(.int (cc ||| (32 : Int32))), (.int ((own_dig.getD ((own_hex cc)).toNatClampNeg 0) &&& (255 : Int32)))])) t → Steps p.tables e below (s₁.setTop (mkF m 0 #[.val (.int p0), .val (.int p1), .val (.int p2), .unset, .unset, .unset, .unset] [])) t := by
            intro t q
            refine k91_ _ ?_
            show Steps p.tables e below (T90.setTop (mkF m 116 #[.val (.int p0), .val (.int p1), .val (.int p2), .val (.int (p2 &&& (3 : Int32))), .val (.int (p1 &&& (2147483647 : Int32))), .val (.int cc), .val (.int (own_hex cc))] [(.int ((own_dig.getD ((own_hex cc)).toNatClampNeg 0) &&& (255 : Int32)))])) _
            refine XS.iload X90.here hx rfl (hb hby at_116) rfl ?_
            show Steps p.tables e below (T90.setTop (mkF m 118 #[.val (.int p0), .val (.int p1), .val (.int p2), .val (.int (p2 &&& (3 : Int32))), .val (.int (p1 &&& (2147483647 : Int32))), .val (.int cc), .val (.int (own_hex cc))] [(.int cc), (.int ((own_dig.getD ((own_hex cc)).toNatClampNeg 0) &&& (255 : Int32)))])) _
            refine XS.bipush X90.here hx rfl (hb hby at_118) ?_
            show Steps p.tables e below (T90.setTop (mkF m 120 #[.val (.int p0), .val (.int p1), .val (.int p2), .val (.int (p2 &&& (3 : Int32))), .val (.int (p1 &&& (2147483647 : Int32))), .val (.int cc), .val (.int (own_hex cc))] [(.int (32 : Int32)), (.int cc), (.int ((own_dig.getD ((own_hex cc)).toNatClampNeg 0) &&& (255 : Int32)))])) _
            refine XS.ior X90.here hx rfl (hb hby at_120) rfl ?_
            show Steps p.tables e below (T90.setTop (mkF m 121 #[.val (.int p0), .val (.int p1), .val (.int p2), .val (.int (p2 &&& (3 : Int32))), .val (.int (p1 &&& (2147483647 : Int32))), .val (.int cc), .val (.int (own_hex cc))] [(.int (cc ||| (32 : Int32))), (.int ((own_dig.getD ((own_hex cc)).toNatClampNeg 0) &&& (255 : Int32)))])) _
            exact q
          have k93_ : ∀ t, Steps p.tables e below (T90.setTop (mkF m 124 #[.val (.int p0), .val (.int p1), .val (.int p2), .val (.int (p2 &&& (3 : Int32))), .val (.int (p1 &&& (2147483647 : Int32))), .val (.int cc), .val (.int (own_hex cc))] [])) t → Steps p.tables e below (s₁.setTop (mkF m 0 #[.val (.int p0), .val (.int p1), .val (.int p2), .unset, .unset, .unset, .unset] [])) t := by
            intro t q
            refine k92_ _ ?_
            show Steps p.tables e below (T90.setTop (mkF m 121 #[.val (.int p0), .val (.int p1), .val (.int p2), .val (.int (p2 &&& (3 : Int32))), .val (.int (p1 &&& (2147483647 : Int32))), .val (.int cc), .val (.int (own_hex cc))] [(.int (cc ||| (32 : Int32))), (.int ((own_dig.getD ((own_hex cc)).toNatClampNeg 0) &&& (255 : Int32)))])) _
            refine XS.icmpNo X90.here hx rfl (hb hby at_121) rfl (teq u3).2 ?_
            show Steps p.tables e below (T90.setTop (mkF m 124 #[.val (.int p0), .val (.int p1), .val (.int p2), .val (.int (p2 &&& (3 : Int32))), .val (.int (p1 &&& (2147483647 : Int32))), .val (.int cc), .val (.int (own_hex cc))] [])) _
            exact q
          have k94_ : ∀ t, Steps p.tables e below (T90.setTop (mkF m 129 #[.val (.int p0), .val (.int p1), .val (.int p2), .val (.int (p2 &&& (3 : Int32))), .val (.int (p1 &&& (2147483647 : Int32))), .val (.int cc), .val (.int (own_hex cc))] [(.int (1 : Int32))])) t → Steps p.tables e below (s₁.setTop (mkF m 0 #[.val (.int p0), .val (.int p1), .val (.int p2), .unset, .unset, .unset, .unset] [])) t := by
            intro t q
            refine k93_ _ ?_
            show Steps p.tables e below (T90.setTop (mkF m 124 #[.val (.int p0), .val (.int p1), .val (.int p2), .val (.int (p2 &&& (3 : Int32))), .val (.int (p1 &&& (2147483647 : Int32))), .val (.int cc), .val (.int (own_hex cc))] [])) _
            refine XS.iconst X90.here hx rfl (hb hby at_124) ?_
            show Steps p.tables e below (T90.setTop (mkF m 125 #[.val (.int p0), .val (.int p1), .val (.int p2), .val (.int (p2 &&& (3 : Int32))), .val (.int (p1 &&& (2147483647 : Int32))), .val (.int cc), .val (.int (own_hex cc))] [(.int (1 : Int32))])) _
            refine XS.goto X90.here hx rfl (pc0 := 125) (pc' := 129) rfl (hb hby at_125) (by decide) (by decide) ?_
            show Steps p.tables e below (T90.setTop (mkF m 129 #[.val (.int p0), .val (.int p1), .val (.int p2), .val (.int (p2 &&& (3 : Int32))), .val (.int (p1 &&& (2147483647 : Int32))), .val (.int cc), .val (.int (own_hex cc))] [(.int (1 : Int32))])) _
            exact q
          obtain ⟨fs, hr, hrun, hended, r1, r2, r3, r4⟩ := Stand.leaveW (s := s) (vm₁ := T87.vm) X90 hS (by rw [hq90]; exact hk) (v := some (.int (1 : Int32))) (fun h => by rw [Bd.returns] at h; cases h)
          refine ⟨_, _, pre0 _ (k94_ _ ?_), hrun, hended, _, rfl, N90, r1, r2, r3, r4.mono (by decide) (by decide)⟩
          show Steps p.tables e below (T90.setTop (mkF m 129 #[.val (.int p0), .val (.int p1), .val (.int p2), .val (.int (p2 &&& (3 : Int32))), .val (.int (p1 &&& (2147483647 : Int32))), .val (.int cc), .val (.int (own_hex cc))] [(.int (1 : Int32))])) _
          exact retN X90 hx (t := .boolean) Bd.returns (by simp) (hb hby at_129) hr
      · have k95_ : ∀ t, Steps p.tables e below (s₁.setTop (mkF m 60 #[.val (.int p0), .val (.int p1), .val (.int p2), .val (.int (p2 &&& (3 : Int32))), .val (.int (p1 &&& (2147483647 : Int32))), .unset, .unset] [])) t → Steps p.tables e below (s₁.setTop (mkF m 0 #[.val (.int p0), .val (.int p1), .val (.int p2), .unset, .unset, .unset, .unset] [])) t := by
          intro t q
          refine k62_ _ ?_
          show Steps p.tables e below (s₁.setTop (mkF m 42 #[.val (.int p0), .val (.int p1), .val (.int p2), .val (.int (p2 &&& (3 : Int32))), .val (.int (p1 &&& (2147483647 : Int32))), .unset, .unset] [(.int (2 : Int32)), (.int (p2 &&& (3 : Int32)))])) _
          refine XS.icmpYes X0.here hx rfl (pc0 := 42) (pc' := 60) rfl (hb hby at_42) rfl (feq b2).2 (by decide) (by decide) ?_
          show Steps p.tables e below (s₁.setTop (mkF m 60 #[.val (.int p0), .val (.int p1), .val (.int p2), .val (.int (p2 &&& (3 : Int32))), .val (.int (p1 &&& (2147483647 : Int32))), .unset, .unset] [])) _
          exact q
        have k96_ : ∀ t, Steps p.tables e below (s₁.setTop (mkF m 70 #[.val (.int p0), .val (.int p1), .val (.int p2), .val (.int (p2 &&& (3 : Int32))), .val (.int (p1 &&& (2147483647 : Int32))), .val (.int ((40 : Int32) + (own_rem (p1 &&& (2147483647 : Int32)) (80 : Int32)))), .unset] [])) t → Steps p.tables e below (s₁.setTop (mkF m 0 #[.val (.int p0), .val (.int p1), .val (.int p2), .unset, .unset, .unset, .unset] [])) t := by
          intro t q
          refine k95_ _ ?_
          show Steps p.tables e below (s₁.setTop (mkF m 60 #[.val (.int p0), .val (.int p1), .val (.int p2), .val (.int (p2 &&& (3 : Int32))), .val (.int (p1 &&& (2147483647 : Int32))), .unset, .unset] [])) _
          refine XS.bipush X0.here hx rfl (hb hby at_60) ?_
          show Steps p.tables e below (s₁.setTop (mkF m 62 #[.val (.int p0), .val (.int p1), .val (.int p2), .val (.int (p2 &&& (3 : Int32))), .val (.int (p1 &&& (2147483647 : Int32))), .unset, .unset] [(.int (40 : Int32))])) _
          refine XS.iload X0.here hx rfl (hb hby at_62) rfl ?_
          show Steps p.tables e below (s₁.setTop (mkF m 64 #[.val (.int p0), .val (.int p1), .val (.int p2), .val (.int (p2 &&& (3 : Int32))), .val (.int (p1 &&& (2147483647 : Int32))), .unset, .unset] [(.int (p1 &&& (2147483647 : Int32))), (.int (40 : Int32))])) _
          refine XS.bipush X0.here hx rfl (hb hby at_64) ?_
          show Steps p.tables e below (s₁.setTop (mkF m 66 #[.val (.int p0), .val (.int p1), .val (.int p2), .val (.int (p2 &&& (3 : Int32))), .val (.int (p1 &&& (2147483647 : Int32))), .unset, .unset] [(.int (80 : Int32)), (.int (p1 &&& (2147483647 : Int32))), (.int (40 : Int32))])) _
          refine XS.irem X0.here hx rfl (hb hby at_66) rfl (by decide) ?_
          show Steps p.tables e below (s₁.setTop (mkF m 67 #[.val (.int p0), .val (.int p1), .val (.int p2), .val (.int (p2 &&& (3 : Int32))), .val (.int (p1 &&& (2147483647 : Int32))), .unset, .unset] [(.int (own_rem (p1 &&& (2147483647 : Int32)) (80 : Int32))), (.int (40 : Int32))])) _
          refine XS.iadd X0.here hx rfl (hb hby at_67) rfl ?_
          show Steps p.tables e below (s₁.setTop (mkF m 68 #[.val (.int p0), .val (.int p1), .val (.int p2), .val (.int (p2 &&& (3 : Int32))), .val (.int (p1 &&& (2147483647 : Int32))), .unset, .unset] [(.int ((40 : Int32) + (own_rem (p1 &&& (2147483647 : Int32)) (80 : Int32))))])) _
          refine XS.istore X0.here hx rfl (hb hby at_68) rfl (l' := #[.val (.int p0), .val (.int p1), .val (.int p2), .val (.int (p2 &&& (3 : Int32))), .val (.int (p1 &&& (2147483647 : Int32))), .val (.int ((40 : Int32) + (own_rem (p1 &&& (2147483647 : Int32)) (80 : Int32)))), .unset]) rfl ?_
          show Steps p.tables e below (s₁.setTop (mkF m 70 #[.val (.int p0), .val (.int p1), .val (.int p2), .val (.int (p2 &&& (3 : Int32))), .val (.int (p1 &&& (2147483647 : Int32))), .val (.int ((40 : Int32) + (own_rem (p1 &&& (2147483647 : Int32)) (80 : Int32)))), .unset] [])) _
          exact q
        obtain ⟨cc, e_cc⟩ : ∃ z, z = ((40 : Int32) + (own_rem (p1 &&& (2147483647 : Int32)) (80 : Int32))) := ⟨_, rfl⟩
        have k97_ : ∀ t, Steps p.tables e below (s₁.setTop (mkF m 70 #[.val (.int p0), .val (.int p1), .val (.int p2), .val (.int (p2 &&& (3 : Int32))), .val (.int (p1 &&& (2147483647 : Int32))), .val (.int cc), .unset] [])) t → Steps p.tables e below (s₁.setTop (mkF m 0 #[.val (.int p0), .val (.int p1), .val (.int p2), .unset, .unset, .unset, .unset] [])) t := by rw [e_cc]; exact k96_
        have k98_ : ∀ t, Steps p.tables e below (s₁.setTop (mkF m 72 #[.val (.int p0), .val (.int p1), .val (.int p2), .val (.int (p2 &&& (3 : Int32))), .val (.int (p1 &&& (2147483647 : Int32))), .val (.int cc), .unset] [(.int cc)])) t → Steps p.tables e below (s₁.setTop (mkF m 0 #[.val (.int p0), .val (.int p1), .val (.int p2), .unset, .unset, .unset, .unset] [])) t := by
          intro t q
          refine k97_ _ ?_
          show Steps p.tables e below (s₁.setTop (mkF m 70 #[.val (.int p0), .val (.int p1), .val (.int p2), .val (.int (p2 &&& (3 : Int32))), .val (.int (p1 &&& (2147483647 : Int32))), .val (.int cc), .unset] [])) _
          refine XS.iload X0.here hx rfl (hb hby at_70) rfl ?_
          show Steps p.tables e below (s₁.setTop (mkF m 72 #[.val (.int p0), .val (.int p1), .val (.int p2), .val (.int (p2 &&& (3 : Int32))), .val (.int (p1 &&& (2147483647 : Int32))), .val (.int cc), .unset] [(.int cc)])) _
          exact q
        obtain ⟨_, _, ⟨T99, L99, kk99, n99⟩, -, X99, ⟨Lc99, hQ99, l99, y99, z99⟩, st99⟩ := Jvm.LawKit.callS X0 hx (y := (⟨"com/example/lean_router/leanrouter/uri/UriSyntax", "hexValue", "(I)I"⟩ : MethodName)) hown (mvT hZ (hw _ (List.mem_of_getElem? (i := 34) rfl))) (mvT hZ (hw _ (List.mem_of_getElem? (i := 35) rfl))) (mvT hZ (hw _ (List.mem_of_getElem? (i := 36) rfl))) (mvT hZ (hw _ (List.mem_of_getElem? (i := 37) rfl))) (by decide) (backOf (W := 0) (rmH l Z a0 hw [] cc h0 n0 Zn) hZ (hw _ (List.mem_of_getElem? (i := 37) rfl)) (hw _ (List.mem_of_getElem? (i := 36) rfl)) (by decide) (by decide)) (g := (mkF m 72 #[.val (.int p0), .val (.int p1), .val (.int p2), .val (.int (p2 &&& (3 : Int32))), .val (.int (p1 &&& (2147483647 : Int32))), .val (.int cc), .unset] [(.int cc)])) rfl (by rw [hml]; rfl) (argsL := [(.int cc)]) (rest := []) (lenOf pd_27763 rfl) rfl (by show 2 * 0 + _ ≤ _; exact Nat.le_of_eq rfl) (hb hby at_72) (fun _ _ => ⟨rfl, e0, (by decide : 0 + 0 ≤ _), (by decide : 0 + 0 ≤ _)⟩)
        dsimp only [Pt.U, Pt.locs, Pt.cells, Pt.slots] at X99 l99 y99 z99 st99 hQ99
        subst l99 y99 z99
        obtain ⟨rfl, Nq99, hq99⟩ := hQ99
        have N99 := Fr.app N0 Nq99
        have k100_ : ∀ t, Steps p.tables e below (T99.setTop (mkF m 75 #[.val (.int p0), .val (.int p1), .val (.int p2), .val (.int (p2 &&& (3 : Int32))), .val (.int (p1 &&& (2147483647 : Int32))), .val (.int cc), .unset] [(.int (own_hex cc))])) t → Steps p.tables e below (s₁.setTop (mkF m 0 #[.val (.int p0), .val (.int p1), .val (.int p2), .unset, .unset, .unset, .unset] [])) t := fun t q => k98_ t (st99 t q)
        have k101_ : ∀ t, Steps p.tables e below (T99.setTop (mkF m 81 #[.val (.int p0), .val (.int p1), .val (.int p2), .val (.int (p2 &&& (3 : Int32))), .val (.int (p1 &&& (2147483647 : Int32))), .val (.int cc), .val (.int (own_hex cc))] [(.int cc), (.int (own_hex cc))])) t → Steps p.tables e below (s₁.setTop (mkF m 0 #[.val (.int p0), .val (.int p1), .val (.int p2), .unset, .unset, .unset, .unset] [])) t := by
          intro t q
          refine k100_ _ ?_
          show Steps p.tables e below (T99.setTop (mkF m 75 #[.val (.int p0), .val (.int p1), .val (.int p2), .val (.int (p2 &&& (3 : Int32))), .val (.int (p1 &&& (2147483647 : Int32))), .val (.int cc), .unset] [(.int (own_hex cc))])) _
          refine XS.istore X99.here hx rfl (hb hby at_75) rfl (l' := #[.val (.int p0), .val (.int p1), .val (.int p2), .val (.int (p2 &&& (3 : Int32))), .val (.int (p1 &&& (2147483647 : Int32))), .val (.int cc), .val (.int (own_hex cc))]) rfl ?_
          show Steps p.tables e below (T99.setTop (mkF m 77 #[.val (.int p0), .val (.int p1), .val (.int p2), .val (.int (p2 &&& (3 : Int32))), .val (.int (p1 &&& (2147483647 : Int32))), .val (.int cc), .val (.int (own_hex cc))] [])) _
          refine XS.iload X99.here hx rfl (hb hby at_77) rfl ?_
          show Steps p.tables e below (T99.setTop (mkF m 79 #[.val (.int p0), .val (.int p1), .val (.int p2), .val (.int (p2 &&& (3 : Int32))), .val (.int (p1 &&& (2147483647 : Int32))), .val (.int cc), .val (.int (own_hex cc))] [(.int (own_hex cc))])) _
          refine XS.iload X99.here hx rfl (hb hby at_79) rfl ?_
          show Steps p.tables e below (T99.setTop (mkF m 81 #[.val (.int p0), .val (.int p1), .val (.int p2), .val (.int (p2 &&& (3 : Int32))), .val (.int (p1 &&& (2147483647 : Int32))), .val (.int cc), .val (.int (own_hex cc))] [(.int cc), (.int (own_hex cc))])) _
          exact q
        obtain ⟨_, _, ⟨T102, L102, kk102, n102⟩, -, X102, ⟨Lc102, hQ102, l102, y102, z102⟩, st102⟩ := Jvm.LawKit.callS X99 hx (y := (⟨"com/example/lean_router/leanrouter/uri/UriSyntaxHexValuePinLaw", "reference", "(I)I"⟩ : MethodName)) hown (mvT hZ (hw _ (List.mem_of_getElem? (i := 41) rfl))) (mvT hZ (hw _ (List.mem_of_getElem? (i := 42) rfl))) (mvT hZ (hw _ (List.mem_of_getElem? (i := 43) rfl))) (mvT hZ (hw _ (List.mem_of_getElem? (i := 44) rfl))) (by decide) (backOf (W := 1) (rmE l Z a0 hw [] cc h0 n0 Zn) hZ (hw _ (List.mem_of_getElem? (i := 44) rfl)) (hw _ (List.mem_of_getElem? (i := 43) rfl)) (by decide) (by decide)) (g := (mkF m 81 #[.val (.int p0), .val (.int p1), .val (.int p2), .val (.int (p2 &&& (3 : Int32))), .val (.int (p1 &&& (2147483647 : Int32))), .val (.int cc), .val (.int (own_hex cc))] [(.int cc), (.int (own_hex cc))])) rfl (by rw [hml]; rfl) (argsL := [(.int cc)]) (rest := [(.int (own_hex cc))]) (lenOf pd_27763 rfl) rfl (by show 2 * 0 + _ ≤ _; exact Nat.le_of_eq rfl) (hb hby at_81) (fun _ _ => ⟨rfl, hq99, (by decide : 0 + 0 + 0 ≤ _), (by decide : 0 + 0 + 0 ≤ _)⟩)
        dsimp only [Pt.U, Pt.locs, Pt.cells, Pt.slots] at X102 l102 y102 z102 st102 hQ102
        subst l102 y102 z102
        obtain ⟨rfl, Nq102, hq102⟩ := hQ102
        have N102 := Fr.app N99 Nq102
        have k103_ : ∀ t, Steps p.tables e below (T102.setTop (mkF m 84 #[.val (.int p0), .val (.int p1), .val (.int p2), .val (.int (p2 &&& (3 : Int32))), .val (.int (p1 &&& (2147483647 : Int32))), .val (.int cc), .val (.int (own_hex cc))] [(.int (own_ref cc)), (.int (own_hex cc))])) t → Steps p.tables e below (s₁.setTop (mkF m 0 #[.val (.int p0), .val (.int p1), .val (.int p2), .unset, .unset, .unset, .unset] [])) t := fun t q => k101_ t (st102 t q)
        have k104_ : ∀ t, Steps p.tables e below (T102.setTop (mkF m 89 #[.val (.int p0), .val (.int p1), .val (.int p2), .val (.int (p2 &&& (3 : Int32))), .val (.int (p1 &&& (2147483647 : Int32))), .val (.int cc), .val (.int (own_hex cc))] [])) t → Steps p.tables e below (s₁.setTop (mkF m 0 #[.val (.int p0), .val (.int p1), .val (.int p2), .unset, .unset, .unset, .unset] [])) t := by
          intro t q
          refine k103_ _ ?_
          show Steps p.tables e below (T102.setTop (mkF m 84 #[.val (.int p0), .val (.int p1), .val (.int p2), .val (.int (p2 &&& (3 : Int32))), .val (.int (p1 &&& (2147483647 : Int32))), .val (.int cc), .val (.int (own_hex cc))] [(.int (own_ref cc)), (.int (own_hex cc))])) _
          refine XS.icmpYes X102.here hx rfl (pc0 := 84) (pc' := 89) rfl (hb hby at_84) rfl (teq (own_hr cc)).1 (by decide) (by decide) ?_
          show Steps p.tables e below (T102.setTop (mkF m 89 #[.val (.int p0), .val (.int p1), .val (.int p2), .val (.int (p2 &&& (3 : Int32))), .val (.int (p1 &&& (2147483647 : Int32))), .val (.int cc), .val (.int (own_hex cc))] [])) _
          exact q
        have k105_ : ∀ t, Steps p.tables e below (T102.setTop (mkF m 92 #[.val (.int p0), .val (.int p1), .val (.int p2), .val (.int (p2 &&& (3 : Int32))), .val (.int (p1 &&& (2147483647 : Int32))), .val (.int cc), .val (.int (own_hex cc))] [(.int (-1 : Int32)), (.int (own_hex cc))])) t → Steps p.tables e below (s₁.setTop (mkF m 0 #[.val (.int p0), .val (.int p1), .val (.int p2), .unset, .unset, .unset, .unset] [])) t := by
          intro t q
          refine k104_ _ ?_
          show Steps p.tables e below (T102.setTop (mkF m 89 #[.val (.int p0), .val (.int p1), .val (.int p2), .val (.int (p2 &&& (3 : Int32))), .val (.int (p1 &&& (2147483647 : Int32))), .val (.int cc), .val (.int (own_hex cc))] [])) _
          refine XS.iload X102.here hx rfl (hb hby at_89) rfl ?_
          show Steps p.tables e below (T102.setTop (mkF m 91 #[.val (.int p0), .val (.int p1), .val (.int p2), .val (.int (p2 &&& (3 : Int32))), .val (.int (p1 &&& (2147483647 : Int32))), .val (.int cc), .val (.int (own_hex cc))] [(.int (own_hex cc))])) _
          refine XS.iconst X102.here hx rfl (hb hby at_91) ?_
          show Steps p.tables e below (T102.setTop (mkF m 92 #[.val (.int p0), .val (.int p1), .val (.int p2), .val (.int (p2 &&& (3 : Int32))), .val (.int (p1 &&& (2147483647 : Int32))), .val (.int cc), .val (.int (own_hex cc))] [(.int (-1 : Int32)), (.int (own_hex cc))])) _
          exact q
        by_cases hm : (own_hex cc) = (-1 : Int32)
        · have k106_ : ∀ t, Steps p.tables e below (T102.setTop (mkF m 95 #[.val (.int p0), .val (.int p1), .val (.int p2), .val (.int (p2 &&& (3 : Int32))), .val (.int (p1 &&& (2147483647 : Int32))), .val (.int cc), .val (.int (own_hex cc))] [])) t → Steps p.tables e below (s₁.setTop (mkF m 0 #[.val (.int p0), .val (.int p1), .val (.int p2), .unset, .unset, .unset, .unset] [])) t := by
            intro t q
            refine k105_ _ ?_
            show Steps p.tables e below (T102.setTop (mkF m 92 #[.val (.int p0), .val (.int p1), .val (.int p2), .val (.int (p2 &&& (3 : Int32))), .val (.int (p1 &&& (2147483647 : Int32))), .val (.int cc), .val (.int (own_hex cc))] [(.int (-1 : Int32)), (.int (own_hex cc))])) _
            refine XS.icmpNo X102.here hx rfl (hb hby at_92) rfl (teq hm).2 ?_
            show Steps p.tables e below (T102.setTop (mkF m 95 #[.val (.int p0), .val (.int p1), .val (.int p2), .val (.int (p2 &&& (3 : Int32))), .val (.int (p1 &&& (2147483647 : Int32))), .val (.int cc), .val (.int (own_hex cc))] [])) _
            exact q
          have k107_ : ∀ t, Steps p.tables e below (T102.setTop (mkF m 96 #[.val (.int p0), .val (.int p1), .val (.int p2), .val (.int (p2 &&& (3 : Int32))), .val (.int (p1 &&& (2147483647 : Int32))), .val (.int cc), .val (.int (own_hex cc))] [(.int (1 : Int32))])) t → Steps p.tables e below (s₁.setTop (mkF m 0 #[.val (.int p0), .val (.int p1), .val (.int p2), .unset, .unset, .unset, .unset] [])) t := by
            intro t q
            refine k106_ _ ?_
            show Steps p.tables e below (T102.setTop (mkF m 95 #[.val (.int p0), .val (.int p1), .val (.int p2), .val (.int (p2 &&& (3 : Int32))), .val (.int (p1 &&& (2147483647 : Int32))), .val (.int cc), .val (.int (own_hex cc))] [])) _
            refine XS.iconst X102.here hx rfl (hb hby at_95) ?_
            show Steps p.tables e below (T102.setTop (mkF m 96 #[.val (.int p0), .val (.int p1), .val (.int p2), .val (.int (p2 &&& (3 : Int32))), .val (.int (p1 &&& (2147483647 : Int32))), .val (.int cc), .val (.int (own_hex cc))] [(.int (1 : Int32))])) _
            exact q
          obtain ⟨fs, hr, hrun, hended, r1, r2, r3, r4⟩ := Stand.leaveW (s := s) (vm₁ := s.vm) (show Stand p l e room_1 (s.setVm s.vm) m _ below meth c T102 _ _ _ from X102) hS (by rw [hq102]; exact hkT) (v := some (.int (1 : Int32))) (fun h => by rw [Bd.returns] at h; cases h)
          refine ⟨_, _, pre0 _ (k107_ _ ?_), hrun, hended, _, rfl, N102, r1, r2, r3, r4.mono (by decide) (by decide)⟩
          show Steps p.tables e below (T102.setTop (mkF m 96 #[.val (.int p0), .val (.int p1), .val (.int p2), .val (.int (p2 &&& (3 : Int32))), .val (.int (p1 &&& (2147483647 : Int32))), .val (.int cc), .val (.int (own_hex cc))] [(.int (1 : Int32))])) _
          exact retN X102 hx (t := .boolean) Bd.returns (by simp) (hb hby at_96) hr
        · have k108_ : ∀ t, Steps p.tables e below (T102.setTop (mkF m 97 #[.val (.int p0), .val (.int p1), .val (.int p2), .val (.int (p2 &&& (3 : Int32))), .val (.int (p1 &&& (2147483647 : Int32))), .val (.int cc), .val (.int (own_hex cc))] [])) t → Steps p.tables e below (s₁.setTop (mkF m 0 #[.val (.int p0), .val (.int p1), .val (.int p2), .unset, .unset, .unset, .unset] [])) t := by
            intro t q
            refine k105_ _ ?_
            show Steps p.tables e below (T102.setTop (mkF m 92 #[.val (.int p0), .val (.int p1), .val (.int p2), .val (.int (p2 &&& (3 : Int32))), .val (.int (p1 &&& (2147483647 : Int32))), .val (.int cc), .val (.int (own_hex cc))] [(.int (-1 : Int32)), (.int (own_hex cc))])) _
            refine XS.icmpYes X102.here hx rfl (pc0 := 92) (pc' := 97) rfl (hb hby at_92) rfl (feq hm).2 (by decide) (by decide) ?_
            show Steps p.tables e below (T102.setTop (mkF m 97 #[.val (.int p0), .val (.int p1), .val (.int p2), .val (.int (p2 &&& (3 : Int32))), .val (.int (p1 &&& (2147483647 : Int32))), .val (.int cc), .val (.int (own_hex cc))] [])) _
            exact q
          obtain ⟨u1, u2, u3⟩ := own_last cc hm
          have k109_ : ∀ t, Steps p.tables e below (T102.setTop (mkF m 99 #[.val (.int p0), .val (.int p1), .val (.int p2), .val (.int (p2 &&& (3 : Int32))), .val (.int (p1 &&& (2147483647 : Int32))), .val (.int cc), .val (.int (own_hex cc))] [(.int (own_hex cc))])) t → Steps p.tables e below (s₁.setTop (mkF m 0 #[.val (.int p0), .val (.int p1), .val (.int p2), .unset, .unset, .unset, .unset] [])) t := by
            intro t q
            refine k108_ _ ?_
            show Steps p.tables e below (T102.setTop (mkF m 97 #[.val (.int p0), .val (.int p1), .val (.int p2), .val (.int (p2 &&& (3 : Int32))), .val (.int (p1 &&& (2147483647 : Int32))), .val (.int cc), .val (.int (own_hex cc))] [])) _
            refine XS.iload X102.here hx rfl (hb hby at_97) rfl ?_
            show Steps p.tables e below (T102.setTop (mkF m 99 #[.val (.int p0), .val (.int p1), .val (.int p2), .val (.int (p2 &&& (3 : Int32))), .val (.int (p1 &&& (2147483647 : Int32))), .val (.int cc), .val (.int (own_hex cc))] [(.int (own_hex cc))])) _
            exact q
          have k110_ : ∀ t, Steps p.tables e below (T102.setTop (mkF m 102 #[.val (.int p0), .val (.int p1), .val (.int p2), .val (.int (p2 &&& (3 : Int32))), .val (.int (p1 &&& (2147483647 : Int32))), .val (.int cc), .val (.int (own_hex cc))] [])) t → Steps p.tables e below (s₁.setTop (mkF m 0 #[.val (.int p0), .val (.int p1), .val (.int p2), .unset, .unset, .unset, .unset] [])) t := by
            intro t q
            refine k109_ _ ?_
            show Steps p.tables e below (T102.setTop (mkF m 99 #[.val (.int p0), .val (.int p1), .val (.int p2), .val (.int (p2 &&& (3 : Int32))), .val (.int (p1 &&& (2147483647 : Int32))), .val (.int cc), .val (.int (own_hex cc))] [(.int (own_hex cc))])) _
            refine XS.ifNo X102.here hx rfl (hb hby at_99) rfl ((if0 _ _).trans (flt u1).1) ?_
            show Steps p.tables e below (T102.setTop (mkF m 102 #[.val (.int p0), .val (.int p1), .val (.int p2), .val (.int (p2 &&& (3 : Int32))), .val (.int (p1 &&& (2147483647 : Int32))), .val (.int cc), .val (.int (own_hex cc))] [])) _
            exact q
          have k111_ : ∀ t, Steps p.tables e below (T102.setTop (mkF m 106 #[.val (.int p0), .val (.int p1), .val (.int p2), .val (.int (p2 &&& (3 : Int32))), .val (.int (p1 &&& (2147483647 : Int32))), .val (.int cc), .val (.int (own_hex cc))] [(.int (15 : Int32)), (.int (own_hex cc))])) t → Steps p.tables e below (s₁.setTop (mkF m 0 #[.val (.int p0), .val (.int p1), .val (.int p2), .unset, .unset, .unset, .unset] [])) t := by
            intro t q
            refine k110_ _ ?_
            show Steps p.tables e below (T102.setTop (mkF m 102 #[.val (.int p0), .val (.int p1), .val (.int p2), .val (.int (p2 &&& (3 : Int32))), .val (.int (p1 &&& (2147483647 : Int32))), .val (.int cc), .val (.int (own_hex cc))] [])) _
            refine XS.iload X102.here hx rfl (hb hby at_102) rfl ?_
            show Steps p.tables e below (T102.setTop (mkF m 104 #[.val (.int p0), .val (.int p1), .val (.int p2), .val (.int (p2 &&& (3 : Int32))), .val (.int (p1 &&& (2147483647 : Int32))), .val (.int cc), .val (.int (own_hex cc))] [(.int (own_hex cc))])) _
            refine XS.bipush X102.here hx rfl (hb hby at_104) ?_
            show Steps p.tables e below (T102.setTop (mkF m 106 #[.val (.int p0), .val (.int p1), .val (.int p2), .val (.int (p2 &&& (3 : Int32))), .val (.int (p1 &&& (2147483647 : Int32))), .val (.int cc), .val (.int (own_hex cc))] [(.int (15 : Int32)), (.int (own_hex cc))])) _
            exact q
          have k112_ : ∀ t, Steps p.tables e below (T102.setTop (mkF m 109 #[.val (.int p0), .val (.int p1), .val (.int p2), .val (.int (p2 &&& (3 : Int32))), .val (.int (p1 &&& (2147483647 : Int32))), .val (.int cc), .val (.int (own_hex cc))] [])) t → Steps p.tables e below (s₁.setTop (mkF m 0 #[.val (.int p0), .val (.int p1), .val (.int p2), .unset, .unset, .unset, .unset] [])) t := by
            intro t q
            refine k111_ _ ?_
            show Steps p.tables e below (T102.setTop (mkF m 106 #[.val (.int p0), .val (.int p1), .val (.int p2), .val (.int (p2 &&& (3 : Int32))), .val (.int (p1 &&& (2147483647 : Int32))), .val (.int cc), .val (.int (own_hex cc))] [(.int (15 : Int32)), (.int (own_hex cc))])) _
            refine XS.icmpNo X102.here hx rfl (hb hby at_106) rfl (flt u2).2.2.1 ?_
            show Steps p.tables e below (T102.setTop (mkF m 109 #[.val (.int p0), .val (.int p1), .val (.int p2), .val (.int (p2 &&& (3 : Int32))), .val (.int (p1 &&& (2147483647 : Int32))), .val (.int cc), .val (.int (own_hex cc))] [])) _
            exact q
          obtain ⟨a_last, T113, h113, kk113, b_last, kc_last, X113, e113, E113, hS113, hk113, hZ113, hown113, EA_last, FC_last, FV_last, VB_last, -, -, hI113, LT_last, st113⟩ := ldcSVL (s := s) (vm0 := s.vm) (Ts := []) (show Stand p l e room_1 (s.setVm s.vm) m _ below meth c T102 _ _ _ from X102) hx hZ hown (hw _ (List.mem_of_getElem? (i := 45) rfl)) wS hq102 hS hkT (by rw [hU, ← hn0]; exact N102) hkeep hI (by decide) hc8 hcw (vs := [(.int (48 : Int32)), (.int (49 : Int32)), (.int (50 : Int32)), (.int (51 : Int32)), (.int (52 : Int32)), (.int (53 : Int32)), (.int (54 : Int32)), (.int (55 : Int32)), (.int (56 : Int32)), (.int (57 : Int32)), (.int (97 : Int32)), (.int (98 : Int32)), (.int (99 : Int32)), (.int (100 : Int32)), (.int (101 : Int32)), (.int (102 : Int32))]) (z := 16) ⟨by decide, by decide⟩ (by decide) rfl (g := (mkF m 109 #[.val (.int p0), .val (.int p1), .val (.int p2), .val (.int (p2 &&& (3 : Int32))), .val (.int (p1 &&& (2147483647 : Int32))), .val (.int cc), .val (.int (own_hex cc))] [])) rfl (hb hby at_109) (n := 64) (by decide) (by decide) (by decide) (by decide)
          replace hZ := hZ113
          replace hown := hown113
          replace hS := hS113
          have hk := hk113
          replace hI := hI113
          replace Zn := Nat.le_trans Zn E113.1
          replace SC := SC.ext E113
          replace SF := SF.ext E113
          have k114_ : ∀ t, Steps p.tables e below (T113.setTop (mkF m 111 #[.val (.int p0), .val (.int p1), .val (.int p2), .val (.int (p2 &&& (3 : Int32))), .val (.int (p1 &&& (2147483647 : Int32))), .val (.int cc), .val (.int (own_hex cc))] [(.ref a_last)])) t → Steps p.tables e below (s₁.setTop (mkF m 0 #[.val (.int p0), .val (.int p1), .val (.int p2), .unset, .unset, .unset, .unset] [])) t := fun t q => k112_ t (st113 t q)
          have k115_ : ∀ t, Steps p.tables e below (T113.setTop (mkF m 113 #[.val (.int p0), .val (.int p1), .val (.int p2), .val (.int (p2 &&& (3 : Int32))), .val (.int (p1 &&& (2147483647 : Int32))), .val (.int cc), .val (.int (own_hex cc))] [(.int (own_hex cc)), (.ref a_last)])) t → Steps p.tables e below (s₁.setTop (mkF m 0 #[.val (.int p0), .val (.int p1), .val (.int p2), .unset, .unset, .unset, .unset] [])) t := by
            intro t q
            refine k114_ _ ?_
            show Steps p.tables e below (T113.setTop (mkF m 111 #[.val (.int p0), .val (.int p1), .val (.int p2), .val (.int (p2 &&& (3 : Int32))), .val (.int (p1 &&& (2147483647 : Int32))), .val (.int cc), .val (.int (own_hex cc))] [(.ref a_last)])) _
            refine XS.iload X113.here hx rfl (hb hby at_111) rfl ?_
            show Steps p.tables e below (T113.setTop (mkF m 113 #[.val (.int p0), .val (.int p1), .val (.int p2), .val (.int (p2 &&& (3 : Int32))), .val (.int (p1 &&& (2147483647 : Int32))), .val (.int cc), .val (.int (own_hex cc))] [(.int (own_hex cc)), (.ref a_last)])) _
            exact q
          obtain ⟨cq116, kq116, q116a, q116b, q116c⟩ := isOf hZ e113 EA_last
          obtain ⟨_, _, ⟨T116, L116, kk116, n116⟩, -, X116, ⟨Lc116, hQ116, l116, y116, z116⟩, st116⟩ := X113.virtualBack hx (y := (⟨"java/lang/String", "charAt", "(I)C"⟩ : MethodName)) (z := (⟨"java/lang/String", "charAt", "(I)C"⟩ : MethodName)) hown (mvT hZ (hw _ (List.mem_of_getElem? (i := 9) rfl))) (mvT hZ (hw _ (List.mem_of_getElem? (i := 10) rfl))) (notFace_of_selects (args := #[]) (mvT hZ (hw _ (List.mem_of_getElem? (i := 12) rfl)))) (mvT hZ (hw _ (List.mem_of_getElem? (i := 12) rfl))) (mvT hZ (hw _ (List.mem_of_getElem? (i := 11) rfl))) (by decide) (backOf (W := 0) (rmA l Z a0 hw [] a_last cs b_last (own_hex cc) kc_last 16 _ (own_dig.getD ((own_hex cc)).toNatClampNeg 0) fv h113 n0 Zn EA_last FC_last FV_last SC hcs VB_last u1 (own_lt16 u2) (own_getD own_dig _) SF hf) hZ (hw _ (List.mem_of_getElem? (i := 13) rfl)) (hw _ (List.mem_of_getElem? (i := 2) rfl)) (by decide) (by decide)) q116a q116c (g := (mkF m 113 #[.val (.int p0), .val (.int p1), .val (.int p2), .val (.int (p2 &&& (3 : Int32))), .val (.int (p1 &&& (2147483647 : Int32))), .val (.int cc), .val (.int (own_hex cc))] [(.int (own_hex cc)), (.ref a_last)])) rfl (by rw [hml]; rfl) (Steps.refl _) (argsL := [(.int (own_hex cc))]) (rest := []) (lenOf pd_27757 rfl) rfl (by show 2 * 0 + _ ≤ _; exact Nat.le_of_eq rfl) (hb hby at_113) (fun _ _ => ⟨rfl, e113, (by decide : 0 + 0 + 0 + 2 + 0 ≤ _), (by decide : 0 + 0 + 0 + (64 + 4) + 0 ≤ _)⟩)
          dsimp only [Pt.U, Pt.locs, Pt.cells, Pt.slots] at X116 l116 y116 z116 st116 hQ116
          subst l116 y116 z116
          obtain ⟨rfl, Nq116, hq116⟩ := hQ116
          have N116 := Fr.app N102 Nq116
          have k117_ : ∀ t, Steps p.tables e below (T116.setTop (mkF m 116 #[.val (.int p0), .val (.int p1), .val (.int p2), .val (.int (p2 &&& (3 : Int32))), .val (.int (p1 &&& (2147483647 : Int32))), .val (.int cc), .val (.int (own_hex cc))] [(.int ((own_dig.getD ((own_hex cc)).toNatClampNeg 0) &&& (255 : Int32)))])) t → Steps p.tables e below (s₁.setTop (mkF m 0 #[.val (.int p0), .val (.int p1), .val (.int p2), .unset, .unset, .unset, .unset] [])) t := fun t q => k115_ t (st116.trans q)
          have k118_ : ∀ t, Steps p.tables e below (T116.setTop (mkF m 121 #[.val (.int p0), .val (.int p1), .val (.int p2), .val (.int (p2 &&& (3 : Int32))), .val (.int (p1 &&& (2147483647 : Int32))), .val (.int cc), .val (.int (own_hex cc))] [(.int (cc ||| (32 : Int32))), (.int ((own_dig.getD ((own_hex cc)).toNatClampNeg 0) &&& (255 : Int32)))])) t → Steps p.tables e below (s₁.setTop (mkF m 0 #[.val (.int p0), .val (.int p1), .val (.int p2), .unset, .unset, .unset, .unset] [])) t := by
            intro t q
            refine k117_ _ ?_
            show Steps p.tables e below (T116.setTop (mkF m 116 #[.val (.int p0), .val (.int p1), .val (.int p2), .val (.int (p2 &&& (3 : Int32))), .val (.int (p1 &&& (2147483647 : Int32))), .val (.int cc), .val (.int (own_hex cc))] [(.int ((own_dig.getD ((own_hex cc)).toNatClampNeg 0) &&& (255 : Int32)))])) _
            refine XS.iload X116.here hx rfl (hb hby at_116) rfl ?_
            show Steps p.tables e below (T116.setTop (mkF m 118 #[.val (.int p0), .val (.int p1), .val (.int p2), .val (.int (p2 &&& (3 : Int32))), .val (.int (p1 &&& (2147483647 : Int32))), .val (.int cc), .val (.int (own_hex cc))] [(.int cc), (.int ((own_dig.getD ((own_hex cc)).toNatClampNeg 0) &&& (255 : Int32)))])) _
            refine XS.bipush X116.here hx rfl (hb hby at_118) ?_
            show Steps p.tables e below (T116.setTop (mkF m 120 #[.val (.int p0), .val (.int p1), .val (.int p2), .val (.int (p2 &&& (3 : Int32))), .val (.int (p1 &&& (2147483647 : Int32))), .val (.int cc), .val (.int (own_hex cc))] [(.int (32 : Int32)), (.int cc), (.int ((own_dig.getD ((own_hex cc)).toNatClampNeg 0) &&& (255 : Int32)))])) _
            refine XS.ior X116.here hx rfl (hb hby at_120) rfl ?_
            show Steps p.tables e below (T116.setTop (mkF m 121 #[.val (.int p0), .val (.int p1), .val (.int p2), .val (.int (p2 &&& (3 : Int32))), .val (.int (p1 &&& (2147483647 : Int32))), .val (.int cc), .val (.int (own_hex cc))] [(.int (cc ||| (32 : Int32))), (.int ((own_dig.getD ((own_hex cc)).toNatClampNeg 0) &&& (255 : Int32)))])) _
            exact q
          have k119_ : ∀ t, Steps p.tables e below (T116.setTop (mkF m 124 #[.val (.int p0), .val (.int p1), .val (.int p2), .val (.int (p2 &&& (3 : Int32))), .val (.int (p1 &&& (2147483647 : Int32))), .val (.int cc), .val (.int (own_hex cc))] [])) t → Steps p.tables e below (s₁.setTop (mkF m 0 #[.val (.int p0), .val (.int p1), .val (.int p2), .unset, .unset, .unset, .unset] [])) t := by
            intro t q
            refine k118_ _ ?_
            show Steps p.tables e below (T116.setTop (mkF m 121 #[.val (.int p0), .val (.int p1), .val (.int p2), .val (.int (p2 &&& (3 : Int32))), .val (.int (p1 &&& (2147483647 : Int32))), .val (.int cc), .val (.int (own_hex cc))] [(.int (cc ||| (32 : Int32))), (.int ((own_dig.getD ((own_hex cc)).toNatClampNeg 0) &&& (255 : Int32)))])) _
            refine XS.icmpNo X116.here hx rfl (hb hby at_121) rfl (teq u3).2 ?_
            show Steps p.tables e below (T116.setTop (mkF m 124 #[.val (.int p0), .val (.int p1), .val (.int p2), .val (.int (p2 &&& (3 : Int32))), .val (.int (p1 &&& (2147483647 : Int32))), .val (.int cc), .val (.int (own_hex cc))] [])) _
            exact q
          have k120_ : ∀ t, Steps p.tables e below (T116.setTop (mkF m 129 #[.val (.int p0), .val (.int p1), .val (.int p2), .val (.int (p2 &&& (3 : Int32))), .val (.int (p1 &&& (2147483647 : Int32))), .val (.int cc), .val (.int (own_hex cc))] [(.int (1 : Int32))])) t → Steps p.tables e below (s₁.setTop (mkF m 0 #[.val (.int p0), .val (.int p1), .val (.int p2), .unset, .unset, .unset, .unset] [])) t := by
            intro t q
            refine k119_ _ ?_
            show Steps p.tables e below (T116.setTop (mkF m 124 #[.val (.int p0), .val (.int p1), .val (.int p2), .val (.int (p2 &&& (3 : Int32))), .val (.int (p1 &&& (2147483647 : Int32))), .val (.int cc), .val (.int (own_hex cc))] [])) _
            refine XS.iconst X116.here hx rfl (hb hby at_124) ?_
            show Steps p.tables e below (T116.setTop (mkF m 125 #[.val (.int p0), .val (.int p1), .val (.int p2), .val (.int (p2 &&& (3 : Int32))), .val (.int (p1 &&& (2147483647 : Int32))), .val (.int cc), .val (.int (own_hex cc))] [(.int (1 : Int32))])) _
            refine XS.goto X116.here hx rfl (pc0 := 125) (pc' := 129) rfl (hb hby at_125) (by decide) (by decide) ?_
            show Steps p.tables e below (T116.setTop (mkF m 129 #[.val (.int p0), .val (.int p1), .val (.int p2), .val (.int (p2 &&& (3 : Int32))), .val (.int (p1 &&& (2147483647 : Int32))), .val (.int cc), .val (.int (own_hex cc))] [(.int (1 : Int32))])) _
            exact q
          obtain ⟨fs, hr, hrun, hended, r1, r2, r3, r4⟩ := Stand.leaveW (s := s) (vm₁ := T113.vm) X116 hS (by rw [hq116]; exact hk) (v := some (.int (1 : Int32))) (fun h => by rw [Bd.returns] at h; cases h)
          refine ⟨_, _, pre0 _ (k120_ _ ?_), hrun, hended, _, rfl, N116, r1, r2, r3, r4.mono (by decide) (by decide)⟩
          show Steps p.tables e below (T116.setTop (mkF m 129 #[.val (.int p0), .val (.int p1), .val (.int p2), .val (.int (p2 &&& (3 : Int32))), .val (.int (p1 &&& (2147483647 : Int32))), .val (.int cc), .val (.int (own_hex cc))] [(.int (1 : Int32))])) _
          exact retN X116 hx (t := .boolean) Bd.returns (by simp) (hb hby at_129) hr
set_option maxRecDepth 65536 in
set_option maxHeartbeats 40000000 in
theorem comes_1 {Post : Tables → Env → Array Value → State → Outcome → State → Prop} (hpost : ∀ tb e args s v u, (limb_1_1.after args s (.returned v) u = true ∧ limb_1_2.after args s (.returned v) u = true ∧ True) → ReturnedEndW s (.returned v) u (Jvm.fieldLocs frame_1_writes args s ++ Jvm.arrayLocs frame_1_arrays args s ++ Jvm.staticLocs frame_1_statics s) 8 2112 → Post tb e args s (.returned v) u) :
    ArmFor flags0 classFile x code maxLocals ret World_1 tables_1 room_1 Calls_1 rest_1 Pre_1 Post := by
  intro l hfl _ _ p e ha hc hk s m args below hf hA hF happ hP
  obtain ⟨hcalls, hrest, hpre⟩ := hP
  obtain ⟨-, -, -, hnamed, -, -, -, hat⟩ := (Spec.applies_iff hf).mp happ
  obtain ⟨hg, hn⟩ := and_e (Cond.before_iff.mp (show (Jvm.Cond.and given_1 narrow_1).before args s = true from hpre))
  obtain ⟨hcnt, hg0⟩ := and_e hg
  obtain ⟨hi0, hg1⟩ := and_e hg0
  obtain ⟨hi1, hg2⟩ := and_e hg1
  have hi2 := hg2
  obtain ⟨w0, w1, w2, rfl⟩ : ∃ w0 w1 w2 : Value, args = #[w0, w1, w2] := by
    have hs : args.size = 3 := by simpa [Cond.value, given_1] using hcnt
    obtain ⟨L⟩ := args
    match L, hs with
    | [w0, w1, w2], _ => exact ⟨w0, w1, w2, rfl⟩
  have hw := fun d (hd : d ∈ tables_1) => atoms_spec (ws := Jvm.Cond.code x code maxLocals ret :: tables_1) hat d (List.mem_cons_of_mem _ hd)
  have hfit : Fit s := fun {y c} hc i hi => by
    obtain ⟨ha, rfl⟩ := Array.getElem?_eq_some_iff.mp hc
    have q := List.all_eq_true.mp ((Array.all_eq_true_iff_forall_mem.mp hF) _ (Array.getElem_mem ha)) i (List.mem_range.mpr hi)
    simpa [Array.getElem?_eq_getElem hi] using q
  obtain ⟨i0, ei0⟩ := is_v hi0
  obtain rfl : w0 = (.int i0) := Option.some.inj ei0
  obtain ⟨i1, ei1⟩ := is_v hi1
  obtain rfl : w1 = (.int i1) := Option.some.inj ei1
  obtain ⟨i2, ei2⟩ := is_v hi2
  obtain rfl : w2 = (.int i2) := Option.some.inj ei2
  obtain ⟨hsets, hown0⟩ := atoms_of _ (rest_1_c_eq ▸ (show rest_1_c.before _ s = true from hrest))
  have hj := fun d (hd : d ∈ jdkStatics_1) => hsets d hd
  obtain ⟨cs, ecs⟩ := is_v (Cond.before_iff.mp (hj _ (List.mem_of_getElem? (i := 1) rfl)))
  have SC := Sta.start ecs (Or.inl (hj _ (List.mem_of_getElem? (i := 0) rfl)))
  have hcw := hj _ (List.mem_of_getElem? (i := 2) rfl)
  have hcs : ¬ cs = (0 : Int32) := fun q => by
    have h := not_v (Cond.before_iff.mp hcw)
    rw [eq_i ecs (Term.int_eval 0) (congrArg Value.int q)] at h
    exact absurd h (by decide)
  obtain ⟨fv, efv, hfr⟩ := isR_v (Cond.before_iff.mp (hj _ (List.mem_of_getElem? (i := 8) rfl)))
  have SF := Sta.start efv (Or.inl (hj _ (List.mem_of_getElem? (i := 7) rfl)))
  have wS : ∀ a ∈ Bundle.stringAtoms, a.before (#[.int i0, .int i1, .int i2] : Array Value) s = true := by
    intro a ha
    simp only [Bundle.stringAtoms, Bundle.sN, List.mem_cons, List.not_mem_nil, or_false] at ha
    rcases ha with rfl | rfl | rfl | rfl | rfl | rfl | rfl
    · exact hw _ (List.mem_of_getElem? (i := 2) rfl)
    · exact hw _ (List.mem_of_getElem? (i := 3) rfl)
    · exact hw _ (List.mem_of_getElem? (i := 4) rfl)
    · exact hw _ (List.mem_of_getElem? (i := 5) rfl)
    · exact hw _ (List.mem_of_getElem? (i := 6) rfl)
    · exact hw _ (List.mem_of_getElem? (i := 7) rfl)
    · exact hw _ (List.mem_of_getElem? (i := 8) rfl)
  obtain ⟨hcl, -⟩ := hcalls
  have hc8 := hcl ("com/example/lean_router/leanrouter/uri/UriSyntaxHexValuePinLaw", 8) (List.mem_of_getElem? (i := 0) rfl)
  have hc16 := hcl ("com/example/lean_router/leanrouter/uri/UriSyntaxHexValuePinLaw", 16) (List.mem_of_getElem? (i := 1) rfl)
  obtain ⟨n, o, h1, h2, h3, L, rfl, N, hq⟩ := rm0 l s _ hw tables_1 i0 i1 i2 cs fv s.heap s.heap.size (Nat.le_refl _) rfl SC hcs SF hfr wS hcw hc8 hc16 p e ha hc hk s m _ below hf ((Spec.applies_iff_loose hf).mp happ).1 ⟨rfl, rfl, rfl⟩ trivial
  refine ⟨n, _, h1, h2, h3, hpost _ _ _ _ _ _ ⟨Cond.after_iff.mpr rfl, Cond.after_iff.mpr (eq_i res_at (Term.int_eval (1)) rfl), trivial⟩ ⟨hq.1, hq.2.1, hq.2.2.1, (hq.2.2.2.sift fun y hy => Or.inr (N y hy)).mono (by decide) (by decide)⟩⟩
theorem main_1_1 : Claimed_1_1 := comes_1 fun _ _ _ _ _ _ h hF => ⟨h.1, hF⟩
theorem main_1_2 : Claimed_1_2 := comes_1 fun _ _ _ _ _ _ h hF => ⟨h.2.1, hF⟩
end Jvm.Pilot.@@N@@
namespace Jvm.Pilot.@@N@@
open Jvm Jvm.ClassFile Sem Op Lib Jvm.Free Jvm.Stand Jvm.Pilot.@@N@@.Jvm.D
/-! MADE BY PROGRAM (witnessworld.py) out of the Statement's table words and the real class files: 17 classes; the members and pool entries that the words name. The judged class is class 1, her method 2. -/
namespace start1
open Jvm.ClassFile
def u (s : String) : CpInfo := .utf8 (stringToUtf16 s)
/-- a pool by its gaps: so many unusable entries, then the entry; so many at the end -/
def gap : Nat → List CpInfo → List CpInfo
  | 0, r => r
  | n + 1, r => .unusable :: gap n r
def poolList (es : List (Nat × CpInfo)) (last : Nat) : List CpInfo := es.foldr (fun e r => gap e.1 (e.2 :: r)) (gap last [])
def pool (es : List (Nat × CpInfo)) (last : Nat) : Array CpInfo := ⟨poolList es last⟩
def fileOf (pool : Array CpInfo) (this : Nat) (attrs : Array Attribute := #[]) (ms : Array MethodInfo := #[]) (fl : Nat := 33) (sup : Nat := 0) (ifs : Array Nat := #[]) (fds : Array FieldInfo := #[]) : ClassFile where
  minorVersion := 0
  majorVersion := 65
  constantPool := pool
  accessFlags := fl
  thisClass := this
  superClass := sup
  interfaces := ifs
  fields := fds
  methods := ms
  attributes := attrs
def plain (name : String) (sup : Option ClassId) : Class where
  name := name
  kind := .ordinary
  loader := none
  accessFlags := 33
  super := sup
  interfaces := #[]
  cf := none
  fields := #[]
  methods := #[]
  instanceTypes := #[]
  staticTypes := #[]
  resolved := #[]
  callSites := []
  init := .initialized
  statics := none
  mirror := none

def pool0 : Array CpInfo := pool [(5, u "<init>"), (0, u "()V"), (1, .class_ 10), (1, u "java/lang/Object")] 113

def k0m0 : Method := { name := "<init>", desc := "()V", sig := { parameters := [], returnType := none }, accessFlags := 1, code := none }
/-- java/lang/Object -/
def k0 : Class := { plain "java/lang/Object" none with
  accessFlags := 33
  interfaces := #[]
  cf := some (fileOf pool0 8 #[] #[{ accessFlags := 1, nameIndex := 5, descriptorIndex := 6, attributes := #[] }] 33 0 #[] #[])
  fields := #[]
  methods := #[k0m0]
  instanceTypes := #[]
  staticTypes := #[]
  resolved := Array.replicate 124 none
  statics := none }

def pool1 : Array CpInfo := pool [(2, .class_ 4), (1, u "java/lang/Object"), (0, u "<init>"), (0, u "()V"), (0, .integer 2147483647), (0, .string 9), (0, u "0123456789abcdef"), (0, .methodref 11 12), (0, .class_ 13), (0, .nameAndType 14 15), (0, u "java/lang/String"), (0, u "charAt"), (0, u "(I)C"), (0, .string 17), (0, u "0123456789ABCDEF"), (0, .methodref 19 20), (0, .class_ 21), (0, .nameAndType 22 23), (0, u "com/example/lean_router/leanrouter/uri/UriSyntax"), (0, u "hexValue"), (0, u "(I)I"), (0, .methodref 25 26), (0, .class_ 27), (0, .nameAndType 28 23), (0, u "com/example/lean_router/leanrouter/uri/UriSyntaxHexValuePinLaw"), (0, u "reference"), (3, u "law"), (0, u "(III)Z")] 2

def k1m0 : Method := { name := "<init>", desc := "()V", sig := { parameters := [], returnType := none }, accessFlags := 2, code := none }
def k1c1 : Code := { maxStack := 2, maxLocals := 3, code := method_2_code, exceptionTable := #[], attributes := #[] }
def k1m1 : Method := { name := "reference", desc := "(I)I", sig := { parameters := [.int], returnType := some .int }, accessFlags := 10, code := some k1c1 }
def k1c2 : Code := { maxStack := 3, maxLocals := 7, code := code, exceptionTable := #[], attributes := #[] }
def k1m2 : Method := { name := "law", desc := "(III)Z", sig := { parameters := [.int, .int, .int], returnType := some .boolean }, accessFlags := 9, code := some k1c2 }
/-- com/example/lean_router/leanrouter/uri/UriSyntaxHexValuePinLaw -/
def k1 : Class := { plain "com/example/lean_router/leanrouter/uri/UriSyntaxHexValuePinLaw" (some 0) with
  accessFlags := 49
  interfaces := #[]
  cf := some (fileOf pool1 25 #[] #[{ accessFlags := 2, nameIndex := 5, descriptorIndex := 6, attributes := #[] }, { accessFlags := 10, nameIndex := 28, descriptorIndex := 23, attributes := #[] }, { accessFlags := 9, nameIndex := 32, descriptorIndex := 33, attributes := #[] }] 49 2 #[] #[])
  fields := #[]
  methods := #[k1m0, k1m1, k1m2]
  instanceTypes := #[]
  staticTypes := #[]
  resolved := Array.replicate 36 none
  statics := none }

def pool2 : Array CpInfo := pool [(1, .class_ 2), (0, u "java/io/Serializable"), (0, .class_ 4), (0, u "java/lang/Object")] 2

/-- java/io/Serializable -/
def k2 : Class := { plain "java/io/Serializable" (some 0) with
  accessFlags := 1537
  interfaces := #[]
  cf := some (fileOf pool2 1 #[] #[] 1537 3 #[] #[])
  fields := #[]
  methods := #[]
  instanceTypes := #[]
  staticTypes := #[]
  resolved := Array.replicate 7 none
  statics := none }

def pool3 : Array CpInfo := pool [(1, .class_ 2), (0, u "java/lang/Comparable"), (0, .class_ 4), (0, u "java/lang/Object")] 7

/-- java/lang/Comparable -/
def k3 : Class := { plain "java/lang/Comparable" (some 0) with
  accessFlags := 1537
  interfaces := #[]
  cf := some (fileOf pool3 1 #[] #[] 1537 3 #[] #[])
  fields := #[]
  methods := #[]
  instanceTypes := #[]
  staticTypes := #[]
  resolved := Array.replicate 12 none
  statics := none }

def pool4 : Array CpInfo := pool [(2, .class_ 4), (1, u "java/lang/CharSequence"), (42, .class_ 48), (0, u "java/lang/CharSequence$1CodePointIterator"), (10, .class_ 60), (0, u "java/lang/CharSequence$1CharIterator"), (5, .class_ 67), (0, u "java/lang/Object")] 63

/-- java/lang/CharSequence -/
def k4 : Class := { plain "java/lang/CharSequence" (some 0) with
  accessFlags := 1537
  interfaces := #[]
  cf := some (fileOf pool4 2 #[.nestMembers #[47, 59]] #[] 1537 66 #[] #[])
  fields := #[]
  methods := #[]
  instanceTypes := #[]
  staticTypes := #[]
  resolved := Array.replicate 131 none
  statics := none }

def pool5 : Array CpInfo := pool [(1, .class_ 2), (0, u "java/lang/constant/Constable"), (0, .class_ 4), (0, u "java/lang/Object")] 6

/-- java/lang/constant/Constable -/
def k5 : Class := { plain "java/lang/constant/Constable" (some 0) with
  accessFlags := 1537
  interfaces := #[]
  cf := some (fileOf pool5 1 #[] #[] 1537 3 #[] #[])
  fields := #[]
  methods := #[]
  instanceTypes := #[]
  staticTypes := #[]
  resolved := Array.replicate 11 none
  statics := none }

def pool6 : Array CpInfo := pool [(1, .class_ 2), (0, u "java/lang/constant/ConstantDesc"), (0, .class_ 4), (0, u "java/lang/Object")] 32

/-- java/lang/constant/ConstantDesc -/
def k6 : Class := { plain "java/lang/constant/ConstantDesc" (some 0) with
  accessFlags := 1537
  interfaces := #[]
  cf := some (fileOf pool6 1 #[] #[] 1537 3 #[] #[])
  fields := #[]
  methods := #[]
  instanceTypes := #[]
  staticTypes := #[]
  resolved := Array.replicate 37 none
  statics := none }

def pool7 : Array CpInfo := pool [(2, .class_ 4), (1, u "java/lang/Object"), (0, u "<init>"), (0, u "()V"), (2, .fieldref 10 11), (0, .class_ 12), (0, .nameAndType 13 14), (0, u "java/lang/String"), (0, u "value"), (0, u "[B"), (0, .fieldref 10 16), (0, .nameAndType 17 18), (0, u "coder"), (0, u "B"), (2, u "hash"), (0, u "I"), (2, u "hashIsZero"), (0, u "Z"), (11, .fieldref 10 39), (0, .nameAndType 40 26), (0, u "COMPACT_STRINGS"), (66, .class_ 109), (1, u "java/lang/StringLatin1"), (32, u "()Z"), (220, u "([BI)C"), (27, u "(II)V"), (35, u "(I)C"), (64, .methodref 10 493), (0, .nameAndType 494 142), (0, u "isLatin1"), (0, .methodref 107 496), (0, .nameAndType 497 363), (0, u "charAt"), (3, u "checkIndex"), (73, .class_ 576), (0, u "java/lang/CharSequence"), (22, u "CASE_INSENSITIVE_ORDER"), (0, u "Ljava/util/Comparator;"), (452, .fieldref 1054 1055), (0, .class_ 1056), (0, .nameAndType 1057 1058), (0, u "jdk/internal/util/Preconditions"), (0, u "SIOOBE_FORMATTER"), (0, u "Ljava/util/function/BiFunction;"), (0, .methodref 1054 1060), (0, .nameAndType 501 1061), (0, u "(IILjava/util/function/BiFunction;)I"), (39, u "serialPersistentFields"), (0, u "[Ljava/io/ObjectStreamField;"), (0, .class_ 1104), (0, u "java/lang/String$CaseInsensitiveComparator"), (1, .class_ 1107), (0, u "java/io/Serializable"), (0, .class_ 1109), (0, u "java/lang/Comparable"), (0, .class_ 1111), (0, u "java/lang/constant/Constable"), (0, .class_ 1113), (0, u "java/lang/constant/ConstantDesc"), (2, u "serialVersionUID"), (0, u "J"), (3, u "REPL"), (0, u "C"), (2, u "LATIN1"), (1, u "UTF16")] 323

def k7m0 : Method := { name := "<init>", desc := "()V", sig := { parameters := [], returnType := none }, accessFlags := 1, code := none }
def k7c1 : Code := { maxStack := 2, maxLocals := 2, code := jdk_42_method_56_code, exceptionTable := #[], attributes := #[] }
def k7m1 : Method := { name := "charAt", desc := "(I)C", sig := { parameters := [.int], returnType := some .char }, accessFlags := 1, code := some k7c1 }
def k7c2 : Code := { maxStack := 1, maxLocals := 1, code := jdk_42_method_154_code, exceptionTable := #[], attributes := #[] }
def k7m2 : Method := { name := "isLatin1", desc := "()Z", sig := { parameters := [], returnType := some .boolean }, accessFlags := 0, code := some k7c2 }
def k7c3 : Code := { maxStack := 3, maxLocals := 2, code := jdk_42_method_155_code, exceptionTable := #[], attributes := #[] }
def k7m3 : Method := { name := "checkIndex", desc := "(II)V", sig := { parameters := [.int, .int], returnType := none }, accessFlags := 8, code := some k7c3 }
/-- java/lang/String -/
def k7 : Class := { plain "java/lang/String" (some 0) with
  accessFlags := 49
  interfaces := #[2, 3, 4, 5, 6]
  cf := some (fileOf pool7 10 #[.nestMembers #[1103]] #[{ accessFlags := 1, nameIndex := 5, descriptorIndex := 6, attributes := #[] }, { accessFlags := 1, nameIndex := 497, descriptorIndex := 427, attributes := #[] }, { accessFlags := 0, nameIndex := 494, descriptorIndex := 142, attributes := #[] }, { accessFlags := 8, nameIndex := 501, descriptorIndex := 391, attributes := #[] }] 49 2 #[1106, 1108, 575, 1110, 1112] #[{ accessFlags := 18, nameIndex := 13, descriptorIndex := 14, attributes := #[] }, { accessFlags := 18, nameIndex := 17, descriptorIndex := 18, attributes := #[] }, { accessFlags := 2, nameIndex := 21, descriptorIndex := 22, attributes := #[] }, { accessFlags := 2, nameIndex := 25, descriptorIndex := 26, attributes := #[] }, { accessFlags := 26, nameIndex := 1116, descriptorIndex := 1117, attributes := #[] }, { accessFlags := 24, nameIndex := 40, descriptorIndex := 26, attributes := #[] }, { accessFlags := 26, nameIndex := 1101, descriptorIndex := 1102, attributes := #[] }, { accessFlags := 26, nameIndex := 1121, descriptorIndex := 1122, attributes := #[] }, { accessFlags := 25, nameIndex := 599, descriptorIndex := 600, attributes := #[] }, { accessFlags := 24, nameIndex := 1125, descriptorIndex := 18, attributes := #[] }, { accessFlags := 24, nameIndex := 1127, descriptorIndex := 18, attributes := #[] }])
  fields := #[{ name := "value", type := (.array .byte), accessFlags := 18, slot := 0, constantValue := 0 }, { name := "coder", type := .byte, accessFlags := 18, slot := 1, constantValue := 0 }, { name := "hash", type := .int, accessFlags := 2, slot := 2, constantValue := 0 }, { name := "hashIsZero", type := .boolean, accessFlags := 2, slot := 3, constantValue := 0 }, { name := "serialVersionUID", type := .long, accessFlags := 26, slot := 0, constantValue := 0 }, { name := "COMPACT_STRINGS", type := .boolean, accessFlags := 24, slot := 1, constantValue := 0 }, { name := "serialPersistentFields", type := (.array (.object "java/io/ObjectStreamField")), accessFlags := 26, slot := 2, constantValue := 0 }, { name := "REPL", type := .char, accessFlags := 26, slot := 3, constantValue := 0 }, { name := "CASE_INSENSITIVE_ORDER", type := (.object "java/util/Comparator"), accessFlags := 25, slot := 4, constantValue := 0 }, { name := "LATIN1", type := .byte, accessFlags := 24, slot := 5, constantValue := 0 }, { name := "UTF16", type := .byte, accessFlags := 24, slot := 6, constantValue := 0 }]
  methods := #[k7m0, k7m1, k7m2, k7m3]
  instanceTypes := #[(.array .byte), .byte, .int, .boolean]
  staticTypes := #[.long, .boolean, (.array (.object "java/io/ObjectStreamField")), .char, (.object "java/util/Comparator"), .byte, .byte]
  resolved := Array.replicate 1451 none
  statics := some 0 }

def pool8 : Array CpInfo := pool [(1, .class_ 2), (0, u "java/lang/String"), (1, .class_ 6), (1, u "java/lang/Object"), (0, u "<init>"), (0, u "()V"), (0, .methodref 1 10), (0, .nameAndType 11 12), (0, u "checkIndex"), (0, u "(II)V"), (1, .class_ 16), (1, u "java/lang/StringLatin1"), (36, u "([BI)C"), (67, u "$assertionsDisabled"), (0, u "Z"), (98, .class_ 223), (1, u "java/lang/StringLatin1$LinesSpliterator"), (28, u "charAt"), (137, .class_ 391), (0, u "java/lang/StringLatin1$CharsSpliterator")] 3

def k8m0 : Method := { name := "<init>", desc := "()V", sig := { parameters := [], returnType := none }, accessFlags := 0, code := none }
def k8c1 : Code := { maxStack := 2, maxLocals := 2, code := jdk_43_method_2_code, exceptionTable := #[], attributes := #[] }
def k8m1 : Method := { name := "charAt", desc := "([BI)C", sig := { parameters := [(.array .byte), .int], returnType := some .char }, accessFlags := 9, code := some k8c1 }
/-- java/lang/StringLatin1 -/
def k8 : Class := { plain "java/lang/StringLatin1" (some 0) with
  accessFlags := 48
  interfaces := #[]
  cf := some (fileOf pool8 14 #[.nestMembers #[390, 221]] #[{ accessFlags := 0, nameIndex := 7, descriptorIndex := 8, attributes := #[] }, { accessFlags := 9, nameIndex := 252, descriptorIndex := 53, attributes := #[] }] 48 4 #[] #[{ accessFlags := 4120, nameIndex := 121, descriptorIndex := 122, attributes := #[] }])
  fields := #[{ name := "$assertionsDisabled", type := .boolean, accessFlags := 4120, slot := 0, constantValue := 0 }]
  methods := #[k8m0, k8m1]
  instanceTypes := #[]
  staticTypes := #[.boolean]
  resolved := Array.replicate 395 none
  statics := none }

def pool9 : Array CpInfo := pool [(2, .class_ 4), (1, u "java/lang/Object"), (0, u "<init>"), (0, u "()V"), (17, .class_ 26), (1, u "jdk/internal/util/Preconditions"), (6, u "checkIndex"), (21, .class_ 56), (0, u "jdk/internal/util/Preconditions$4"), (57, .class_ 115), (0, u "jdk/internal/util/Preconditions$1"), (7, u "SIOOBE_FORMATTER"), (0, u "Ljava/util/function/BiFunction;"), (0, .class_ 126), (0, u "jdk/internal/util/Preconditions$2"), (3, u "AIOOBE_FORMATTER"), (0, .class_ 132), (0, u "jdk/internal/util/Preconditions$3"), (3, u "IOOBE_FORMATTER"), (41, u "(IILjava/util/function/BiFunction;)I")] 15

def k9m0 : Method := { name := "<init>", desc := "()V", sig := { parameters := [], returnType := none }, accessFlags := 1, code := none }
def k9c1 : Code := { maxStack := 3, maxLocals := 3, code := jdk_41_method_11_code, exceptionTable := #[], attributes := #[] }
def k9m1 : Method := { name := "checkIndex", desc := "(IILjava/util/function/BiFunction;)I", sig := { parameters := [.int, .int, (.object "java/util/function/BiFunction")], returnType := some .int }, accessFlags := 9, code := some k9c1 }
/-- jdk/internal/util/Preconditions -/
def k9 : Class := { plain "jdk/internal/util/Preconditions" (some 0) with
  accessFlags := 33
  interfaces := #[]
  cf := some (fileOf pool9 24 #[.nestMembers #[55, 131, 125, 114]] #[{ accessFlags := 1, nameIndex := 5, descriptorIndex := 6, attributes := #[] }, { accessFlags := 9, nameIndex := 33, descriptorIndex := 178, attributes := #[] }] 33 2 #[] #[{ accessFlags := 25, nameIndex := 123, descriptorIndex := 124, attributes := #[] }, { accessFlags := 25, nameIndex := 130, descriptorIndex := 124, attributes := #[] }, { accessFlags := 25, nameIndex := 136, descriptorIndex := 124, attributes := #[] }])
  fields := #[{ name := "SIOOBE_FORMATTER", type := (.object "java/util/function/BiFunction"), accessFlags := 25, slot := 0, constantValue := 0 }, { name := "AIOOBE_FORMATTER", type := (.object "java/util/function/BiFunction"), accessFlags := 25, slot := 1, constantValue := 0 }, { name := "IOOBE_FORMATTER", type := (.object "java/util/function/BiFunction"), accessFlags := 25, slot := 2, constantValue := 0 }]
  methods := #[k9m0, k9m1]
  instanceTypes := #[]
  staticTypes := #[(.object "java/util/function/BiFunction"), (.object "java/util/function/BiFunction"), (.object "java/util/function/BiFunction")]
  resolved := Array.replicate 194 none
  statics := some 1 }

def pool10 : Array CpInfo := pool [(2, .class_ 4), (1, u "java/lang/Object"), (0, u "<init>"), (0, u "()V"), (11, .class_ 20), (1, u "com/example/lean_router/leanrouter/uri/UriSyntax"), (1, u "(I)Z"), (4, .methodref 18 28), (0, .nameAndType 29 22), (0, u "isDigit"), (3, u "(I)I"), (37, u "IP_LITERAL"), (0, u "Ljava/util/regex/Pattern;"), (26, u "hexValue"), (15, u "SUB_DELIMS"), (0, u "Ljava/lang/String;")] 34

def k10m0 : Method := { name := "<init>", desc := "()V", sig := { parameters := [], returnType := none }, accessFlags := 2, code := none }
def k10c1 : Code := { maxStack := 2, maxLocals := 2, code := prog_34_method_8_code, exceptionTable := #[], attributes := #[] }
def k10m1 : Method := { name := "hexValue", desc := "(I)I", sig := { parameters := [.int], returnType := some .int }, accessFlags := 9, code := some k10c1 }
def k10c2 : Code := { maxStack := 2, maxLocals := 1, code := prog_34_method_11_code, exceptionTable := #[], attributes := #[] }
def k10m2 : Method := { name := "isDigit", desc := "(I)Z", sig := { parameters := [.int], returnType := some .boolean }, accessFlags := 10, code := some k10c2 }
/-- com/example/lean_router/leanrouter/uri/UriSyntax -/
def k10 : Class := { plain "com/example/lean_router/leanrouter/uri/UriSyntax" (some 0) with
  accessFlags := 33
  interfaces := #[]
  cf := some (fileOf pool10 18 #[] #[{ accessFlags := 2, nameIndex := 5, descriptorIndex := 6, attributes := #[] }, { accessFlags := 9, nameIndex := 99, descriptorIndex := 33, attributes := #[] }, { accessFlags := 10, nameIndex := 29, descriptorIndex := 22, attributes := #[] }] 33 2 #[] #[{ accessFlags := 26, nameIndex := 115, descriptorIndex := 116, attributes := #[] }, { accessFlags := 26, nameIndex := 71, descriptorIndex := 72, attributes := #[] }])
  fields := #[{ name := "SUB_DELIMS", type := (.object "java/lang/String"), accessFlags := 26, slot := 0, constantValue := 0 }, { name := "IP_LITERAL", type := (.object "java/util/regex/Pattern"), accessFlags := 26, slot := 1, constantValue := 0 }]
  methods := #[k10m0, k10m1, k10m2]
  instanceTypes := #[]
  staticTypes := #[(.object "java/lang/String"), (.object "java/util/regex/Pattern")]
  resolved := Array.replicate 151 none
  statics := none }

def pool11 : Array CpInfo := pool [(9, u "<init>"), (6, .class_ 18), (1, u "java/lang/Object"), (0, u "()V"), (1, .class_ 23), (1, u "jdk/internal/util/ArraysSupport"), (0, u "LOG2_ARRAY_LONG_INDEX_SCALE"), (0, u "I"), (2, u "U"), (0, u "Ljdk/internal/misc/Unsafe;"), (8, u "BIG_ENDIAN"), (0, u "Z"), (8, u "LOG2_BYTE_BIT_SIZE"), (4, u "LOG2_ARRAY_INT_INDEX_SCALE"), (54, u "JLA"), (0, u "Ljdk/internal/access/JavaLangAccess;"), (11, u "LOG2_ARRAY_BOOLEAN_INDEX_SCALE"), (9, u "LOG2_ARRAY_BYTE_INDEX_SCALE"), (5, u "LOG2_ARRAY_CHAR_INDEX_SCALE"), (5, u "LOG2_ARRAY_SHORT_INDEX_SCALE"), (18, u "LOG2_ARRAY_FLOAT_INDEX_SCALE"), (24, u "LOG2_ARRAY_DOUBLE_INDEX_SCALE"), (89, u "T_BOOLEAN"), (2, u "T_CHAR"), (1, u "T_FLOAT"), (1, u "T_DOUBLE"), (1, u "T_BYTE"), (1, u "T_SHORT"), (1, u "T_INT"), (1, u "T_LONG"), (1, u "SOFT_MAX_ARRAY_LENGTH")] 83

def k11m0 : Method := { name := "<init>", desc := "()V", sig := { parameters := [], returnType := none }, accessFlags := 2, code := none }
/-- jdk/internal/util/ArraysSupport -/
def k11 : Class := { plain "jdk/internal/util/ArraysSupport" (some 0) with
  accessFlags := 33
  interfaces := #[]
  cf := some (fileOf pool11 21 #[] #[{ accessFlags := 2, nameIndex := 9, descriptorIndex := 19, attributes := #[] }] 33 16 #[] #[{ accessFlags := 24, nameIndex := 28, descriptorIndex := 29, attributes := #[] }, { accessFlags := 26, nameIndex := 38, descriptorIndex := 39, attributes := #[] }, { accessFlags := 25, nameIndex := 121, descriptorIndex := 25, attributes := #[] }, { accessFlags := 25, nameIndex := 131, descriptorIndex := 25, attributes := #[] }, { accessFlags := 25, nameIndex := 137, descriptorIndex := 25, attributes := #[] }, { accessFlags := 25, nameIndex := 143, descriptorIndex := 25, attributes := #[] }, { accessFlags := 25, nameIndex := 53, descriptorIndex := 25, attributes := #[] }, { accessFlags := 25, nameIndex := 24, descriptorIndex := 25, attributes := #[] }, { accessFlags := 25, nameIndex := 162, descriptorIndex := 25, attributes := #[] }, { accessFlags := 25, nameIndex := 187, descriptorIndex := 25, attributes := #[] }, { accessFlags := 26, nameIndex := 48, descriptorIndex := 25, attributes := #[] }, { accessFlags := 25, nameIndex := 277, descriptorIndex := 25, attributes := #[] }, { accessFlags := 25, nameIndex := 280, descriptorIndex := 25, attributes := #[] }, { accessFlags := 25, nameIndex := 282, descriptorIndex := 25, attributes := #[] }, { accessFlags := 25, nameIndex := 284, descriptorIndex := 25, attributes := #[] }, { accessFlags := 25, nameIndex := 286, descriptorIndex := 25, attributes := #[] }, { accessFlags := 25, nameIndex := 288, descriptorIndex := 25, attributes := #[] }, { accessFlags := 25, nameIndex := 290, descriptorIndex := 25, attributes := #[] }, { accessFlags := 25, nameIndex := 292, descriptorIndex := 25, attributes := #[] }, { accessFlags := 26, nameIndex := 108, descriptorIndex := 109, attributes := #[] }, { accessFlags := 25, nameIndex := 294, descriptorIndex := 25, attributes := #[] }])
  fields := #[{ name := "U", type := (.object "jdk/internal/misc/Unsafe"), accessFlags := 24, slot := 0, constantValue := 0 }, { name := "BIG_ENDIAN", type := .boolean, accessFlags := 26, slot := 1, constantValue := 0 }, { name := "LOG2_ARRAY_BOOLEAN_INDEX_SCALE", type := .int, accessFlags := 25, slot := 2, constantValue := 0 }, { name := "LOG2_ARRAY_BYTE_INDEX_SCALE", type := .int, accessFlags := 25, slot := 3, constantValue := 0 }, { name := "LOG2_ARRAY_CHAR_INDEX_SCALE", type := .int, accessFlags := 25, slot := 4, constantValue := 0 }, { name := "LOG2_ARRAY_SHORT_INDEX_SCALE", type := .int, accessFlags := 25, slot := 5, constantValue := 0 }, { name := "LOG2_ARRAY_INT_INDEX_SCALE", type := .int, accessFlags := 25, slot := 6, constantValue := 0 }, { name := "LOG2_ARRAY_LONG_INDEX_SCALE", type := .int, accessFlags := 25, slot := 7, constantValue := 0 }, { name := "LOG2_ARRAY_FLOAT_INDEX_SCALE", type := .int, accessFlags := 25, slot := 8, constantValue := 0 }, { name := "LOG2_ARRAY_DOUBLE_INDEX_SCALE", type := .int, accessFlags := 25, slot := 9, constantValue := 0 }, { name := "LOG2_BYTE_BIT_SIZE", type := .int, accessFlags := 26, slot := 10, constantValue := 0 }, { name := "T_BOOLEAN", type := .int, accessFlags := 25, slot := 11, constantValue := 0 }, { name := "T_CHAR", type := .int, accessFlags := 25, slot := 12, constantValue := 0 }, { name := "T_FLOAT", type := .int, accessFlags := 25, slot := 13, constantValue := 0 }, { name := "T_DOUBLE", type := .int, accessFlags := 25, slot := 14, constantValue := 0 }, { name := "T_BYTE", type := .int, accessFlags := 25, slot := 15, constantValue := 0 }, { name := "T_SHORT", type := .int, accessFlags := 25, slot := 16, constantValue := 0 }, { name := "T_INT", type := .int, accessFlags := 25, slot := 17, constantValue := 0 }, { name := "T_LONG", type := .int, accessFlags := 25, slot := 18, constantValue := 0 }, { name := "JLA", type := (.object "jdk/internal/access/JavaLangAccess"), accessFlags := 26, slot := 19, constantValue := 0 }, { name := "SOFT_MAX_ARRAY_LENGTH", type := .int, accessFlags := 25, slot := 20, constantValue := 0 }]
  methods := #[k11m0]
  instanceTypes := #[]
  staticTypes := #[(.object "jdk/internal/misc/Unsafe"), .boolean, .int, .int, .int, .int, .int, .int, .int, .int, .int, .int, .int, .int, .int, .int, .int, .int, .int, (.object "jdk/internal/access/JavaLangAccess"), .int]
  resolved := Array.replicate 378 none
  statics := none }

def pool12 : Array CpInfo := pool [(1, u "java/lang/Cloneable"), (0, .class_ 1), (0, u "java/lang/Object"), (0, .class_ 3)] 3

/-- java/lang/Cloneable -/
def k12 : Class := { plain "java/lang/Cloneable" (some 0) with
  accessFlags := 1537
  interfaces := #[]
  cf := some (fileOf pool12 2 #[] #[] 1537 4 #[] #[])
  fields := #[]
  methods := #[]
  instanceTypes := #[]
  staticTypes := #[]
  resolved := Array.replicate 8 none
  statics := none }

/-- the primitive byte -/
def k13 : Class := { plain "byte" none with kind := .primitive 'B', accessFlags := 0x411 }
/-- [B -/
def k14 : Class := { plain "[B" (some 0) with kind := .array 13 .byte, interfaces := #[12, 2], accessFlags := 1041 }

/-- the primitive int -/
def k15 : Class := { plain "int" none with kind := .primitive 'I', accessFlags := 0x411 }
/-- [I -/
def k16 : Class := { plain "[I" (some 0) with kind := .array 15 .int, interfaces := #[12, 2], accessFlags := 1041 }

def heap : Heap := #[{ cls := 7, slots := #[.long 0, .int 1, .null, .int 0, .null, .int 0, .int 0], vm := .statics 7 },
  { cls := 9, slots := #[.null, .null, .null], vm := .statics 9 }]
def classes : Array Class := #[k0, k1, k2, k3, k4, k5, k6, k7, k8, k9, k10, k11, k12, k13, k14, k15, k16]
def interned : List (Array UInt16 × Addr) := []
def slotsUsed : Nat := 10
def theMethod : MethodId := ⟨1, 2⟩
def args0 : Array Value := #[.int 5, .int 5, .int 5]
def aboutOver (below : List Frame) : State where
  vm := { classes := classes, interned := interned.toArray }
  heap := heap
  slotsUsed := slotsUsed
  threads := #[{ frames := .invoking theMethod args0 :: below }]
def below0 : List Frame := [.native { method := ⟨0, 0⟩, args := #[] }]
def about1 : State := aboutOver below0
def p0 : Program := .bare "" "" ""
def e0 : Env := launch0.env 0 0 0
theorem w_frames : about1.frames = Frame.invoking theMethod args0 :: below0 := rfl
set_option maxRecDepth 65536 in
theorem w_args : argsFit about1.vm theMethod args0 = true := by decide +kernel
set_option maxRecDepth 65536 in
theorem w_heap : heapFits about1 = true := by decide +kernel
set_option maxRecDepth 65536 in
theorem w_runnable : about1.curStatus? = some .runnable := by decide +kernel
set_option maxRecDepth 65536 in
theorem w_alone : about1.alone = true := by decide +kernel
set_option maxRecDepth 65536 in
theorem w_named : about1.methodNamed? x = some theMethod := by decide +kernel
set_option maxRecDepth 65536 in
theorem w_hears : about1.hears theMethod below0 = true := by decide +kernel
set_option maxRecDepth 65536 in
theorem w_ripe : about1.ripe theMethod args0 below0 = true := by decide +kernel
theorem w_running : about1.status = .running := rfl
set_option maxRecDepth 65536 in
theorem w_room : about1.hasRoom e0.platform room_1 = true :=
  launch0.hasRoom_least _ room_1 (by decide +kernel) (by decide +kernel) (by decide +kernel) (by decide +kernel) (by decide +kernel) (by decide +kernel)
theorem allAtoms_all (ts : List Jvm.Cond) (a : Array Jvm.Value) (st : Jvm.State) : (allAtoms ts).before a st = ts.all (fun c => c.before a st) := by
  induction ts with
  | nil => rfl
  | cons c t ih =>
    show (Jvm.Cond.and c (allAtoms t)).before a st = _
    rw [Jvm.Cond.before_and, ih, List.all_cons]
def words1 : List Jvm.Cond := Jvm.Cond.code x code maxLocals ret :: tables_1
/-- a 'code' word, met by the world's own term for the bytes: nothing is compared byte by byte -/
theorem code_word {y : MethodName} {bytes : ByteArray} {mx : Nat} {rt : Option FieldType} {a : Array Value} {s : State} {m : MethodId} {meth : Method} {c : Code} (h1 : s.methodNamed? y = some m) (h2 : s.vm.method? m = some meth) (h3 : meth.code = some c) (h4 : c.code = bytes)
    (h5 : (c.maxLocals == mx && c.exceptionTable.isEmpty && decide (c.maxStack ≤ mostOperands) && decide (meth.sig.returnType = rt) && !meth.locks && decide (parseMethodDescriptor y.desc = some meth.sig)) = true) : (Jvm.Cond.code y bytes mx rt).before a s = true := by
  simp only [Bool.and_eq_true, beq_iff_eq, Bool.not_eq_true', decide_eq_true_eq] at h5
  obtain ⟨⟨⟨⟨⟨g1, g2⟩, g3⟩, g4⟩, g5⟩, g6⟩ := h5
  simp [Cond.before, Cond.holds, Cond.value, h1, h2, h3, h4, g1, g2, g3, g4, g5, g6]
def isCode : Jvm.Cond → Bool
  | .code _ _ _ _ => true
  | _ => false
theorem all_split {L : List Jvm.Cond} {P : Jvm.Cond → Bool} (h1 : L.all (fun c => isCode c || P c) = true) (h2 : ∀ c ∈ L.filter isCode, P c = true) : L.all P = true := by
  refine List.all_eq_true.mpr fun c hc => ?_
  have h := List.all_eq_true.mp h1 c hc
  rcases Bool.eq_false_or_eq_true (isCode c) with hi | hi
  · exact h2 c (List.mem_filter.mpr ⟨hc, hi⟩)
  · simpa [hi] using h
set_option maxRecDepth 65536 in
theorem w_c0 : (Jvm.Cond.code x code maxLocals ret).before args0 about1 = true := code_word (m := ⟨1, 2⟩) (meth := k1m2) (c := k1c2) (by decide +kernel) rfl rfl rfl (by decide +kernel)
set_option maxRecDepth 65536 in
theorem w_c1 : (Jvm.Cond.code ({ cls := "java/lang/String", name := "charAt", desc := "(I)C" } : Jvm.MethodName) jdk_42_method_56_code (2 : Nat) (Option.some Jvm.ClassFile.FieldType.char)).before args0 about1 = true := code_word (m := ⟨7, 1⟩) (meth := k7m1) (c := k7c1) (by decide +kernel) rfl rfl rfl (by decide +kernel)
set_option maxRecDepth 65536 in
theorem w_c2 : (Jvm.Cond.code ({ cls := "java/lang/String", name := "isLatin1", desc := "()Z" } : Jvm.MethodName) jdk_42_method_154_code (1 : Nat) (Option.some Jvm.ClassFile.FieldType.boolean)).before args0 about1 = true := code_word (m := ⟨7, 2⟩) (meth := k7m2) (c := k7c2) (by decide +kernel) rfl rfl rfl (by decide +kernel)
set_option maxRecDepth 65536 in
theorem w_c3 : (Jvm.Cond.code ({ cls := "java/lang/StringLatin1", name := "charAt", desc := "([BI)C" } : Jvm.MethodName) jdk_43_method_2_code (2 : Nat) (Option.some Jvm.ClassFile.FieldType.char)).before args0 about1 = true := code_word (m := ⟨8, 1⟩) (meth := k8m1) (c := k8c1) (by decide +kernel) rfl rfl rfl (by decide +kernel)
set_option maxRecDepth 65536 in
theorem w_c4 : (Jvm.Cond.code ({ cls := "java/lang/String", name := "checkIndex", desc := "(II)V" } : Jvm.MethodName) jdk_42_method_155_code (2 : Nat) (Option.none : Option Jvm.ClassFile.FieldType)).before args0 about1 = true := code_word (m := ⟨7, 3⟩) (meth := k7m3) (c := k7c3) (by decide +kernel) rfl rfl rfl (by decide +kernel)
set_option maxRecDepth 65536 in
theorem w_c5 : (Jvm.Cond.code ({ cls := "jdk/internal/util/Preconditions", name := "checkIndex", desc := "(IILjava/util/function/BiFunction;)I" } : Jvm.MethodName) jdk_41_method_11_code (3 : Nat) (Option.some Jvm.ClassFile.FieldType.int)).before args0 about1 = true := code_word (m := ⟨9, 1⟩) (meth := k9m1) (c := k9c1) (by decide +kernel) rfl rfl rfl (by decide +kernel)
set_option maxRecDepth 65536 in
theorem w_c6 : (Jvm.Cond.code ({ cls := "com/example/lean_router/leanrouter/uri/UriSyntax", name := "hexValue", desc := "(I)I" } : Jvm.MethodName) prog_34_method_8_code (2 : Nat) (Option.some Jvm.ClassFile.FieldType.int)).before args0 about1 = true := code_word (m := ⟨10, 1⟩) (meth := k10m1) (c := k10c1) (by decide +kernel) rfl rfl rfl (by decide +kernel)
set_option maxRecDepth 65536 in
theorem w_c7 : (Jvm.Cond.code ({ cls := "com/example/lean_router/leanrouter/uri/UriSyntax", name := "isDigit", desc := "(I)Z" } : Jvm.MethodName) prog_34_method_11_code (1 : Nat) (Option.some Jvm.ClassFile.FieldType.boolean)).before args0 about1 = true := code_word (m := ⟨10, 2⟩) (meth := k10m2) (c := k10c2) (by decide +kernel) rfl rfl rfl (by decide +kernel)
set_option maxRecDepth 65536 in
theorem w_c8 : (Jvm.Cond.code ({ cls := "com/example/lean_router/leanrouter/uri/UriSyntaxHexValuePinLaw", name := "reference", desc := "(I)I" } : Jvm.MethodName) method_2_code (3 : Nat) (Option.some Jvm.ClassFile.FieldType.int)).before args0 about1 = true := code_word (m := ⟨1, 1⟩) (meth := k1m1) (c := k1c1) (by decide +kernel) rfl rfl rfl (by decide +kernel)
def codes1 : List Jvm.Cond := [Jvm.Cond.code x code maxLocals ret, Jvm.Cond.code ({ cls := "java/lang/String", name := "charAt", desc := "(I)C" } : Jvm.MethodName) jdk_42_method_56_code (2 : Nat) (Option.some Jvm.ClassFile.FieldType.char), Jvm.Cond.code ({ cls := "java/lang/String", name := "isLatin1", desc := "()Z" } : Jvm.MethodName) jdk_42_method_154_code (1 : Nat) (Option.some Jvm.ClassFile.FieldType.boolean), Jvm.Cond.code ({ cls := "java/lang/StringLatin1", name := "charAt", desc := "([BI)C" } : Jvm.MethodName) jdk_43_method_2_code (2 : Nat) (Option.some Jvm.ClassFile.FieldType.char), Jvm.Cond.code ({ cls := "java/lang/String", name := "checkIndex", desc := "(II)V" } : Jvm.MethodName) jdk_42_method_155_code (2 : Nat) (Option.none : Option Jvm.ClassFile.FieldType), Jvm.Cond.code ({ cls := "jdk/internal/util/Preconditions", name := "checkIndex", desc := "(IILjava/util/function/BiFunction;)I" } : Jvm.MethodName) jdk_41_method_11_code (3 : Nat) (Option.some Jvm.ClassFile.FieldType.int), Jvm.Cond.code ({ cls := "com/example/lean_router/leanrouter/uri/UriSyntax", name := "hexValue", desc := "(I)I" } : Jvm.MethodName) prog_34_method_8_code (2 : Nat) (Option.some Jvm.ClassFile.FieldType.int), Jvm.Cond.code ({ cls := "com/example/lean_router/leanrouter/uri/UriSyntax", name := "isDigit", desc := "(I)Z" } : Jvm.MethodName) prog_34_method_11_code (1 : Nat) (Option.some Jvm.ClassFile.FieldType.boolean), Jvm.Cond.code ({ cls := "com/example/lean_router/leanrouter/uri/UriSyntaxHexValuePinLaw", name := "reference", desc := "(I)I" } : Jvm.MethodName) method_2_code (3 : Nat) (Option.some Jvm.ClassFile.FieldType.int)]
set_option maxRecDepth 65536 in
theorem codes_eq : words1.filter isCode = codes1 := rfl
theorem w_codes : ∀ c ∈ words1.filter isCode, c.before args0 about1 = true := by
  rw [codes_eq]
  intro c hc
  simp only [codes1, List.mem_cons, List.not_mem_nil, or_false] at hc
  rcases hc with rfl | rfl | rfl | rfl | rfl | rfl | rfl | rfl | rfl
  · exact w_c0
  · exact w_c1
  · exact w_c2
  · exact w_c3
  · exact w_c4
  · exact w_c5
  · exact w_c6
  · exact w_c7
  · exact w_c8
set_option maxRecDepth 65536 in
theorem w_t1 : (words1.take 24).all (fun c => isCode c || c.before args0 about1) = true := by decide +kernel
set_option maxRecDepth 65536 in
theorem w_t2 : (words1.drop 24).all (fun c => isCode c || c.before args0 about1) = true := by decide +kernel
theorem w_tables : (allAtoms (Jvm.Cond.code x code maxLocals ret :: tables_1)).before args0 about1 = true := by
  rw [allAtoms_all]
  show words1.all (fun c => c.before args0 about1) = true
  refine all_split ?_ w_codes
  rw [← List.take_append_drop 24 words1, List.all_append, w_t1, w_t2]
  rfl
set_option maxRecDepth 65536 in
theorem w_rest : rest_1_c.before args0 about1 = true := by decide +kernel
set_option maxRecDepth 65536 in
theorem w_case : (Jvm.Cond.and given_1 narrow_1).before args0 about1 = true := by decide +kernel
set_option maxRecDepth 65536 in
theorem w_consts : constsHeld consts_1 about1 := Jvm.Lit.constsHeldB_iff.mp (by decide +kernel)
theorem w_applies : (headSpec (Jvm.Cond.code x code maxLocals ret :: tables_1) room_1).applies x e0.platform about1 = true :=
  (Spec.applies_iff w_frames).mpr ⟨w_running, w_runnable, w_alone, w_named, w_hears, w_ripe, w_room, w_tables⟩
theorem atStart : AtStart classFile x code maxLocals ret World_1 tables_1 room_1 Calls_1 rest_1 Pre_1 launch0 p0 e0 about1 theMethod args0 below0 :=
  ⟨lists_1, trivial, launch0.admits_env _ _ _, launch0.least_env, fairChoices_fair.cas, fairChoices_fair.clock, w_frames, w_args, w_heap, w_applies, ⟨w_consts, trivial⟩, w_rest, w_case⟩
end start1
theorem witness_1 : WitnessClaimed_1 := ⟨start1.p0, start1.e0, start1.about1, start1.theMethod, start1.args0, start1.below0, start1.atStart⟩
end Jvm.Pilot.@@N@@
