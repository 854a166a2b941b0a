import JvmDerived
import JvmDerived.Pilot.@@N@@Statement
import JvmDerived.Pilot.@@N@@Code
set_option linter.unusedVariables false
set_option linter.unusedSimpArgs false
namespace Jvm.RoadKit
open Sem ClassFile Op Lib Jvm.Stand Jvm.Free Jvm.LawKit
section New
variable {p : Program} {l : Launch} {e : Env} {R : Room} {s : State} {m : MethodId} {args : Array Value} {below : List Frame} {meth : Method} {c : Code} {T : State} {locs : List Loc} {cells slots : Nat}
theorem retI (X : Stand p l e R s m args below meth c T locs cells slots) (hx : p.tables.exec = Jvm.exec) {pc : Nat} {Ls : Array Slot} {z : Int32} {rest : List Value} (hret : meth.sig.returnType = some .int) (hd : decode c.code pc = .ok (.ireturn, 1)) {fs : List Frame}
    (hl : ∀ (f : JFrame) (acts : List Action), f.method = m → f.locked = none → f.entered = [] → (doReturn e (T.setTop f) acts (some (.int z))).1 = T.setFrames fs) : Steps p.tables e below (T.setTop (mkF m pc Ls (.int z :: rest))) (T.setFrames fs) := by
  have hm' : T.vm.method? m = some meth := X.method'
  have hn : narrow .int (.int z) = .int z := rfl
  show Steps p.tables e below (T.setTop { method := m, pc := pc, locals := Ls, stack := _ :: rest, locked := none }) _
  jvm_step X.here [X.here.top, hx, hd, hm', hret, hn]
  first | (intro acts; rw [hl _ acts rfl rfl rfl]) | rw [hl _ _ rfl rfl rfl]
  exact Steps.refl _
end New
end Jvm.RoadKit
namespace Jvm.RoadKit
open Sem ClassFile Op Lib Jvm.Stand Jvm.Free Jvm.LawKit
theorem own_lsw {tb : Tables} [Ours tb] {e : Env} {below : List Frame} {T target : State} {m : MethodId} {c : Code} {g : JFrame} (h : At T m c below) (hx : tb.exec = Jvm.exec) (hg : g.method = m) {dflt : Int} {pairs : Array (Int × Int)} {len : Nat} {pc0 pc' : Nat} (hpc : g.pc = pc0) (hd : decode c.code g.pc = .ok (.lookupswitch dflt pairs, len)) {i : Int32} {rest : List Value} (hs : g.stack = .int i :: rest) {o : Int}
    (hoff : lookupswitch.offset pairs.toList dflt i.toInt = o) (hso : (pairs.toList.zip (pairs.toList.drop 1)).all (fun (a, next) => a.1 < next.1) = true) (ho : 0 ≤ (pc0 : Int) + o) (hp : ((pc0 : Int) + o).toNat = pc')
    (hr : Steps tb e below (T.setTop { g with pc := pc', stack := rest }) target) : Steps tb e below (T.setTop g) target := by
  subst hg hpc hp
  jvm_step h [h.top, hx, hd, hs, hoff, ho, lookupswitch.wp_chain]
  exact ⟨by simpa using hso, hr⟩
theorem own_off_no {k d : Int} : ∀ {L : List (Int × Int)}, (∀ q ∈ L, ¬ q.1 = k) → lookupswitch.offset L d k = d
  | [], _ => rfl
  | (a, o) :: r, h => by rw [lookupswitch.offset_cons, if_neg (h (a, o) (List.mem_cons_self ..))]; exact own_off_no fun q hq => h q (List.mem_cons_of_mem _ hq)
theorem own_ne_lit {x k : Int32} (h : ¬ x = k) {z : Int} (hz : k.toInt = z) : ¬ z = x.toInt := fun q => h (Int32.toInt_inj.mp (by rw [← q, hz]))
def own_rem (x y : Int32) : Int32 := x - (x / y) * y
def bi (P : Prop) [Decidable P] : Int32 := if P then 1 else 0
theorem bi_t {P : Prop} [Decidable P] (h : P) : bi P = 1 := if_pos h
theorem bi_f {P : Prop} [Decidable P] (h : ¬ P) : bi P = 0 := if_neg h
theorem bi_nar {P : Prop} [Decidable P] : nar .boolean (bi P) = bi P := by unfold bi; split <;> rfl
theorem bi_0 {P : Prop} [Decidable P] : (bi P = 0) ↔ ¬ P := by unfold bi; split <;> simp_all
theorem bi_inj {P Q : Prop} [Decidable P] [Decidable Q] (h : P ↔ Q) : bi P = bi Q := by unfold bi; simp only [h]
end Jvm.RoadKit
namespace Jvm.RoadKit
open Sem ClassFile Op Lib Jvm.Stand Jvm.Free Jvm.LawKit
section OwnWords
variable {args : Array Value} {s : State} {idx : List Nat} {t i : Term} {aT : Addr} {cl : Cell} {b k A B z : Int32}
theorem own_or {G Y : Cond} (h : (Cond.or G Y).value args s none s idx = some true) (hg : G.value args s none s idx = some false) : Y.value args s none s idx = some true := by
  simpa only [Cond.value, hg] using h
theorem own_el (h : (Cond.eq (.elem t i) (.int b)).value args s none s idx = some true) (ht : t.eval args s none idx s = some (.ref aT)) (hi : i.eval args s none idx s = some (.int k)) (hc : s.heap[aT]? = some cl) : atv cl k = b := by
  obtain ⟨x, y, e1, e2, -, -⟩ := cmp_v (Or.inl h)
  obtain ⟨-, e3⟩ := elem_in e1 ht hi hc
  have e4 : (Term.int b).eval args s none idx s = some (.int b) := rfl
  cases e4.symm.trans e2
  have e5 : x = .int b := by cases x <;> simp [Cond.value, e1, e4] at h; rw [h]
  subst e5
  exact atv_of e3
theorem own_r1 (h : (Cond.all t (.or (.le (.int A) (.index 0)) (.eq (.elem t (.index 0)) (.int b)))).value args s none s [] = some true) (ht : ∀ idx, t.eval args s none idx s = some (.ref aT)) (hc : s.heap[aT]? = some cl) (ha : s.arrayAt? aT = some cl) {n : Nat} (hn : n < cl.slots.size) (h1 : ¬ A ≤ n.toInt32) : atv cl n.toInt32 = b := by
  have q := Cond.all_elim (ht []) ha h n hn
  exact own_el (own_or q (by simp [Cond.value, Term.eval, h1])) (ht _) (by simp [Term.eval]) hc
theorem own_r2 (h : (Cond.all t (.or (.lt (.index 0) (.int A)) (.or (.le (.int B) (.index 0)) (.eq (.elem t (.index 0)) (.int b))))).value args s none s [] = some true) (ht : ∀ idx, t.eval args s none idx s = some (.ref aT)) (hc : s.heap[aT]? = some cl) (ha : s.arrayAt? aT = some cl) {n : Nat} (hn : n < cl.slots.size) (h1 : ¬ n.toInt32 < A) (h2 : ¬ B ≤ n.toInt32) : atv cl n.toInt32 = b := by
  have q := Cond.all_elim (ht []) ha h n hn
  exact own_el (own_or (own_or q (by simp [Cond.value, Term.eval, h1])) (by simp [Cond.value, Term.eval, h2])) (ht _) (by simp [Term.eval]) hc
theorem own_len (h : (Cond.eq (.length t) (.int z)).value args s none s idx = some true) (ht : t.eval args s none idx s = some (.ref aT)) (ha : s.arrayAt? aT = some cl) : cl.slots.size < 2 ^ 31 ∧ cl.slots.size.toInt32 = z := by
  by_cases q : cl.slots.size < 2 ^ 31
  · simp [Cond.value, Term.eval, ht, ha, q] at h; exact ⟨q, h⟩
  · simp [Cond.value, Term.eval, ht, ha, q] at h
theorem own_sta_idx {C n d : String} {v : Value} (h : (Term.static C n d).eval args s none [] s = some v) (idx : List Nat) : (Term.static C n d).eval args s none idx s = some v := by
  simp only [Term.eval] at h ⊢; exact h
end OwnWords
theorem own_toInt_ofNat {n : Nat} (h : n < 2147483648) : (Int32.ofNat n).toInt = n := Int32.toInt_ofNat_small h
theorem own_of_rng {c : Int32} (h0 : ¬ c < 0) : c = Int32.ofNat c.toInt.toNat := by
  have h0' : 0 ≤ c.toInt := by rw [Int32.lt_iff_toInt_lt] at h0; have : (0 : Int32).toInt = 0 := rfl; omega
  have := c.toInt_lt
  apply Int32.toInt_inj.mp
  rw [own_toInt_ofNat (by omega)]; omega
end Jvm.RoadKit
namespace Jvm.RoadKit
open Sem ClassFile Op Lib Jvm.Stand Jvm.Free Jvm.LawKit
theorem own_ord {args : Array Value} {s : State} {t : Term} {a : Addr} {k : Int32} {C n d : String} (h : (Cond.eq (.field t C n d) (.int k)).value args s none s [] = some true) (ht : t.eval args s none [] s = some (.ref a)) : s.fieldOf? a C n d = some (.int k) := by
  obtain ⟨x, y, e1, e2, -, -⟩ := cmp_v (Or.inl h)
  have e4 : (Term.int k).eval args s none [] s = some (.int k) := rfl
  have e5 : x = .int k := by cases x <;> simp [Cond.value, e1, e4] at h; rw [h]
  rw [fld_at ht] at e1
  rw [e1, e5]
theorem own_ord_ne {o : Addr → Option Value} {a b : Addr} {j k : Int32} (h1 : o a = some (.int j)) (h2 : o b = some (.int k)) (hjk : ¬ j = k) : ¬ a = b := fun e => by
  subst e; exact hjk (Value.int.inj (Option.some.inj (h1.symm.trans h2)))
theorem own_and7 (x : Int32) : (x &&& 7).toInt = 0 ∨ (x &&& 7).toInt = 1 ∨ (x &&& 7).toInt = 2 ∨ (x &&& 7).toInt = 3 ∨ (x &&& 7).toInt = 4 ∨ (x &&& 7).toInt = 5 ∨ (x &&& 7).toInt = 6 ∨ (x &&& 7).toInt = 7 := by
  have h := c_mask x 7 3 (by decide) (by decide)
  have : ((2 ^ 3 : Nat) : Int) = 8 := rfl
  omega
theorem own_i32 {x k : Int32} {z : Int} (h : x.toInt = z) (hk : k.toInt = z) : x = k := Int32.toInt_inj.mp (h.trans hk.symm)
end Jvm.RoadKit
namespace Jvm.Pilot.@@N@@
open Jvm Jvm.ClassFile Sem Op Lib Jvm.Free Jvm.Stand Jvm.LawKit Jvm.RoadKit Bundle Jvm.Pilot.@@N@@.Jvm.D
def own_i (P : Prop) [Decidable P] (a b : Int32) : Int32 := if P then a else b
def own_hv (ti to : Int32) (u w : Int64) : Int32 := if to < (0 : Int32) then 1 else if (0 : Int32) < lcmpW u w then 1 else if lcmpW u w = (0 : Int32) then (if ti < to then 1 else 0) else 0
theorem own_b53 (x : Int32) : B53 x.toInt64 := by
  have h := c_i2l x; have := rng32 x
  unfold B53; omega
theorem own_key (t th : Int32) (h : -1073741824 ≤ t.toInt ∧ t.toInt < 1073741824) : ((t.toInt64 <<< ((32 : Int32) &&& 0x3f).toInt64) - th.toInt64).toInt = t.toInt * 4294967296 - th.toInt := by
  have h1 := c_lshl t.toInt64 32 32 (by decide)
  have h2 := c_lsub (t.toInt64 <<< ((32 : Int32) &&& 0x3f).toInt64) th.toInt64
  have h3 := c_i2l t; have h4 := c_i2l th; have h5 := rng32 th
  have h6 := rng64 (t.toInt64 <<< ((32 : Int32) &&& 0x3f).toInt64)
  have h7 := rng64 ((t.toInt64 <<< ((32 : Int32) &&& 0x3f).toInt64) - th.toInt64)
  have h8 : ((2 ^ 32 : Nat) : Int) = 4294967296 := rfl
  rw [h3, h8] at h1; rw [h4] at h2
  omega
theorem own_eq (ti to t1 t2 : Int32) (h1 : -1073741824 ≤ t1.toInt ∧ t1.toInt < 1073741824) (h2 : -1073741824 ≤ t2.toInt ∧ t2.toInt < 1073741824) (hp : ¬ to < (0 : Int32)) :
    own_hv ti to t1.toInt64 t2.toInt64 = bi ((0 : Int32) < lcmpW ((t1.toInt64 <<< ((32 : Int32) &&& 0x3f).toInt64) - ti.toInt64) ((t2.toInt64 <<< ((32 : Int32) &&& 0x3f).toInt64) - to.toInt64)) := by
  have k1 := own_key t1 ti h1; have k2 := own_key t2 to h2
  have a := rng32 ti; have b := rng32 to
  have hp' : 0 ≤ to.toInt := by rw [Int32.lt_iff_toInt_lt] at hp; have : (0 : Int32).toInt = 0 := rfl; omega
  have e1 := c_i2l t1; have e2 := c_i2l t2
  unfold own_hv
  rw [if_neg hp]
  by_cases g1 : (0 : Int32) < lcmpW t1.toInt64 t2.toInt64
  · rw [if_pos g1]; refine (bi_t ?_).symm
    rw [lw_gt, Int64.lt_iff_toInt_lt] at g1 ⊢; omega
  · rw [if_neg g1]
    by_cases g2 : lcmpW t1.toInt64 t2.toInt64 = 0
    · rw [if_pos g2]
      rw [lw_eq, ← Int64.toInt_inj] at g2
      by_cases g3 : ti < to
      · rw [if_pos g3]; refine (bi_t ?_).symm
        rw [Int32.lt_iff_toInt_lt] at g3; rw [lw_gt, Int64.lt_iff_toInt_lt]; omega
      · rw [if_neg g3]; refine (bi_f ?_).symm
        rw [Int32.lt_iff_toInt_lt] at g3; rw [lw_gt, Int64.lt_iff_toInt_lt]; omega
    · rw [if_neg g2]; refine (bi_f ?_).symm
      rw [lw_eq, ← Int64.toInt_inj] at g2; rw [lw_gt, Int64.lt_iff_toInt_lt] at g1 ⊢; omega
theorem own_shr (x : Int32) : -1073741824 ≤ (x >>> ((1 : Int32) &&& 31)).toInt ∧ (x >>> ((1 : Int32) &&& 31)).toInt < 1073741824 := by
  have h := c_ishr x 1 1 (by decide); have := rng32 x; have h8 : ((2 ^ 1 : Nat) : Int) = 2 := rfl; rw [h8] at h; omega
theorem own_i_rng {P : Prop} [Decidable P] {a b : Int32} {Q : Int32 → Prop} (ha : Q a) (hb : Q b) : Q (own_i P a b) := by unfold own_i; split <;> assumption
def QR (Z : State) (a : Addr) (h0 : Heap) (n0 : Nat) (v : Option Value) (h : Heap) (L : List Loc) : Prop := v = none ∧ Fr n0 L ∧ h = h0
theorem ef_R (m : MethodId) (x0 : Addr) : entryFrame m #[(.ref x0)] 1 = mkF m 0 #[.val (.ref x0)] [] := by first | (simp [entryFrame, mkF, argsToLocals, Value.category]; done) | rfl
theorem pn_Record : plainName "java/lang/Record" = true := by first | (simp [plainName, overriddenIn]; done) | decide +kernel
theorem d_jdk_30_method_1_0 : decode jdk_30_method_1_code 0 = .ok (.aload_n 0, 1) := by decide +kernel
theorem d_jdk_30_method_1_1 : decode jdk_30_method_1_code 1 = .ok (.invokespecial 1, 3) := by decide +kernel
theorem d_jdk_30_method_1_4 : decode jdk_30_method_1_code 4 = .ok (.return_, 1) := by decide +kernel
set_option maxRecDepth 65536 in
set_option maxHeartbeats 40000000 in
theorem rmR (l : Launch) (Z : State) (a0 : Array Value) (hw : ∀ d ∈ tables_1, d.before a0 Z = true) (ws : List Jvm.Cond) (a : Addr) (h0 : Heap) (n0 : Nat) (Z0 : n0 ≤ h0.size) :
    MetFree l (⟨"java/lang/Record", "<init>", "()V"⟩ : MethodName) (head1 (Jvm.Cond.code (⟨"java/lang/Record", "<init>", "()V"⟩ : MethodName) jdk_30_method_1_code 1 none :: ws) ({ frames := 1, cells := 0, slots := 0, locals := 12 } : Room)) (fun a' U => a' = #[(.ref a)] ∧ Z.Warmed39 U.vm ∧ U.heap = h0) (fun _ _ _ _ _ => True) (fun _ U o U' => ∃ v L, o = .returned v ∧ QR Z a h0 n0 v U'.heap L ∧ FrameEnd U o U' L ({ frames := 1, cells := 0, slots := 0, locals := 12 } : Room).cells ({ frames := 1, cells := 0, slots := 0, locals := 12 } : Room).slots) := by
  refine MetFree.of_bodySF (plainFor_of_name pn_Record) hisR ?_
  intro p e s m args below meth c s₁ Bd hml0 hP hK
  obtain ⟨rfl, hZ, hh⟩ := hP
  have hx := Bd.exec
  have hby := Bd.bytes
  have hml : c.maxLocals = 1 := hml0
  have hown : s.vm.findClass "java/lang/Record" = some m.cls := findClass_of_methodNamed Bd.named
  have hnm := (name_of_methodNamed Bd.named Bd.method).1
  have X0 : Stand p l e ({ frames := 1, cells := 0, slots := 0, locals := 12 } : Room) s m #[(.ref a)] below meth c s₁ [] 0 0 := Stand.of_body Bd
  have e0 : s₁.heap = h0 := by rw [← hh, Bd.state]; rfl
  have N0 := Fr.nil n0
  have Zn := Z0
  have pre0 : ∀ t, Steps p.tables e below (s₁.setTop (mkF m 0 #[.val (.ref a)] [])) t → Steps p.tables e below (s₁.setTop (entryFrame m #[(.ref a)] 1)) t := fun t q => castTop (ef_R m a) q
  have k0 : ∀ t, Steps p.tables e below (s₁.setTop (mkF m 0 #[.val (.ref a)] [])) t → Steps p.tables e below (s₁.setTop (mkF m 0 #[.val (.ref a)] [])) t := fun t q => q
  have k1_ : ∀ t, Steps p.tables e below (s₁.setTop (mkF m 1 #[.val (.ref a)] [(.ref a)])) t → Steps p.tables e below (s₁.setTop (mkF m 0 #[.val (.ref a)] [])) t := by
    intro t q
    refine k0 _ ?_
    show Steps p.tables e below (s₁.setTop (mkF m 0 #[.val (.ref a)] [])) _
    refine XS.aloadN X0.here hx rfl (hb hby d_jdk_30_method_1_0) rfl rfl ?_
    show Steps p.tables e below (s₁.setTop (mkF m 1 #[.val (.ref a)] [(.ref a)])) _
    exact q
  obtain ⟨T2, X2, e2, st2⟩ := initO X0 hx hZ hown (hw _ (List.mem_of_getElem? (i := 11) rfl)) (hw _ (List.mem_of_getElem? (i := 12) rfl)) (hw _ (List.mem_of_getElem? (i := 13) rfl)) e0 (g := (mkF m 1 #[.val (.ref a)] [(.ref a)])) rfl (by rw [hml]; rfl) rfl (hb hby d_jdk_30_method_1_1) (by decide) (W := 0) (by show 2 * 0 + _ ≤ _; exact Nat.le_of_eq rfl) (by decide)
  have k3_ : ∀ t, Steps p.tables e below (T2.setTop (mkF m 4 #[.val (.ref a)] [])) t → Steps p.tables e below (s₁.setTop (mkF m 0 #[.val (.ref a)] [])) t := fun t q => k1_ t (st2 t q)
  obtain ⟨fs, hr, hrun, hended, hW, hsame⟩ := X2.leave (v := none) (fun _ => rfl)
  refine ⟨_, _, pre0 _ (k3_ _ ?_), hrun, hended, _, _, rfl, ?_, ⟨_, rfl⟩, hW, hsame.mono (by decide) (by decide)⟩
  · show Steps p.tables e below (T2.setTop (mkF m 4 #[.val (.ref a)] [])) _
    exact X2.returnOut hx Bd.returns (hb hby d_jdk_30_method_1_4) hr
  · show QR Z a h0 n0 _ T2.heap _
    rw [e2]
    exact ⟨rfl, N0, rfl⟩
def QI (Z : State) (a : Addr) (tk : Int32) (tr : UInt64) (h0 : Heap) (n0 : Nat) (v : Option Value) (h : Heap) (L : List Loc) : Prop := v = none ∧ Fr n0 L ∧ Keep h0 h [a] ∧ Exa Z h a "com/example/weir/weir/strategy/PlacedJoins$Neighbour" ∧ Fld Z h a "com/example/weir/weir/strategy/PlacedJoins$Neighbour" "task" "I" (.int tk) ∧ Fld Z h a "com/example/weir/weir/strategy/PlacedJoins$Neighbour" "traffic" "D" (.double tr)
theorem ef_I (m : MethodId) (x0 : Addr) (x1 : Int32) (x2 : UInt64) : entryFrame m #[(.ref x0), (.int x1), (.double x2)] 4 = mkF m 0 #[.val (.ref x0), .val (.int x1), .val (.double x2), .second] [] := by first | (simp [entryFrame, mkF, argsToLocals, Value.category]; done) | rfl
theorem pn_PlacedJoins_Neighbour : plainName "com/example/weir/weir/strategy/PlacedJoins$Neighbour" = true := by first | (simp [plainName, overriddenIn]; done) | decide +kernel
theorem d_prog_214_method_1_0 : decode prog_214_method_1_code 0 = .ok (.aload_n 0, 1) := by decide +kernel
theorem pd_48334 : parseMethodDescriptor "()V" = some ⟨[], none⟩ := by decide +kernel
theorem d_prog_214_method_1_1 : decode prog_214_method_1_code 1 = .ok (.invokespecial 1, 3) := by decide +kernel
theorem d_prog_214_method_1_4 : decode prog_214_method_1_code 4 = .ok (.aload_n 0, 1) := by decide +kernel
theorem d_prog_214_method_1_5 : decode prog_214_method_1_code 5 = .ok (.iload_n 1, 1) := by decide +kernel
theorem d_prog_214_method_1_6 : decode prog_214_method_1_code 6 = .ok (.putfield 7, 3) := by decide +kernel
theorem d_prog_214_method_1_9 : decode prog_214_method_1_code 9 = .ok (.aload_n 0, 1) := by decide +kernel
theorem d_prog_214_method_1_10 : decode prog_214_method_1_code 10 = .ok (.dload_n 2, 1) := by decide +kernel
theorem d_prog_214_method_1_11 : decode prog_214_method_1_code 11 = .ok (.putfield 13, 3) := by decide +kernel
theorem d_prog_214_method_1_14 : decode prog_214_method_1_code 14 = .ok (.return_, 1) := by decide +kernel
set_option maxRecDepth 65536 in
set_option maxHeartbeats 40000000 in
theorem rmI (l : Launch) (Z : State) (a0 : Array Value) (hw : ∀ d ∈ tables_1, d.before a0 Z = true) (ws : List Jvm.Cond) (a : Addr) (tk : Int32) (tr : UInt64) (h0 : Heap) (n0 : Nat) (Z0 : n0 ≤ h0.size) (EA : Exa Z h0 a "com/example/weir/weir/strategy/PlacedJoins$Neighbour") (F1 : Fld Z h0 a "com/example/weir/weir/strategy/PlacedJoins$Neighbour" "task" "I" (.int (0 : Int32))) (F2 : Fld Z h0 a "com/example/weir/weir/strategy/PlacedJoins$Neighbour" "traffic" "D" (.double 0)) (ga : n0 ≤ a) :
    MetFree l (⟨"com/example/weir/weir/strategy/PlacedJoins$Neighbour", "<init>", "(ID)V"⟩ : MethodName) (head1 (Jvm.Cond.code (⟨"com/example/weir/weir/strategy/PlacedJoins$Neighbour", "<init>", "(ID)V"⟩ : MethodName) prog_214_method_1_code 4 none :: ws) ({ frames := 2, cells := 0, slots := 0, locals := 24 } : Room)) (fun a' U => a' = #[(.ref a), (.int tk), (.double tr)] ∧ Z.Warmed39 U.vm ∧ U.heap = h0) (fun _ _ _ _ _ => True) (fun _ U o U' => ∃ v L, o = .returned v ∧ QI Z a tk tr h0 n0 v U'.heap L ∧ FrameEnd U o U' L ({ frames := 2, cells := 0, slots := 0, locals := 24 } : Room).cells ({ frames := 2, cells := 0, slots := 0, locals := 24 } : Room).slots) := by
  refine MetFree.of_bodySF (plainFor_of_name pn_PlacedJoins_Neighbour) hisR ?_
  intro p e s m args below meth c s₁ Bd hml0 hP hK
  obtain ⟨rfl, hZ, hh⟩ := hP
  have hx := Bd.exec
  have hby := Bd.bytes
  have hml : c.maxLocals = 4 := hml0
  have hown : s.vm.findClass "com/example/weir/weir/strategy/PlacedJoins$Neighbour" = some m.cls := findClass_of_methodNamed Bd.named
  have hnm := (name_of_methodNamed Bd.named Bd.method).1
  have X0 : Stand p l e ({ frames := 2, cells := 0, slots := 0, locals := 24 } : Room) s m #[(.ref a), (.int tk), (.double tr)] below meth c s₁ [] 0 0 := Stand.of_body Bd
  have e0 : s₁.heap = h0 := by rw [← hh, Bd.state]; rfl
  have N0 := Fr.nil n0
  have Zn := Z0
  have pre0 : ∀ t, Steps p.tables e below (s₁.setTop (mkF m 0 #[.val (.ref a), .val (.int tk), .val (.double tr), .second] [])) t → Steps p.tables e below (s₁.setTop (entryFrame m #[(.ref a), (.int tk), (.double tr)] 4)) t := fun t q => castTop (ef_I m a tk tr) q
  have k0 : ∀ t, Steps p.tables e below (s₁.setTop (mkF m 0 #[.val (.ref a), .val (.int tk), .val (.double tr), .second] [])) t → Steps p.tables e below (s₁.setTop (mkF m 0 #[.val (.ref a), .val (.int tk), .val (.double tr), .second] [])) t := fun t q => q
  have k1_ : ∀ t, Steps p.tables e below (s₁.setTop (mkF m 1 #[.val (.ref a), .val (.int tk), .val (.double tr), .second] [(.ref a)])) t → Steps p.tables e below (s₁.setTop (mkF m 0 #[.val (.ref a), .val (.int tk), .val (.double tr), .second] [])) t := by
    intro t q
    refine k0 _ ?_
    show Steps p.tables e below (s₁.setTop (mkF m 0 #[.val (.ref a), .val (.int tk), .val (.double tr), .second] [])) _
    refine XS.aloadN X0.here hx rfl (hb hby d_prog_214_method_1_0) rfl rfl ?_
    show Steps p.tables e below (s₁.setTop (mkF m 1 #[.val (.ref a), .val (.int tk), .val (.double tr), .second] [(.ref a)])) _
    exact q
  obtain ⟨_, _, ⟨T2, L2, kk2, n2⟩, -, X2, ⟨Lc2, hQ2, l2, y2, z2⟩, st2⟩ := X0.specialBack hx (y := (⟨"java/lang/Record", "<init>", "()V"⟩ : MethodName)) rfl hown (mvT hZ (hw _ (List.mem_of_getElem? (i := 6) rfl))) (mvT hZ (hw _ (List.mem_of_getElem? (i := 7) rfl))) (mvT hZ (hw _ (List.mem_of_getElem? (i := 10) rfl))) (by decide) (backOf (W := 0) (rmR l Z a0 hw [] a h0 n0 Zn) hZ (hw _ (List.mem_of_getElem? (i := 10) rfl)) (hw _ (List.mem_of_getElem? (i := 9) rfl)) (by decide) (by decide)) (g := (mkF m 1 #[.val (.ref a), .val (.int tk), .val (.double tr), .second] [(.ref a)])) rfl (by rw [hml]; rfl) (Steps.refl _) (a := a) (argsL := []) (rest := []) (lenOf pd_48334 rfl) rfl (by show 2 * 0 + _ ≤ _; exact Nat.le_of_eq rfl) (hb hby d_prog_214_method_1_1) (fun _ _ => ⟨rfl, e0, (by decide : 0 + 0 ≤ _), (by decide : 0 + 0 ≤ _)⟩)
  dsimp only [Pt.U, Pt.locs, Pt.cells, Pt.slots] at X2 l2 y2 z2 st2 hQ2
  subst l2 y2 z2
  obtain ⟨rfl, Nq2, hq2⟩ := hQ2
  have N2 := Fr.app N0 Nq2
  have k3_ : ∀ t, Steps p.tables e below (T2.setTop (mkF m 4 #[.val (.ref a), .val (.int tk), .val (.double tr), .second] [])) t → Steps p.tables e below (s₁.setTop (mkF m 0 #[.val (.ref a), .val (.int tk), .val (.double tr), .second] [])) t := fun t q => k1_ t (st2.trans q)
  have KP := Keep.refl h0 [a]
  have k4_ : ∀ t, Steps p.tables e below (T2.setTop (mkF m 6 #[.val (.ref a), .val (.int tk), .val (.double tr), .second] [(.int tk), (.ref a)])) t → Steps p.tables e below (s₁.setTop (mkF m 0 #[.val (.ref a), .val (.int tk), .val (.double tr), .second] [])) t := by
    intro t q
    refine k3_ _ ?_
    show Steps p.tables e below (T2.setTop (mkF m 4 #[.val (.ref a), .val (.int tk), .val (.double tr), .second] [])) _
    refine XS.aloadN X2.here hx rfl (hb hby d_prog_214_method_1_4) rfl rfl ?_
    show Steps p.tables e below (T2.setTop (mkF m 5 #[.val (.ref a), .val (.int tk), .val (.double tr), .second] [(.ref a)])) _
    refine XS.iloadN X2.here hx rfl (hb hby d_prog_214_method_1_5) rfl ?_
    show Steps p.tables e below (T2.setTop (mkF m 6 #[.val (.ref a), .val (.int tk), .val (.double tr), .second] [(.int tk), (.ref a)])) _
    exact q
  obtain ⟨T5, h5, X5, e5, W5, st5⟩ := putF X2 hx hZ hown (host := "") (Or.inl (hw _ (List.mem_of_getElem? (i := 14) rfl))) Via.refl hq2 F1 EA (Or.inr ⟨(hw _ (List.mem_of_getElem? (i := 15) rfl)), rfl, hnm⟩) (hw _ (List.mem_of_getElem? (i := 1) rfl)) (ty := .int) (by decide) rfl rfl (g := (mkF m 6 #[.val (.ref a), .val (.int tk), .val (.double tr), .second] [(.int tk), (.ref a)])) rfl rfl (hb hby d_prog_214_method_1_6)
  have k6_ : ∀ t, Steps p.tables e below (T5.setTop (mkF m 9 #[.val (.ref a), .val (.int tk), .val (.double tr), .second] [])) t → Steps p.tables e below (s₁.setTop (mkF m 0 #[.val (.ref a), .val (.int tk), .val (.double tr), .second] [])) t := fun t q => k4_ t (st5 t q)
  have N5 := Fr.snoc X5 N2 ga
  replace Zn := Nat.le_trans Zn (Keep.of_wr W5).1
  replace EA := EA.wr W5
  replace F2 := F2.other W5 (Or.inr (slot_ne (Or.inr (hw _ (List.mem_of_getElem? (i := 17) rfl))) (Or.inr (hw _ (List.mem_of_getElem? (i := 15) rfl))) (by decide) (t := .double) (t' := .int) (by decide) (by decide)))
  replace F1 := F1.same W5
  replace KP := KP.wr W5 (Or.inl (List.mem_of_getElem? (i := 0) rfl))
  have k7_ : ∀ t, Steps p.tables e below (T5.setTop (mkF m 11 #[.val (.ref a), .val (.int tk), .val (.double tr), .second] [(.double tr), (.ref a)])) t → Steps p.tables e below (s₁.setTop (mkF m 0 #[.val (.ref a), .val (.int tk), .val (.double tr), .second] [])) t := by
    intro t q
    refine k6_ _ ?_
    show Steps p.tables e below (T5.setTop (mkF m 9 #[.val (.ref a), .val (.int tk), .val (.double tr), .second] [])) _
    refine XS.aloadN X5.here hx rfl (hb hby d_prog_214_method_1_9) rfl rfl ?_
    show Steps p.tables e below (T5.setTop (mkF m 10 #[.val (.ref a), .val (.int tk), .val (.double tr), .second] [(.ref a)])) _
    refine XS.dloadN X5.here hx rfl (hb hby d_prog_214_method_1_10) rfl ?_
    show Steps p.tables e below (T5.setTop (mkF m 11 #[.val (.ref a), .val (.int tk), .val (.double tr), .second] [(.double tr), (.ref a)])) _
    exact q
  obtain ⟨T8, h8, X8, e8, W8, st8⟩ := putF X5 hx hZ hown (host := "") (Or.inl (hw _ (List.mem_of_getElem? (i := 16) rfl))) Via.refl e5 F2 EA (Or.inr ⟨(hw _ (List.mem_of_getElem? (i := 17) rfl)), rfl, hnm⟩) (hw _ (List.mem_of_getElem? (i := 1) rfl)) (ty := .double) (by decide) rfl rfl (g := (mkF m 11 #[.val (.ref a), .val (.int tk), .val (.double tr), .second] [(.double tr), (.ref a)])) rfl rfl (hb hby d_prog_214_method_1_11)
  have k9_ : ∀ t, Steps p.tables e below (T8.setTop (mkF m 14 #[.val (.ref a), .val (.int tk), .val (.double tr), .second] [])) t → Steps p.tables e below (s₁.setTop (mkF m 0 #[.val (.ref a), .val (.int tk), .val (.double tr), .second] [])) t := fun t q => k7_ t (st8 t q)
  have N8 := Fr.snoc X8 N5 ga
  replace Zn := Nat.le_trans Zn (Keep.of_wr W8).1
  replace EA := EA.wr W8
  replace F1 := F1.other W8 (Or.inr (slot_ne (Or.inr (hw _ (List.mem_of_getElem? (i := 15) rfl))) (Or.inr (hw _ (List.mem_of_getElem? (i := 17) rfl))) (by decide) (t := .int) (t' := .double) (by decide) (by decide)))
  replace F2 := F2.same W8
  replace KP := KP.wr W8 (Or.inl (List.mem_of_getElem? (i := 0) rfl))
  obtain ⟨fs, hr, hrun, hended, hW, hsame⟩ := X8.leave (v := none) (fun _ => rfl)
  refine ⟨_, _, pre0 _ (k9_ _ ?_), hrun, hended, _, _, rfl, ?_, ⟨_, rfl⟩, hW, hsame.mono (by decide) (by decide)⟩
  · show Steps p.tables e below (T8.setTop (mkF m 14 #[.val (.ref a), .val (.int tk), .val (.double tr), .second] [])) _
    exact X8.returnOut hx Bd.returns (hb hby d_prog_214_method_1_14) hr
  · show QI Z a tk tr h0 n0 _ T8.heap _
    rw [e8]
    exact ⟨rfl, N8, KP, EA, F1, F2⟩
def QH (Z : State) (a : Addr) (b : Addr) (ti : Int32) (to : Int32) (u : Int64) (w : Int64) (h0 : Heap) (n0 : Nat) (v : Option Value) (h : Heap) (L : List Loc) : Prop := v = some (.int (own_hv ti to u w)) ∧ Fr n0 L ∧ h = h0
theorem ef_H (m : MethodId) (x0 : Addr) (x1 : Addr) : entryFrame m #[(.ref x0), (.ref x1)] 2 = mkF m 0 #[.val (.ref x0), .val (.ref x1)] [] := by first | (simp [entryFrame, mkF, argsToLocals, Value.category]; done) | rfl
theorem d_prog_214_method_2_0 : decode prog_214_method_2_code 0 = .ok (.aload_n 1, 1) := by decide +kernel
theorem d_prog_214_method_2_1 : decode prog_214_method_2_code 1 = .ok (.getfield 7, 3) := by decide +kernel
theorem d_prog_214_method_2_4 : decode prog_214_method_2_code 4 = .ok (.ifCond .lt 38, 3) := by decide +kernel
theorem d_prog_214_method_2_42 : decode prog_214_method_2_code 42 = .ok (.iconst 1, 1) := by decide +kernel
theorem d_prog_214_method_2_43 : decode prog_214_method_2_code 43 = .ok (.goto 4, 3) := by decide +kernel
theorem d_prog_214_method_2_47 : decode prog_214_method_2_code 47 = .ok (.ireturn, 1) := by decide +kernel
theorem d_prog_214_method_2_7 : decode prog_214_method_2_code 7 = .ok (.aload_n 0, 1) := by decide +kernel
theorem d_prog_214_method_2_8 : decode prog_214_method_2_code 8 = .ok (.getfield 13, 3) := by decide +kernel
theorem d_prog_214_method_2_11 : decode prog_214_method_2_code 11 = .ok (.aload_n 1, 1) := by decide +kernel
theorem d_prog_214_method_2_12 : decode prog_214_method_2_code 12 = .ok (.getfield 13, 3) := by decide +kernel
theorem d_prog_214_method_2_15 : decode prog_214_method_2_code 15 = .ok (.dcmp .l, 1) := by decide +kernel
theorem d_prog_214_method_2_16 : decode prog_214_method_2_code 16 = .ok (.ifCond .gt 26, 3) := by decide +kernel
theorem d_prog_214_method_2_19 : decode prog_214_method_2_code 19 = .ok (.aload_n 0, 1) := by decide +kernel
theorem d_prog_214_method_2_20 : decode prog_214_method_2_code 20 = .ok (.getfield 13, 3) := by decide +kernel
theorem d_prog_214_method_2_23 : decode prog_214_method_2_code 23 = .ok (.aload_n 1, 1) := by decide +kernel
theorem d_prog_214_method_2_24 : decode prog_214_method_2_code 24 = .ok (.getfield 13, 3) := by decide +kernel
theorem d_prog_214_method_2_27 : decode prog_214_method_2_code 27 = .ok (.dcmp .l, 1) := by decide +kernel
theorem d_prog_214_method_2_28 : decode prog_214_method_2_code 28 = .ok (.ifCond .ne 18, 3) := by decide +kernel
theorem d_prog_214_method_2_31 : decode prog_214_method_2_code 31 = .ok (.aload_n 0, 1) := by decide +kernel
theorem d_prog_214_method_2_32 : decode prog_214_method_2_code 32 = .ok (.getfield 7, 3) := by decide +kernel
theorem d_prog_214_method_2_35 : decode prog_214_method_2_code 35 = .ok (.aload_n 1, 1) := by decide +kernel
theorem d_prog_214_method_2_36 : decode prog_214_method_2_code 36 = .ok (.getfield 7, 3) := by decide +kernel
theorem d_prog_214_method_2_39 : decode prog_214_method_2_code 39 = .ok (.if_icmp .ge 7, 3) := by decide +kernel
theorem d_prog_214_method_2_46 : decode prog_214_method_2_code 46 = .ok (.iconst 0, 1) := by decide +kernel
set_option maxRecDepth 65536 in
set_option maxHeartbeats 40000000 in
theorem rmH (l : Launch) (Z : State) (a0 : Array Value) (hw : ∀ d ∈ tables_1, d.before a0 Z = true) (ws : List Jvm.Cond) (a : Addr) (b : Addr) (ti : Int32) (to : Int32) (u : Int64) (w : Int64) (h0 : Heap) (n0 : Nat) (Z0 : n0 ≤ h0.size) (A1 : Fld Z h0 a "com/example/weir/weir/strategy/PlacedJoins$Neighbour" "task" "I" (.int ti)) (A2 : Fld Z h0 a "com/example/weir/weir/strategy/PlacedJoins$Neighbour" "traffic" "D" (.double (FP.l2d u))) (B1 : Fld Z h0 b "com/example/weir/weir/strategy/PlacedJoins$Neighbour" "task" "I" (.int to)) (B2 : Fld Z h0 b "com/example/weir/weir/strategy/PlacedJoins$Neighbour" "traffic" "D" (.double (FP.l2d w))) (hu : B53 u) (hw' : B53 w) :
    MetFree l (⟨"com/example/weir/weir/strategy/PlacedJoins$Neighbour", "heavierThan", "(Lcom/example/weir/weir/strategy/PlacedJoins$Neighbour;)Z"⟩ : MethodName) (head1 (Jvm.Cond.code (⟨"com/example/weir/weir/strategy/PlacedJoins$Neighbour", "heavierThan", "(Lcom/example/weir/weir/strategy/PlacedJoins$Neighbour;)Z"⟩ : MethodName) prog_214_method_2_code 2 (some .boolean) :: ws) ({ frames := 0, cells := 0, slots := 0, locals := 0 } : Room)) (fun a' U => a' = #[(.ref a), (.ref b)] ∧ Z.Warmed39 U.vm ∧ U.heap = h0) (fun _ _ _ _ _ => True) (fun _ U o U' => ∃ v L, o = .returned v ∧ QH Z a b ti to u w h0 n0 v U'.heap L ∧ FrameEnd U o U' L ({ frames := 0, cells := 0, slots := 0, locals := 0 } : Room).cells ({ frames := 0, cells := 0, slots := 0, locals := 0 } : Room).slots) := by
  refine MetFree.of_bodySF (plainFor_of_name pn_PlacedJoins_Neighbour) hisR ?_
  intro p e s m args below meth c s₁ Bd hml0 hP hK
  obtain ⟨rfl, hZ, hh⟩ := hP
  have hx := Bd.exec
  have hby := Bd.bytes
  have hml : c.maxLocals = 2 := hml0
  have hown : s.vm.findClass "com/example/weir/weir/strategy/PlacedJoins$Neighbour" = some m.cls := findClass_of_methodNamed Bd.named
  have hnm := (name_of_methodNamed Bd.named Bd.method).1
  have X0 : Stand p l e ({ frames := 0, cells := 0, slots := 0, locals := 0 } : Room) s m #[(.ref a), (.ref b)] below meth c s₁ [] 0 0 := Stand.of_body Bd
  have e0 : s₁.heap = h0 := by rw [← hh, Bd.state]; rfl
  have N0 := Fr.nil n0
  have Zn := Z0
  have pre0 : ∀ t, Steps p.tables e below (s₁.setTop (mkF m 0 #[.val (.ref a), .val (.ref b)] [])) t → Steps p.tables e below (s₁.setTop (entryFrame m #[(.ref a), (.ref b)] 2)) t := fun t q => castTop (ef_H m a b) q
  have k0 : ∀ t, Steps p.tables e below (s₁.setTop (mkF m 0 #[.val (.ref a), .val (.ref b)] [])) t → Steps p.tables e below (s₁.setTop (mkF m 0 #[.val (.ref a), .val (.ref b)] [])) t := fun t q => q
  have k1_ : ∀ t, Steps p.tables e below (s₁.setTop (mkF m 1 #[.val (.ref a), .val (.ref b)] [(.ref b)])) t → Steps p.tables e below (s₁.setTop (mkF m 0 #[.val (.ref a), .val (.ref b)] [])) t := by
    intro t q
    refine k0 _ ?_
    show Steps p.tables e below (s₁.setTop (mkF m 0 #[.val (.ref a), .val (.ref b)] [])) _
    refine XS.aloadN X0.here hx rfl (hb hby d_prog_214_method_2_0) rfl rfl ?_
    show Steps p.tables e below (s₁.setTop (mkF m 1 #[.val (.ref a), .val (.ref b)] [(.ref b)])) _
    exact q
  obtain ⟨T2, X2, e2, st2⟩ := getF X0 hx hZ hown (host := "") (Or.inl (hw _ (List.mem_of_getElem? (i := 14) rfl))) Via.refl e0 B1 (g := (mkF m 1 #[.val (.ref a), .val (.ref b)] [(.ref b)])) rfl rfl (hb hby d_prog_214_method_2_1)
  have k3_ : ∀ t, Steps p.tables e below (T2.setTop (mkF m 4 #[.val (.ref a), .val (.ref b)] [(.int to)])) t → Steps p.tables e below (s₁.setTop (mkF m 0 #[.val (.ref a), .val (.ref b)] [])) t := fun t q => k1_ t (st2 t q)
  by_cases c1 : to < (0 : Int32)
  · have k4_ : ∀ t, Steps p.tables e below (T2.setTop (mkF m 42 #[.val (.ref a), .val (.ref b)] [])) t → Steps p.tables e below (s₁.setTop (mkF m 0 #[.val (.ref a), .val (.ref b)] [])) t := by
      intro t q
      refine k3_ _ ?_
      show Steps p.tables e below (T2.setTop (mkF m 4 #[.val (.ref a), .val (.ref b)] [(.int to)])) _
      refine XS.ifYes X2.here hx rfl (pc0 := 4) (pc' := 42) rfl (hb hby d_prog_214_method_2_4) rfl ((if0 _ _).trans (tlt c1).1) (by decide) (by decide) ?_
      show Steps p.tables e below (T2.setTop (mkF m 42 #[.val (.ref a), .val (.ref b)] [])) _
      exact q
    have k5_ : ∀ t, Steps p.tables e below (T2.setTop (mkF m 47 #[.val (.ref a), .val (.ref b)] [(.int (1 : Int32))])) t → Steps p.tables e below (s₁.setTop (mkF m 0 #[.val (.ref a), .val (.ref b)] [])) t := by
      intro t q
      refine k4_ _ ?_
      show Steps p.tables e below (T2.setTop (mkF m 42 #[.val (.ref a), .val (.ref b)] [])) _
      refine XS.iconst X2.here hx rfl (hb hby d_prog_214_method_2_42) ?_
      show Steps p.tables e below (T2.setTop (mkF m 43 #[.val (.ref a), .val (.ref b)] [(.int (1 : Int32))])) _
      refine XS.goto X2.here hx rfl (pc0 := 43) (pc' := 47) rfl (hb hby d_prog_214_method_2_43) (by decide) (by decide) ?_
      show Steps p.tables e below (T2.setTop (mkF m 47 #[.val (.ref a), .val (.ref b)] [(.int (1 : Int32))])) _
      exact q
    obtain ⟨fs, hr, hrun, hended, hW, hsame⟩ := X2.leave (v := some (.int (1 : Int32))) (fun h => by rw [Bd.returns] at h; cases h)
    refine ⟨_, _, pre0 _ (k5_ _ ?_), hrun, hended, _, _, rfl, ?_, ⟨_, rfl⟩, hW, hsame.mono (by decide) (by decide)⟩
    · show Steps p.tables e below (T2.setTop (mkF m 47 #[.val (.ref a), .val (.ref b)] [(.int (1 : Int32))])) _
      exact retN X2 hx (t := .boolean) Bd.returns (by simp) (hb hby d_prog_214_method_2_47) hr
    · show QH Z a b ti to u w h0 n0 _ T2.heap _
      rw [e2]
      exact ⟨by unfold own_hv; rw [if_pos c1], N0, rfl⟩
  · have k6_ : ∀ t, Steps p.tables e below (T2.setTop (mkF m 7 #[.val (.ref a), .val (.ref b)] [])) t → Steps p.tables e below (s₁.setTop (mkF m 0 #[.val (.ref a), .val (.ref b)] [])) t := by
      intro t q
      refine k3_ _ ?_
      show Steps p.tables e below (T2.setTop (mkF m 4 #[.val (.ref a), .val (.ref b)] [(.int to)])) _
      refine XS.ifNo X2.here hx rfl (hb hby d_prog_214_method_2_4) rfl ((if0 _ _).trans (flt c1).1) ?_
      show Steps p.tables e below (T2.setTop (mkF m 7 #[.val (.ref a), .val (.ref b)] [])) _
      exact q
    have k7_ : ∀ t, Steps p.tables e below (T2.setTop (mkF m 8 #[.val (.ref a), .val (.ref b)] [(.ref a)])) t → Steps p.tables e below (s₁.setTop (mkF m 0 #[.val (.ref a), .val (.ref b)] [])) t := by
      intro t q
      refine k6_ _ ?_
      show Steps p.tables e below (T2.setTop (mkF m 7 #[.val (.ref a), .val (.ref b)] [])) _
      refine XS.aloadN X2.here hx rfl (hb hby d_prog_214_method_2_7) rfl rfl ?_
      show Steps p.tables e below (T2.setTop (mkF m 8 #[.val (.ref a), .val (.ref b)] [(.ref a)])) _
      exact q
    obtain ⟨T8, X8, e8, st8⟩ := getF X2 hx hZ hown (host := "") (Or.inl (hw _ (List.mem_of_getElem? (i := 16) rfl))) Via.refl e2 A2 (g := (mkF m 8 #[.val (.ref a), .val (.ref b)] [(.ref a)])) rfl rfl (hb hby d_prog_214_method_2_8)
    have k9_ : ∀ t, Steps p.tables e below (T8.setTop (mkF m 11 #[.val (.ref a), .val (.ref b)] [(.double (FP.l2d u))])) t → Steps p.tables e below (s₁.setTop (mkF m 0 #[.val (.ref a), .val (.ref b)] [])) t := fun t q => k7_ t (st8 t q)
    have k10_ : ∀ t, Steps p.tables e below (T8.setTop (mkF m 12 #[.val (.ref a), .val (.ref b)] [(.ref b), (.double (FP.l2d u))])) t → Steps p.tables e below (s₁.setTop (mkF m 0 #[.val (.ref a), .val (.ref b)] [])) t := by
      intro t q
      refine k9_ _ ?_
      show Steps p.tables e below (T8.setTop (mkF m 11 #[.val (.ref a), .val (.ref b)] [(.double (FP.l2d u))])) _
      refine XS.aloadN X8.here hx rfl (hb hby d_prog_214_method_2_11) rfl rfl ?_
      show Steps p.tables e below (T8.setTop (mkF m 12 #[.val (.ref a), .val (.ref b)] [(.ref b), (.double (FP.l2d u))])) _
      exact q
    obtain ⟨T11, X11, e11, st11⟩ := getF X8 hx hZ hown (host := "") (Or.inl (hw _ (List.mem_of_getElem? (i := 16) rfl))) Via.refl e8 B2 (g := (mkF m 12 #[.val (.ref a), .val (.ref b)] [(.ref b), (.double (FP.l2d u))])) rfl rfl (hb hby d_prog_214_method_2_12)
    have k12_ : ∀ t, Steps p.tables e below (T11.setTop (mkF m 15 #[.val (.ref a), .val (.ref b)] [(.double (FP.l2d w)), (.double (FP.l2d u))])) t → Steps p.tables e below (s₁.setTop (mkF m 0 #[.val (.ref a), .val (.ref b)] [])) t := fun t q => k10_ t (st11 t q)
    have k13_ : ∀ t, Steps p.tables e below (T11.setTop (mkF m 16 #[.val (.ref a), .val (.ref b)] [(.int (lcmpW u w))])) t → Steps p.tables e below (s₁.setTop (mkF m 0 #[.val (.ref a), .val (.ref b)] [])) t := by
      intro t q
      refine k12_ _ ?_
      show Steps p.tables e below (T11.setTop (mkF m 15 #[.val (.ref a), .val (.ref b)] [(.double (FP.l2d w)), (.double (FP.l2d u))])) _
      refine XS.dcmpS X11.here hx rfl (hb hby d_prog_214_method_2_15) rfl (v := lcmpW u w) (dcmpV_w hu hw' _) ?_
      show Steps p.tables e below (T11.setTop (mkF m 16 #[.val (.ref a), .val (.ref b)] [(.int (lcmpW u w))])) _
      exact q
    by_cases c2 : (0 : Int32) < (lcmpW u w)
    · have k14_ : ∀ t, Steps p.tables e below (T11.setTop (mkF m 42 #[.val (.ref a), .val (.ref b)] [])) t → Steps p.tables e below (s₁.setTop (mkF m 0 #[.val (.ref a), .val (.ref b)] [])) t := by
        intro t q
        refine k13_ _ ?_
        show Steps p.tables e below (T11.setTop (mkF m 16 #[.val (.ref a), .val (.ref b)] [(.int (lcmpW u w))])) _
        refine XS.ifYes X11.here hx rfl (pc0 := 16) (pc' := 42) rfl (hb hby d_prog_214_method_2_16) rfl ((if0 _ _).trans (tlt c2).2.2.1) (by decide) (by decide) ?_
        show Steps p.tables e below (T11.setTop (mkF m 42 #[.val (.ref a), .val (.ref b)] [])) _
        exact q
      have k15_ : ∀ t, Steps p.tables e below (T11.setTop (mkF m 47 #[.val (.ref a), .val (.ref b)] [(.int (1 : Int32))])) t → Steps p.tables e below (s₁.setTop (mkF m 0 #[.val (.ref a), .val (.ref b)] [])) t := by
        intro t q
        refine k14_ _ ?_
        show Steps p.tables e below (T11.setTop (mkF m 42 #[.val (.ref a), .val (.ref b)] [])) _
        refine XS.iconst X11.here hx rfl (hb hby d_prog_214_method_2_42) ?_
        show Steps p.tables e below (T11.setTop (mkF m 43 #[.val (.ref a), .val (.ref b)] [(.int (1 : Int32))])) _
        refine XS.goto X11.here hx rfl (pc0 := 43) (pc' := 47) rfl (hb hby d_prog_214_method_2_43) (by decide) (by decide) ?_
        show Steps p.tables e below (T11.setTop (mkF m 47 #[.val (.ref a), .val (.ref b)] [(.int (1 : Int32))])) _
        exact q
      obtain ⟨fs, hr, hrun, hended, hW, hsame⟩ := X11.leave (v := some (.int (1 : Int32))) (fun h => by rw [Bd.returns] at h; cases h)
      refine ⟨_, _, pre0 _ (k15_ _ ?_), hrun, hended, _, _, rfl, ?_, ⟨_, rfl⟩, hW, hsame.mono (by decide) (by decide)⟩
      · show Steps p.tables e below (T11.setTop (mkF m 47 #[.val (.ref a), .val (.ref b)] [(.int (1 : Int32))])) _
        exact retN X11 hx (t := .boolean) Bd.returns (by simp) (hb hby d_prog_214_method_2_47) hr
      · show QH Z a b ti to u w h0 n0 _ T11.heap _
        rw [e11]
        exact ⟨by unfold own_hv; rw [if_neg c1, if_pos c2], N0, rfl⟩
    · have k16_ : ∀ t, Steps p.tables e below (T11.setTop (mkF m 19 #[.val (.ref a), .val (.ref b)] [])) t → Steps p.tables e below (s₁.setTop (mkF m 0 #[.val (.ref a), .val (.ref b)] [])) t := by
        intro t q
        refine k13_ _ ?_
        show Steps p.tables e below (T11.setTop (mkF m 16 #[.val (.ref a), .val (.ref b)] [(.int (lcmpW u w))])) _
        refine XS.ifNo X11.here hx rfl (hb hby d_prog_214_method_2_16) rfl ((if0 _ _).trans (flt c2).2.2.1) ?_
        show Steps p.tables e below (T11.setTop (mkF m 19 #[.val (.ref a), .val (.ref b)] [])) _
        exact q
      have k17_ : ∀ t, Steps p.tables e below (T11.setTop (mkF m 20 #[.val (.ref a), .val (.ref b)] [(.ref a)])) t → Steps p.tables e below (s₁.setTop (mkF m 0 #[.val (.ref a), .val (.ref b)] [])) t := by
        intro t q
        refine k16_ _ ?_
        show Steps p.tables e below (T11.setTop (mkF m 19 #[.val (.ref a), .val (.ref b)] [])) _
        refine XS.aloadN X11.here hx rfl (hb hby d_prog_214_method_2_19) rfl rfl ?_
        show Steps p.tables e below (T11.setTop (mkF m 20 #[.val (.ref a), .val (.ref b)] [(.ref a)])) _
        exact q
      obtain ⟨T18, X18, e18, st18⟩ := getF X11 hx hZ hown (host := "") (Or.inl (hw _ (List.mem_of_getElem? (i := 16) rfl))) Via.refl e11 A2 (g := (mkF m 20 #[.val (.ref a), .val (.ref b)] [(.ref a)])) rfl rfl (hb hby d_prog_214_method_2_20)
      have k19_ : ∀ t, Steps p.tables e below (T18.setTop (mkF m 23 #[.val (.ref a), .val (.ref b)] [(.double (FP.l2d u))])) t → Steps p.tables e below (s₁.setTop (mkF m 0 #[.val (.ref a), .val (.ref b)] [])) t := fun t q => k17_ t (st18 t q)
      have k20_ : ∀ t, Steps p.tables e below (T18.setTop (mkF m 24 #[.val (.ref a), .val (.ref b)] [(.ref b), (.double (FP.l2d u))])) t → Steps p.tables e below (s₁.setTop (mkF m 0 #[.val (.ref a), .val (.ref b)] [])) t := by
        intro t q
        refine k19_ _ ?_
        show Steps p.tables e below (T18.setTop (mkF m 23 #[.val (.ref a), .val (.ref b)] [(.double (FP.l2d u))])) _
        refine XS.aloadN X18.here hx rfl (hb hby d_prog_214_method_2_23) rfl rfl ?_
        show Steps p.tables e below (T18.setTop (mkF m 24 #[.val (.ref a), .val (.ref b)] [(.ref b), (.double (FP.l2d u))])) _
        exact q
      obtain ⟨T21, X21, e21, st21⟩ := getF X18 hx hZ hown (host := "") (Or.inl (hw _ (List.mem_of_getElem? (i := 16) rfl))) Via.refl e18 B2 (g := (mkF m 24 #[.val (.ref a), .val (.ref b)] [(.ref b), (.double (FP.l2d u))])) rfl rfl (hb hby d_prog_214_method_2_24)
      have k22_ : ∀ t, Steps p.tables e below (T21.setTop (mkF m 27 #[.val (.ref a), .val (.ref b)] [(.double (FP.l2d w)), (.double (FP.l2d u))])) t → Steps p.tables e below (s₁.setTop (mkF m 0 #[.val (.ref a), .val (.ref b)] [])) t := fun t q => k20_ t (st21 t q)
      have k23_ : ∀ t, Steps p.tables e below (T21.setTop (mkF m 28 #[.val (.ref a), .val (.ref b)] [(.int (lcmpW u w))])) t → Steps p.tables e below (s₁.setTop (mkF m 0 #[.val (.ref a), .val (.ref b)] [])) t := by
        intro t q
        refine k22_ _ ?_
        show Steps p.tables e below (T21.setTop (mkF m 27 #[.val (.ref a), .val (.ref b)] [(.double (FP.l2d w)), (.double (FP.l2d u))])) _
        refine XS.dcmpS X21.here hx rfl (hb hby d_prog_214_method_2_27) rfl (v := lcmpW u w) (dcmpV_w hu hw' _) ?_
        show Steps p.tables e below (T21.setTop (mkF m 28 #[.val (.ref a), .val (.ref b)] [(.int (lcmpW u w))])) _
        exact q
      by_cases c3 : (lcmpW u w) = (0 : Int32)
      · have k24_ : ∀ t, Steps p.tables e below (T21.setTop (mkF m 31 #[.val (.ref a), .val (.ref b)] [])) t → Steps p.tables e below (s₁.setTop (mkF m 0 #[.val (.ref a), .val (.ref b)] [])) t := by
          intro t q
          refine k23_ _ ?_
          show Steps p.tables e below (T21.setTop (mkF m 28 #[.val (.ref a), .val (.ref b)] [(.int (lcmpW u w))])) _
          refine XS.ifNo X21.here hx rfl (hb hby d_prog_214_method_2_28) rfl ((if0 _ _).trans (teq c3).2) ?_
          show Steps p.tables e below (T21.setTop (mkF m 31 #[.val (.ref a), .val (.ref b)] [])) _
          exact q
        have k25_ : ∀ t, Steps p.tables e below (T21.setTop (mkF m 32 #[.val (.ref a), .val (.ref b)] [(.ref a)])) t → Steps p.tables e below (s₁.setTop (mkF m 0 #[.val (.ref a), .val (.ref b)] [])) t := by
          intro t q
          refine k24_ _ ?_
          show Steps p.tables e below (T21.setTop (mkF m 31 #[.val (.ref a), .val (.ref b)] [])) _
          refine XS.aloadN X21.here hx rfl (hb hby d_prog_214_method_2_31) rfl rfl ?_
          show Steps p.tables e below (T21.setTop (mkF m 32 #[.val (.ref a), .val (.ref b)] [(.ref a)])) _
          exact q
        obtain ⟨T26, X26, e26, st26⟩ := getF X21 hx hZ hown (host := "") (Or.inl (hw _ (List.mem_of_getElem? (i := 14) rfl))) Via.refl e21 A1 (g := (mkF m 32 #[.val (.ref a), .val (.ref b)] [(.ref a)])) rfl rfl (hb hby d_prog_214_method_2_32)
        have k27_ : ∀ t, Steps p.tables e below (T26.setTop (mkF m 35 #[.val (.ref a), .val (.ref b)] [(.int ti)])) t → Steps p.tables e below (s₁.setTop (mkF m 0 #[.val (.ref a), .val (.ref b)] [])) t := fun t q => k25_ t (st26 t q)
        have k28_ : ∀ t, Steps p.tables e below (T26.setTop (mkF m 36 #[.val (.ref a), .val (.ref b)] [(.ref b), (.int ti)])) t → Steps p.tables e below (s₁.setTop (mkF m 0 #[.val (.ref a), .val (.ref b)] [])) t := by
          intro t q
          refine k27_ _ ?_
          show Steps p.tables e below (T26.setTop (mkF m 35 #[.val (.ref a), .val (.ref b)] [(.int ti)])) _
          refine XS.aloadN X26.here hx rfl (hb hby d_prog_214_method_2_35) rfl rfl ?_
          show Steps p.tables e below (T26.setTop (mkF m 36 #[.val (.ref a), .val (.ref b)] [(.ref b), (.int ti)])) _
          exact q
        obtain ⟨T29, X29, e29, st29⟩ := getF X26 hx hZ hown (host := "") (Or.inl (hw _ (List.mem_of_getElem? (i := 14) rfl))) Via.refl e26 B1 (g := (mkF m 36 #[.val (.ref a), .val (.ref b)] [(.ref b), (.int ti)])) rfl rfl (hb hby d_prog_214_method_2_36)
        have k30_ : ∀ t, Steps p.tables e below (T29.setTop (mkF m 39 #[.val (.ref a), .val (.ref b)] [(.int to), (.int ti)])) t → Steps p.tables e below (s₁.setTop (mkF m 0 #[.val (.ref a), .val (.ref b)] [])) t := fun t q => k28_ t (st29 t q)
        by_cases c4 : ti < to
        · have k31_ : ∀ t, Steps p.tables e below (T29.setTop (mkF m 42 #[.val (.ref a), .val (.ref b)] [])) t → Steps p.tables e below (s₁.setTop (mkF m 0 #[.val (.ref a), .val (.ref b)] [])) t := by
            intro t q
            refine k30_ _ ?_
            show Steps p.tables e below (T29.setTop (mkF m 39 #[.val (.ref a), .val (.ref b)] [(.int to), (.int ti)])) _
            refine XS.icmpNo X29.here hx rfl (hb hby d_prog_214_method_2_39) rfl (tlt c4).2.1 ?_
            show Steps p.tables e below (T29.setTop (mkF m 42 #[.val (.ref a), .val (.ref b)] [])) _
            exact q
          have k32_ : ∀ t, Steps p.tables e below (T29.setTop (mkF m 47 #[.val (.ref a), .val (.ref b)] [(.int (1 : Int32))])) t → Steps p.tables e below (s₁.setTop (mkF m 0 #[.val (.ref a), .val (.ref b)] [])) t := by
            intro t q
            refine k31_ _ ?_
            show Steps p.tables e below (T29.setTop (mkF m 42 #[.val (.ref a), .val (.ref b)] [])) _
            refine XS.iconst X29.here hx rfl (hb hby d_prog_214_method_2_42) ?_
            show Steps p.tables e below (T29.setTop (mkF m 43 #[.val (.ref a), .val (.ref b)] [(.int (1 : Int32))])) _
            refine XS.goto X29.here hx rfl (pc0 := 43) (pc' := 47) rfl (hb hby d_prog_214_method_2_43) (by decide) (by decide) ?_
            show Steps p.tables e below (T29.setTop (mkF m 47 #[.val (.ref a), .val (.ref b)] [(.int (1 : Int32))])) _
            exact q
          obtain ⟨fs, hr, hrun, hended, hW, hsame⟩ := X29.leave (v := some (.int (1 : Int32))) (fun h => by rw [Bd.returns] at h; cases h)
          refine ⟨_, _, pre0 _ (k32_ _ ?_), hrun, hended, _, _, rfl, ?_, ⟨_, rfl⟩, hW, hsame.mono (by decide) (by decide)⟩
          · show Steps p.tables e below (T29.setTop (mkF m 47 #[.val (.ref a), .val (.ref b)] [(.int (1 : Int32))])) _
            exact retN X29 hx (t := .boolean) Bd.returns (by simp) (hb hby d_prog_214_method_2_47) hr
          · show QH Z a b ti to u w h0 n0 _ T29.heap _
            rw [e29]
            exact ⟨by unfold own_hv; rw [if_neg c1, if_neg c2, if_pos c3, if_pos c4], N0, rfl⟩
        · have k33_ : ∀ t, Steps p.tables e below (T29.setTop (mkF m 46 #[.val (.ref a), .val (.ref b)] [])) t → Steps p.tables e below (s₁.setTop (mkF m 0 #[.val (.ref a), .val (.ref b)] [])) t := by
            intro t q
            refine k30_ _ ?_
            show Steps p.tables e below (T29.setTop (mkF m 39 #[.val (.ref a), .val (.ref b)] [(.int to), (.int ti)])) _
            refine XS.icmpYes X29.here hx rfl (pc0 := 39) (pc' := 46) rfl (hb hby d_prog_214_method_2_39) rfl (flt c4).2.1 (by decide) (by decide) ?_
            show Steps p.tables e below (T29.setTop (mkF m 46 #[.val (.ref a), .val (.ref b)] [])) _
            exact q
          have k34_ : ∀ t, Steps p.tables e below (T29.setTop (mkF m 47 #[.val (.ref a), .val (.ref b)] [(.int (0 : Int32))])) t → Steps p.tables e below (s₁.setTop (mkF m 0 #[.val (.ref a), .val (.ref b)] [])) t := by
            intro t q
            refine k33_ _ ?_
            show Steps p.tables e below (T29.setTop (mkF m 46 #[.val (.ref a), .val (.ref b)] [])) _
            refine XS.iconst X29.here hx rfl (hb hby d_prog_214_method_2_46) ?_
            show Steps p.tables e below (T29.setTop (mkF m 47 #[.val (.ref a), .val (.ref b)] [(.int (0 : Int32))])) _
            exact q
          obtain ⟨fs, hr, hrun, hended, hW, hsame⟩ := X29.leave (v := some (.int (0 : Int32))) (fun h => by rw [Bd.returns] at h; cases h)
          refine ⟨_, _, pre0 _ (k34_ _ ?_), hrun, hended, _, _, rfl, ?_, ⟨_, rfl⟩, hW, hsame.mono (by decide) (by decide)⟩
          · show Steps p.tables e below (T29.setTop (mkF m 47 #[.val (.ref a), .val (.ref b)] [(.int (0 : Int32))])) _
            exact retN X29 hx (t := .boolean) Bd.returns (by simp) (hb hby d_prog_214_method_2_47) hr
          · show QH Z a b ti to u w h0 n0 _ T29.heap _
            rw [e29]
            exact ⟨by unfold own_hv; rw [if_neg c1, if_neg c2, if_pos c3, if_neg c4], N0, rfl⟩
      · have k35_ : ∀ t, Steps p.tables e below (T21.setTop (mkF m 46 #[.val (.ref a), .val (.ref b)] [])) t → Steps p.tables e below (s₁.setTop (mkF m 0 #[.val (.ref a), .val (.ref b)] [])) t := by
          intro t q
          refine k23_ _ ?_
          show Steps p.tables e below (T21.setTop (mkF m 28 #[.val (.ref a), .val (.ref b)] [(.int (lcmpW u w))])) _
          refine XS.ifYes X21.here hx rfl (pc0 := 28) (pc' := 46) rfl (hb hby d_prog_214_method_2_28) rfl ((if0 _ _).trans (feq c3).2) (by decide) (by decide) ?_
          show Steps p.tables e below (T21.setTop (mkF m 46 #[.val (.ref a), .val (.ref b)] [])) _
          exact q
        have k36_ : ∀ t, Steps p.tables e below (T21.setTop (mkF m 47 #[.val (.ref a), .val (.ref b)] [(.int (0 : Int32))])) t → Steps p.tables e below (s₁.setTop (mkF m 0 #[.val (.ref a), .val (.ref b)] [])) t := by
          intro t q
          refine k35_ _ ?_
          show Steps p.tables e below (T21.setTop (mkF m 46 #[.val (.ref a), .val (.ref b)] [])) _
          refine XS.iconst X21.here hx rfl (hb hby d_prog_214_method_2_46) ?_
          show Steps p.tables e below (T21.setTop (mkF m 47 #[.val (.ref a), .val (.ref b)] [(.int (0 : Int32))])) _
          exact q
        obtain ⟨fs, hr, hrun, hended, hW, hsame⟩ := X21.leave (v := some (.int (0 : Int32))) (fun h => by rw [Bd.returns] at h; cases h)
        refine ⟨_, _, pre0 _ (k36_ _ ?_), hrun, hended, _, _, rfl, ?_, ⟨_, rfl⟩, hW, hsame.mono (by decide) (by decide)⟩
        · show Steps p.tables e below (T21.setTop (mkF m 47 #[.val (.ref a), .val (.ref b)] [(.int (0 : Int32))])) _
          exact retN X21 hx (t := .boolean) Bd.returns (by simp) (hb hby d_prog_214_method_2_47) hr
        · show QH Z a b ti to u w h0 n0 _ T21.heap _
          rw [e21]
          exact ⟨by unfold own_hv; rw [if_neg c1, if_neg c2, if_neg c3], N0, rfl⟩
def Q0 (Z : State) (p0 : Int32) (p1 : Int32) (p2 : Int32) (p3 : Int32) (p4 : Int32) (h0 : Heap) (n0 : Nat) (v : Option Value) (h : Heap) (L : List Loc) : Prop := v = some (.int 1) ∧ Fr n0 L
theorem ef_0 (m : MethodId) (x0 : Int32) (x1 : Int32) (x2 : Int32) (x3 : Int32) (x4 : Int32) : entryFrame m #[(.int x0), (.int x1), (.int x2), (.int x3), (.int x4)] maxLocals = mkF m 0 #[.val (.int x0), .val (.int x1), .val (.int x2), .val (.int x3), .val (.int x4), .unset, .unset, .unset, .unset, .unset, .unset, .unset, .unset, .unset, .unset, .unset] [] := by first | (simp [entryFrame, mkF, argsToLocals, Value.category, maxLocals]; done) | rfl
theorem pn_NeighbourHeavierThanPinLaw : plainName "com/example/weir/weir/strategy/NeighbourHeavierThanPinLaw" = true := by first | (simp [plainName, overriddenIn]; done) | decide +kernel
theorem pd_85628 : parseMethodDescriptor "(ID)V" = some ⟨[.int, .double], none⟩ := by decide +kernel
theorem pd_87179 : parseMethodDescriptor "(Lcom/example/weir/weir/strategy/PlacedJoins$Neighbour;)Z" = some ⟨[(.object "com/example/weir/weir/strategy/PlacedJoins$Neighbour")], some .boolean⟩ := by decide +kernel
set_option maxRecDepth 65536 in
set_option maxHeartbeats 40000000 in
theorem rm0 (l : Launch) (Z : State) (a0 : Array Value) (hw : ∀ d ∈ tables_1, d.before a0 Z = true) (ws : List Jvm.Cond) (p0 : Int32) (p1 : Int32) (p2 : Int32) (p3 : Int32) (p4 : Int32) (h0 : Heap) (n0 : Nat) (Z0 : n0 ≤ h0.size) :
    MetFree l x (head1 (Jvm.Cond.code x code maxLocals ret :: ws) room_1) (fun a' U => a' = #[(.int p0), (.int p1), (.int p2), (.int p3), (.int p4)] ∧ Z.Warmed39 U.vm ∧ U.heap = h0) (fun _ _ _ _ _ => True) (fun _ U o U' => ∃ v L, o = .returned v ∧ Q0 Z p0 p1 p2 p3 p4 h0 n0 v U'.heap L ∧ FrameEnd U o U' L room_1.cells room_1.slots) := by
  refine MetFree.of_bodySF (plainFor_of_name pn_NeighbourHeavierThanPinLaw) hisR ?_
  intro p e s m args below meth c s₁ Bd hml0 hP hK
  obtain ⟨rfl, hZ, hh⟩ := hP
  have hx := Bd.exec
  have hby := Bd.bytes
  have hml : c.maxLocals = 16 := hml0
  have hown : s.vm.findClass "com/example/weir/weir/strategy/NeighbourHeavierThanPinLaw" = some m.cls := findClass_of_methodNamed Bd.named
  have hnm := (name_of_methodNamed Bd.named Bd.method).1
  have X0 : Stand p l e room_1 s m #[(.int p0), (.int p1), (.int p2), (.int p3), (.int p4)] below meth c s₁ [] 0 0 := Stand.of_body Bd
  have e0 : s₁.heap = h0 := by rw [← hh, Bd.state]; rfl
  have N0 := Fr.nil n0
  have Zn := Z0
  have pre0 : ∀ t, Steps p.tables e below (s₁.setTop (mkF m 0 #[.val (.int p0), .val (.int p1), .val (.int p2), .val (.int p3), .val (.int p4), .unset, .unset, .unset, .unset, .unset, .unset, .unset, .unset, .unset, .unset, .unset] [])) t → Steps p.tables e below (s₁.setTop (entryFrame m #[(.int p0), (.int p1), (.int p2), (.int p3), (.int p4)] maxLocals)) t := fun t q => castTop (ef_0 m p0 p1 p2 p3 p4) q
  have k0 : ∀ t, Steps p.tables e below (s₁.setTop (mkF m 0 #[.val (.int p0), .val (.int p1), .val (.int p2), .val (.int p3), .val (.int p4), .unset, .unset, .unset, .unset, .unset, .unset, .unset, .unset, .unset, .unset, .unset] [])) t → Steps p.tables e below (s₁.setTop (mkF m 0 #[.val (.int p0), .val (.int p1), .val (.int p2), .val (.int p3), .val (.int p4), .unset, .unset, .unset, .unset, .unset, .unset, .unset, .unset, .unset, .unset, .unset] [])) t := fun t q => q
  have k1_ : ∀ t, Steps p.tables e below (s₁.setTop (mkF m 9 #[.val (.int p0), .val (.int p1), .val (.int p2), .val (.int p3), .val (.int p4), .val (.int (p2 >>> ((1 : Int32) &&& 31))), .unset, .unset, .unset, .unset, .unset, .unset, .unset, .unset, .unset, .unset] [(.int (p4 &&& (1 : Int32)))])) t → Steps p.tables e below (s₁.setTop (mkF m 0 #[.val (.int p0), .val (.int p1), .val (.int p2), .val (.int p3), .val (.int p4), .unset, .unset, .unset, .unset, .unset, .unset, .unset, .unset, .unset, .unset, .unset] [])) t := by
    intro t q
    refine k0 _ ?_
    show Steps p.tables e below (s₁.setTop (mkF m 0 #[.val (.int p0), .val (.int p1), .val (.int p2), .val (.int p3), .val (.int p4), .unset, .unset, .unset, .unset, .unset, .unset, .unset, .unset, .unset, .unset, .unset] [])) _
    refine XS.iloadN X0.here hx rfl (hb hby at_0) rfl ?_
    show Steps p.tables e below (s₁.setTop (mkF m 1 #[.val (.int p0), .val (.int p1), .val (.int p2), .val (.int p3), .val (.int p4), .unset, .unset, .unset, .unset, .unset, .unset, .unset, .unset, .unset, .unset, .unset] [(.int p2)])) _
    refine XS.iconst X0.here hx rfl (hb hby at_1) ?_
    show Steps p.tables e below (s₁.setTop (mkF m 2 #[.val (.int p0), .val (.int p1), .val (.int p2), .val (.int p3), .val (.int p4), .unset, .unset, .unset, .unset, .unset, .unset, .unset, .unset, .unset, .unset, .unset] [(.int (1 : Int32)), (.int p2)])) _
    refine XS.ishr X0.here hx rfl (hb hby at_2) rfl ?_
    show Steps p.tables e below (s₁.setTop (mkF m 3 #[.val (.int p0), .val (.int p1), .val (.int p2), .val (.int p3), .val (.int p4), .unset, .unset, .unset, .unset, .unset, .unset, .unset, .unset, .unset, .unset, .unset] [(.int (p2 >>> ((1 : Int32) &&& 31)))])) _
    refine XS.istore X0.here hx rfl (hb hby at_3) rfl (l' := #[.val (.int p0), .val (.int p1), .val (.int p2), .val (.int p3), .val (.int p4), .val (.int (p2 >>> ((1 : Int32) &&& 31))), .unset, .unset, .unset, .unset, .unset, .unset, .unset, .unset, .unset, .unset]) rfl ?_
    show Steps p.tables e below (s₁.setTop (mkF m 5 #[.val (.int p0), .val (.int p1), .val (.int p2), .val (.int p3), .val (.int p4), .val (.int (p2 >>> ((1 : Int32) &&& 31))), .unset, .unset, .unset, .unset, .unset, .unset, .unset, .unset, .unset, .unset] [])) _
    refine XS.iload X0.here hx rfl (hb hby at_5) rfl ?_
    show Steps p.tables e below (s₁.setTop (mkF m 7 #[.val (.int p0), .val (.int p1), .val (.int p2), .val (.int p3), .val (.int p4), .val (.int (p2 >>> ((1 : Int32) &&& 31))), .unset, .unset, .unset, .unset, .unset, .unset, .unset, .unset, .unset, .unset] [(.int p4)])) _
    refine XS.iconst X0.here hx rfl (hb hby at_7) ?_
    show Steps p.tables e below (s₁.setTop (mkF m 8 #[.val (.int p0), .val (.int p1), .val (.int p2), .val (.int p3), .val (.int p4), .val (.int (p2 >>> ((1 : Int32) &&& 31))), .unset, .unset, .unset, .unset, .unset, .unset, .unset, .unset, .unset, .unset] [(.int (1 : Int32)), (.int p4)])) _
    refine XS.iand X0.here hx rfl (hb hby at_8) rfl ?_
    show Steps p.tables e below (s₁.setTop (mkF m 9 #[.val (.int p0), .val (.int p1), .val (.int p2), .val (.int p3), .val (.int p4), .val (.int (p2 >>> ((1 : Int32) &&& 31))), .unset, .unset, .unset, .unset, .unset, .unset, .unset, .unset, .unset, .unset] [(.int (p4 &&& (1 : Int32)))])) _
    exact q
  obtain ⟨t1, e_t1⟩ : ∃ z, z = (p2 >>> ((1 : Int32) &&& 31)) := ⟨_, rfl⟩
  have k2_ : ∀ t, Steps p.tables e below (s₁.setTop (mkF m 9 #[.val (.int p0), .val (.int p1), .val (.int p2), .val (.int p3), .val (.int p4), .val (.int t1), .unset, .unset, .unset, .unset, .unset, .unset, .unset, .unset, .unset, .unset] [(.int (p4 &&& (1 : Int32)))])) t → Steps p.tables e below (s₁.setTop (mkF m 0 #[.val (.int p0), .val (.int p1), .val (.int p2), .val (.int p3), .val (.int p4), .unset, .unset, .unset, .unset, .unset, .unset, .unset, .unset, .unset, .unset, .unset] [])) t := by rw [e_t1]; exact k1_
  have r1 : -1073741824 ≤ t1.toInt ∧ t1.toInt < 1073741824 := by rw [e_t1]; exact own_shr _
  have k3_ : ∀ t, Steps p.tables e below (s₁.setTop (mkF m 20 #[.val (.int p0), .val (.int p1), .val (.int p2), .val (.int p3), .val (.int p4), .val (.int t1), .unset, .unset, .unset, .unset, .unset, .unset, .unset, .unset, .unset, .unset] [(.int (own_i ((p4 &&& (1 : Int32)) = (0 : Int32)) (p3 >>> ((1 : Int32) &&& 31)) t1))])) t → Steps p.tables e below (s₁.setTop (mkF m 0 #[.val (.int p0), .val (.int p1), .val (.int p2), .val (.int p3), .val (.int p4), .unset, .unset, .unset, .unset, .unset, .unset, .unset, .unset, .unset, .unset, .unset] [])) t := by
    intro t q
    refine k2_ _ ?_
    show Steps p.tables e below (s₁.setTop (mkF m 9 #[.val (.int p0), .val (.int p1), .val (.int p2), .val (.int p3), .val (.int p4), .val (.int t1), .unset, .unset, .unset, .unset, .unset, .unset, .unset, .unset, .unset, .unset] [(.int (p4 &&& (1 : Int32)))])) _
    by_cases hc9 : (p4 &&& (1 : Int32)) = (0 : Int32)
    · refine XS.ifYes X0.here hx rfl (pc0 := 9) (pc' := 17) rfl (hb hby at_9) rfl ((if0 _ _).trans (teq hc9).1) (by decide) (by decide) ?_
      show Steps p.tables e below (s₁.setTop (mkF m 17 #[.val (.int p0), .val (.int p1), .val (.int p2), .val (.int p3), .val (.int p4), .val (.int t1), .unset, .unset, .unset, .unset, .unset, .unset, .unset, .unset, .unset, .unset] [])) _
      refine XS.iloadN X0.here hx rfl (hb hby at_17) rfl ?_
      show Steps p.tables e below (s₁.setTop (mkF m 18 #[.val (.int p0), .val (.int p1), .val (.int p2), .val (.int p3), .val (.int p4), .val (.int t1), .unset, .unset, .unset, .unset, .unset, .unset, .unset, .unset, .unset, .unset] [(.int p3)])) _
      refine XS.iconst X0.here hx rfl (hb hby at_18) ?_
      show Steps p.tables e below (s₁.setTop (mkF m 19 #[.val (.int p0), .val (.int p1), .val (.int p2), .val (.int p3), .val (.int p4), .val (.int t1), .unset, .unset, .unset, .unset, .unset, .unset, .unset, .unset, .unset, .unset] [(.int (1 : Int32)), (.int p3)])) _
      refine XS.ishr X0.here hx rfl (hb hby at_19) rfl ?_
      show Steps p.tables e below (s₁.setTop (mkF m 20 #[.val (.int p0), .val (.int p1), .val (.int p2), .val (.int p3), .val (.int p4), .val (.int t1), .unset, .unset, .unset, .unset, .unset, .unset, .unset, .unset, .unset, .unset] [(.int (p3 >>> ((1 : Int32) &&& 31)))])) _
      have w0 : (own_i ((p4 &&& (1 : Int32)) = (0 : Int32)) (p3 >>> ((1 : Int32) &&& 31)) t1) = (p3 >>> ((1 : Int32) &&& 31)) := by unfold own_i; exact if_pos hc9
      replace q := Eq.mp (congrArg (fun z => Steps p.tables e below (s₁.setTop (mkF m 20 #[.val (.int p0), .val (.int p1), .val (.int p2), .val (.int p3), .val (.int p4), .val (.int t1), .unset, .unset, .unset, .unset, .unset, .unset, .unset, .unset, .unset, .unset] [(.int z)])) t) w0) q
      exact q
    · refine XS.ifNo X0.here hx rfl (hb hby at_9) rfl ((if0 _ _).trans (feq hc9).1) ?_
      show Steps p.tables e below (s₁.setTop (mkF m 12 #[.val (.int p0), .val (.int p1), .val (.int p2), .val (.int p3), .val (.int p4), .val (.int t1), .unset, .unset, .unset, .unset, .unset, .unset, .unset, .unset, .unset, .unset] [])) _
      refine XS.iload X0.here hx rfl (hb hby at_12) rfl ?_
      show Steps p.tables e below (s₁.setTop (mkF m 14 #[.val (.int p0), .val (.int p1), .val (.int p2), .val (.int p3), .val (.int p4), .val (.int t1), .unset, .unset, .unset, .unset, .unset, .unset, .unset, .unset, .unset, .unset] [(.int t1)])) _
      refine XS.goto X0.here hx rfl (pc0 := 14) (pc' := 20) rfl (hb hby at_14) (by decide) (by decide) ?_
      show Steps p.tables e below (s₁.setTop (mkF m 20 #[.val (.int p0), .val (.int p1), .val (.int p2), .val (.int p3), .val (.int p4), .val (.int t1), .unset, .unset, .unset, .unset, .unset, .unset, .unset, .unset, .unset, .unset] [(.int t1)])) _
      have w0 : (own_i ((p4 &&& (1 : Int32)) = (0 : Int32)) (p3 >>> ((1 : Int32) &&& 31)) t1) = t1 := by unfold own_i; exact if_neg hc9
      replace q := Eq.mp (congrArg (fun z => Steps p.tables e below (s₁.setTop (mkF m 20 #[.val (.int p0), .val (.int p1), .val (.int p2), .val (.int p3), .val (.int p4), .val (.int t1), .unset, .unset, .unset, .unset, .unset, .unset, .unset, .unset, .unset, .unset] [(.int z)])) t) w0) q
      exact q
  obtain ⟨t2, e_t2⟩ : ∃ z, z = (own_i ((p4 &&& (1 : Int32)) = (0 : Int32)) (p3 >>> ((1 : Int32) &&& 31)) t1) := ⟨_, rfl⟩
  have k4_ : ∀ t, Steps p.tables e below (s₁.setTop (mkF m 20 #[.val (.int p0), .val (.int p1), .val (.int p2), .val (.int p3), .val (.int p4), .val (.int t1), .unset, .unset, .unset, .unset, .unset, .unset, .unset, .unset, .unset, .unset] [(.int t2)])) t → Steps p.tables e below (s₁.setTop (mkF m 0 #[.val (.int p0), .val (.int p1), .val (.int p2), .val (.int p3), .val (.int p4), .unset, .unset, .unset, .unset, .unset, .unset, .unset, .unset, .unset, .unset, .unset] [])) t := by rw [e_t2]; exact k3_
  have r2 : -1073741824 ≤ t2.toInt ∧ t2.toInt < 1073741824 := by rw [e_t2]; exact own_i_rng (Q := fun z => -1073741824 ≤ z.toInt ∧ z.toInt < 1073741824) (own_shr _) r1
  have k5_ : ∀ t, Steps p.tables e below (s₁.setTop (mkF m 26 #[.val (.int p0), .val (.int p1), .val (.int p2), .val (.int p3), .val (.int p4), .val (.int t1), .val (.int t2), .unset, .unset, .unset, .unset, .unset, .unset, .unset, .unset, .unset] [(.int (p4 &&& (2 : Int32)))])) t → Steps p.tables e below (s₁.setTop (mkF m 0 #[.val (.int p0), .val (.int p1), .val (.int p2), .val (.int p3), .val (.int p4), .unset, .unset, .unset, .unset, .unset, .unset, .unset, .unset, .unset, .unset, .unset] [])) t := by
    intro t q
    refine k4_ _ ?_
    show Steps p.tables e below (s₁.setTop (mkF m 20 #[.val (.int p0), .val (.int p1), .val (.int p2), .val (.int p3), .val (.int p4), .val (.int t1), .unset, .unset, .unset, .unset, .unset, .unset, .unset, .unset, .unset, .unset] [(.int t2)])) _
    refine XS.istore X0.here hx rfl (hb hby at_20) rfl (l' := #[.val (.int p0), .val (.int p1), .val (.int p2), .val (.int p3), .val (.int p4), .val (.int t1), .val (.int t2), .unset, .unset, .unset, .unset, .unset, .unset, .unset, .unset, .unset]) rfl ?_
    show Steps p.tables e below (s₁.setTop (mkF m 22 #[.val (.int p0), .val (.int p1), .val (.int p2), .val (.int p3), .val (.int p4), .val (.int t1), .val (.int t2), .unset, .unset, .unset, .unset, .unset, .unset, .unset, .unset, .unset] [])) _
    refine XS.iload X0.here hx rfl (hb hby at_22) rfl ?_
    show Steps p.tables e below (s₁.setTop (mkF m 24 #[.val (.int p0), .val (.int p1), .val (.int p2), .val (.int p3), .val (.int p4), .val (.int t1), .val (.int t2), .unset, .unset, .unset, .unset, .unset, .unset, .unset, .unset, .unset] [(.int p4)])) _
    refine XS.iconst X0.here hx rfl (hb hby at_24) ?_
    show Steps p.tables e below (s₁.setTop (mkF m 25 #[.val (.int p0), .val (.int p1), .val (.int p2), .val (.int p3), .val (.int p4), .val (.int t1), .val (.int t2), .unset, .unset, .unset, .unset, .unset, .unset, .unset, .unset, .unset] [(.int (2 : Int32)), (.int p4)])) _
    refine XS.iand X0.here hx rfl (hb hby at_25) rfl ?_
    show Steps p.tables e below (s₁.setTop (mkF m 26 #[.val (.int p0), .val (.int p1), .val (.int p2), .val (.int p3), .val (.int p4), .val (.int t1), .val (.int t2), .unset, .unset, .unset, .unset, .unset, .unset, .unset, .unset, .unset] [(.int (p4 &&& (2 : Int32)))])) _
    exact q
  have k6_ : ∀ t, Steps p.tables e below (s₁.setTop (mkF m 34 #[.val (.int p0), .val (.int p1), .val (.int p2), .val (.int p3), .val (.int p4), .val (.int t1), .val (.int t2), .unset, .unset, .unset, .unset, .unset, .unset, .unset, .unset, .unset] [(.int (own_i ((p4 &&& (2 : Int32)) = (0 : Int32)) p1 p0))])) t → Steps p.tables e below (s₁.setTop (mkF m 0 #[.val (.int p0), .val (.int p1), .val (.int p2), .val (.int p3), .val (.int p4), .unset, .unset, .unset, .unset, .unset, .unset, .unset, .unset, .unset, .unset, .unset] [])) t := by
    intro t q
    refine k5_ _ ?_
    show Steps p.tables e below (s₁.setTop (mkF m 26 #[.val (.int p0), .val (.int p1), .val (.int p2), .val (.int p3), .val (.int p4), .val (.int t1), .val (.int t2), .unset, .unset, .unset, .unset, .unset, .unset, .unset, .unset, .unset] [(.int (p4 &&& (2 : Int32)))])) _
    by_cases hc26 : (p4 &&& (2 : Int32)) = (0 : Int32)
    · refine XS.ifYes X0.here hx rfl (pc0 := 26) (pc' := 33) rfl (hb hby at_26) rfl ((if0 _ _).trans (teq hc26).1) (by decide) (by decide) ?_
      show Steps p.tables e below (s₁.setTop (mkF m 33 #[.val (.int p0), .val (.int p1), .val (.int p2), .val (.int p3), .val (.int p4), .val (.int t1), .val (.int t2), .unset, .unset, .unset, .unset, .unset, .unset, .unset, .unset, .unset] [])) _
      refine XS.iloadN X0.here hx rfl (hb hby at_33) rfl ?_
      show Steps p.tables e below (s₁.setTop (mkF m 34 #[.val (.int p0), .val (.int p1), .val (.int p2), .val (.int p3), .val (.int p4), .val (.int t1), .val (.int t2), .unset, .unset, .unset, .unset, .unset, .unset, .unset, .unset, .unset] [(.int p1)])) _
      have w0 : (own_i ((p4 &&& (2 : Int32)) = (0 : Int32)) p1 p0) = p1 := by unfold own_i; exact if_pos hc26
      replace q := Eq.mp (congrArg (fun z => Steps p.tables e below (s₁.setTop (mkF m 34 #[.val (.int p0), .val (.int p1), .val (.int p2), .val (.int p3), .val (.int p4), .val (.int t1), .val (.int t2), .unset, .unset, .unset, .unset, .unset, .unset, .unset, .unset, .unset] [(.int z)])) t) w0) q
      exact q
    · refine XS.ifNo X0.here hx rfl (hb hby at_26) rfl ((if0 _ _).trans (feq hc26).1) ?_
      show Steps p.tables e below (s₁.setTop (mkF m 29 #[.val (.int p0), .val (.int p1), .val (.int p2), .val (.int p3), .val (.int p4), .val (.int t1), .val (.int t2), .unset, .unset, .unset, .unset, .unset, .unset, .unset, .unset, .unset] [])) _
      refine XS.iloadN X0.here hx rfl (hb hby at_29) rfl ?_
      show Steps p.tables e below (s₁.setTop (mkF m 30 #[.val (.int p0), .val (.int p1), .val (.int p2), .val (.int p3), .val (.int p4), .val (.int t1), .val (.int t2), .unset, .unset, .unset, .unset, .unset, .unset, .unset, .unset, .unset] [(.int p0)])) _
      refine XS.goto X0.here hx rfl (pc0 := 30) (pc' := 34) rfl (hb hby at_30) (by decide) (by decide) ?_
      show Steps p.tables e below (s₁.setTop (mkF m 34 #[.val (.int p0), .val (.int p1), .val (.int p2), .val (.int p3), .val (.int p4), .val (.int t1), .val (.int t2), .unset, .unset, .unset, .unset, .unset, .unset, .unset, .unset, .unset] [(.int p0)])) _
      have w0 : (own_i ((p4 &&& (2 : Int32)) = (0 : Int32)) p1 p0) = p0 := by unfold own_i; exact if_neg hc26
      replace q := Eq.mp (congrArg (fun z => Steps p.tables e below (s₁.setTop (mkF m 34 #[.val (.int p0), .val (.int p1), .val (.int p2), .val (.int p3), .val (.int p4), .val (.int t1), .val (.int t2), .unset, .unset, .unset, .unset, .unset, .unset, .unset, .unset, .unset] [(.int z)])) t) w0) q
      exact q
  obtain ⟨ot, e_ot⟩ : ∃ z, z = (own_i ((p4 &&& (2 : Int32)) = (0 : Int32)) p1 p0) := ⟨_, rfl⟩
  have k7_ : ∀ t, Steps p.tables e below (s₁.setTop (mkF m 34 #[.val (.int p0), .val (.int p1), .val (.int p2), .val (.int p3), .val (.int p4), .val (.int t1), .val (.int t2), .unset, .unset, .unset, .unset, .unset, .unset, .unset, .unset, .unset] [(.int ot)])) t → Steps p.tables e below (s₁.setTop (mkF m 0 #[.val (.int p0), .val (.int p1), .val (.int p2), .val (.int p3), .val (.int p4), .unset, .unset, .unset, .unset, .unset, .unset, .unset, .unset, .unset, .unset, .unset] [])) t := by rw [e_ot]; exact k6_
  have k8_ : ∀ t, Steps p.tables e below (s₁.setTop (mkF m 36 #[.val (.int p0), .val (.int p1), .val (.int p2), .val (.int p3), .val (.int p4), .val (.int t1), .val (.int t2), .val (.int ot), .unset, .unset, .unset, .unset, .unset, .unset, .unset, .unset] [])) t → Steps p.tables e below (s₁.setTop (mkF m 0 #[.val (.int p0), .val (.int p1), .val (.int p2), .val (.int p3), .val (.int p4), .unset, .unset, .unset, .unset, .unset, .unset, .unset, .unset, .unset, .unset, .unset] [])) t := by
    intro t q
    refine k7_ _ ?_
    show Steps p.tables e below (s₁.setTop (mkF m 34 #[.val (.int p0), .val (.int p1), .val (.int p2), .val (.int p3), .val (.int p4), .val (.int t1), .val (.int t2), .unset, .unset, .unset, .unset, .unset, .unset, .unset, .unset, .unset] [(.int ot)])) _
    refine XS.istore X0.here hx rfl (hb hby at_34) rfl (l' := #[.val (.int p0), .val (.int p1), .val (.int p2), .val (.int p3), .val (.int p4), .val (.int t1), .val (.int t2), .val (.int ot), .unset, .unset, .unset, .unset, .unset, .unset, .unset, .unset]) rfl ?_
    show Steps p.tables e below (s₁.setTop (mkF m 36 #[.val (.int p0), .val (.int p1), .val (.int p2), .val (.int p3), .val (.int p4), .val (.int t1), .val (.int t2), .val (.int ot), .unset, .unset, .unset, .unset, .unset, .unset, .unset, .unset] [])) _
    exact q
  obtain ⟨T9, h9, X9, e9, E9, A9, D9, -, st9⟩ := newO X0 hx hZ hown (hw _ (List.mem_of_getElem? (i := 0) rfl)) (hw _ (List.mem_of_getElem? (i := 1) rfl)) (hw _ (List.mem_of_getElem? (i := 2) rfl)) e0 (g := (mkF m 36 #[.val (.int p0), .val (.int p1), .val (.int p2), .val (.int p3), .val (.int p4), .val (.int t1), .val (.int t2), .val (.int ot), .unset, .unset, .unset, .unset, .unset, .unset, .unset, .unset] [])) rfl (hb hby at_36) (by decide) (by decide)
  obtain ⟨b9, g9⟩ : ∃ z, z = h0.size := ⟨_, rfl⟩
  rw [← g9] at A9 D9 st9
  have k10_ : ∀ t, Steps p.tables e below (T9.setTop (mkF m 39 #[.val (.int p0), .val (.int p1), .val (.int p2), .val (.int p3), .val (.int p4), .val (.int t1), .val (.int t2), .val (.int ot), .unset, .unset, .unset, .unset, .unset, .unset, .unset, .unset] [(.ref b9)])) t → Steps p.tables e below (s₁.setTop (mkF m 0 #[.val (.int p0), .val (.int p1), .val (.int p2), .val (.int p3), .val (.int p4), .unset, .unset, .unset, .unset, .unset, .unset, .unset, .unset, .unset, .unset, .unset] [])) t := fun t q => k8_ t (st9 t q)
  have g_b9 : n0 ≤ b9 := Nat.le_trans Zn (Nat.le_of_eq g9.symm)
  replace Zn := Nat.le_trans Zn E9.1
  have F_task_b9 : Fld Z h9 b9 "com/example/weir/weir/strategy/PlacedJoins$Neighbour" "task" "I" (.int (0 : Int32)) := D9 (Or.inr (hw _ (List.mem_of_getElem? (i := 15) rfl))) (ty := .int) (by decide)
  have F_traffic_b9 : Fld Z h9 b9 "com/example/weir/weir/strategy/PlacedJoins$Neighbour" "traffic" "D" (.double 0) := D9 (Or.inr (hw _ (List.mem_of_getElem? (i := 17) rfl))) (ty := .double) (by decide)
  have k11_ : ∀ t, Steps p.tables e below (T9.setTop (mkF m 44 #[.val (.int p0), .val (.int p1), .val (.int p2), .val (.int p3), .val (.int p4), .val (.int t1), .val (.int t2), .val (.int ot), .unset, .unset, .unset, .unset, .unset, .unset, .unset, .unset] [(.double (FP.l2d (t1.toInt64))), (.int p0), (.ref b9), (.ref b9)])) t → Steps p.tables e below (s₁.setTop (mkF m 0 #[.val (.int p0), .val (.int p1), .val (.int p2), .val (.int p3), .val (.int p4), .unset, .unset, .unset, .unset, .unset, .unset, .unset, .unset, .unset, .unset, .unset] [])) t := by
    intro t q
    refine k10_ _ ?_
    show Steps p.tables e below (T9.setTop (mkF m 39 #[.val (.int p0), .val (.int p1), .val (.int p2), .val (.int p3), .val (.int p4), .val (.int t1), .val (.int t2), .val (.int ot), .unset, .unset, .unset, .unset, .unset, .unset, .unset, .unset] [(.ref b9)])) _
    refine XS.dup X9.here hx rfl (hb hby at_39) rfl rfl ?_
    show Steps p.tables e below (T9.setTop (mkF m 40 #[.val (.int p0), .val (.int p1), .val (.int p2), .val (.int p3), .val (.int p4), .val (.int t1), .val (.int t2), .val (.int ot), .unset, .unset, .unset, .unset, .unset, .unset, .unset, .unset] [(.ref b9), (.ref b9)])) _
    refine XS.iloadN X9.here hx rfl (hb hby at_40) rfl ?_
    show Steps p.tables e below (T9.setTop (mkF m 41 #[.val (.int p0), .val (.int p1), .val (.int p2), .val (.int p3), .val (.int p4), .val (.int t1), .val (.int t2), .val (.int ot), .unset, .unset, .unset, .unset, .unset, .unset, .unset, .unset] [(.int p0), (.ref b9), (.ref b9)])) _
    refine XS.iload X9.here hx rfl (hb hby at_41) rfl ?_
    show Steps p.tables e below (T9.setTop (mkF m 43 #[.val (.int p0), .val (.int p1), .val (.int p2), .val (.int p3), .val (.int p4), .val (.int t1), .val (.int t2), .val (.int ot), .unset, .unset, .unset, .unset, .unset, .unset, .unset, .unset] [(.int t1), (.int p0), (.ref b9), (.ref b9)])) _
    refine XS.i2dS X9.here hx rfl (hb hby at_43) rfl (v := FP.l2d (t1.toInt64)) (i2d_w _) ?_
    show Steps p.tables e below (T9.setTop (mkF m 44 #[.val (.int p0), .val (.int p1), .val (.int p2), .val (.int p3), .val (.int p4), .val (.int t1), .val (.int t2), .val (.int ot), .unset, .unset, .unset, .unset, .unset, .unset, .unset, .unset] [(.double (FP.l2d (t1.toInt64))), (.int p0), (.ref b9), (.ref b9)])) _
    exact q
  obtain ⟨_, _, ⟨T12, L12, kk12, n12⟩, -, X12, ⟨Lc12, hQ12, l12, y12, z12⟩, st12⟩ := X9.specialBack hx (y := (⟨"com/example/weir/weir/strategy/PlacedJoins$Neighbour", "<init>", "(ID)V"⟩ : MethodName)) rfl hown (mvT hZ (hw _ (List.mem_of_getElem? (i := 3) rfl))) (mvT hZ (hw _ (List.mem_of_getElem? (i := 4) rfl))) (mvT hZ (hw _ (List.mem_of_getElem? (i := 5) rfl))) (by decide) (backOf (W := 1) (rmI l Z a0 hw [] b9 p0 (FP.l2d (t1.toInt64)) h9 n0 Zn A9 F_task_b9 F_traffic_b9 g_b9) hZ (hw _ (List.mem_of_getElem? (i := 5) rfl)) (hw _ (List.mem_of_getElem? (i := 2) rfl)) (by decide) (by decide)) (g := (mkF m 44 #[.val (.int p0), .val (.int p1), .val (.int p2), .val (.int p3), .val (.int p4), .val (.int t1), .val (.int t2), .val (.int ot), .unset, .unset, .unset, .unset, .unset, .unset, .unset, .unset] [(.double (FP.l2d (t1.toInt64))), (.int p0), (.ref b9), (.ref b9)])) rfl (by rw [hml]; rfl) (Steps.refl _) (a := b9) (argsL := [(.int p0), (.double (FP.l2d (t1.toInt64)))]) (rest := [(.ref b9)]) (lenOf pd_85628 rfl) rfl (by show 2 * 0 + _ ≤ _; exact Nat.le_of_eq rfl) (hb hby at_44) (fun _ _ => ⟨rfl, e9, (by decide : 0 + 1 + 0 ≤ _), (by decide : 0 + 2 + 0 ≤ _)⟩)
  dsimp only [Pt.U, Pt.locs, Pt.cells, Pt.slots] at X12 l12 y12 z12 st12 hQ12
  subst l12 y12 z12
  obtain ⟨rfl, Nq12, KI9, EI9, F19, F29⟩ := hQ12
  have N12 := Fr.app N0 Nq12
  have k13_ : ∀ t, Steps p.tables e below (T12.setTop (mkF m 47 #[.val (.int p0), .val (.int p1), .val (.int p2), .val (.int p3), .val (.int p4), .val (.int t1), .val (.int t2), .val (.int ot), .unset, .unset, .unset, .unset, .unset, .unset, .unset, .unset] [(.ref b9)])) t → Steps p.tables e below (s₁.setTop (mkF m 0 #[.val (.int p0), .val (.int p1), .val (.int p2), .val (.int p3), .val (.int p4), .unset, .unset, .unset, .unset, .unset, .unset, .unset, .unset, .unset, .unset, .unset] [])) t := fun t q => k11_ t (st12.trans q)
  replace Zn := Nat.le_trans Zn KI9.1
  have k14_ : ∀ t, Steps p.tables e below (T12.setTop (mkF m 49 #[.val (.int p0), .val (.int p1), .val (.int p2), .val (.int p3), .val (.int p4), .val (.int t1), .val (.int t2), .val (.int ot), .val (.ref b9), .unset, .unset, .unset, .unset, .unset, .unset, .unset] [])) t → Steps p.tables e below (s₁.setTop (mkF m 0 #[.val (.int p0), .val (.int p1), .val (.int p2), .val (.int p3), .val (.int p4), .unset, .unset, .unset, .unset, .unset, .unset, .unset, .unset, .unset, .unset, .unset] [])) t := by
    intro t q
    refine k13_ _ ?_
    show Steps p.tables e below (T12.setTop (mkF m 47 #[.val (.int p0), .val (.int p1), .val (.int p2), .val (.int p3), .val (.int p4), .val (.int t1), .val (.int t2), .val (.int ot), .unset, .unset, .unset, .unset, .unset, .unset, .unset, .unset] [(.ref b9)])) _
    refine XS.astore X12.here hx rfl (hb hby at_47) rfl rfl (l' := #[.val (.int p0), .val (.int p1), .val (.int p2), .val (.int p3), .val (.int p4), .val (.int t1), .val (.int t2), .val (.int ot), .val (.ref b9), .unset, .unset, .unset, .unset, .unset, .unset, .unset]) rfl ?_
    show Steps p.tables e below (T12.setTop (mkF m 49 #[.val (.int p0), .val (.int p1), .val (.int p2), .val (.int p3), .val (.int p4), .val (.int t1), .val (.int t2), .val (.int ot), .val (.ref b9), .unset, .unset, .unset, .unset, .unset, .unset, .unset] [])) _
    exact q
  obtain ⟨T15, h15, X15, e15, E15, A15, D15, -, st15⟩ := newO X12 hx hZ hown (hw _ (List.mem_of_getElem? (i := 0) rfl)) (hw _ (List.mem_of_getElem? (i := 1) rfl)) (hw _ (List.mem_of_getElem? (i := 2) rfl)) rfl (g := (mkF m 49 #[.val (.int p0), .val (.int p1), .val (.int p2), .val (.int p3), .val (.int p4), .val (.int t1), .val (.int t2), .val (.int ot), .val (.ref b9), .unset, .unset, .unset, .unset, .unset, .unset, .unset] [])) rfl (hb hby at_49) (by decide) (by decide)
  obtain ⟨b15, g15⟩ : ∃ z, z = T12.heap.size := ⟨_, rfl⟩
  rw [← g15] at A15 D15 st15
  have k16_ : ∀ t, Steps p.tables e below (T15.setTop (mkF m 52 #[.val (.int p0), .val (.int p1), .val (.int p2), .val (.int p3), .val (.int p4), .val (.int t1), .val (.int t2), .val (.int ot), .val (.ref b9), .unset, .unset, .unset, .unset, .unset, .unset, .unset] [(.ref b15)])) t → Steps p.tables e below (s₁.setTop (mkF m 0 #[.val (.int p0), .val (.int p1), .val (.int p2), .val (.int p3), .val (.int p4), .unset, .unset, .unset, .unset, .unset, .unset, .unset, .unset, .unset, .unset, .unset] [])) t := fun t q => k14_ t (st15 t q)
  have ne_b9_b15 : b9 ≠ b15 := Nat.ne_of_lt (Nat.lt_of_lt_of_le EI9.lt (Nat.le_of_eq g15.symm))
  have g_b15 : n0 ≤ b15 := Nat.le_trans Zn (Nat.le_of_eq g15.symm)
  replace Zn := Nat.le_trans Zn E15.1
  replace EI9 := EI9.ext E15
  replace F19 := F19.ext E15
  replace F29 := F29.ext E15
  have F_task_b15 : Fld Z h15 b15 "com/example/weir/weir/strategy/PlacedJoins$Neighbour" "task" "I" (.int (0 : Int32)) := D15 (Or.inr (hw _ (List.mem_of_getElem? (i := 15) rfl))) (ty := .int) (by decide)
  have F_traffic_b15 : Fld Z h15 b15 "com/example/weir/weir/strategy/PlacedJoins$Neighbour" "traffic" "D" (.double 0) := D15 (Or.inr (hw _ (List.mem_of_getElem? (i := 17) rfl))) (ty := .double) (by decide)
  have k17_ : ∀ t, Steps p.tables e below (T15.setTop (mkF m 58 #[.val (.int p0), .val (.int p1), .val (.int p2), .val (.int p3), .val (.int p4), .val (.int t1), .val (.int t2), .val (.int ot), .val (.ref b9), .unset, .unset, .unset, .unset, .unset, .unset, .unset] [(.double (FP.l2d (t2.toInt64))), (.int ot), (.ref b15), (.ref b15)])) t → Steps p.tables e below (s₁.setTop (mkF m 0 #[.val (.int p0), .val (.int p1), .val (.int p2), .val (.int p3), .val (.int p4), .unset, .unset, .unset, .unset, .unset, .unset, .unset, .unset, .unset, .unset, .unset] [])) t := by
    intro t q
    refine k16_ _ ?_
    show Steps p.tables e below (T15.setTop (mkF m 52 #[.val (.int p0), .val (.int p1), .val (.int p2), .val (.int p3), .val (.int p4), .val (.int t1), .val (.int t2), .val (.int ot), .val (.ref b9), .unset, .unset, .unset, .unset, .unset, .unset, .unset] [(.ref b15)])) _
    refine XS.dup X15.here hx rfl (hb hby at_52) rfl rfl ?_
    show Steps p.tables e below (T15.setTop (mkF m 53 #[.val (.int p0), .val (.int p1), .val (.int p2), .val (.int p3), .val (.int p4), .val (.int t1), .val (.int t2), .val (.int ot), .val (.ref b9), .unset, .unset, .unset, .unset, .unset, .unset, .unset] [(.ref b15), (.ref b15)])) _
    refine XS.iload X15.here hx rfl (hb hby at_53) rfl ?_
    show Steps p.tables e below (T15.setTop (mkF m 55 #[.val (.int p0), .val (.int p1), .val (.int p2), .val (.int p3), .val (.int p4), .val (.int t1), .val (.int t2), .val (.int ot), .val (.ref b9), .unset, .unset, .unset, .unset, .unset, .unset, .unset] [(.int ot), (.ref b15), (.ref b15)])) _
    refine XS.iload X15.here hx rfl (hb hby at_55) rfl ?_
    show Steps p.tables e below (T15.setTop (mkF m 57 #[.val (.int p0), .val (.int p1), .val (.int p2), .val (.int p3), .val (.int p4), .val (.int t1), .val (.int t2), .val (.int ot), .val (.ref b9), .unset, .unset, .unset, .unset, .unset, .unset, .unset] [(.int t2), (.int ot), (.ref b15), (.ref b15)])) _
    refine XS.i2dS X15.here hx rfl (hb hby at_57) rfl (v := FP.l2d (t2.toInt64)) (i2d_w _) ?_
    show Steps p.tables e below (T15.setTop (mkF m 58 #[.val (.int p0), .val (.int p1), .val (.int p2), .val (.int p3), .val (.int p4), .val (.int t1), .val (.int t2), .val (.int ot), .val (.ref b9), .unset, .unset, .unset, .unset, .unset, .unset, .unset] [(.double (FP.l2d (t2.toInt64))), (.int ot), (.ref b15), (.ref b15)])) _
    exact q
  obtain ⟨_, _, ⟨T18, L18, kk18, n18⟩, -, X18, ⟨Lc18, hQ18, l18, y18, z18⟩, st18⟩ := X15.specialBack hx (y := (⟨"com/example/weir/weir/strategy/PlacedJoins$Neighbour", "<init>", "(ID)V"⟩ : MethodName)) rfl hown (mvT hZ (hw _ (List.mem_of_getElem? (i := 3) rfl))) (mvT hZ (hw _ (List.mem_of_getElem? (i := 4) rfl))) (mvT hZ (hw _ (List.mem_of_getElem? (i := 5) rfl))) (by decide) (backOf (W := 1) (rmI l Z a0 hw [] b15 ot (FP.l2d (t2.toInt64)) h15 n0 Zn A15 F_task_b15 F_traffic_b15 g_b15) hZ (hw _ (List.mem_of_getElem? (i := 5) rfl)) (hw _ (List.mem_of_getElem? (i := 2) rfl)) (by decide) (by decide)) (g := (mkF m 58 #[.val (.int p0), .val (.int p1), .val (.int p2), .val (.int p3), .val (.int p4), .val (.int t1), .val (.int t2), .val (.int ot), .val (.ref b9), .unset, .unset, .unset, .unset, .unset, .unset, .unset] [(.double (FP.l2d (t2.toInt64))), (.int ot), (.ref b15), (.ref b15)])) rfl (by rw [hml]; rfl) (Steps.refl _) (a := b15) (argsL := [(.int ot), (.double (FP.l2d (t2.toInt64)))]) (rest := [(.ref b15)]) (lenOf pd_85628 rfl) rfl (by show 2 * 0 + _ ≤ _; exact Nat.le_of_eq rfl) (hb hby at_58) (fun _ _ => ⟨rfl, e15, (by decide : 0 + 1 + 0 + 1 + 0 ≤ _), (by decide : 0 + 2 + 0 + 2 + 0 ≤ _)⟩)
  dsimp only [Pt.U, Pt.locs, Pt.cells, Pt.slots] at X18 l18 y18 z18 st18 hQ18
  subst l18 y18 z18
  obtain ⟨rfl, Nq18, KI15, EI15, F115, F215⟩ := hQ18
  have N18 := Fr.app N12 Nq18
  have k19_ : ∀ t, Steps p.tables e below (T18.setTop (mkF m 61 #[.val (.int p0), .val (.int p1), .val (.int p2), .val (.int p3), .val (.int p4), .val (.int t1), .val (.int t2), .val (.int ot), .val (.ref b9), .unset, .unset, .unset, .unset, .unset, .unset, .unset] [(.ref b15)])) t → Steps p.tables e below (s₁.setTop (mkF m 0 #[.val (.int p0), .val (.int p1), .val (.int p2), .val (.int p3), .val (.int p4), .unset, .unset, .unset, .unset, .unset, .unset, .unset, .unset, .unset, .unset, .unset] [])) t := fun t q => k17_ t (st18.trans q)
  replace EI9 := EI9.keep KI15
  replace F19 := F19.keep KI15 (ninS ne_b9_b15 nin0)
  replace F29 := F29.keep KI15 (ninS ne_b9_b15 nin0)
  replace Zn := Nat.le_trans Zn KI15.1
  have k20_ : ∀ t, Steps p.tables e below (T18.setTop (mkF m 67 #[.val (.int p0), .val (.int p1), .val (.int p2), .val (.int p3), .val (.int p4), .val (.int t1), .val (.int t2), .val (.int ot), .val (.ref b9), .val (.ref b15), .unset, .unset, .unset, .unset, .unset, .unset] [(.ref b15), (.ref b9)])) t → Steps p.tables e below (s₁.setTop (mkF m 0 #[.val (.int p0), .val (.int p1), .val (.int p2), .val (.int p3), .val (.int p4), .unset, .unset, .unset, .unset, .unset, .unset, .unset, .unset, .unset, .unset, .unset] [])) t := by
    intro t q
    refine k19_ _ ?_
    show Steps p.tables e below (T18.setTop (mkF m 61 #[.val (.int p0), .val (.int p1), .val (.int p2), .val (.int p3), .val (.int p4), .val (.int t1), .val (.int t2), .val (.int ot), .val (.ref b9), .unset, .unset, .unset, .unset, .unset, .unset, .unset] [(.ref b15)])) _
    refine XS.astore X18.here hx rfl (hb hby at_61) rfl rfl (l' := #[.val (.int p0), .val (.int p1), .val (.int p2), .val (.int p3), .val (.int p4), .val (.int t1), .val (.int t2), .val (.int ot), .val (.ref b9), .val (.ref b15), .unset, .unset, .unset, .unset, .unset, .unset]) rfl ?_
    show Steps p.tables e below (T18.setTop (mkF m 63 #[.val (.int p0), .val (.int p1), .val (.int p2), .val (.int p3), .val (.int p4), .val (.int t1), .val (.int t2), .val (.int ot), .val (.ref b9), .val (.ref b15), .unset, .unset, .unset, .unset, .unset, .unset] [])) _
    refine XS.aload X18.here hx rfl (hb hby at_63) rfl rfl ?_
    show Steps p.tables e below (T18.setTop (mkF m 65 #[.val (.int p0), .val (.int p1), .val (.int p2), .val (.int p3), .val (.int p4), .val (.int t1), .val (.int t2), .val (.int ot), .val (.ref b9), .val (.ref b15), .unset, .unset, .unset, .unset, .unset, .unset] [(.ref b9)])) _
    refine XS.aload X18.here hx rfl (hb hby at_65) rfl rfl ?_
    show Steps p.tables e below (T18.setTop (mkF m 67 #[.val (.int p0), .val (.int p1), .val (.int p2), .val (.int p3), .val (.int p4), .val (.int t1), .val (.int t2), .val (.int ot), .val (.ref b9), .val (.ref b15), .unset, .unset, .unset, .unset, .unset, .unset] [(.ref b15), (.ref b9)])) _
    exact q
  obtain ⟨cq21, kq21, q21a, q21b, q21c⟩ := isOf hZ rfl EI9
  obtain ⟨_, _, ⟨T21, L21, kk21, n21⟩, -, X21, ⟨Lc21, hQ21, l21, y21, z21⟩, st21⟩ := X18.virtualBack hx (y := (⟨"com/example/weir/weir/strategy/PlacedJoins$Neighbour", "heavierThan", "(Lcom/example/weir/weir/strategy/PlacedJoins$Neighbour;)Z"⟩ : MethodName)) (z := (⟨"com/example/weir/weir/strategy/PlacedJoins$Neighbour", "heavierThan", "(Lcom/example/weir/weir/strategy/PlacedJoins$Neighbour;)Z"⟩ : MethodName)) hown (mvT hZ (hw _ (List.mem_of_getElem? (i := 18) rfl))) (mvT hZ (hw _ (List.mem_of_getElem? (i := 19) rfl))) (notFace_of_selects (args := #[]) (mvT hZ (hw _ (List.mem_of_getElem? (i := 21) rfl)))) (mvT hZ (hw _ (List.mem_of_getElem? (i := 21) rfl))) (mvT hZ (hw _ (List.mem_of_getElem? (i := 20) rfl))) (by decide) (backOf (W := 0) (rmH l Z a0 hw [] b9 b15 p0 ot (t1.toInt64) (t2.toInt64) T18.heap n0 Zn F19 F29 F115 F215 (own_b53 t1) (own_b53 t2)) hZ (hw _ (List.mem_of_getElem? (i := 22) rfl)) (hw _ (List.mem_of_getElem? (i := 2) rfl)) (by decide) (by decide)) q21a q21c (g := (mkF m 67 #[.val (.int p0), .val (.int p1), .val (.int p2), .val (.int p3), .val (.int p4), .val (.int t1), .val (.int t2), .val (.int ot), .val (.ref b9), .val (.ref b15), .unset, .unset, .unset, .unset, .unset, .unset] [(.ref b15), (.ref b9)])) rfl (by rw [hml]; rfl) (Steps.refl _) (argsL := [(.ref b15)]) (rest := []) (lenOf pd_87179 rfl) rfl (by show 2 * 0 + _ ≤ _; exact Nat.le_of_eq rfl) (hb hby at_67) (fun _ _ => ⟨rfl, rfl, (by decide : 0 + 1 + 0 + 1 + 0 + 0 ≤ _), (by decide : 0 + 2 + 0 + 2 + 0 + 0 ≤ _)⟩)
  dsimp only [Pt.U, Pt.locs, Pt.cells, Pt.slots] at X21 l21 y21 z21 st21 hQ21
  subst l21 y21 z21
  obtain ⟨rfl, Nq21, hq21⟩ := hQ21
  have N21 := Fr.app N18 Nq21
  have k22_ : ∀ t, Steps p.tables e below (T21.setTop (mkF m 70 #[.val (.int p0), .val (.int p1), .val (.int p2), .val (.int p3), .val (.int p4), .val (.int t1), .val (.int t2), .val (.int ot), .val (.ref b9), .val (.ref b15), .unset, .unset, .unset, .unset, .unset, .unset] [(.int (own_hv p0 ot (t1.toInt64) (t2.toInt64)))])) t → Steps p.tables e below (s₁.setTop (mkF m 0 #[.val (.int p0), .val (.int p1), .val (.int p2), .val (.int p3), .val (.int p4), .unset, .unset, .unset, .unset, .unset, .unset, .unset, .unset, .unset, .unset, .unset] [])) t := fun t q => k20_ t (st21.trans q)
  have k23_ : ∀ t, Steps p.tables e below (T21.setTop (mkF m 74 #[.val (.int p0), .val (.int p1), .val (.int p2), .val (.int p3), .val (.int p4), .val (.int t1), .val (.int t2), .val (.int ot), .val (.ref b9), .val (.ref b15), .val (.int (own_hv p0 ot (t1.toInt64) (t2.toInt64))), .unset, .unset, .unset, .unset, .unset] [(.int ot)])) t → Steps p.tables e below (s₁.setTop (mkF m 0 #[.val (.int p0), .val (.int p1), .val (.int p2), .val (.int p3), .val (.int p4), .unset, .unset, .unset, .unset, .unset, .unset, .unset, .unset, .unset, .unset, .unset] [])) t := by
    intro t q
    refine k22_ _ ?_
    show Steps p.tables e below (T21.setTop (mkF m 70 #[.val (.int p0), .val (.int p1), .val (.int p2), .val (.int p3), .val (.int p4), .val (.int t1), .val (.int t2), .val (.int ot), .val (.ref b9), .val (.ref b15), .unset, .unset, .unset, .unset, .unset, .unset] [(.int (own_hv p0 ot (t1.toInt64) (t2.toInt64)))])) _
    refine XS.istore X21.here hx rfl (hb hby at_70) rfl (l' := #[.val (.int p0), .val (.int p1), .val (.int p2), .val (.int p3), .val (.int p4), .val (.int t1), .val (.int t2), .val (.int ot), .val (.ref b9), .val (.ref b15), .val (.int (own_hv p0 ot (t1.toInt64) (t2.toInt64))), .unset, .unset, .unset, .unset, .unset]) rfl ?_
    show Steps p.tables e below (T21.setTop (mkF m 72 #[.val (.int p0), .val (.int p1), .val (.int p2), .val (.int p3), .val (.int p4), .val (.int t1), .val (.int t2), .val (.int ot), .val (.ref b9), .val (.ref b15), .val (.int (own_hv p0 ot (t1.toInt64) (t2.toInt64))), .unset, .unset, .unset, .unset, .unset] [])) _
    refine XS.iload X21.here hx rfl (hb hby at_72) rfl ?_
    show Steps p.tables e below (T21.setTop (mkF m 74 #[.val (.int p0), .val (.int p1), .val (.int p2), .val (.int p3), .val (.int p4), .val (.int t1), .val (.int t2), .val (.int ot), .val (.ref b9), .val (.ref b15), .val (.int (own_hv p0 ot (t1.toInt64) (t2.toInt64))), .unset, .unset, .unset, .unset, .unset] [(.int ot)])) _
    exact q
  by_cases hot : ot < (0 : Int32)
  · have k24_ : ∀ t, Steps p.tables e below (T21.setTop (mkF m 77 #[.val (.int p0), .val (.int p1), .val (.int p2), .val (.int p3), .val (.int p4), .val (.int t1), .val (.int t2), .val (.int ot), .val (.ref b9), .val (.ref b15), .val (.int (own_hv p0 ot (t1.toInt64) (t2.toInt64))), .unset, .unset, .unset, .unset, .unset] [])) t → Steps p.tables e below (s₁.setTop (mkF m 0 #[.val (.int p0), .val (.int p1), .val (.int p2), .val (.int p3), .val (.int p4), .unset, .unset, .unset, .unset, .unset, .unset, .unset, .unset, .unset, .unset, .unset] [])) t := by
      intro t q
      refine k23_ _ ?_
      show Steps p.tables e below (T21.setTop (mkF m 74 #[.val (.int p0), .val (.int p1), .val (.int p2), .val (.int p3), .val (.int p4), .val (.int t1), .val (.int t2), .val (.int ot), .val (.ref b9), .val (.ref b15), .val (.int (own_hv p0 ot (t1.toInt64) (t2.toInt64))), .unset, .unset, .unset, .unset, .unset] [(.int ot)])) _
      refine XS.ifNo X21.here hx rfl (hb hby at_74) rfl ((if0 _ _).trans (tlt hot).2.1) ?_
      show Steps p.tables e below (T21.setTop (mkF m 77 #[.val (.int p0), .val (.int p1), .val (.int p2), .val (.int p3), .val (.int p4), .val (.int t1), .val (.int t2), .val (.int ot), .val (.ref b9), .val (.ref b15), .val (.int (own_hv p0 ot (t1.toInt64) (t2.toInt64))), .unset, .unset, .unset, .unset, .unset] [])) _
      exact q
    have k25_ : ∀ t, Steps p.tables e below (T21.setTop (mkF m 125 #[.val (.int p0), .val (.int p1), .val (.int p2), .val (.int p3), .val (.int p4), .val (.int t1), .val (.int t2), .val (.int ot), .val (.ref b9), .val (.ref b15), .val (.int (own_hv p0 ot (t1.toInt64) (t2.toInt64))), .val (.int (1 : Int32)), .unset, .unset, .unset, .unset] [(.int (1 : Int32)), (.int (own_hv p0 ot (t1.toInt64) (t2.toInt64)))])) t → Steps p.tables e below (s₁.setTop (mkF m 0 #[.val (.int p0), .val (.int p1), .val (.int p2), .val (.int p3), .val (.int p4), .unset, .unset, .unset, .unset, .unset, .unset, .unset, .unset, .unset, .unset, .unset] [])) t := by
      intro t q
      refine k24_ _ ?_
      show Steps p.tables e below (T21.setTop (mkF m 77 #[.val (.int p0), .val (.int p1), .val (.int p2), .val (.int p3), .val (.int p4), .val (.int t1), .val (.int t2), .val (.int ot), .val (.ref b9), .val (.ref b15), .val (.int (own_hv p0 ot (t1.toInt64) (t2.toInt64))), .unset, .unset, .unset, .unset, .unset] [])) _
      refine XS.iconst X21.here hx rfl (hb hby at_77) ?_
      show Steps p.tables e below (T21.setTop (mkF m 78 #[.val (.int p0), .val (.int p1), .val (.int p2), .val (.int p3), .val (.int p4), .val (.int t1), .val (.int t2), .val (.int ot), .val (.ref b9), .val (.ref b15), .val (.int (own_hv p0 ot (t1.toInt64) (t2.toInt64))), .unset, .unset, .unset, .unset, .unset] [(.int (1 : Int32))])) _
      refine XS.istore X21.here hx rfl (hb hby at_78) rfl (l' := #[.val (.int p0), .val (.int p1), .val (.int p2), .val (.int p3), .val (.int p4), .val (.int t1), .val (.int t2), .val (.int ot), .val (.ref b9), .val (.ref b15), .val (.int (own_hv p0 ot (t1.toInt64) (t2.toInt64))), .val (.int (1 : Int32)), .unset, .unset, .unset, .unset]) rfl ?_
      show Steps p.tables e below (T21.setTop (mkF m 80 #[.val (.int p0), .val (.int p1), .val (.int p2), .val (.int p3), .val (.int p4), .val (.int t1), .val (.int t2), .val (.int ot), .val (.ref b9), .val (.ref b15), .val (.int (own_hv p0 ot (t1.toInt64) (t2.toInt64))), .val (.int (1 : Int32)), .unset, .unset, .unset, .unset] [])) _
      refine XS.goto X21.here hx rfl (pc0 := 80) (pc' := 121) rfl (hb hby at_80) (by decide) (by decide) ?_
      show Steps p.tables e below (T21.setTop (mkF m 121 #[.val (.int p0), .val (.int p1), .val (.int p2), .val (.int p3), .val (.int p4), .val (.int t1), .val (.int t2), .val (.int ot), .val (.ref b9), .val (.ref b15), .val (.int (own_hv p0 ot (t1.toInt64) (t2.toInt64))), .val (.int (1 : Int32)), .unset, .unset, .unset, .unset] [])) _
      refine XS.iload X21.here hx rfl (hb hby at_121) rfl ?_
      show Steps p.tables e below (T21.setTop (mkF m 123 #[.val (.int p0), .val (.int p1), .val (.int p2), .val (.int p3), .val (.int p4), .val (.int t1), .val (.int t2), .val (.int ot), .val (.ref b9), .val (.ref b15), .val (.int (own_hv p0 ot (t1.toInt64) (t2.toInt64))), .val (.int (1 : Int32)), .unset, .unset, .unset, .unset] [(.int (own_hv p0 ot (t1.toInt64) (t2.toInt64)))])) _
      refine XS.iload X21.here hx rfl (hb hby at_123) rfl ?_
      show Steps p.tables e below (T21.setTop (mkF m 125 #[.val (.int p0), .val (.int p1), .val (.int p2), .val (.int p3), .val (.int p4), .val (.int t1), .val (.int t2), .val (.int ot), .val (.ref b9), .val (.ref b15), .val (.int (own_hv p0 ot (t1.toInt64) (t2.toInt64))), .val (.int (1 : Int32)), .unset, .unset, .unset, .unset] [(.int (1 : Int32)), (.int (own_hv p0 ot (t1.toInt64) (t2.toInt64)))])) _
      exact q
    have k26_ : ∀ t, Steps p.tables e below (T21.setTop (mkF m 128 #[.val (.int p0), .val (.int p1), .val (.int p2), .val (.int p3), .val (.int p4), .val (.int t1), .val (.int t2), .val (.int ot), .val (.ref b9), .val (.ref b15), .val (.int (own_hv p0 ot (t1.toInt64) (t2.toInt64))), .val (.int (1 : Int32)), .unset, .unset, .unset, .unset] [])) t → Steps p.tables e below (s₁.setTop (mkF m 0 #[.val (.int p0), .val (.int p1), .val (.int p2), .val (.int p3), .val (.int p4), .unset, .unset, .unset, .unset, .unset, .unset, .unset, .unset, .unset, .unset, .unset] [])) t := by
      intro t q
      refine k25_ _ ?_
      show Steps p.tables e below (T21.setTop (mkF m 125 #[.val (.int p0), .val (.int p1), .val (.int p2), .val (.int p3), .val (.int p4), .val (.int t1), .val (.int t2), .val (.int ot), .val (.ref b9), .val (.ref b15), .val (.int (own_hv p0 ot (t1.toInt64) (t2.toInt64))), .val (.int (1 : Int32)), .unset, .unset, .unset, .unset] [(.int (1 : Int32)), (.int (own_hv p0 ot (t1.toInt64) (t2.toInt64)))])) _
      refine XS.icmpNo X21.here hx rfl (hb hby at_125) rfl (teq (by unfold own_hv; rw [if_pos hot])).2 ?_
      show Steps p.tables e below (T21.setTop (mkF m 128 #[.val (.int p0), .val (.int p1), .val (.int p2), .val (.int p3), .val (.int p4), .val (.int t1), .val (.int t2), .val (.int ot), .val (.ref b9), .val (.ref b15), .val (.int (own_hv p0 ot (t1.toInt64) (t2.toInt64))), .val (.int (1 : Int32)), .unset, .unset, .unset, .unset] [])) _
      exact q
    have k27_ : ∀ t, Steps p.tables e below (T21.setTop (mkF m 133 #[.val (.int p0), .val (.int p1), .val (.int p2), .val (.int p3), .val (.int p4), .val (.int t1), .val (.int t2), .val (.int ot), .val (.ref b9), .val (.ref b15), .val (.int (own_hv p0 ot (t1.toInt64) (t2.toInt64))), .val (.int (1 : Int32)), .unset, .unset, .unset, .unset] [(.int (1 : Int32))])) t → Steps p.tables e below (s₁.setTop (mkF m 0 #[.val (.int p0), .val (.int p1), .val (.int p2), .val (.int p3), .val (.int p4), .unset, .unset, .unset, .unset, .unset, .unset, .unset, .unset, .unset, .unset, .unset] [])) t := by
      intro t q
      refine k26_ _ ?_
      show Steps p.tables e below (T21.setTop (mkF m 128 #[.val (.int p0), .val (.int p1), .val (.int p2), .val (.int p3), .val (.int p4), .val (.int t1), .val (.int t2), .val (.int ot), .val (.ref b9), .val (.ref b15), .val (.int (own_hv p0 ot (t1.toInt64) (t2.toInt64))), .val (.int (1 : Int32)), .unset, .unset, .unset, .unset] [])) _
      refine XS.iconst X21.here hx rfl (hb hby at_128) ?_
      show Steps p.tables e below (T21.setTop (mkF m 129 #[.val (.int p0), .val (.int p1), .val (.int p2), .val (.int p3), .val (.int p4), .val (.int t1), .val (.int t2), .val (.int ot), .val (.ref b9), .val (.ref b15), .val (.int (own_hv p0 ot (t1.toInt64) (t2.toInt64))), .val (.int (1 : Int32)), .unset, .unset, .unset, .unset] [(.int (1 : Int32))])) _
      refine XS.goto X21.here hx rfl (pc0 := 129) (pc' := 133) rfl (hb hby at_129) (by decide) (by decide) ?_
      show Steps p.tables e below (T21.setTop (mkF m 133 #[.val (.int p0), .val (.int p1), .val (.int p2), .val (.int p3), .val (.int p4), .val (.int t1), .val (.int t2), .val (.int ot), .val (.ref b9), .val (.ref b15), .val (.int (own_hv p0 ot (t1.toInt64) (t2.toInt64))), .val (.int (1 : Int32)), .unset, .unset, .unset, .unset] [(.int (1 : Int32))])) _
      exact q
    obtain ⟨fs, hr, hrun, hended, hW, hsame⟩ := X21.leave (v := some (.int (1 : Int32))) (fun h => by rw [Bd.returns] at h; cases h)
    refine ⟨_, _, pre0 _ (k27_ _ ?_), hrun, hended, _, _, rfl, ?_, ⟨_, rfl⟩, hW, hsame.mono (by decide) (by decide)⟩
    · show Steps p.tables e below (T21.setTop (mkF m 133 #[.val (.int p0), .val (.int p1), .val (.int p2), .val (.int p3), .val (.int p4), .val (.int t1), .val (.int t2), .val (.int ot), .val (.ref b9), .val (.ref b15), .val (.int (own_hv p0 ot (t1.toInt64) (t2.toInt64))), .val (.int (1 : Int32)), .unset, .unset, .unset, .unset] [(.int (1 : Int32))])) _
      exact retN X21 hx (t := .boolean) Bd.returns (by simp) (hb hby at_133) hr
    · show Q0 Z p0 p1 p2 p3 p4 h0 n0 _ T21.heap _
      exact ⟨rfl, N21⟩
  · have k28_ : ∀ t, Steps p.tables e below (T21.setTop (mkF m 83 #[.val (.int p0), .val (.int p1), .val (.int p2), .val (.int p3), .val (.int p4), .val (.int t1), .val (.int t2), .val (.int ot), .val (.ref b9), .val (.ref b15), .val (.int (own_hv p0 ot (t1.toInt64) (t2.toInt64))), .unset, .unset, .unset, .unset, .unset] [])) t → Steps p.tables e below (s₁.setTop (mkF m 0 #[.val (.int p0), .val (.int p1), .val (.int p2), .val (.int p3), .val (.int p4), .unset, .unset, .unset, .unset, .unset, .unset, .unset, .unset, .unset, .unset, .unset] [])) t := by
      intro t q
      refine k23_ _ ?_
      show Steps p.tables e below (T21.setTop (mkF m 74 #[.val (.int p0), .val (.int p1), .val (.int p2), .val (.int p3), .val (.int p4), .val (.int t1), .val (.int t2), .val (.int ot), .val (.ref b9), .val (.ref b15), .val (.int (own_hv p0 ot (t1.toInt64) (t2.toInt64))), .unset, .unset, .unset, .unset, .unset] [(.int ot)])) _
      refine XS.ifYes X21.here hx rfl (pc0 := 74) (pc' := 83) rfl (hb hby at_74) rfl ((if0 _ _).trans (flt hot).2.1) (by decide) (by decide) ?_
      show Steps p.tables e below (T21.setTop (mkF m 83 #[.val (.int p0), .val (.int p1), .val (.int p2), .val (.int p3), .val (.int p4), .val (.int t1), .val (.int t2), .val (.int ot), .val (.ref b9), .val (.ref b15), .val (.int (own_hv p0 ot (t1.toInt64) (t2.toInt64))), .unset, .unset, .unset, .unset, .unset] [])) _
      exact q
    have k29_ : ∀ t, Steps p.tables e below (T21.setTop (mkF m 111 #[.val (.int p0), .val (.int p1), .val (.int p2), .val (.int p3), .val (.int p4), .val (.int t1), .val (.int t2), .val (.int ot), .val (.ref b9), .val (.ref b15), .val (.int (own_hv p0 ot (t1.toInt64) (t2.toInt64))), .unset, .val (.long (((t1.toInt64) <<< ((32 : Int32) &&& 0x3f).toInt64) - (p0.toInt64))), .second, .val (.long (((t2.toInt64) <<< ((32 : Int32) &&& 0x3f).toInt64) - (ot.toInt64))), .second] [(.int (lcmpW (((t1.toInt64) <<< ((32 : Int32) &&& 0x3f).toInt64) - (p0.toInt64)) (((t2.toInt64) <<< ((32 : Int32) &&& 0x3f).toInt64) - (ot.toInt64))))])) t → Steps p.tables e below (s₁.setTop (mkF m 0 #[.val (.int p0), .val (.int p1), .val (.int p2), .val (.int p3), .val (.int p4), .unset, .unset, .unset, .unset, .unset, .unset, .unset, .unset, .unset, .unset, .unset] [])) t := by
      intro t q
      refine k28_ _ ?_
      show Steps p.tables e below (T21.setTop (mkF m 83 #[.val (.int p0), .val (.int p1), .val (.int p2), .val (.int p3), .val (.int p4), .val (.int t1), .val (.int t2), .val (.int ot), .val (.ref b9), .val (.ref b15), .val (.int (own_hv p0 ot (t1.toInt64) (t2.toInt64))), .unset, .unset, .unset, .unset, .unset] [])) _
      refine XS.iload X21.here hx rfl (hb hby at_83) rfl ?_
      show Steps p.tables e below (T21.setTop (mkF m 85 #[.val (.int p0), .val (.int p1), .val (.int p2), .val (.int p3), .val (.int p4), .val (.int t1), .val (.int t2), .val (.int ot), .val (.ref b9), .val (.ref b15), .val (.int (own_hv p0 ot (t1.toInt64) (t2.toInt64))), .unset, .unset, .unset, .unset, .unset] [(.int t1)])) _
      refine XS.i2l X21.here hx rfl (hb hby at_85) rfl ?_
      show Steps p.tables e below (T21.setTop (mkF m 86 #[.val (.int p0), .val (.int p1), .val (.int p2), .val (.int p3), .val (.int p4), .val (.int t1), .val (.int t2), .val (.int ot), .val (.ref b9), .val (.ref b15), .val (.int (own_hv p0 ot (t1.toInt64) (t2.toInt64))), .unset, .unset, .unset, .unset, .unset] [(.long (t1.toInt64))])) _
      refine XS.bipush X21.here hx rfl (hb hby at_86) ?_
      show Steps p.tables e below (T21.setTop (mkF m 88 #[.val (.int p0), .val (.int p1), .val (.int p2), .val (.int p3), .val (.int p4), .val (.int t1), .val (.int t2), .val (.int ot), .val (.ref b9), .val (.ref b15), .val (.int (own_hv p0 ot (t1.toInt64) (t2.toInt64))), .unset, .unset, .unset, .unset, .unset] [(.int (32 : Int32)), (.long (t1.toInt64))])) _
      refine XS.lshl X21.here hx rfl (hb hby at_88) rfl ?_
      show Steps p.tables e below (T21.setTop (mkF m 89 #[.val (.int p0), .val (.int p1), .val (.int p2), .val (.int p3), .val (.int p4), .val (.int t1), .val (.int t2), .val (.int ot), .val (.ref b9), .val (.ref b15), .val (.int (own_hv p0 ot (t1.toInt64) (t2.toInt64))), .unset, .unset, .unset, .unset, .unset] [(.long ((t1.toInt64) <<< ((32 : Int32) &&& 0x3f).toInt64))])) _
      refine XS.iloadN X21.here hx rfl (hb hby at_89) rfl ?_
      show Steps p.tables e below (T21.setTop (mkF m 90 #[.val (.int p0), .val (.int p1), .val (.int p2), .val (.int p3), .val (.int p4), .val (.int t1), .val (.int t2), .val (.int ot), .val (.ref b9), .val (.ref b15), .val (.int (own_hv p0 ot (t1.toInt64) (t2.toInt64))), .unset, .unset, .unset, .unset, .unset] [(.int p0), (.long ((t1.toInt64) <<< ((32 : Int32) &&& 0x3f).toInt64))])) _
      refine XS.i2l X21.here hx rfl (hb hby at_90) rfl ?_
      show Steps p.tables e below (T21.setTop (mkF m 91 #[.val (.int p0), .val (.int p1), .val (.int p2), .val (.int p3), .val (.int p4), .val (.int t1), .val (.int t2), .val (.int ot), .val (.ref b9), .val (.ref b15), .val (.int (own_hv p0 ot (t1.toInt64) (t2.toInt64))), .unset, .unset, .unset, .unset, .unset] [(.long (p0.toInt64)), (.long ((t1.toInt64) <<< ((32 : Int32) &&& 0x3f).toInt64))])) _
      refine XS.lsub X21.here hx rfl (hb hby at_91) rfl ?_
      show Steps p.tables e below (T21.setTop (mkF m 92 #[.val (.int p0), .val (.int p1), .val (.int p2), .val (.int p3), .val (.int p4), .val (.int t1), .val (.int t2), .val (.int ot), .val (.ref b9), .val (.ref b15), .val (.int (own_hv p0 ot (t1.toInt64) (t2.toInt64))), .unset, .unset, .unset, .unset, .unset] [(.long (((t1.toInt64) <<< ((32 : Int32) &&& 0x3f).toInt64) - (p0.toInt64)))])) _
      refine XS.lstore X21.here hx rfl (hb hby at_92) rfl (l' := #[.val (.int p0), .val (.int p1), .val (.int p2), .val (.int p3), .val (.int p4), .val (.int t1), .val (.int t2), .val (.int ot), .val (.ref b9), .val (.ref b15), .val (.int (own_hv p0 ot (t1.toInt64) (t2.toInt64))), .unset, .val (.long (((t1.toInt64) <<< ((32 : Int32) &&& 0x3f).toInt64) - (p0.toInt64))), .second, .unset, .unset]) rfl ?_
      show Steps p.tables e below (T21.setTop (mkF m 94 #[.val (.int p0), .val (.int p1), .val (.int p2), .val (.int p3), .val (.int p4), .val (.int t1), .val (.int t2), .val (.int ot), .val (.ref b9), .val (.ref b15), .val (.int (own_hv p0 ot (t1.toInt64) (t2.toInt64))), .unset, .val (.long (((t1.toInt64) <<< ((32 : Int32) &&& 0x3f).toInt64) - (p0.toInt64))), .second, .unset, .unset] [])) _
      refine XS.iload X21.here hx rfl (hb hby at_94) rfl ?_
      show Steps p.tables e below (T21.setTop (mkF m 96 #[.val (.int p0), .val (.int p1), .val (.int p2), .val (.int p3), .val (.int p4), .val (.int t1), .val (.int t2), .val (.int ot), .val (.ref b9), .val (.ref b15), .val (.int (own_hv p0 ot (t1.toInt64) (t2.toInt64))), .unset, .val (.long (((t1.toInt64) <<< ((32 : Int32) &&& 0x3f).toInt64) - (p0.toInt64))), .second, .unset, .unset] [(.int t2)])) _
      refine XS.i2l X21.here hx rfl (hb hby at_96) rfl ?_
      show Steps p.tables e below (T21.setTop (mkF m 97 #[.val (.int p0), .val (.int p1), .val (.int p2), .val (.int p3), .val (.int p4), .val (.int t1), .val (.int t2), .val (.int ot), .val (.ref b9), .val (.ref b15), .val (.int (own_hv p0 ot (t1.toInt64) (t2.toInt64))), .unset, .val (.long (((t1.toInt64) <<< ((32 : Int32) &&& 0x3f).toInt64) - (p0.toInt64))), .second, .unset, .unset] [(.long (t2.toInt64))])) _
      refine XS.bipush X21.here hx rfl (hb hby at_97) ?_
      show Steps p.tables e below (T21.setTop (mkF m 99 #[.val (.int p0), .val (.int p1), .val (.int p2), .val (.int p3), .val (.int p4), .val (.int t1), .val (.int t2), .val (.int ot), .val (.ref b9), .val (.ref b15), .val (.int (own_hv p0 ot (t1.toInt64) (t2.toInt64))), .unset, .val (.long (((t1.toInt64) <<< ((32 : Int32) &&& 0x3f).toInt64) - (p0.toInt64))), .second, .unset, .unset] [(.int (32 : Int32)), (.long (t2.toInt64))])) _
      refine XS.lshl X21.here hx rfl (hb hby at_99) rfl ?_
      show Steps p.tables e below (T21.setTop (mkF m 100 #[.val (.int p0), .val (.int p1), .val (.int p2), .val (.int p3), .val (.int p4), .val (.int t1), .val (.int t2), .val (.int ot), .val (.ref b9), .val (.ref b15), .val (.int (own_hv p0 ot (t1.toInt64) (t2.toInt64))), .unset, .val (.long (((t1.toInt64) <<< ((32 : Int32) &&& 0x3f).toInt64) - (p0.toInt64))), .second, .unset, .unset] [(.long ((t2.toInt64) <<< ((32 : Int32) &&& 0x3f).toInt64))])) _
      refine XS.iload X21.here hx rfl (hb hby at_100) rfl ?_
      show Steps p.tables e below (T21.setTop (mkF m 102 #[.val (.int p0), .val (.int p1), .val (.int p2), .val (.int p3), .val (.int p4), .val (.int t1), .val (.int t2), .val (.int ot), .val (.ref b9), .val (.ref b15), .val (.int (own_hv p0 ot (t1.toInt64) (t2.toInt64))), .unset, .val (.long (((t1.toInt64) <<< ((32 : Int32) &&& 0x3f).toInt64) - (p0.toInt64))), .second, .unset, .unset] [(.int ot), (.long ((t2.toInt64) <<< ((32 : Int32) &&& 0x3f).toInt64))])) _
      refine XS.i2l X21.here hx rfl (hb hby at_102) rfl ?_
      show Steps p.tables e below (T21.setTop (mkF m 103 #[.val (.int p0), .val (.int p1), .val (.int p2), .val (.int p3), .val (.int p4), .val (.int t1), .val (.int t2), .val (.int ot), .val (.ref b9), .val (.ref b15), .val (.int (own_hv p0 ot (t1.toInt64) (t2.toInt64))), .unset, .val (.long (((t1.toInt64) <<< ((32 : Int32) &&& 0x3f).toInt64) - (p0.toInt64))), .second, .unset, .unset] [(.long (ot.toInt64)), (.long ((t2.toInt64) <<< ((32 : Int32) &&& 0x3f).toInt64))])) _
      refine XS.lsub X21.here hx rfl (hb hby at_103) rfl ?_
      show Steps p.tables e below (T21.setTop (mkF m 104 #[.val (.int p0), .val (.int p1), .val (.int p2), .val (.int p3), .val (.int p4), .val (.int t1), .val (.int t2), .val (.int ot), .val (.ref b9), .val (.ref b15), .val (.int (own_hv p0 ot (t1.toInt64) (t2.toInt64))), .unset, .val (.long (((t1.toInt64) <<< ((32 : Int32) &&& 0x3f).toInt64) - (p0.toInt64))), .second, .unset, .unset] [(.long (((t2.toInt64) <<< ((32 : Int32) &&& 0x3f).toInt64) - (ot.toInt64)))])) _
      refine XS.lstore X21.here hx rfl (hb hby at_104) rfl (l' := #[.val (.int p0), .val (.int p1), .val (.int p2), .val (.int p3), .val (.int p4), .val (.int t1), .val (.int t2), .val (.int ot), .val (.ref b9), .val (.ref b15), .val (.int (own_hv p0 ot (t1.toInt64) (t2.toInt64))), .unset, .val (.long (((t1.toInt64) <<< ((32 : Int32) &&& 0x3f).toInt64) - (p0.toInt64))), .second, .val (.long (((t2.toInt64) <<< ((32 : Int32) &&& 0x3f).toInt64) - (ot.toInt64))), .second]) rfl ?_
      show Steps p.tables e below (T21.setTop (mkF m 106 #[.val (.int p0), .val (.int p1), .val (.int p2), .val (.int p3), .val (.int p4), .val (.int t1), .val (.int t2), .val (.int ot), .val (.ref b9), .val (.ref b15), .val (.int (own_hv p0 ot (t1.toInt64) (t2.toInt64))), .unset, .val (.long (((t1.toInt64) <<< ((32 : Int32) &&& 0x3f).toInt64) - (p0.toInt64))), .second, .val (.long (((t2.toInt64) <<< ((32 : Int32) &&& 0x3f).toInt64) - (ot.toInt64))), .second] [])) _
      refine XS.lload X21.here hx rfl (hb hby at_106) rfl ?_
      show Steps p.tables e below (T21.setTop (mkF m 108 #[.val (.int p0), .val (.int p1), .val (.int p2), .val (.int p3), .val (.int p4), .val (.int t1), .val (.int t2), .val (.int ot), .val (.ref b9), .val (.ref b15), .val (.int (own_hv p0 ot (t1.toInt64) (t2.toInt64))), .unset, .val (.long (((t1.toInt64) <<< ((32 : Int32) &&& 0x3f).toInt64) - (p0.toInt64))), .second, .val (.long (((t2.toInt64) <<< ((32 : Int32) &&& 0x3f).toInt64) - (ot.toInt64))), .second] [(.long (((t1.toInt64) <<< ((32 : Int32) &&& 0x3f).toInt64) - (p0.toInt64)))])) _
      refine XS.lload X21.here hx rfl (hb hby at_108) rfl ?_
      show Steps p.tables e below (T21.setTop (mkF m 110 #[.val (.int p0), .val (.int p1), .val (.int p2), .val (.int p3), .val (.int p4), .val (.int t1), .val (.int t2), .val (.int ot), .val (.ref b9), .val (.ref b15), .val (.int (own_hv p0 ot (t1.toInt64) (t2.toInt64))), .unset, .val (.long (((t1.toInt64) <<< ((32 : Int32) &&& 0x3f).toInt64) - (p0.toInt64))), .second, .val (.long (((t2.toInt64) <<< ((32 : Int32) &&& 0x3f).toInt64) - (ot.toInt64))), .second] [(.long (((t2.toInt64) <<< ((32 : Int32) &&& 0x3f).toInt64) - (ot.toInt64))), (.long (((t1.toInt64) <<< ((32 : Int32) &&& 0x3f).toInt64) - (p0.toInt64)))])) _
      refine XS.lcmp X21.here hx rfl (hb hby at_110) rfl ?_
      show Steps p.tables e below (T21.setTop (mkF m 111 #[.val (.int p0), .val (.int p1), .val (.int p2), .val (.int p3), .val (.int p4), .val (.int t1), .val (.int t2), .val (.int ot), .val (.ref b9), .val (.ref b15), .val (.int (own_hv p0 ot (t1.toInt64) (t2.toInt64))), .unset, .val (.long (((t1.toInt64) <<< ((32 : Int32) &&& 0x3f).toInt64) - (p0.toInt64))), .second, .val (.long (((t2.toInt64) <<< ((32 : Int32) &&& 0x3f).toInt64) - (ot.toInt64))), .second] [(.int (lcmpW (((t1.toInt64) <<< ((32 : Int32) &&& 0x3f).toInt64) - (p0.toInt64)) (((t2.toInt64) <<< ((32 : Int32) &&& 0x3f).toInt64) - (ot.toInt64))))])) _
      exact q
    have k30_ : ∀ t, Steps p.tables e below (T21.setTop (mkF m 119 #[.val (.int p0), .val (.int p1), .val (.int p2), .val (.int p3), .val (.int p4), .val (.int t1), .val (.int t2), .val (.int ot), .val (.ref b9), .val (.ref b15), .val (.int (own_hv p0 ot (t1.toInt64) (t2.toInt64))), .unset, .val (.long (((t1.toInt64) <<< ((32 : Int32) &&& 0x3f).toInt64) - (p0.toInt64))), .second, .val (.long (((t2.toInt64) <<< ((32 : Int32) &&& 0x3f).toInt64) - (ot.toInt64))), .second] [(.int (bi ((0 : Int32) < (lcmpW (((t1.toInt64) <<< ((32 : Int32) &&& 0x3f).toInt64) - (p0.toInt64)) (((t2.toInt64) <<< ((32 : Int32) &&& 0x3f).toInt64) - (ot.toInt64))))))])) t → Steps p.tables e below (s₁.setTop (mkF m 0 #[.val (.int p0), .val (.int p1), .val (.int p2), .val (.int p3), .val (.int p4), .unset, .unset, .unset, .unset, .unset, .unset, .unset, .unset, .unset, .unset, .unset] [])) t := by
      intro t q
      refine k29_ _ ?_
      show Steps p.tables e below (T21.setTop (mkF m 111 #[.val (.int p0), .val (.int p1), .val (.int p2), .val (.int p3), .val (.int p4), .val (.int t1), .val (.int t2), .val (.int ot), .val (.ref b9), .val (.ref b15), .val (.int (own_hv p0 ot (t1.toInt64) (t2.toInt64))), .unset, .val (.long (((t1.toInt64) <<< ((32 : Int32) &&& 0x3f).toInt64) - (p0.toInt64))), .second, .val (.long (((t2.toInt64) <<< ((32 : Int32) &&& 0x3f).toInt64) - (ot.toInt64))), .second] [(.int (lcmpW (((t1.toInt64) <<< ((32 : Int32) &&& 0x3f).toInt64) - (p0.toInt64)) (((t2.toInt64) <<< ((32 : Int32) &&& 0x3f).toInt64) - (ot.toInt64))))])) _
      by_cases hc111 : (0 : Int32) < (lcmpW (((t1.toInt64) <<< ((32 : Int32) &&& 0x3f).toInt64) - (p0.toInt64)) (((t2.toInt64) <<< ((32 : Int32) &&& 0x3f).toInt64) - (ot.toInt64)))
      · refine XS.ifNo X21.here hx rfl (hb hby at_111) rfl ((if0 _ _).trans (tlt hc111).2.2.2) ?_
        show Steps p.tables e below (T21.setTop (mkF m 114 #[.val (.int p0), .val (.int p1), .val (.int p2), .val (.int p3), .val (.int p4), .val (.int t1), .val (.int t2), .val (.int ot), .val (.ref b9), .val (.ref b15), .val (.int (own_hv p0 ot (t1.toInt64) (t2.toInt64))), .unset, .val (.long (((t1.toInt64) <<< ((32 : Int32) &&& 0x3f).toInt64) - (p0.toInt64))), .second, .val (.long (((t2.toInt64) <<< ((32 : Int32) &&& 0x3f).toInt64) - (ot.toInt64))), .second] [])) _
        refine XS.iconst X21.here hx rfl (hb hby at_114) ?_
        show Steps p.tables e below (T21.setTop (mkF m 115 #[.val (.int p0), .val (.int p1), .val (.int p2), .val (.int p3), .val (.int p4), .val (.int t1), .val (.int t2), .val (.int ot), .val (.ref b9), .val (.ref b15), .val (.int (own_hv p0 ot (t1.toInt64) (t2.toInt64))), .unset, .val (.long (((t1.toInt64) <<< ((32 : Int32) &&& 0x3f).toInt64) - (p0.toInt64))), .second, .val (.long (((t2.toInt64) <<< ((32 : Int32) &&& 0x3f).toInt64) - (ot.toInt64))), .second] [(.int (1 : Int32))])) _
        refine XS.goto X21.here hx rfl (pc0 := 115) (pc' := 119) rfl (hb hby at_115) (by decide) (by decide) ?_
        show Steps p.tables e below (T21.setTop (mkF m 119 #[.val (.int p0), .val (.int p1), .val (.int p2), .val (.int p3), .val (.int p4), .val (.int t1), .val (.int t2), .val (.int ot), .val (.ref b9), .val (.ref b15), .val (.int (own_hv p0 ot (t1.toInt64) (t2.toInt64))), .unset, .val (.long (((t1.toInt64) <<< ((32 : Int32) &&& 0x3f).toInt64) - (p0.toInt64))), .second, .val (.long (((t2.toInt64) <<< ((32 : Int32) &&& 0x3f).toInt64) - (ot.toInt64))), .second] [(.int (1 : Int32))])) _
        have w0 : (bi ((0 : Int32) < (lcmpW (((t1.toInt64) <<< ((32 : Int32) &&& 0x3f).toInt64) - (p0.toInt64)) (((t2.toInt64) <<< ((32 : Int32) &&& 0x3f).toInt64) - (ot.toInt64))))) = (1 : Int32) := by exact bi_t hc111
        replace q := Eq.mp (congrArg (fun z => Steps p.tables e below (T21.setTop (mkF m 119 #[.val (.int p0), .val (.int p1), .val (.int p2), .val (.int p3), .val (.int p4), .val (.int t1), .val (.int t2), .val (.int ot), .val (.ref b9), .val (.ref b15), .val (.int (own_hv p0 ot (t1.toInt64) (t2.toInt64))), .unset, .val (.long (((t1.toInt64) <<< ((32 : Int32) &&& 0x3f).toInt64) - (p0.toInt64))), .second, .val (.long (((t2.toInt64) <<< ((32 : Int32) &&& 0x3f).toInt64) - (ot.toInt64))), .second] [(.int z)])) t) w0) q
        exact q
      · refine XS.ifYes X21.here hx rfl (pc0 := 111) (pc' := 118) rfl (hb hby at_111) rfl ((if0 _ _).trans (flt hc111).2.2.2) (by decide) (by decide) ?_
        show Steps p.tables e below (T21.setTop (mkF m 118 #[.val (.int p0), .val (.int p1), .val (.int p2), .val (.int p3), .val (.int p4), .val (.int t1), .val (.int t2), .val (.int ot), .val (.ref b9), .val (.ref b15), .val (.int (own_hv p0 ot (t1.toInt64) (t2.toInt64))), .unset, .val (.long (((t1.toInt64) <<< ((32 : Int32) &&& 0x3f).toInt64) - (p0.toInt64))), .second, .val (.long (((t2.toInt64) <<< ((32 : Int32) &&& 0x3f).toInt64) - (ot.toInt64))), .second] [])) _
        refine XS.iconst X21.here hx rfl (hb hby at_118) ?_
        show Steps p.tables e below (T21.setTop (mkF m 119 #[.val (.int p0), .val (.int p1), .val (.int p2), .val (.int p3), .val (.int p4), .val (.int t1), .val (.int t2), .val (.int ot), .val (.ref b9), .val (.ref b15), .val (.int (own_hv p0 ot (t1.toInt64) (t2.toInt64))), .unset, .val (.long (((t1.toInt64) <<< ((32 : Int32) &&& 0x3f).toInt64) - (p0.toInt64))), .second, .val (.long (((t2.toInt64) <<< ((32 : Int32) &&& 0x3f).toInt64) - (ot.toInt64))), .second] [(.int (0 : Int32))])) _
        have w0 : (bi ((0 : Int32) < (lcmpW (((t1.toInt64) <<< ((32 : Int32) &&& 0x3f).toInt64) - (p0.toInt64)) (((t2.toInt64) <<< ((32 : Int32) &&& 0x3f).toInt64) - (ot.toInt64))))) = (0 : Int32) := by exact bi_f hc111
        replace q := Eq.mp (congrArg (fun z => Steps p.tables e below (T21.setTop (mkF m 119 #[.val (.int p0), .val (.int p1), .val (.int p2), .val (.int p3), .val (.int p4), .val (.int t1), .val (.int t2), .val (.int ot), .val (.ref b9), .val (.ref b15), .val (.int (own_hv p0 ot (t1.toInt64) (t2.toInt64))), .unset, .val (.long (((t1.toInt64) <<< ((32 : Int32) &&& 0x3f).toInt64) - (p0.toInt64))), .second, .val (.long (((t2.toInt64) <<< ((32 : Int32) &&& 0x3f).toInt64) - (ot.toInt64))), .second] [(.int z)])) t) w0) q
        exact q
    have k31_ : ∀ t, Steps p.tables e below (T21.setTop (mkF m 125 #[.val (.int p0), .val (.int p1), .val (.int p2), .val (.int p3), .val (.int p4), .val (.int t1), .val (.int t2), .val (.int ot), .val (.ref b9), .val (.ref b15), .val (.int (own_hv p0 ot (t1.toInt64) (t2.toInt64))), .val (.int (bi ((0 : Int32) < (lcmpW (((t1.toInt64) <<< ((32 : Int32) &&& 0x3f).toInt64) - (p0.toInt64)) (((t2.toInt64) <<< ((32 : Int32) &&& 0x3f).toInt64) - (ot.toInt64)))))), .val (.long (((t1.toInt64) <<< ((32 : Int32) &&& 0x3f).toInt64) - (p0.toInt64))), .second, .val (.long (((t2.toInt64) <<< ((32 : Int32) &&& 0x3f).toInt64) - (ot.toInt64))), .second] [(.int (bi ((0 : Int32) < (lcmpW (((t1.toInt64) <<< ((32 : Int32) &&& 0x3f).toInt64) - (p0.toInt64)) (((t2.toInt64) <<< ((32 : Int32) &&& 0x3f).toInt64) - (ot.toInt64)))))), (.int (own_hv p0 ot (t1.toInt64) (t2.toInt64)))])) t → Steps p.tables e below (s₁.setTop (mkF m 0 #[.val (.int p0), .val (.int p1), .val (.int p2), .val (.int p3), .val (.int p4), .unset, .unset, .unset, .unset, .unset, .unset, .unset, .unset, .unset, .unset, .unset] [])) t := by
      intro t q
      refine k30_ _ ?_
      show Steps p.tables e below (T21.setTop (mkF m 119 #[.val (.int p0), .val (.int p1), .val (.int p2), .val (.int p3), .val (.int p4), .val (.int t1), .val (.int t2), .val (.int ot), .val (.ref b9), .val (.ref b15), .val (.int (own_hv p0 ot (t1.toInt64) (t2.toInt64))), .unset, .val (.long (((t1.toInt64) <<< ((32 : Int32) &&& 0x3f).toInt64) - (p0.toInt64))), .second, .val (.long (((t2.toInt64) <<< ((32 : Int32) &&& 0x3f).toInt64) - (ot.toInt64))), .second] [(.int (bi ((0 : Int32) < (lcmpW (((t1.toInt64) <<< ((32 : Int32) &&& 0x3f).toInt64) - (p0.toInt64)) (((t2.toInt64) <<< ((32 : Int32) &&& 0x3f).toInt64) - (ot.toInt64))))))])) _
      refine XS.istore X21.here hx rfl (hb hby at_119) rfl (l' := #[.val (.int p0), .val (.int p1), .val (.int p2), .val (.int p3), .val (.int p4), .val (.int t1), .val (.int t2), .val (.int ot), .val (.ref b9), .val (.ref b15), .val (.int (own_hv p0 ot (t1.toInt64) (t2.toInt64))), .val (.int (bi ((0 : Int32) < (lcmpW (((t1.toInt64) <<< ((32 : Int32) &&& 0x3f).toInt64) - (p0.toInt64)) (((t2.toInt64) <<< ((32 : Int32) &&& 0x3f).toInt64) - (ot.toInt64)))))), .val (.long (((t1.toInt64) <<< ((32 : Int32) &&& 0x3f).toInt64) - (p0.toInt64))), .second, .val (.long (((t2.toInt64) <<< ((32 : Int32) &&& 0x3f).toInt64) - (ot.toInt64))), .second]) rfl ?_
      show Steps p.tables e below (T21.setTop (mkF m 121 #[.val (.int p0), .val (.int p1), .val (.int p2), .val (.int p3), .val (.int p4), .val (.int t1), .val (.int t2), .val (.int ot), .val (.ref b9), .val (.ref b15), .val (.int (own_hv p0 ot (t1.toInt64) (t2.toInt64))), .val (.int (bi ((0 : Int32) < (lcmpW (((t1.toInt64) <<< ((32 : Int32) &&& 0x3f).toInt64) - (p0.toInt64)) (((t2.toInt64) <<< ((32 : Int32) &&& 0x3f).toInt64) - (ot.toInt64)))))), .val (.long (((t1.toInt64) <<< ((32 : Int32) &&& 0x3f).toInt64) - (p0.toInt64))), .second, .val (.long (((t2.toInt64) <<< ((32 : Int32) &&& 0x3f).toInt64) - (ot.toInt64))), .second] [])) _
      refine XS.iload X21.here hx rfl (hb hby at_121) rfl ?_
      show Steps p.tables e below (T21.setTop (mkF m 123 #[.val (.int p0), .val (.int p1), .val (.int p2), .val (.int p3), .val (.int p4), .val (.int t1), .val (.int t2), .val (.int ot), .val (.ref b9), .val (.ref b15), .val (.int (own_hv p0 ot (t1.toInt64) (t2.toInt64))), .val (.int (bi ((0 : Int32) < (lcmpW (((t1.toInt64) <<< ((32 : Int32) &&& 0x3f).toInt64) - (p0.toInt64)) (((t2.toInt64) <<< ((32 : Int32) &&& 0x3f).toInt64) - (ot.toInt64)))))), .val (.long (((t1.toInt64) <<< ((32 : Int32) &&& 0x3f).toInt64) - (p0.toInt64))), .second, .val (.long (((t2.toInt64) <<< ((32 : Int32) &&& 0x3f).toInt64) - (ot.toInt64))), .second] [(.int (own_hv p0 ot (t1.toInt64) (t2.toInt64)))])) _
      refine XS.iload X21.here hx rfl (hb hby at_123) rfl ?_
      show Steps p.tables e below (T21.setTop (mkF m 125 #[.val (.int p0), .val (.int p1), .val (.int p2), .val (.int p3), .val (.int p4), .val (.int t1), .val (.int t2), .val (.int ot), .val (.ref b9), .val (.ref b15), .val (.int (own_hv p0 ot (t1.toInt64) (t2.toInt64))), .val (.int (bi ((0 : Int32) < (lcmpW (((t1.toInt64) <<< ((32 : Int32) &&& 0x3f).toInt64) - (p0.toInt64)) (((t2.toInt64) <<< ((32 : Int32) &&& 0x3f).toInt64) - (ot.toInt64)))))), .val (.long (((t1.toInt64) <<< ((32 : Int32) &&& 0x3f).toInt64) - (p0.toInt64))), .second, .val (.long (((t2.toInt64) <<< ((32 : Int32) &&& 0x3f).toInt64) - (ot.toInt64))), .second] [(.int (bi ((0 : Int32) < (lcmpW (((t1.toInt64) <<< ((32 : Int32) &&& 0x3f).toInt64) - (p0.toInt64)) (((t2.toInt64) <<< ((32 : Int32) &&& 0x3f).toInt64) - (ot.toInt64)))))), (.int (own_hv p0 ot (t1.toInt64) (t2.toInt64)))])) _
      exact q
    have k32_ : ∀ t, Steps p.tables e below (T21.setTop (mkF m 128 #[.val (.int p0), .val (.int p1), .val (.int p2), .val (.int p3), .val (.int p4), .val (.int t1), .val (.int t2), .val (.int ot), .val (.ref b9), .val (.ref b15), .val (.int (own_hv p0 ot (t1.toInt64) (t2.toInt64))), .val (.int (bi ((0 : Int32) < (lcmpW (((t1.toInt64) <<< ((32 : Int32) &&& 0x3f).toInt64) - (p0.toInt64)) (((t2.toInt64) <<< ((32 : Int32) &&& 0x3f).toInt64) - (ot.toInt64)))))), .val (.long (((t1.toInt64) <<< ((32 : Int32) &&& 0x3f).toInt64) - (p0.toInt64))), .second, .val (.long (((t2.toInt64) <<< ((32 : Int32) &&& 0x3f).toInt64) - (ot.toInt64))), .second] [])) t → Steps p.tables e below (s₁.setTop (mkF m 0 #[.val (.int p0), .val (.int p1), .val (.int p2), .val (.int p3), .val (.int p4), .unset, .unset, .unset, .unset, .unset, .unset, .unset, .unset, .unset, .unset, .unset] [])) t := by
      intro t q
      refine k31_ _ ?_
      show Steps p.tables e below (T21.setTop (mkF m 125 #[.val (.int p0), .val (.int p1), .val (.int p2), .val (.int p3), .val (.int p4), .val (.int t1), .val (.int t2), .val (.int ot), .val (.ref b9), .val (.ref b15), .val (.int (own_hv p0 ot (t1.toInt64) (t2.toInt64))), .val (.int (bi ((0 : Int32) < (lcmpW (((t1.toInt64) <<< ((32 : Int32) &&& 0x3f).toInt64) - (p0.toInt64)) (((t2.toInt64) <<< ((32 : Int32) &&& 0x3f).toInt64) - (ot.toInt64)))))), .val (.long (((t1.toInt64) <<< ((32 : Int32) &&& 0x3f).toInt64) - (p0.toInt64))), .second, .val (.long (((t2.toInt64) <<< ((32 : Int32) &&& 0x3f).toInt64) - (ot.toInt64))), .second] [(.int (bi ((0 : Int32) < (lcmpW (((t1.toInt64) <<< ((32 : Int32) &&& 0x3f).toInt64) - (p0.toInt64)) (((t2.toInt64) <<< ((32 : Int32) &&& 0x3f).toInt64) - (ot.toInt64)))))), (.int (own_hv p0 ot (t1.toInt64) (t2.toInt64)))])) _
      refine XS.icmpNo X21.here hx rfl (hb hby at_125) rfl (teq (own_eq _ _ _ _ r1 r2 hot)).2 ?_
      show Steps p.tables e below (T21.setTop (mkF m 128 #[.val (.int p0), .val (.int p1), .val (.int p2), .val (.int p3), .val (.int p4), .val (.int t1), .val (.int t2), .val (.int ot), .val (.ref b9), .val (.ref b15), .val (.int (own_hv p0 ot (t1.toInt64) (t2.toInt64))), .val (.int (bi ((0 : Int32) < (lcmpW (((t1.toInt64) <<< ((32 : Int32) &&& 0x3f).toInt64) - (p0.toInt64)) (((t2.toInt64) <<< ((32 : Int32) &&& 0x3f).toInt64) - (ot.toInt64)))))), .val (.long (((t1.toInt64) <<< ((32 : Int32) &&& 0x3f).toInt64) - (p0.toInt64))), .second, .val (.long (((t2.toInt64) <<< ((32 : Int32) &&& 0x3f).toInt64) - (ot.toInt64))), .second] [])) _
      exact q
    have k33_ : ∀ t, Steps p.tables e below (T21.setTop (mkF m 133 #[.val (.int p0), .val (.int p1), .val (.int p2), .val (.int p3), .val (.int p4), .val (.int t1), .val (.int t2), .val (.int ot), .val (.ref b9), .val (.ref b15), .val (.int (own_hv p0 ot (t1.toInt64) (t2.toInt64))), .val (.int (bi ((0 : Int32) < (lcmpW (((t1.toInt64) <<< ((32 : Int32) &&& 0x3f).toInt64) - (p0.toInt64)) (((t2.toInt64) <<< ((32 : Int32) &&& 0x3f).toInt64) - (ot.toInt64)))))), .val (.long (((t1.toInt64) <<< ((32 : Int32) &&& 0x3f).toInt64) - (p0.toInt64))), .second, .val (.long (((t2.toInt64) <<< ((32 : Int32) &&& 0x3f).toInt64) - (ot.toInt64))), .second] [(.int (1 : Int32))])) t → Steps p.tables e below (s₁.setTop (mkF m 0 #[.val (.int p0), .val (.int p1), .val (.int p2), .val (.int p3), .val (.int p4), .unset, .unset, .unset, .unset, .unset, .unset, .unset, .unset, .unset, .unset, .unset] [])) t := by
      intro t q
      refine k32_ _ ?_
      show Steps p.tables e below (T21.setTop (mkF m 128 #[.val (.int p0), .val (.int p1), .val (.int p2), .val (.int p3), .val (.int p4), .val (.int t1), .val (.int t2), .val (.int ot), .val (.ref b9), .val (.ref b15), .val (.int (own_hv p0 ot (t1.toInt64) (t2.toInt64))), .val (.int (bi ((0 : Int32) < (lcmpW (((t1.toInt64) <<< ((32 : Int32) &&& 0x3f).toInt64) - (p0.toInt64)) (((t2.toInt64) <<< ((32 : Int32) &&& 0x3f).toInt64) - (ot.toInt64)))))), .val (.long (((t1.toInt64) <<< ((32 : Int32) &&& 0x3f).toInt64) - (p0.toInt64))), .second, .val (.long (((t2.toInt64) <<< ((32 : Int32) &&& 0x3f).toInt64) - (ot.toInt64))), .second] [])) _
      refine XS.iconst X21.here hx rfl (hb hby at_128) ?_
      show Steps p.tables e below (T21.setTop (mkF m 129 #[.val (.int p0), .val (.int p1), .val (.int p2), .val (.int p3), .val (.int p4), .val (.int t1), .val (.int t2), .val (.int ot), .val (.ref b9), .val (.ref b15), .val (.int (own_hv p0 ot (t1.toInt64) (t2.toInt64))), .val (.int (bi ((0 : Int32) < (lcmpW (((t1.toInt64) <<< ((32 : Int32) &&& 0x3f).toInt64) - (p0.toInt64)) (((t2.toInt64) <<< ((32 : Int32) &&& 0x3f).toInt64) - (ot.toInt64)))))), .val (.long (((t1.toInt64) <<< ((32 : Int32) &&& 0x3f).toInt64) - (p0.toInt64))), .second, .val (.long (((t2.toInt64) <<< ((32 : Int32) &&& 0x3f).toInt64) - (ot.toInt64))), .second] [(.int (1 : Int32))])) _
      refine XS.goto X21.here hx rfl (pc0 := 129) (pc' := 133) rfl (hb hby at_129) (by decide) (by decide) ?_
      show Steps p.tables e below (T21.setTop (mkF m 133 #[.val (.int p0), .val (.int p1), .val (.int p2), .val (.int p3), .val (.int p4), .val (.int t1), .val (.int t2), .val (.int ot), .val (.ref b9), .val (.ref b15), .val (.int (own_hv p0 ot (t1.toInt64) (t2.toInt64))), .val (.int (bi ((0 : Int32) < (lcmpW (((t1.toInt64) <<< ((32 : Int32) &&& 0x3f).toInt64) - (p0.toInt64)) (((t2.toInt64) <<< ((32 : Int32) &&& 0x3f).toInt64) - (ot.toInt64)))))), .val (.long (((t1.toInt64) <<< ((32 : Int32) &&& 0x3f).toInt64) - (p0.toInt64))), .second, .val (.long (((t2.toInt64) <<< ((32 : Int32) &&& 0x3f).toInt64) - (ot.toInt64))), .second] [(.int (1 : Int32))])) _
      exact q
    obtain ⟨fs, hr, hrun, hended, hW, hsame⟩ := X21.leave (v := some (.int (1 : Int32))) (fun h => by rw [Bd.returns] at h; cases h)
    refine ⟨_, _, pre0 _ (k33_ _ ?_), hrun, hended, _, _, rfl, ?_, ⟨_, rfl⟩, hW, hsame.mono (by decide) (by decide)⟩
    · show Steps p.tables e below (T21.setTop (mkF m 133 #[.val (.int p0), .val (.int p1), .val (.int p2), .val (.int p3), .val (.int p4), .val (.int t1), .val (.int t2), .val (.int ot), .val (.ref b9), .val (.ref b15), .val (.int (own_hv p0 ot (t1.toInt64) (t2.toInt64))), .val (.int (bi ((0 : Int32) < (lcmpW (((t1.toInt64) <<< ((32 : Int32) &&& 0x3f).toInt64) - (p0.toInt64)) (((t2.toInt64) <<< ((32 : Int32) &&& 0x3f).toInt64) - (ot.toInt64)))))), .val (.long (((t1.toInt64) <<< ((32 : Int32) &&& 0x3f).toInt64) - (p0.toInt64))), .second, .val (.long (((t2.toInt64) <<< ((32 : Int32) &&& 0x3f).toInt64) - (ot.toInt64))), .second] [(.int (1 : Int32))])) _
      exact retN X21 hx (t := .boolean) Bd.returns (by simp) (hb hby at_133) hr
    · show Q0 Z p0 p1 p2 p3 p4 h0 n0 _ T21.heap _
      exact ⟨rfl, N21⟩
set_option maxRecDepth 65536 in
set_option maxHeartbeats 40000000 in
theorem comes_1 {Post : Tables → Env → Array Value → State → Outcome → State → Prop} (hpost : ∀ tb e args s v u, (limb_1_1.after args s (.returned v) u = true ∧ limb_1_2.after args s (.returned v) u = true ∧ True) → FrameEnd s (.returned v) u (Jvm.fieldLocs frame_1_writes args s ++ Jvm.arrayLocs frame_1_arrays args s ++ Jvm.staticLocs frame_1_statics s) 16 128 → Post tb e args s (.returned v) u) :
    ArmFor flags0 classFile x code maxLocals ret World_1 tables_1 room_1 Calls_1 rest_1 Pre_1 Post := by
  intro l hfl _ _ p e ha hc hk s m args below hf hA hF happ hP
  obtain ⟨hcalls, hrest, hpre⟩ := hP
  obtain ⟨-, -, -, hnamed, -, -, -, hat⟩ := (Spec.applies_iff hf).mp happ
  obtain ⟨hg, hn⟩ := and_e (Cond.before_iff.mp (show (Jvm.Cond.and given_1 narrow_1).before args s = true from hpre))
  obtain ⟨hcnt, hg0⟩ := and_e hg
  obtain ⟨hi0, hg1⟩ := and_e hg0
  obtain ⟨hi1, hg2⟩ := and_e hg1
  obtain ⟨hi2, hg3⟩ := and_e hg2
  obtain ⟨hi3, hg4⟩ := and_e hg3
  have hi4 := hg4
  obtain ⟨w0, w1, w2, w3, w4, rfl⟩ : ∃ w0 w1 w2 w3 w4 : Value, args = #[w0, w1, w2, w3, w4] := by
    have hs : args.size = 5 := by simpa [Cond.value, given_1] using hcnt
    obtain ⟨L⟩ := args
    match L, hs with
    | [w0, w1, w2, w3, w4], _ => exact ⟨w0, w1, w2, w3, w4, rfl⟩
  have hw := fun d (hd : d ∈ tables_1) => atoms_spec (ws := Jvm.Cond.code x code maxLocals ret :: tables_1) hat d (List.mem_cons_of_mem _ hd)
  have hfit : Fit s := fun {y c} hc i hi => by
    obtain ⟨ha, rfl⟩ := Array.getElem?_eq_some_iff.mp hc
    have q := List.all_eq_true.mp ((Array.all_eq_true_iff_forall_mem.mp hF) _ (Array.getElem_mem ha)) i (List.mem_range.mpr hi)
    simpa [Array.getElem?_eq_getElem hi] using q
  obtain ⟨i0, ei0⟩ := is_v hi0
  obtain rfl : w0 = (.int i0) := Option.some.inj ei0
  obtain ⟨i1, ei1⟩ := is_v hi1
  obtain rfl : w1 = (.int i1) := Option.some.inj ei1
  obtain ⟨i2, ei2⟩ := is_v hi2
  obtain rfl : w2 = (.int i2) := Option.some.inj ei2
  obtain ⟨i3, ei3⟩ := is_v hi3
  obtain rfl : w3 = (.int i3) := Option.some.inj ei3
  obtain ⟨i4, ei4⟩ := is_v hi4
  obtain rfl : w4 = (.int i4) := Option.some.inj ei4
  obtain ⟨n, o, h1, h2, h3, _, L, rfl, ⟨rfl, N⟩, hq⟩ := rm0 l s _ hw tables_1 i0 i1 i2 i3 i4  s.heap s.heap.size (Nat.le_refl _)  p e ha hc hk s m _ below hf ((Spec.applies_iff_loose hf).mp happ).1 ⟨rfl, State.Warmed39.refl s, rfl⟩ trivial
  refine ⟨n, _, h1, h2, h3, hpost _ _ _ _ _ _ ⟨Cond.after_iff.mpr rfl, Cond.after_iff.mpr (eq_i res_at (Term.int_eval (1)) rfl), trivial⟩ ⟨hq.1, hq.2.1, (hq.2.2.sift fun y hy => Or.inr (N y hy)).mono (by decide) (by decide)⟩⟩
theorem main_1_1 : Claimed_1_1 := comes_1 fun _ _ _ _ _ _ h hF => ⟨h.1, hF⟩
theorem main_1_2 : Claimed_1_2 := comes_1 fun _ _ _ _ _ _ h hF => ⟨h.2.1, hF⟩
end Jvm.Pilot.@@N@@
namespace Jvm.Pilot.@@N@@
open Jvm Jvm.ClassFile Sem Op Lib Jvm.Free Jvm.Stand Jvm.Pilot.@@N@@.Jvm.D
/-! MADE BY PROGRAM (witnessworld.py) out of the Statement's table words and the real class files: 10 classes; the members and pool entries that the words name. The judged class is class 1, her method 1. -/
namespace start1
open Jvm.ClassFile
def u (s : String) : CpInfo := .utf8 (stringToUtf16 s)
/-- a pool by its gaps: so many unusable entries, then the entry; so many at the end -/
def gap : Nat → List CpInfo → List CpInfo
  | 0, r => r
  | n + 1, r => .unusable :: gap n r
def poolList (es : List (Nat × CpInfo)) (last : Nat) : List CpInfo := es.foldr (fun e r => gap e.1 (e.2 :: r)) (gap last [])
def pool (es : List (Nat × CpInfo)) (last : Nat) : Array CpInfo := ⟨poolList es last⟩
def fileOf (pool : Array CpInfo) (this : Nat) (attrs : Array Attribute := #[]) (ms : Array MethodInfo := #[]) (fl : Nat := 33) (sup : Nat := 0) (ifs : Array Nat := #[]) (fds : Array FieldInfo := #[]) : ClassFile where
  minorVersion := 0
  majorVersion := 65
  constantPool := pool
  accessFlags := fl
  thisClass := this
  superClass := sup
  interfaces := ifs
  fields := fds
  methods := ms
  attributes := attrs
def plain (name : String) (sup : Option ClassId) : Class where
  name := name
  kind := .ordinary
  loader := none
  accessFlags := 33
  super := sup
  interfaces := #[]
  cf := none
  fields := #[]
  methods := #[]
  instanceTypes := #[]
  staticTypes := #[]
  resolved := #[]
  callSites := []
  init := .initialized
  statics := none
  mirror := none

def pool0 : Array CpInfo := pool [(5, u "<init>"), (0, u "()V"), (1, .class_ 10), (1, u "java/lang/Object")] 113

def k0c0 : Code := { maxStack := 0, maxLocals := 1, code := object_method_1_code, exceptionTable := #[], attributes := #[] }
def k0m0 : Method := { name := "<init>", desc := "()V", sig := { parameters := [], returnType := none }, accessFlags := 1, code := some k0c0 }
/-- java/lang/Object -/
def k0 : Class := { plain "java/lang/Object" none with
  accessFlags := 33
  interfaces := #[]
  cf := some (fileOf pool0 8 #[] #[{ accessFlags := 1, nameIndex := 5, descriptorIndex := 6, attributes := #[] }] 33 0 #[] #[])
  fields := #[]
  methods := #[k0m0]
  instanceTypes := #[]
  staticTypes := #[]
  resolved := Array.replicate 124 none
  statics := none }

def pool1 : Array CpInfo := pool [(2, .class_ 4), (1, u "java/lang/Object"), (0, u "<init>"), (0, u "()V"), (0, .class_ 8), (0, u "com/example/weir/weir/strategy/PlacedJoins$Neighbour"), (0, .methodref 7 10), (0, .nameAndType 5 11), (0, u "(ID)V"), (0, .methodref 7 13), (0, .nameAndType 14 15), (0, u "heavierThan"), (0, u "(Lcom/example/weir/weir/strategy/PlacedJoins$Neighbour;)Z"), (0, .class_ 17), (0, u "com/example/weir/weir/strategy/NeighbourHeavierThanPinLaw"), (2, u "law"), (0, u "(IIIII)Z")] 7

def k1m0 : Method := { name := "<init>", desc := "()V", sig := { parameters := [], returnType := none }, accessFlags := 1, code := none }
def k1c1 : Code := { maxStack := 5, maxLocals := 16, code := code, exceptionTable := #[], attributes := #[] }
def k1m1 : Method := { name := "law", desc := "(IIIII)Z", sig := { parameters := [.int, .int, .int, .int, .int], returnType := some .boolean }, accessFlags := 9, code := some k1c1 }
/-- com/example/weir/weir/strategy/NeighbourHeavierThanPinLaw -/
def k1 : Class := { plain "com/example/weir/weir/strategy/NeighbourHeavierThanPinLaw" (some 0) with
  accessFlags := 49
  interfaces := #[]
  cf := some (fileOf pool1 16 #[] #[{ accessFlags := 1, nameIndex := 5, descriptorIndex := 6, attributes := #[] }, { accessFlags := 9, nameIndex := 20, descriptorIndex := 21, attributes := #[] }] 49 2 #[] #[])
  fields := #[]
  methods := #[k1m0, k1m1]
  instanceTypes := #[]
  staticTypes := #[]
  resolved := Array.replicate 29 none
  statics := none }

def pool2 : Array CpInfo := pool [(1, .methodref 2 3), (0, .class_ 4), (0, .nameAndType 5 6), (0, u "java/lang/Object"), (0, u "<init>"), (0, u "()V"), (0, .class_ 8), (0, u "java/lang/Record")] 13

def k2c0 : Code := { maxStack := 1, maxLocals := 1, code := jdk_30_method_1_code, exceptionTable := #[], attributes := #[] }
def k2m0 : Method := { name := "<init>", desc := "()V", sig := { parameters := [], returnType := none }, accessFlags := 4, code := some k2c0 }
/-- java/lang/Record -/
def k2 : Class := { plain "java/lang/Record" (some 0) with
  accessFlags := 1057
  interfaces := #[]
  cf := some (fileOf pool2 7 #[] #[{ accessFlags := 4, nameIndex := 5, descriptorIndex := 6, attributes := #[] }] 1057 2 #[] #[])
  fields := #[]
  methods := #[k2m0]
  instanceTypes := #[]
  staticTypes := #[]
  resolved := Array.replicate 22 none
  statics := none }

def pool3 : Array CpInfo := pool [(1, .methodref 2 3), (0, .class_ 4), (0, .nameAndType 5 6), (0, u "java/lang/Record"), (0, u "<init>"), (0, u "()V"), (0, .fieldref 8 9), (0, .class_ 10), (0, .nameAndType 11 12), (0, u "com/example/weir/weir/strategy/PlacedJoins$Neighbour"), (0, u "task"), (0, u "I"), (0, .fieldref 8 14), (0, .nameAndType 15 16), (0, u "traffic"), (0, u "D"), (12, u "(ID)V"), (3, u "heavierThan"), (0, u "(Lcom/example/weir/weir/strategy/PlacedJoins$Neighbour;)Z"), (8, .class_ 44), (0, u "com/example/weir/weir/strategy/PlacedJoins")] 20

def k3c0 : Code := { maxStack := 3, maxLocals := 4, code := prog_214_method_1_code, exceptionTable := #[], attributes := #[] }
def k3m0 : Method := { name := "<init>", desc := "(ID)V", sig := { parameters := [.int, .double], returnType := none }, accessFlags := 0, code := some k3c0 }
def k3c1 : Code := { maxStack := 4, maxLocals := 2, code := prog_214_method_2_code, exceptionTable := #[], attributes := #[] }
def k3m1 : Method := { name := "heavierThan", desc := "(Lcom/example/weir/weir/strategy/PlacedJoins$Neighbour;)Z", sig := { parameters := [(.object "com/example/weir/weir/strategy/PlacedJoins$Neighbour")], returnType := some .boolean }, accessFlags := 0, code := some k3c1 }
/-- com/example/weir/weir/strategy/PlacedJoins$Neighbour -/
def k3 : Class := { plain "com/example/weir/weir/strategy/PlacedJoins$Neighbour" (some 2) with
  accessFlags := 48
  interfaces := #[]
  cf := some (fileOf pool3 8 #[.nestHost 43] #[{ accessFlags := 0, nameIndex := 5, descriptorIndex := 29, attributes := #[] }, { accessFlags := 0, nameIndex := 33, descriptorIndex := 34, attributes := #[] }] 48 2 #[] #[{ accessFlags := 18, nameIndex := 11, descriptorIndex := 12, attributes := #[] }, { accessFlags := 18, nameIndex := 15, descriptorIndex := 16, attributes := #[] }])
  fields := #[{ name := "task", type := .int, accessFlags := 18, slot := 0, constantValue := 0 }, { name := "traffic", type := .double, accessFlags := 18, slot := 1, constantValue := 0 }]
  methods := #[k3m0, k3m1]
  instanceTypes := #[.int, .double]
  staticTypes := #[]
  resolved := Array.replicate 65 none
  statics := none }

def pool4 : Array CpInfo := pool [(1, u "java/lang/Cloneable"), (0, .class_ 1), (0, u "java/lang/Object"), (0, .class_ 3)] 3

/-- java/lang/Cloneable -/
def k4 : Class := { plain "java/lang/Cloneable" (some 0) with
  accessFlags := 1537
  interfaces := #[]
  cf := some (fileOf pool4 2 #[] #[] 1537 4 #[] #[])
  fields := #[]
  methods := #[]
  instanceTypes := #[]
  staticTypes := #[]
  resolved := Array.replicate 8 none
  statics := none }

def pool5 : Array CpInfo := pool [(1, u "java/io/Serializable"), (0, .class_ 1), (0, u "java/lang/Object"), (0, .class_ 3)] 3

/-- java/io/Serializable -/
def k5 : Class := { plain "java/io/Serializable" (some 0) with
  accessFlags := 1537
  interfaces := #[]
  cf := some (fileOf pool5 2 #[] #[] 1537 4 #[] #[])
  fields := #[]
  methods := #[]
  instanceTypes := #[]
  staticTypes := #[]
  resolved := Array.replicate 8 none
  statics := none }

/-- the primitive byte -/
def k6 : Class := { plain "byte" none with kind := .primitive 'B', accessFlags := 0x411 }
/-- [B -/
def k7 : Class := { plain "[B" (some 0) with kind := .array 6 .byte, interfaces := #[4, 5], accessFlags := 1041 }

/-- the primitive int -/
def k8 : Class := { plain "int" none with kind := .primitive 'I', accessFlags := 0x411 }
/-- [I -/
def k9 : Class := { plain "[I" (some 0) with kind := .array 8 .int, interfaces := #[4, 5], accessFlags := 1041 }

def heap : Heap := #[]
def classes : Array Class := #[k0, k1, k2, k3, k4, k5, k6, k7, k8, k9]
def interned : List (Array UInt16 × Addr) := []
def slotsUsed : Nat := 0
def theMethod : MethodId := ⟨1, 1⟩
def args0 : Array Value := #[.int 5, .int 5, .int 5, .int 5, .int 5]
def aboutOver (below : List Frame) : State where
  vm := { classes := classes, interned := interned.toArray }
  heap := heap
  slotsUsed := slotsUsed
  threads := #[{ frames := .invoking theMethod args0 :: below }]
def below0 : List Frame := [.native { method := ⟨0, 0⟩, args := #[] }]
def about1 : State := aboutOver below0
def p0 : Program := .bare "" "" ""
def e0 : Env := launch0.env 0 0 0
theorem w_frames : about1.frames = Frame.invoking theMethod args0 :: below0 := rfl
set_option maxRecDepth 65536 in
theorem w_args : argsFit about1.vm theMethod args0 = true := by decide +kernel
set_option maxRecDepth 65536 in
theorem w_heap : heapFits about1 = true := by decide +kernel
set_option maxRecDepth 65536 in
theorem w_runnable : about1.curStatus? = some .runnable := by decide +kernel
set_option maxRecDepth 65536 in
theorem w_alone : about1.alone = true := by decide +kernel
set_option maxRecDepth 65536 in
theorem w_named : about1.methodNamed? x = some theMethod := by decide +kernel
set_option maxRecDepth 65536 in
theorem w_hears : about1.hears theMethod below0 = true := by decide +kernel
set_option maxRecDepth 65536 in
theorem w_ripe : about1.ripe theMethod args0 below0 = true := by decide +kernel
theorem w_running : about1.status = .running := rfl
set_option maxRecDepth 65536 in
theorem w_room : about1.hasRoom e0.platform room_1 = true :=
  launch0.hasRoom_least _ room_1 (by decide +kernel) (by decide +kernel) (by decide +kernel) (by decide +kernel) (by decide +kernel) (by decide +kernel)
theorem allAtoms_all (ts : List Jvm.Cond) (a : Array Jvm.Value) (st : Jvm.State) : (allAtoms ts).before a st = ts.all (fun c => c.before a st) := by
  induction ts with
  | nil => rfl
  | cons c t ih =>
    show (Jvm.Cond.and c (allAtoms t)).before a st = _
    rw [Jvm.Cond.before_and, ih, List.all_cons]
def words1 : List Jvm.Cond := Jvm.Cond.code x code maxLocals ret :: tables_1
/-- a 'code' word, met by the world's own term for the bytes: nothing is compared byte by byte -/
theorem code_word {y : MethodName} {bytes : ByteArray} {mx : Nat} {rt : Option FieldType} {a : Array Value} {s : State} {m : MethodId} {meth : Method} {c : Code} (h1 : s.methodNamed? y = some m) (h2 : s.vm.method? m = some meth) (h3 : meth.code = some c) (h4 : c.code = bytes)
    (h5 : (c.maxLocals == mx && c.exceptionTable.isEmpty && decide (c.maxStack ≤ mostOperands) && decide (meth.sig.returnType = rt) && !meth.locks && decide (parseMethodDescriptor y.desc = some meth.sig)) = true) : (Jvm.Cond.code y bytes mx rt).before a s = true := by
  simp only [Bool.and_eq_true, beq_iff_eq, Bool.not_eq_true', decide_eq_true_eq] at h5
  obtain ⟨⟨⟨⟨⟨g1, g2⟩, g3⟩, g4⟩, g5⟩, g6⟩ := h5
  simp [Cond.before, Cond.holds, Cond.value, h1, h2, h3, h4, g1, g2, g3, g4, g5, g6]
def isCode : Jvm.Cond → Bool
  | .code _ _ _ _ => true
  | _ => false
theorem all_split {L : List Jvm.Cond} {P : Jvm.Cond → Bool} (h1 : L.all (fun c => isCode c || P c) = true) (h2 : ∀ c ∈ L.filter isCode, P c = true) : L.all P = true := by
  refine List.all_eq_true.mpr fun c hc => ?_
  have h := List.all_eq_true.mp h1 c hc
  rcases Bool.eq_false_or_eq_true (isCode c) with hi | hi
  · exact h2 c (List.mem_filter.mpr ⟨hc, hi⟩)
  · simpa [hi] using h
set_option maxRecDepth 65536 in
theorem w_c0 : (Jvm.Cond.code x code maxLocals ret).before args0 about1 = true := code_word (m := ⟨1, 1⟩) (meth := k1m1) (c := k1c1) (by decide +kernel) rfl rfl rfl (by decide +kernel)
set_option maxRecDepth 65536 in
theorem w_c1 : (Jvm.Cond.code ({ cls := "com/example/weir/weir/strategy/PlacedJoins$Neighbour", name := "<init>", desc := "(ID)V" } : Jvm.MethodName) prog_214_method_1_code (4 : Nat) (Option.none : Option Jvm.ClassFile.FieldType)).before args0 about1 = true := code_word (m := ⟨3, 0⟩) (meth := k3m0) (c := k3c0) (by decide +kernel) rfl rfl rfl (by decide +kernel)
set_option maxRecDepth 65536 in
theorem w_c2 : (Jvm.Cond.code ({ cls := "java/lang/Record", name := "<init>", desc := "()V" } : Jvm.MethodName) jdk_30_method_1_code (1 : Nat) (Option.none : Option Jvm.ClassFile.FieldType)).before args0 about1 = true := code_word (m := ⟨2, 0⟩) (meth := k2m0) (c := k2c0) (by decide +kernel) rfl rfl rfl (by decide +kernel)
set_option maxRecDepth 65536 in
theorem w_c3 : (Jvm.Cond.code ({ cls := "java/lang/Object", name := "<init>", desc := "()V" } : Jvm.MethodName) object_method_1_code (1 : Nat) (Option.none : Option Jvm.ClassFile.FieldType)).before args0 about1 = true := code_word (m := ⟨0, 0⟩) (meth := k0m0) (c := k0c0) (by decide +kernel) rfl rfl rfl (by decide +kernel)
set_option maxRecDepth 65536 in
theorem w_c4 : (Jvm.Cond.code ({ cls := "com/example/weir/weir/strategy/PlacedJoins$Neighbour", name := "heavierThan", desc := "(Lcom/example/weir/weir/strategy/PlacedJoins$Neighbour;)Z" } : Jvm.MethodName) prog_214_method_2_code (2 : Nat) (Option.some Jvm.ClassFile.FieldType.boolean)).before args0 about1 = true := code_word (m := ⟨3, 1⟩) (meth := k3m1) (c := k3c1) (by decide +kernel) rfl rfl rfl (by decide +kernel)
def codes1 : List Jvm.Cond := [Jvm.Cond.code x code maxLocals ret, Jvm.Cond.code ({ cls := "com/example/weir/weir/strategy/PlacedJoins$Neighbour", name := "<init>", desc := "(ID)V" } : Jvm.MethodName) prog_214_method_1_code (4 : Nat) (Option.none : Option Jvm.ClassFile.FieldType), Jvm.Cond.code ({ cls := "java/lang/Record", name := "<init>", desc := "()V" } : Jvm.MethodName) jdk_30_method_1_code (1 : Nat) (Option.none : Option Jvm.ClassFile.FieldType), Jvm.Cond.code ({ cls := "java/lang/Object", name := "<init>", desc := "()V" } : Jvm.MethodName) object_method_1_code (1 : Nat) (Option.none : Option Jvm.ClassFile.FieldType), Jvm.Cond.code ({ cls := "com/example/weir/weir/strategy/PlacedJoins$Neighbour", name := "heavierThan", desc := "(Lcom/example/weir/weir/strategy/PlacedJoins$Neighbour;)Z" } : Jvm.MethodName) prog_214_method_2_code (2 : Nat) (Option.some Jvm.ClassFile.FieldType.boolean)]
set_option maxRecDepth 65536 in
theorem codes_eq : words1.filter isCode = codes1 := rfl
theorem w_codes : ∀ c ∈ words1.filter isCode, c.before args0 about1 = true := by
  rw [codes_eq]
  intro c hc
  simp only [codes1, List.mem_cons, List.not_mem_nil, or_false] at hc
  rcases hc with rfl | rfl | rfl | rfl | rfl
  · exact w_c0
  · exact w_c1
  · exact w_c2
  · exact w_c3
  · exact w_c4
set_option maxRecDepth 65536 in
theorem w_t1 : words1.all (fun c => isCode c || c.before args0 about1) = true := by decide +kernel
theorem w_tables : (allAtoms (Jvm.Cond.code x code maxLocals ret :: tables_1)).before args0 about1 = true := by
  rw [allAtoms_all]
  show words1.all (fun c => c.before args0 about1) = true
  refine all_split ?_ w_codes
  rw [w_t1]
set_option maxRecDepth 65536 in
theorem w_case : (Jvm.Cond.and given_1 narrow_1).before args0 about1 = true := by decide +kernel
theorem w_applies : (headSpec (Jvm.Cond.code x code maxLocals ret :: tables_1) room_1).applies x e0.platform about1 = true :=
  (Spec.applies_iff w_frames).mpr ⟨w_running, w_runnable, w_alone, w_named, w_hears, w_ripe, w_room, w_tables⟩
theorem atStart : AtStart classFile x code maxLocals ret World_1 tables_1 room_1 Calls_1 rest_1 Pre_1 launch0 p0 e0 about1 theMethod args0 below0 :=
  ⟨lists_1, trivial, launch0.admits_env _ _ _, launch0.least_env, fairChoices_fair.cas, fairChoices_fair.clock, w_frames, w_args, w_heap, w_applies, trivial, trivial, w_case⟩
end start1
theorem witness_1 : WitnessClaimed_1 := ⟨start1.p0, start1.e0, start1.about1, start1.theMethod, start1.args0, start1.below0, start1.atStart⟩
end Jvm.Pilot.@@N@@
