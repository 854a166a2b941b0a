import JvmDerived
import JvmDerived.Pilot.@@N@@Statement
import JvmDerived.Pilot.@@N@@Code
set_option linter.unusedVariables false
set_option linter.unusedSimpArgs false
namespace Jvm.RoadKit
open Sem ClassFile Op Lib Jvm.Stand Jvm.Free Jvm.LawKit
section New
variable {p : Program} {l : Launch} {e : Env} {R : Room} {s : State} {m : MethodId} {args : Array Value} {below : List Frame} {meth : Method} {c : Code} {T : State} {locs : List Loc} {cells slots : Nat}
theorem retI (X : Stand p l e R s m args below meth c T locs cells slots) (hx : p.tables.exec = Jvm.exec) {pc : Nat} {Ls : Array Slot} {z : Int32} {rest : List Value} (hret : meth.sig.returnType = some .int) (hd : decode c.code pc = .ok (.ireturn, 1)) {fs : List Frame}
    (hl : ∀ (f : JFrame) (acts : List Action), f.method = m → f.locked = none → f.entered = [] → (doReturn e (T.setTop f) acts (some (.int z))).1 = T.setFrames fs) : Steps p.tables e below (T.setTop (mkF m pc Ls (.int z :: rest))) (T.setFrames fs) := by
  have hm' : T.vm.method? m = some meth := X.method'
  have hn : narrow .int (.int z) = .int z := rfl
  show Steps p.tables e below (T.setTop { method := m, pc := pc, locals := Ls, stack := _ :: rest, locked := none }) _
  jvm_step X.here [X.here.top, hx, hd, hm', hret, hn]
  first | (intro acts; rw [hl _ acts rfl rfl rfl]) | rw [hl _ _ rfl rfl rfl]
  exact Steps.refl _
end New
end Jvm.RoadKit
namespace Jvm.RoadKit
open Sem ClassFile Op Lib Jvm.Stand Jvm.Free Jvm.LawKit
theorem own_lsw {tb : Tables} [Ours tb] {e : Env} {below : List Frame} {T target : State} {m : MethodId} {c : Code} {g : JFrame} (h : At T m c below) (hx : tb.exec = Jvm.exec) (hg : g.method = m) {dflt : Int} {pairs : Array (Int × Int)} {len : Nat} {pc0 pc' : Nat} (hpc : g.pc = pc0) (hd : decode c.code g.pc = .ok (.lookupswitch dflt pairs, len)) {i : Int32} {rest : List Value} (hs : g.stack = .int i :: rest) {o : Int}
    (hoff : lookupswitch.offset pairs.toList dflt i.toInt = o) (hso : (pairs.toList.zip (pairs.toList.drop 1)).all (fun (a, next) => a.1 < next.1) = true) (ho : 0 ≤ (pc0 : Int) + o) (hp : ((pc0 : Int) + o).toNat = pc')
    (hr : Steps tb e below (T.setTop { g with pc := pc', stack := rest }) target) : Steps tb e below (T.setTop g) target := by
  subst hg hpc hp
  jvm_step h [h.top, hx, hd, hs, hoff, ho, lookupswitch.wp_chain]
  exact ⟨by simpa using hso, hr⟩
theorem own_off_no {k d : Int} : ∀ {L : List (Int × Int)}, (∀ q ∈ L, ¬ q.1 = k) → lookupswitch.offset L d k = d
  | [], _ => rfl
  | (a, o) :: r, h => by rw [lookupswitch.offset_cons, if_neg (h (a, o) (List.mem_cons_self ..))]; exact own_off_no fun q hq => h q (List.mem_cons_of_mem _ hq)
theorem own_ne_lit {x k : Int32} (h : ¬ x = k) {z : Int} (hz : k.toInt = z) : ¬ z = x.toInt := fun q => h (Int32.toInt_inj.mp (by rw [← q, hz]))
def own_rem (x y : Int32) : Int32 := x - (x / y) * y
def bi (P : Prop) [Decidable P] : Int32 := if P then 1 else 0
theorem bi_t {P : Prop} [Decidable P] (h : P) : bi P = 1 := if_pos h
theorem bi_f {P : Prop} [Decidable P] (h : ¬ P) : bi P = 0 := if_neg h
theorem bi_nar {P : Prop} [Decidable P] : nar .boolean (bi P) = bi P := by unfold bi; split <;> rfl
theorem bi_0 {P : Prop} [Decidable P] : (bi P = 0) ↔ ¬ P := by unfold bi; split <;> simp_all
theorem bi_inj {P Q : Prop} [Decidable P] [Decidable Q] (h : P ↔ Q) : bi P = bi Q := by unfold bi; simp only [h]
end Jvm.RoadKit
namespace Jvm.RoadKit
open Sem ClassFile Op Lib Jvm.Stand Jvm.Free Jvm.LawKit
section OwnWords
variable {args : Array Value} {s : State} {idx : List Nat} {t i : Term} {aT : Addr} {cl : Cell} {b k A B z : Int32}
theorem own_or {G Y : Cond} (h : (Cond.or G Y).value args s none s idx = some true) (hg : G.value args s none s idx = some false) : Y.value args s none s idx = some true := by
  simpa only [Cond.value, hg] using h
theorem own_el (h : (Cond.eq (.elem t i) (.int b)).value args s none s idx = some true) (ht : t.eval args s none idx s = some (.ref aT)) (hi : i.eval args s none idx s = some (.int k)) (hc : s.heap[aT]? = some cl) : atv cl k = b := by
  obtain ⟨x, y, e1, e2, -, -⟩ := cmp_v (Or.inl h)
  obtain ⟨-, e3⟩ := elem_in e1 ht hi hc
  have e4 : (Term.int b).eval args s none idx s = some (.int b) := rfl
  cases e4.symm.trans e2
  have e5 : x = .int b := by cases x <;> simp [Cond.value, e1, e4] at h; rw [h]
  subst e5
  exact atv_of e3
theorem own_r1 (h : (Cond.all t (.or (.le (.int A) (.index 0)) (.eq (.elem t (.index 0)) (.int b)))).value args s none s [] = some true) (ht : ∀ idx, t.eval args s none idx s = some (.ref aT)) (hc : s.heap[aT]? = some cl) (ha : s.arrayAt? aT = some cl) {n : Nat} (hn : n < cl.slots.size) (h1 : ¬ A ≤ n.toInt32) : atv cl n.toInt32 = b := by
  have q := Cond.all_elim (ht []) ha h n hn
  exact own_el (own_or q (by simp [Cond.value, Term.eval, h1])) (ht _) (by simp [Term.eval]) hc
theorem own_r2 (h : (Cond.all t (.or (.lt (.index 0) (.int A)) (.or (.le (.int B) (.index 0)) (.eq (.elem t (.index 0)) (.int b))))).value args s none s [] = some true) (ht : ∀ idx, t.eval args s none idx s = some (.ref aT)) (hc : s.heap[aT]? = some cl) (ha : s.arrayAt? aT = some cl) {n : Nat} (hn : n < cl.slots.size) (h1 : ¬ n.toInt32 < A) (h2 : ¬ B ≤ n.toInt32) : atv cl n.toInt32 = b := by
  have q := Cond.all_elim (ht []) ha h n hn
  exact own_el (own_or (own_or q (by simp [Cond.value, Term.eval, h1])) (by simp [Cond.value, Term.eval, h2])) (ht _) (by simp [Term.eval]) hc
theorem own_len (h : (Cond.eq (.length t) (.int z)).value args s none s idx = some true) (ht : t.eval args s none idx s = some (.ref aT)) (ha : s.arrayAt? aT = some cl) : cl.slots.size < 2 ^ 31 ∧ cl.slots.size.toInt32 = z := by
  by_cases q : cl.slots.size < 2 ^ 31
  · simp [Cond.value, Term.eval, ht, ha, q] at h; exact ⟨q, h⟩
  · simp [Cond.value, Term.eval, ht, ha, q] at h
theorem own_sta_idx {C n d : String} {v : Value} (h : (Term.static C n d).eval args s none [] s = some v) (idx : List Nat) : (Term.static C n d).eval args s none idx s = some v := by
  simp only [Term.eval] at h ⊢; exact h
end OwnWords
theorem own_toInt_ofNat {n : Nat} (h : n < 2147483648) : (Int32.ofNat n).toInt = n := Int32.toInt_ofNat_small h
theorem own_of_rng {c : Int32} (h0 : ¬ c < 0) : c = Int32.ofNat c.toInt.toNat := by
  have h0' : 0 ≤ c.toInt := by rw [Int32.lt_iff_toInt_lt] at h0; have : (0 : Int32).toInt = 0 := rfl; omega
  have := c.toInt_lt
  apply Int32.toInt_inj.mp
  rw [own_toInt_ofNat (by omega)]; omega
end Jvm.RoadKit
namespace Jvm.RoadKit
open Sem ClassFile Op Lib Jvm.Stand Jvm.Free Jvm.LawKit
theorem own_ord {args : Array Value} {s : State} {t : Term} {a : Addr} {k : Int32} {C n d : String} (h : (Cond.eq (.field t C n d) (.int k)).value args s none s [] = some true) (ht : t.eval args s none [] s = some (.ref a)) : s.fieldOf? a C n d = some (.int k) := by
  obtain ⟨x, y, e1, e2, -, -⟩ := cmp_v (Or.inl h)
  have e4 : (Term.int k).eval args s none [] s = some (.int k) := rfl
  have e5 : x = .int k := by cases x <;> simp [Cond.value, e1, e4] at h; rw [h]
  rw [fld_at ht] at e1
  rw [e1, e5]
theorem own_ord_ne {o : Addr → Option Value} {a b : Addr} {j k : Int32} (h1 : o a = some (.int j)) (h2 : o b = some (.int k)) (hjk : ¬ j = k) : ¬ a = b := fun e => by
  subst e; exact hjk (Value.int.inj (Option.some.inj (h1.symm.trans h2)))
theorem own_and7 (x : Int32) : (x &&& 7).toInt = 0 ∨ (x &&& 7).toInt = 1 ∨ (x &&& 7).toInt = 2 ∨ (x &&& 7).toInt = 3 ∨ (x &&& 7).toInt = 4 ∨ (x &&& 7).toInt = 5 ∨ (x &&& 7).toInt = 6 ∨ (x &&& 7).toInt = 7 := by
  have h := c_mask x 7 3 (by decide) (by decide)
  have : ((2 ^ 3 : Nat) : Int) = 8 := rfl
  omega
theorem own_i32 {x k : Int32} {z : Int} (h : x.toInt = z) (hk : k.toInt = z) : x = k := Int32.toInt_inj.mp (h.trans hk.symm)
end Jvm.RoadKit
namespace Jvm.Pilot.@@N@@
open Jvm Jvm.ClassFile Sem Op Lib Jvm.Free Jvm.Stand Jvm.LawKit Jvm.RoadKit Bundle Jvm.Pilot.@@N@@.Jvm.D
def own_kind (a a0' a1 a2 : Addr) : Addr := if a = a1 then a0' else if a = a2 then a0' else a
theorem own_k0 (a0' a1 a2 : Addr) : own_kind a0' a0' a1 a2 = a0' := by unfold own_kind; split <;> first | rfl | (split <;> rfl)
theorem own_k1 (a0' a1 a2 : Addr) : own_kind a1 a0' a1 a2 = a0' := by unfold own_kind; rw [if_pos rfl]
theorem own_k2 (a0' a1 a2 : Addr) : own_kind a2 a0' a1 a2 = a0' := by unfold own_kind; split <;> first | rfl | rw [if_pos rfl]
theorem own_kn {a a0' a1 a2 : Addr} (h1 : ¬ a = a1) (h2 : ¬ a = a2) : own_kind a a0' a1 a2 = a := by unfold own_kind; rw [if_neg h1, if_neg h2]
def QK (Z : State) (a : Addr) (a0' : Addr) (a1 : Addr) (a2 : Addr) (h0 : Heap) (n0 : Nat) (v : Option Value) (h : Heap) (L : List Loc) : Prop := v = some (.ref (own_kind a a0' a1 a2)) ∧ Fr n0 L ∧ h = h0
theorem ef_K (m : MethodId) (x0 : Addr) : entryFrame m #[(.ref x0)] 1 = mkF m 0 #[.val (.ref x0)] [] := by first | (simp [entryFrame, mkF, argsToLocals, Value.category]; done) | rfl
theorem pn_TermType : plainName "com/example/triplewright/triplewright/model/TermType" = true := by first | (simp [plainName, overriddenIn]; done) | decide +kernel
theorem d_prog_44_method_4_0 : decode prog_44_method_4_code 0 = .ok (.aload_n 0, 1) := by decide +kernel
theorem d_prog_44_method_4_1 : decode prog_44_method_4_code 1 = .ok (.getstatic 7, 3) := by decide +kernel
theorem d_prog_44_method_4_4 : decode prog_44_method_4_code 4 = .ok (.if_acmp .eq 10, 3) := by decide +kernel
theorem d_prog_44_method_4_14 : decode prog_44_method_4_code 14 = .ok (.getstatic 3, 3) := by decide +kernel
theorem d_prog_44_method_4_17 : decode prog_44_method_4_code 17 = .ok (.goto 4, 3) := by decide +kernel
theorem d_prog_44_method_4_21 : decode prog_44_method_4_code 21 = .ok (.areturn, 1) := by decide +kernel
theorem d_prog_44_method_4_7 : decode prog_44_method_4_code 7 = .ok (.aload_n 0, 1) := by decide +kernel
theorem d_prog_44_method_4_8 : decode prog_44_method_4_code 8 = .ok (.getstatic 10, 3) := by decide +kernel
theorem d_prog_44_method_4_11 : decode prog_44_method_4_code 11 = .ok (.if_acmp .ne 9, 3) := by decide +kernel
theorem d_prog_44_method_4_20 : decode prog_44_method_4_code 20 = .ok (.aload_n 0, 1) := by decide +kernel
set_option maxRecDepth 65536 in
set_option maxHeartbeats 40000000 in
theorem rmK (l : Launch) (Z : State) (a0 : Array Value) (hw : ∀ d ∈ tables_1, d.before a0 Z = true) (ws : List Jvm.Cond) (a : Addr) (a0' : Addr) (a1 : Addr) (a2 : Addr) (h0 : Heap) (n0 : Nat) (Z0 : n0 ≤ h0.size) (S0 : Sta Z h0 "com/example/triplewright/triplewright/model/TermType" "IRI" "Lcom/example/triplewright/triplewright/model/TermType;" (.ref a0')) (S1 : Sta Z h0 "com/example/triplewright/triplewright/model/TermType" "URI" "Lcom/example/triplewright/triplewright/model/TermType;" (.ref a1)) (S2 : Sta Z h0 "com/example/triplewright/triplewright/model/TermType" "UNSAFE_IRI" "Lcom/example/triplewright/triplewright/model/TermType;" (.ref a2)) :
    MetFree l (⟨"com/example/triplewright/triplewright/model/TermType", "kind", "()Lcom/example/triplewright/triplewright/model/TermType;"⟩ : MethodName) (head1 (Jvm.Cond.code (⟨"com/example/triplewright/triplewright/model/TermType", "kind", "()Lcom/example/triplewright/triplewright/model/TermType;"⟩ : MethodName) prog_44_method_4_code 1 (some (.object "com/example/triplewright/triplewright/model/TermType")) :: ws) ({ frames := 0, cells := 0, slots := 0, locals := 0 } : Room)) (fun a' U => a' = #[(.ref a)] ∧ Z.Warmed39 U.vm ∧ U.heap = h0) (fun _ _ _ _ _ => True) (fun _ U o U' => ∃ v L, o = .returned v ∧ QK Z a a0' a1 a2 h0 n0 v U'.heap L ∧ FrameEnd U o U' L ({ frames := 0, cells := 0, slots := 0, locals := 0 } : Room).cells ({ frames := 0, cells := 0, slots := 0, locals := 0 } : Room).slots) := by
  refine MetFree.of_bodySF (plainFor_of_name pn_TermType) hisR ?_
  intro p e s m args below meth c s₁ Bd hml0 hP hK
  obtain ⟨rfl, hZ, hh⟩ := hP
  have hx := Bd.exec
  have hby := Bd.bytes
  have hml : c.maxLocals = 1 := hml0
  have hown : s.vm.findClass "com/example/triplewright/triplewright/model/TermType" = some m.cls := findClass_of_methodNamed Bd.named
  have hnm := (name_of_methodNamed Bd.named Bd.method).1
  have X0 : Stand p l e ({ frames := 0, cells := 0, slots := 0, locals := 0 } : Room) s m #[(.ref a)] below meth c s₁ [] 0 0 := Stand.of_body Bd
  have e0 : s₁.heap = h0 := by rw [← hh, Bd.state]; rfl
  have N0 := Fr.nil n0
  have Zn := Z0
  have pre0 : ∀ t, Steps p.tables e below (s₁.setTop (mkF m 0 #[.val (.ref a)] [])) t → Steps p.tables e below (s₁.setTop (entryFrame m #[(.ref a)] 1)) t := fun t q => castTop (ef_K m a) q
  have k0 : ∀ t, Steps p.tables e below (s₁.setTop (mkF m 0 #[.val (.ref a)] [])) t → Steps p.tables e below (s₁.setTop (mkF m 0 #[.val (.ref a)] [])) t := fun t q => q
  have k1_ : ∀ t, Steps p.tables e below (s₁.setTop (mkF m 1 #[.val (.ref a)] [(.ref a)])) t → Steps p.tables e below (s₁.setTop (mkF m 0 #[.val (.ref a)] [])) t := by
    intro t q
    refine k0 _ ?_
    show Steps p.tables e below (s₁.setTop (mkF m 0 #[.val (.ref a)] [])) _
    refine XS.aloadN X0.here hx rfl (hb hby d_prog_44_method_4_0) rfl rfl ?_
    show Steps p.tables e below (s₁.setTop (mkF m 1 #[.val (.ref a)] [(.ref a)])) _
    exact q
  obtain ⟨T2, X2, e2, st2⟩ := getS2 X0 hx hZ hown (host := "") (Or.inl (hw _ (List.mem_of_getElem? (i := 9) rfl))) Via.refl e0 S1 (g := (mkF m 1 #[.val (.ref a)] [(.ref a)])) rfl (hb hby d_prog_44_method_4_1)
  have k3_ : ∀ t, Steps p.tables e below (T2.setTop (mkF m 4 #[.val (.ref a)] [(.ref a1), (.ref a)])) t → Steps p.tables e below (s₁.setTop (mkF m 0 #[.val (.ref a)] [])) t := fun t q => k1_ t (st2 t q)
  by_cases hp1 : a = a1
  · have k4_ : ∀ t, Steps p.tables e below (T2.setTop (mkF m 14 #[.val (.ref a)] [])) t → Steps p.tables e below (s₁.setTop (mkF m 0 #[.val (.ref a)] [])) t := by
      intro t q
      refine k3_ _ ?_
      show Steps p.tables e below (T2.setTop (mkF m 4 #[.val (.ref a)] [(.ref a1), (.ref a)])) _
      refine Jvm.RoadKit.acmp (g := (mkF m 4 #[.val (.ref a)] [(.ref a1), (.ref a)])) X2 hx rfl rfl rfl (pc0 := 4) (pc' := 14) (same := true) rfl (hb hby d_prog_44_method_4_4) rfl (decide_eq_true (congrArg Value.ref hp1)) (by decide) (by decide) ?_
      show Steps p.tables e below (T2.setTop (mkF m 14 #[.val (.ref a)] [])) _
      exact q
    obtain ⟨T5, X5, e5, st5⟩ := getS2 X2 hx hZ hown (host := "") (Or.inl (hw _ (List.mem_of_getElem? (i := 16) rfl))) Via.refl e2 S0 (g := (mkF m 14 #[.val (.ref a)] [])) rfl (hb hby d_prog_44_method_4_14)
    have k6_ : ∀ t, Steps p.tables e below (T5.setTop (mkF m 17 #[.val (.ref a)] [(.ref a0')])) t → Steps p.tables e below (s₁.setTop (mkF m 0 #[.val (.ref a)] [])) t := fun t q => k4_ t (st5 t q)
    have k7_ : ∀ t, Steps p.tables e below (T5.setTop (mkF m 21 #[.val (.ref a)] [(.ref a0')])) t → Steps p.tables e below (s₁.setTop (mkF m 0 #[.val (.ref a)] [])) t := by
      intro t q
      refine k6_ _ ?_
      show Steps p.tables e below (T5.setTop (mkF m 17 #[.val (.ref a)] [(.ref a0')])) _
      refine XS.goto X5.here hx rfl (pc0 := 17) (pc' := 21) rfl (hb hby d_prog_44_method_4_17) (by decide) (by decide) ?_
      show Steps p.tables e below (T5.setTop (mkF m 21 #[.val (.ref a)] [(.ref a0')])) _
      exact q
    obtain ⟨fs, hr, hrun, hended, hW, hsame⟩ := X5.leave (v := some (.ref a0')) (fun h => by rw [Bd.returns] at h; cases h)
    refine ⟨_, _, pre0 _ (k7_ _ ?_), hrun, hended, _, _, rfl, ?_, ⟨_, rfl⟩, hW, hsame.mono (by decide) (by decide)⟩
    · show Steps p.tables e below (T5.setTop (mkF m 21 #[.val (.ref a)] [(.ref a0')])) _
      jvm_step X5.here [X5.here.top, hx, (hb hby d_prog_44_method_4_21), X5.method', Bd.returns, Value.isRef, FieldType.isReference]
      first | (intro acts; rw [hr _ acts rfl rfl rfl]) | rw [hr _ _ rfl rfl rfl]
      exact Steps.refl _
    · show QK Z a a0' a1 a2 h0 n0 _ T5.heap _
      rw [e5]
      exact ⟨by unfold own_kind; rw [if_pos hp1], N0, rfl⟩
  · have k8_ : ∀ t, Steps p.tables e below (T2.setTop (mkF m 7 #[.val (.ref a)] [])) t → Steps p.tables e below (s₁.setTop (mkF m 0 #[.val (.ref a)] [])) t := by
      intro t q
      refine k3_ _ ?_
      show Steps p.tables e below (T2.setTop (mkF m 4 #[.val (.ref a)] [(.ref a1), (.ref a)])) _
      refine Jvm.RoadKit.acmp (g := (mkF m 4 #[.val (.ref a)] [(.ref a1), (.ref a)])) X2 hx rfl rfl rfl (pc0 := 4) (pc' := 7) (same := false) rfl (hb hby d_prog_44_method_4_4) rfl (decide_eq_false fun q => hp1 (Value.ref.inj q)) (by decide) (by decide) ?_
      show Steps p.tables e below (T2.setTop (mkF m 7 #[.val (.ref a)] [])) _
      exact q
    have k9_ : ∀ t, Steps p.tables e below (T2.setTop (mkF m 8 #[.val (.ref a)] [(.ref a)])) t → Steps p.tables e below (s₁.setTop (mkF m 0 #[.val (.ref a)] [])) t := by
      intro t q
      refine k8_ _ ?_
      show Steps p.tables e below (T2.setTop (mkF m 7 #[.val (.ref a)] [])) _
      refine XS.aloadN X2.here hx rfl (hb hby d_prog_44_method_4_7) rfl rfl ?_
      show Steps p.tables e below (T2.setTop (mkF m 8 #[.val (.ref a)] [(.ref a)])) _
      exact q
    obtain ⟨T10, X10, e10, st10⟩ := getS2 X2 hx hZ hown (host := "") (Or.inl (hw _ (List.mem_of_getElem? (i := 11) rfl))) Via.refl e2 S2 (g := (mkF m 8 #[.val (.ref a)] [(.ref a)])) rfl (hb hby d_prog_44_method_4_8)
    have k11_ : ∀ t, Steps p.tables e below (T10.setTop (mkF m 11 #[.val (.ref a)] [(.ref a2), (.ref a)])) t → Steps p.tables e below (s₁.setTop (mkF m 0 #[.val (.ref a)] [])) t := fun t q => k9_ t (st10 t q)
    by_cases hp2 : a = a2
    · have k12_ : ∀ t, Steps p.tables e below (T10.setTop (mkF m 14 #[.val (.ref a)] [])) t → Steps p.tables e below (s₁.setTop (mkF m 0 #[.val (.ref a)] [])) t := by
        intro t q
        refine k11_ _ ?_
        show Steps p.tables e below (T10.setTop (mkF m 11 #[.val (.ref a)] [(.ref a2), (.ref a)])) _
        refine Jvm.RoadKit.acmp (g := (mkF m 11 #[.val (.ref a)] [(.ref a2), (.ref a)])) X10 hx rfl rfl rfl (pc0 := 11) (pc' := 14) (same := true) rfl (hb hby d_prog_44_method_4_11) rfl (decide_eq_true (congrArg Value.ref hp2)) (by decide) (by decide) ?_
        show Steps p.tables e below (T10.setTop (mkF m 14 #[.val (.ref a)] [])) _
        exact q
      obtain ⟨T13, X13, e13, st13⟩ := getS2 X10 hx hZ hown (host := "") (Or.inl (hw _ (List.mem_of_getElem? (i := 16) rfl))) Via.refl e10 S0 (g := (mkF m 14 #[.val (.ref a)] [])) rfl (hb hby d_prog_44_method_4_14)
      have k14_ : ∀ t, Steps p.tables e below (T13.setTop (mkF m 17 #[.val (.ref a)] [(.ref a0')])) t → Steps p.tables e below (s₁.setTop (mkF m 0 #[.val (.ref a)] [])) t := fun t q => k12_ t (st13 t q)
      have k15_ : ∀ t, Steps p.tables e below (T13.setTop (mkF m 21 #[.val (.ref a)] [(.ref a0')])) t → Steps p.tables e below (s₁.setTop (mkF m 0 #[.val (.ref a)] [])) t := by
        intro t q
        refine k14_ _ ?_
        show Steps p.tables e below (T13.setTop (mkF m 17 #[.val (.ref a)] [(.ref a0')])) _
        refine XS.goto X13.here hx rfl (pc0 := 17) (pc' := 21) rfl (hb hby d_prog_44_method_4_17) (by decide) (by decide) ?_
        show Steps p.tables e below (T13.setTop (mkF m 21 #[.val (.ref a)] [(.ref a0')])) _
        exact q
      obtain ⟨fs, hr, hrun, hended, hW, hsame⟩ := X13.leave (v := some (.ref a0')) (fun h => by rw [Bd.returns] at h; cases h)
      refine ⟨_, _, pre0 _ (k15_ _ ?_), hrun, hended, _, _, rfl, ?_, ⟨_, rfl⟩, hW, hsame.mono (by decide) (by decide)⟩
      · show Steps p.tables e below (T13.setTop (mkF m 21 #[.val (.ref a)] [(.ref a0')])) _
        jvm_step X13.here [X13.here.top, hx, (hb hby d_prog_44_method_4_21), X13.method', Bd.returns, Value.isRef, FieldType.isReference]
        first | (intro acts; rw [hr _ acts rfl rfl rfl]) | rw [hr _ _ rfl rfl rfl]
        exact Steps.refl _
      · show QK Z a a0' a1 a2 h0 n0 _ T13.heap _
        rw [e13]
        exact ⟨by unfold own_kind; rw [if_neg hp1, if_pos hp2], N0, rfl⟩
    · have k16_ : ∀ t, Steps p.tables e below (T10.setTop (mkF m 20 #[.val (.ref a)] [])) t → Steps p.tables e below (s₁.setTop (mkF m 0 #[.val (.ref a)] [])) t := by
        intro t q
        refine k11_ _ ?_
        show Steps p.tables e below (T10.setTop (mkF m 11 #[.val (.ref a)] [(.ref a2), (.ref a)])) _
        refine Jvm.RoadKit.acmp (g := (mkF m 11 #[.val (.ref a)] [(.ref a2), (.ref a)])) X10 hx rfl rfl rfl (pc0 := 11) (pc' := 20) (same := false) rfl (hb hby d_prog_44_method_4_11) rfl (decide_eq_false fun q => hp2 (Value.ref.inj q)) (by decide) (by decide) ?_
        show Steps p.tables e below (T10.setTop (mkF m 20 #[.val (.ref a)] [])) _
        exact q
      have k17_ : ∀ t, Steps p.tables e below (T10.setTop (mkF m 21 #[.val (.ref a)] [(.ref a)])) t → Steps p.tables e below (s₁.setTop (mkF m 0 #[.val (.ref a)] [])) t := by
        intro t q
        refine k16_ _ ?_
        show Steps p.tables e below (T10.setTop (mkF m 20 #[.val (.ref a)] [])) _
        refine XS.aloadN X10.here hx rfl (hb hby d_prog_44_method_4_20) rfl rfl ?_
        show Steps p.tables e below (T10.setTop (mkF m 21 #[.val (.ref a)] [(.ref a)])) _
        exact q
      obtain ⟨fs, hr, hrun, hended, hW, hsame⟩ := X10.leave (v := some (.ref a)) (fun h => by rw [Bd.returns] at h; cases h)
      refine ⟨_, _, pre0 _ (k17_ _ ?_), hrun, hended, _, _, rfl, ?_, ⟨_, rfl⟩, hW, hsame.mono (by decide) (by decide)⟩
      · show Steps p.tables e below (T10.setTop (mkF m 21 #[.val (.ref a)] [(.ref a)])) _
        jvm_step X10.here [X10.here.top, hx, (hb hby d_prog_44_method_4_21), X10.method', Bd.returns, Value.isRef, FieldType.isReference]
        first | (intro acts; rw [hr _ acts rfl rfl rfl]) | rw [hr _ _ rfl rfl rfl]
        exact Steps.refl _
      · show QK Z a a0' a1 a2 h0 n0 _ T10.heap _
        rw [e10]
        exact ⟨by unfold own_kind; rw [if_neg hp1, if_neg hp2], N0, rfl⟩
def Q0 (Z : State) (p1 : Int32) (a0' : Addr) (a1 : Addr) (a2 : Addr) (a3 : Addr) (a4 : Addr) (od : Addr → Option Value) (h0 : Heap) (n0 : Nat) (v : Option Value) (h : Heap) (L : List Loc) : Prop := v = some (.int 1) ∧ Fr n0 L
theorem ef_0 (m : MethodId) (x0 : Int32) : entryFrame m #[(.int x0)] maxLocals = mkF m 0 #[.val (.int x0), .unset, .unset, .unset, .unset] [] := by first | (simp [entryFrame, mkF, argsToLocals, Value.category, maxLocals]; done) | rfl
theorem pn_TermTypeKindPinLaw : plainName "com/example/triplewright/triplewright/model/TermTypeKindPinLaw" = true := by first | (simp [plainName, overriddenIn]; done) | decide +kernel
theorem pd_36218 : parseMethodDescriptor "()Lcom/example/triplewright/triplewright/model/TermType;" = some ⟨[], some (.object "com/example/triplewright/triplewright/model/TermType")⟩ := by decide +kernel
set_option maxRecDepth 65536 in
set_option maxHeartbeats 40000000 in
theorem rm0 (l : Launch) (Z : State) (a0 : Array Value) (hw : ∀ d ∈ tables_1, d.before a0 Z = true) (ws : List Jvm.Cond) (p1 : Int32) (a0' : Addr) (a1 : Addr) (a2 : Addr) (a3 : Addr) (a4 : Addr) (od : Addr → Option Value) (h0 : Heap) (n0 : Nat) (Z0 : n0 ≤ h0.size) (S0 : Sta Z h0 "com/example/triplewright/triplewright/model/TermType" "IRI" "Lcom/example/triplewright/triplewright/model/TermType;" (.ref a0')) (S1 : Sta Z h0 "com/example/triplewright/triplewright/model/TermType" "URI" "Lcom/example/triplewright/triplewright/model/TermType;" (.ref a1)) (S2 : Sta Z h0 "com/example/triplewright/triplewright/model/TermType" "UNSAFE_IRI" "Lcom/example/triplewright/triplewright/model/TermType;" (.ref a2)) (S3 : Sta Z h0 "com/example/triplewright/triplewright/model/TermType" "BLANK_NODE" "Lcom/example/triplewright/triplewright/model/TermType;" (.ref a3)) (S4 : Sta Z h0 "com/example/triplewright/triplewright/model/TermType" "LITERAL" "Lcom/example/triplewright/triplewright/model/TermType;" (.ref a4)) (E0 : Exa Z h0 a0' "com/example/triplewright/triplewright/model/TermType") (E1 : Exa Z h0 a1 "com/example/triplewright/triplewright/model/TermType") (E2 : Exa Z h0 a2 "com/example/triplewright/triplewright/model/TermType") (E3 : Exa Z h0 a3 "com/example/triplewright/triplewright/model/TermType") (E4 : Exa Z h0 a4 "com/example/triplewright/triplewright/model/TermType") (ho0 : od a0' = some (.int 0)) (ho1 : od a1 = some (.int 1)) (ho2 : od a2 = some (.int 2)) (ho3 : od a3 = some (.int 3)) (ho4 : od a4 = some (.int 4)) :
    MetFree l x (head1 (Jvm.Cond.code x code maxLocals ret :: ws) room_1) (fun a' U => a' = #[(.int p1)] ∧ Z.Warmed39 U.vm ∧ U.heap = h0) (fun _ _ _ _ _ => True) (fun _ U o U' => ∃ v L, o = .returned v ∧ Q0 Z p1 a0' a1 a2 a3 a4 od h0 n0 v U'.heap L ∧ FrameEnd U o U' L room_1.cells room_1.slots) := by
  refine MetFree.of_bodySF (plainFor_of_name pn_TermTypeKindPinLaw) hisR ?_
  intro p e s m args below meth c s₁ Bd hml0 hP hK
  obtain ⟨rfl, hZ, hh⟩ := hP
  have hx := Bd.exec
  have hby := Bd.bytes
  have hml : c.maxLocals = 5 := hml0
  have hown : s.vm.findClass "com/example/triplewright/triplewright/model/TermTypeKindPinLaw" = some m.cls := findClass_of_methodNamed Bd.named
  have hnm := (name_of_methodNamed Bd.named Bd.method).1
  have X0 : Stand p l e room_1 s m #[(.int p1)] below meth c s₁ [] 0 0 := Stand.of_body Bd
  have e0 : s₁.heap = h0 := by rw [← hh, Bd.state]; rfl
  have N0 := Fr.nil n0
  have Zn := Z0
  have pre0 : ∀ t, Steps p.tables e below (s₁.setTop (mkF m 0 #[.val (.int p1), .unset, .unset, .unset, .unset] [])) t → Steps p.tables e below (s₁.setTop (entryFrame m #[(.int p1)] maxLocals)) t := fun t q => castTop (ef_0 m p1) q
  have k0 : ∀ t, Steps p.tables e below (s₁.setTop (mkF m 0 #[.val (.int p1), .unset, .unset, .unset, .unset] [])) t → Steps p.tables e below (s₁.setTop (mkF m 0 #[.val (.int p1), .unset, .unset, .unset, .unset] [])) t := fun t q => q
  have k1_ : ∀ t, Steps p.tables e below (s₁.setTop (mkF m 8 #[.val (.int p1), .val (.int (own_rem (p1 &&& (2147483647 : Int32)) (5 : Int32))), .unset, .unset, .unset] [(.int (own_rem (p1 &&& (2147483647 : Int32)) (5 : Int32)))])) t → Steps p.tables e below (s₁.setTop (mkF m 0 #[.val (.int p1), .unset, .unset, .unset, .unset] [])) t := by
    intro t q
    refine k0 _ ?_
    show Steps p.tables e below (s₁.setTop (mkF m 0 #[.val (.int p1), .unset, .unset, .unset, .unset] [])) _
    refine XS.iloadN X0.here hx rfl (hb hby at_0) rfl ?_
    show Steps p.tables e below (s₁.setTop (mkF m 1 #[.val (.int p1), .unset, .unset, .unset, .unset] [(.int p1)])) _
    refine X0.ldcInt hx hown (mvT hZ (hw _ (List.mem_of_getElem? (i := 0) rfl))) (g := (mkF m 1 #[.val (.int p1), .unset, .unset, .unset, .unset] [(.int p1)])) rfl (hb hby at_1) _ ?_
    show Steps p.tables e below (s₁.setTop (mkF m 3 #[.val (.int p1), .unset, .unset, .unset, .unset] [(.int (2147483647 : Int32)), (.int p1)])) _
    refine XS.iand X0.here hx rfl (hb hby at_3) rfl ?_
    show Steps p.tables e below (s₁.setTop (mkF m 4 #[.val (.int p1), .unset, .unset, .unset, .unset] [(.int (p1 &&& (2147483647 : Int32)))])) _
    refine XS.iconst X0.here hx rfl (hb hby at_4) ?_
    show Steps p.tables e below (s₁.setTop (mkF m 5 #[.val (.int p1), .unset, .unset, .unset, .unset] [(.int (5 : Int32)), (.int (p1 &&& (2147483647 : Int32)))])) _
    refine XS.irem X0.here hx rfl (hb hby at_5) rfl (by decide) ?_
    show Steps p.tables e below (s₁.setTop (mkF m 6 #[.val (.int p1), .unset, .unset, .unset, .unset] [(.int (own_rem (p1 &&& (2147483647 : Int32)) (5 : Int32)))])) _
    refine XS.istoreN X0.here hx rfl (hb hby at_6) rfl (l' := #[.val (.int p1), .val (.int (own_rem (p1 &&& (2147483647 : Int32)) (5 : Int32))), .unset, .unset, .unset]) rfl ?_
    show Steps p.tables e below (s₁.setTop (mkF m 7 #[.val (.int p1), .val (.int (own_rem (p1 &&& (2147483647 : Int32)) (5 : Int32))), .unset, .unset, .unset] [])) _
    refine XS.iloadN X0.here hx rfl (hb hby at_7) rfl ?_
    show Steps p.tables e below (s₁.setTop (mkF m 8 #[.val (.int p1), .val (.int (own_rem (p1 &&& (2147483647 : Int32)) (5 : Int32))), .unset, .unset, .unset] [(.int (own_rem (p1 &&& (2147483647 : Int32)) (5 : Int32)))])) _
    exact q
  by_cases hk0 : (own_rem (p1 &&& (2147483647 : Int32)) (5 : Int32)) = (0 : Int32)
  · have k2_ : ∀ t, Steps p.tables e below (s₁.setTop (mkF m 11 #[.val (.int p1), .val (.int (own_rem (p1 &&& (2147483647 : Int32)) (5 : Int32))), .unset, .unset, .unset] [])) t → Steps p.tables e below (s₁.setTop (mkF m 0 #[.val (.int p1), .unset, .unset, .unset, .unset] [])) t := by
      intro t q
      refine k1_ _ ?_
      show Steps p.tables e below (s₁.setTop (mkF m 8 #[.val (.int p1), .val (.int (own_rem (p1 &&& (2147483647 : Int32)) (5 : Int32))), .unset, .unset, .unset] [(.int (own_rem (p1 &&& (2147483647 : Int32)) (5 : Int32)))])) _
      refine XS.ifNo X0.here hx rfl (hb hby at_8) rfl ((if0 _ _).trans (teq hk0).2) ?_
      show Steps p.tables e below (s₁.setTop (mkF m 11 #[.val (.int p1), .val (.int (own_rem (p1 &&& (2147483647 : Int32)) (5 : Int32))), .unset, .unset, .unset] [])) _
      exact q
    obtain ⟨T3, X3, e3, st3⟩ := getS2 X0 hx hZ hown (host := "") (Or.inl (hw _ (List.mem_of_getElem? (i := 1) rfl))) Via.refl e0 S0 (g := (mkF m 11 #[.val (.int p1), .val (.int (own_rem (p1 &&& (2147483647 : Int32)) (5 : Int32))), .unset, .unset, .unset] [])) rfl (hb hby at_11)
    have k4_ : ∀ t, Steps p.tables e below (T3.setTop (mkF m 14 #[.val (.int p1), .val (.int (own_rem (p1 &&& (2147483647 : Int32)) (5 : Int32))), .unset, .unset, .unset] [(.ref a0')])) t → Steps p.tables e below (s₁.setTop (mkF m 0 #[.val (.int p1), .unset, .unset, .unset, .unset] [])) t := fun t q => k2_ t (st3 t q)
    have k5_ : ∀ t, Steps p.tables e below (T3.setTop (mkF m 15 #[.val (.int p1), .val (.int (own_rem (p1 &&& (2147483647 : Int32)) (5 : Int32))), .val (.ref a0'), .unset, .unset] [])) t → Steps p.tables e below (s₁.setTop (mkF m 0 #[.val (.int p1), .unset, .unset, .unset, .unset] [])) t := by
      intro t q
      refine k4_ _ ?_
      show Steps p.tables e below (T3.setTop (mkF m 14 #[.val (.int p1), .val (.int (own_rem (p1 &&& (2147483647 : Int32)) (5 : Int32))), .unset, .unset, .unset] [(.ref a0')])) _
      refine XS.astoreN X3.here hx rfl (hb hby at_14) rfl rfl (l' := #[.val (.int p1), .val (.int (own_rem (p1 &&& (2147483647 : Int32)) (5 : Int32))), .val (.ref a0'), .unset, .unset]) rfl ?_
      show Steps p.tables e below (T3.setTop (mkF m 15 #[.val (.int p1), .val (.int (own_rem (p1 &&& (2147483647 : Int32)) (5 : Int32))), .val (.ref a0'), .unset, .unset] [])) _
      exact q
    obtain ⟨T6, X6, e6, st6⟩ := getS2 X3 hx hZ hown (host := "") (Or.inl (hw _ (List.mem_of_getElem? (i := 1) rfl))) Via.refl e3 S0 (g := (mkF m 15 #[.val (.int p1), .val (.int (own_rem (p1 &&& (2147483647 : Int32)) (5 : Int32))), .val (.ref a0'), .unset, .unset] [])) rfl (hb hby at_15)
    have k7_ : ∀ t, Steps p.tables e below (T6.setTop (mkF m 18 #[.val (.int p1), .val (.int (own_rem (p1 &&& (2147483647 : Int32)) (5 : Int32))), .val (.ref a0'), .unset, .unset] [(.ref a0')])) t → Steps p.tables e below (s₁.setTop (mkF m 0 #[.val (.int p1), .unset, .unset, .unset, .unset] [])) t := fun t q => k5_ t (st6 t q)
    have k8_ : ∀ t, Steps p.tables e below (T6.setTop (mkF m 79 #[.val (.int p1), .val (.int (own_rem (p1 &&& (2147483647 : Int32)) (5 : Int32))), .val (.ref a0'), .val (.ref a0'), .unset] [(.ref a0')])) t → Steps p.tables e below (s₁.setTop (mkF m 0 #[.val (.int p1), .unset, .unset, .unset, .unset] [])) t := by
      intro t q
      refine k7_ _ ?_
      show Steps p.tables e below (T6.setTop (mkF m 18 #[.val (.int p1), .val (.int (own_rem (p1 &&& (2147483647 : Int32)) (5 : Int32))), .val (.ref a0'), .unset, .unset] [(.ref a0')])) _
      refine XS.astoreN X6.here hx rfl (hb hby at_18) rfl rfl (l' := #[.val (.int p1), .val (.int (own_rem (p1 &&& (2147483647 : Int32)) (5 : Int32))), .val (.ref a0'), .val (.ref a0'), .unset]) rfl ?_
      show Steps p.tables e below (T6.setTop (mkF m 19 #[.val (.int p1), .val (.int (own_rem (p1 &&& (2147483647 : Int32)) (5 : Int32))), .val (.ref a0'), .val (.ref a0'), .unset] [])) _
      refine XS.goto X6.here hx rfl (pc0 := 19) (pc' := 78) rfl (hb hby at_19) (by decide) (by decide) ?_
      show Steps p.tables e below (T6.setTop (mkF m 78 #[.val (.int p1), .val (.int (own_rem (p1 &&& (2147483647 : Int32)) (5 : Int32))), .val (.ref a0'), .val (.ref a0'), .unset] [])) _
      refine XS.aloadN X6.here hx rfl (hb hby at_78) rfl rfl ?_
      show Steps p.tables e below (T6.setTop (mkF m 79 #[.val (.int p1), .val (.int (own_rem (p1 &&& (2147483647 : Int32)) (5 : Int32))), .val (.ref a0'), .val (.ref a0'), .unset] [(.ref a0')])) _
      exact q
    obtain ⟨cq9, kq9, q9a, q9b, q9c⟩ := isOf hZ e6 E0
    obtain ⟨_, _, ⟨T9, L9, kk9, n9⟩, -, X9, ⟨Lc9, hQ9, l9, y9, z9⟩, st9⟩ := X6.virtualBack hx (y := (⟨"com/example/triplewright/triplewright/model/TermType", "kind", "()Lcom/example/triplewright/triplewright/model/TermType;"⟩ : MethodName)) (z := (⟨"com/example/triplewright/triplewright/model/TermType", "kind", "()Lcom/example/triplewright/triplewright/model/TermType;"⟩ : MethodName)) hown (mvT hZ (hw _ (List.mem_of_getElem? (i := 4) rfl))) (mvT hZ (hw _ (List.mem_of_getElem? (i := 5) rfl))) (notFace_of_selects (args := #[]) (mvT hZ (hw _ (List.mem_of_getElem? (i := 7) rfl)))) (mvT hZ (hw _ (List.mem_of_getElem? (i := 7) rfl))) (mvT hZ (hw _ (List.mem_of_getElem? (i := 6) rfl))) (by decide) (backOf (W := 0) (rmK l Z a0 hw [] a0' a0' a1 a2 h0 n0 Z0 S0 S1 S2) hZ (hw _ (List.mem_of_getElem? (i := 8) rfl)) (hw _ (List.mem_of_getElem? (i := 2) rfl)) (by decide) (by decide)) q9a q9c (g := (mkF m 79 #[.val (.int p1), .val (.int (own_rem (p1 &&& (2147483647 : Int32)) (5 : Int32))), .val (.ref a0'), .val (.ref a0'), .unset] [(.ref a0')])) rfl (by rw [hml]; rfl) (Steps.refl _) (argsL := []) (rest := []) (lenOf pd_36218 rfl) rfl (by show 2 * 0 + _ ≤ _; exact Nat.le_of_eq rfl) (hb hby at_79) (fun _ _ => ⟨rfl, e6, (by decide : 0 + 0 ≤ _), (by decide : 0 + 0 ≤ _)⟩)
    dsimp only [Pt.U, Pt.locs, Pt.cells, Pt.slots] at X9 l9 y9 z9 st9 hQ9
    subst l9 y9 z9
    obtain ⟨hv, Nq9, hq9⟩ := hQ9
    rw [own_k0] at hv
    subst hv
    have N9 := Fr.app N0 Nq9
    have k10_ : ∀ t, Steps p.tables e below (T9.setTop (mkF m 82 #[.val (.int p1), .val (.int (own_rem (p1 &&& (2147483647 : Int32)) (5 : Int32))), .val (.ref a0'), .val (.ref a0'), .unset] [(.ref a0')])) t → Steps p.tables e below (s₁.setTop (mkF m 0 #[.val (.int p1), .unset, .unset, .unset, .unset] [])) t := fun t q => k8_ t (st9.trans q)
    have k11_ : ∀ t, Steps p.tables e below (T9.setTop (mkF m 87 #[.val (.int p1), .val (.int (own_rem (p1 &&& (2147483647 : Int32)) (5 : Int32))), .val (.ref a0'), .val (.ref a0'), .val (.ref a0')] [(.ref a0'), (.ref a0')])) t → Steps p.tables e below (s₁.setTop (mkF m 0 #[.val (.int p1), .unset, .unset, .unset, .unset] [])) t := by
      intro t q
      refine k10_ _ ?_
      show Steps p.tables e below (T9.setTop (mkF m 82 #[.val (.int p1), .val (.int (own_rem (p1 &&& (2147483647 : Int32)) (5 : Int32))), .val (.ref a0'), .val (.ref a0'), .unset] [(.ref a0')])) _
      refine XS.astore X9.here hx rfl (hb hby at_82) rfl rfl (l' := #[.val (.int p1), .val (.int (own_rem (p1 &&& (2147483647 : Int32)) (5 : Int32))), .val (.ref a0'), .val (.ref a0'), .val (.ref a0')]) rfl ?_
      show Steps p.tables e below (T9.setTop (mkF m 84 #[.val (.int p1), .val (.int (own_rem (p1 &&& (2147483647 : Int32)) (5 : Int32))), .val (.ref a0'), .val (.ref a0'), .val (.ref a0')] [])) _
      refine XS.aload X9.here hx rfl (hb hby at_84) rfl rfl ?_
      show Steps p.tables e below (T9.setTop (mkF m 86 #[.val (.int p1), .val (.int (own_rem (p1 &&& (2147483647 : Int32)) (5 : Int32))), .val (.ref a0'), .val (.ref a0'), .val (.ref a0')] [(.ref a0')])) _
      refine XS.aloadN X9.here hx rfl (hb hby at_86) rfl rfl ?_
      show Steps p.tables e below (T9.setTop (mkF m 87 #[.val (.int p1), .val (.int (own_rem (p1 &&& (2147483647 : Int32)) (5 : Int32))), .val (.ref a0'), .val (.ref a0'), .val (.ref a0')] [(.ref a0'), (.ref a0')])) _
      exact q
    have k12_ : ∀ t, Steps p.tables e below (T9.setTop (mkF m 90 #[.val (.int p1), .val (.int (own_rem (p1 &&& (2147483647 : Int32)) (5 : Int32))), .val (.ref a0'), .val (.ref a0'), .val (.ref a0')] [])) t → Steps p.tables e below (s₁.setTop (mkF m 0 #[.val (.int p1), .unset, .unset, .unset, .unset] [])) t := by
      intro t q
      refine k11_ _ ?_
      show Steps p.tables e below (T9.setTop (mkF m 87 #[.val (.int p1), .val (.int (own_rem (p1 &&& (2147483647 : Int32)) (5 : Int32))), .val (.ref a0'), .val (.ref a0'), .val (.ref a0')] [(.ref a0'), (.ref a0')])) _
      refine Jvm.RoadKit.acmp (g := (mkF m 87 #[.val (.int p1), .val (.int (own_rem (p1 &&& (2147483647 : Int32)) (5 : Int32))), .val (.ref a0'), .val (.ref a0'), .val (.ref a0')] [(.ref a0'), (.ref a0')])) X9 hx rfl rfl rfl (pc0 := 87) (pc' := 90) (same := true) rfl (hb hby at_87) rfl (decide_eq_true (congrArg Value.ref rfl)) (by decide) (by decide) ?_
      show Steps p.tables e below (T9.setTop (mkF m 90 #[.val (.int p1), .val (.int (own_rem (p1 &&& (2147483647 : Int32)) (5 : Int32))), .val (.ref a0'), .val (.ref a0'), .val (.ref a0')] [])) _
      exact q
    have k13_ : ∀ t, Steps p.tables e below (T9.setTop (mkF m 92 #[.val (.int p1), .val (.int (own_rem (p1 &&& (2147483647 : Int32)) (5 : Int32))), .val (.ref a0'), .val (.ref a0'), .val (.ref a0')] [(.ref a0')])) t → Steps p.tables e below (s₁.setTop (mkF m 0 #[.val (.int p1), .unset, .unset, .unset, .unset] [])) t := by
      intro t q
      refine k12_ _ ?_
      show Steps p.tables e below (T9.setTop (mkF m 90 #[.val (.int p1), .val (.int (own_rem (p1 &&& (2147483647 : Int32)) (5 : Int32))), .val (.ref a0'), .val (.ref a0'), .val (.ref a0')] [])) _
      refine XS.aload X9.here hx rfl (hb hby at_90) rfl rfl ?_
      show Steps p.tables e below (T9.setTop (mkF m 92 #[.val (.int p1), .val (.int (own_rem (p1 &&& (2147483647 : Int32)) (5 : Int32))), .val (.ref a0'), .val (.ref a0'), .val (.ref a0')] [(.ref a0')])) _
      exact q
    obtain ⟨cq14, kq14, q14a, q14b, q14c⟩ := isOf hZ hq9 E0
    obtain ⟨_, _, ⟨T14, L14, kk14, n14⟩, -, X14, ⟨Lc14, hQ14, l14, y14, z14⟩, st14⟩ := X9.virtualBack hx (y := (⟨"com/example/triplewright/triplewright/model/TermType", "kind", "()Lcom/example/triplewright/triplewright/model/TermType;"⟩ : MethodName)) (z := (⟨"com/example/triplewright/triplewright/model/TermType", "kind", "()Lcom/example/triplewright/triplewright/model/TermType;"⟩ : MethodName)) hown (mvT hZ (hw _ (List.mem_of_getElem? (i := 4) rfl))) (mvT hZ (hw _ (List.mem_of_getElem? (i := 5) rfl))) (notFace_of_selects (args := #[]) (mvT hZ (hw _ (List.mem_of_getElem? (i := 7) rfl)))) (mvT hZ (hw _ (List.mem_of_getElem? (i := 7) rfl))) (mvT hZ (hw _ (List.mem_of_getElem? (i := 6) rfl))) (by decide) (backOf (W := 0) (rmK l Z a0 hw [] a0' a0' a1 a2 h0 n0 Z0 S0 S1 S2) hZ (hw _ (List.mem_of_getElem? (i := 8) rfl)) (hw _ (List.mem_of_getElem? (i := 2) rfl)) (by decide) (by decide)) q14a q14c (g := (mkF m 92 #[.val (.int p1), .val (.int (own_rem (p1 &&& (2147483647 : Int32)) (5 : Int32))), .val (.ref a0'), .val (.ref a0'), .val (.ref a0')] [(.ref a0')])) rfl (by rw [hml]; rfl) (Steps.refl _) (argsL := []) (rest := []) (lenOf pd_36218 rfl) rfl (by show 2 * 0 + _ ≤ _; exact Nat.le_of_eq rfl) (hb hby at_92) (fun _ _ => ⟨rfl, hq9, (by decide : 0 + 0 + 0 ≤ _), (by decide : 0 + 0 + 0 ≤ _)⟩)
    dsimp only [Pt.U, Pt.locs, Pt.cells, Pt.slots] at X14 l14 y14 z14 st14 hQ14
    subst l14 y14 z14
    obtain ⟨hv, Nq14, hq14⟩ := hQ14
    rw [own_k0] at hv
    subst hv
    have N14 := Fr.app N9 Nq14
    have k15_ : ∀ t, Steps p.tables e below (T14.setTop (mkF m 95 #[.val (.int p1), .val (.int (own_rem (p1 &&& (2147483647 : Int32)) (5 : Int32))), .val (.ref a0'), .val (.ref a0'), .val (.ref a0')] [(.ref a0')])) t → Steps p.tables e below (s₁.setTop (mkF m 0 #[.val (.int p1), .unset, .unset, .unset, .unset] [])) t := fun t q => k13_ t (st14.trans q)
    have k16_ : ∀ t, Steps p.tables e below (T14.setTop (mkF m 97 #[.val (.int p1), .val (.int (own_rem (p1 &&& (2147483647 : Int32)) (5 : Int32))), .val (.ref a0'), .val (.ref a0'), .val (.ref a0')] [(.ref a0'), (.ref a0')])) t → Steps p.tables e below (s₁.setTop (mkF m 0 #[.val (.int p1), .unset, .unset, .unset, .unset] [])) t := by
      intro t q
      refine k15_ _ ?_
      show Steps p.tables e below (T14.setTop (mkF m 95 #[.val (.int p1), .val (.int (own_rem (p1 &&& (2147483647 : Int32)) (5 : Int32))), .val (.ref a0'), .val (.ref a0'), .val (.ref a0')] [(.ref a0')])) _
      refine XS.aload X14.here hx rfl (hb hby at_95) rfl rfl ?_
      show Steps p.tables e below (T14.setTop (mkF m 97 #[.val (.int p1), .val (.int (own_rem (p1 &&& (2147483647 : Int32)) (5 : Int32))), .val (.ref a0'), .val (.ref a0'), .val (.ref a0')] [(.ref a0'), (.ref a0')])) _
      exact q
    have k17_ : ∀ t, Steps p.tables e below (T14.setTop (mkF m 100 #[.val (.int p1), .val (.int (own_rem (p1 &&& (2147483647 : Int32)) (5 : Int32))), .val (.ref a0'), .val (.ref a0'), .val (.ref a0')] [])) t → Steps p.tables e below (s₁.setTop (mkF m 0 #[.val (.int p1), .unset, .unset, .unset, .unset] [])) t := by
      intro t q
      refine k16_ _ ?_
      show Steps p.tables e below (T14.setTop (mkF m 97 #[.val (.int p1), .val (.int (own_rem (p1 &&& (2147483647 : Int32)) (5 : Int32))), .val (.ref a0'), .val (.ref a0'), .val (.ref a0')] [(.ref a0'), (.ref a0')])) _
      refine Jvm.RoadKit.acmp (g := (mkF m 97 #[.val (.int p1), .val (.int (own_rem (p1 &&& (2147483647 : Int32)) (5 : Int32))), .val (.ref a0'), .val (.ref a0'), .val (.ref a0')] [(.ref a0'), (.ref a0')])) X14 hx rfl rfl rfl (pc0 := 97) (pc' := 100) (same := true) rfl (hb hby at_97) rfl (decide_eq_true (congrArg Value.ref rfl)) (by decide) (by decide) ?_
      show Steps p.tables e below (T14.setTop (mkF m 100 #[.val (.int p1), .val (.int (own_rem (p1 &&& (2147483647 : Int32)) (5 : Int32))), .val (.ref a0'), .val (.ref a0'), .val (.ref a0')] [])) _
      exact q
    have k18_ : ∀ t, Steps p.tables e below (T14.setTop (mkF m 105 #[.val (.int p1), .val (.int (own_rem (p1 &&& (2147483647 : Int32)) (5 : Int32))), .val (.ref a0'), .val (.ref a0'), .val (.ref a0')] [(.int (1 : Int32))])) t → Steps p.tables e below (s₁.setTop (mkF m 0 #[.val (.int p1), .unset, .unset, .unset, .unset] [])) t := by
      intro t q
      refine k17_ _ ?_
      show Steps p.tables e below (T14.setTop (mkF m 100 #[.val (.int p1), .val (.int (own_rem (p1 &&& (2147483647 : Int32)) (5 : Int32))), .val (.ref a0'), .val (.ref a0'), .val (.ref a0')] [])) _
      refine XS.iconst X14.here hx rfl (hb hby at_100) ?_
      show Steps p.tables e below (T14.setTop (mkF m 101 #[.val (.int p1), .val (.int (own_rem (p1 &&& (2147483647 : Int32)) (5 : Int32))), .val (.ref a0'), .val (.ref a0'), .val (.ref a0')] [(.int (1 : Int32))])) _
      refine XS.goto X14.here hx rfl (pc0 := 101) (pc' := 105) rfl (hb hby at_101) (by decide) (by decide) ?_
      show Steps p.tables e below (T14.setTop (mkF m 105 #[.val (.int p1), .val (.int (own_rem (p1 &&& (2147483647 : Int32)) (5 : Int32))), .val (.ref a0'), .val (.ref a0'), .val (.ref a0')] [(.int (1 : Int32))])) _
      exact q
    obtain ⟨fs, hr, hrun, hended, hW, hsame⟩ := X14.leave (v := some (.int (1 : Int32))) (fun h => by rw [Bd.returns] at h; cases h)
    refine ⟨_, _, pre0 _ (k18_ _ ?_), hrun, hended, _, _, rfl, ?_, ⟨_, rfl⟩, hW, hsame.mono (by decide) (by decide)⟩
    · show Steps p.tables e below (T14.setTop (mkF m 105 #[.val (.int p1), .val (.int (own_rem (p1 &&& (2147483647 : Int32)) (5 : Int32))), .val (.ref a0'), .val (.ref a0'), .val (.ref a0')] [(.int (1 : Int32))])) _
      exact retN X14 hx (t := .boolean) Bd.returns (by simp) (hb hby at_105) hr
    · show Q0 Z p1 a0' a1 a2 a3 a4 od h0 n0 _ T14.heap _
      rw [hq14]
      exact ⟨rfl, N14⟩
  · have k19_ : ∀ t, Steps p.tables e below (s₁.setTop (mkF m 22 #[.val (.int p1), .val (.int (own_rem (p1 &&& (2147483647 : Int32)) (5 : Int32))), .unset, .unset, .unset] [])) t → Steps p.tables e below (s₁.setTop (mkF m 0 #[.val (.int p1), .unset, .unset, .unset, .unset] [])) t := by
      intro t q
      refine k1_ _ ?_
      show Steps p.tables e below (s₁.setTop (mkF m 8 #[.val (.int p1), .val (.int (own_rem (p1 &&& (2147483647 : Int32)) (5 : Int32))), .unset, .unset, .unset] [(.int (own_rem (p1 &&& (2147483647 : Int32)) (5 : Int32)))])) _
      refine XS.ifYes X0.here hx rfl (pc0 := 8) (pc' := 22) rfl (hb hby at_8) rfl ((if0 _ _).trans (feq hk0).2) (by decide) (by decide) ?_
      show Steps p.tables e below (s₁.setTop (mkF m 22 #[.val (.int p1), .val (.int (own_rem (p1 &&& (2147483647 : Int32)) (5 : Int32))), .unset, .unset, .unset] [])) _
      exact q
    have k20_ : ∀ t, Steps p.tables e below (s₁.setTop (mkF m 24 #[.val (.int p1), .val (.int (own_rem (p1 &&& (2147483647 : Int32)) (5 : Int32))), .unset, .unset, .unset] [(.int (1 : Int32)), (.int (own_rem (p1 &&& (2147483647 : Int32)) (5 : Int32)))])) t → Steps p.tables e below (s₁.setTop (mkF m 0 #[.val (.int p1), .unset, .unset, .unset, .unset] [])) t := by
      intro t q
      refine k19_ _ ?_
      show Steps p.tables e below (s₁.setTop (mkF m 22 #[.val (.int p1), .val (.int (own_rem (p1 &&& (2147483647 : Int32)) (5 : Int32))), .unset, .unset, .unset] [])) _
      refine XS.iloadN X0.here hx rfl (hb hby at_22) rfl ?_
      show Steps p.tables e below (s₁.setTop (mkF m 23 #[.val (.int p1), .val (.int (own_rem (p1 &&& (2147483647 : Int32)) (5 : Int32))), .unset, .unset, .unset] [(.int (own_rem (p1 &&& (2147483647 : Int32)) (5 : Int32)))])) _
      refine XS.iconst X0.here hx rfl (hb hby at_23) ?_
      show Steps p.tables e below (s₁.setTop (mkF m 24 #[.val (.int p1), .val (.int (own_rem (p1 &&& (2147483647 : Int32)) (5 : Int32))), .unset, .unset, .unset] [(.int (1 : Int32)), (.int (own_rem (p1 &&& (2147483647 : Int32)) (5 : Int32)))])) _
      exact q
    by_cases hk1 : (own_rem (p1 &&& (2147483647 : Int32)) (5 : Int32)) = (1 : Int32)
    · have k21_ : ∀ t, Steps p.tables e below (s₁.setTop (mkF m 27 #[.val (.int p1), .val (.int (own_rem (p1 &&& (2147483647 : Int32)) (5 : Int32))), .unset, .unset, .unset] [])) t → Steps p.tables e below (s₁.setTop (mkF m 0 #[.val (.int p1), .unset, .unset, .unset, .unset] [])) t := by
        intro t q
        refine k20_ _ ?_
        show Steps p.tables e below (s₁.setTop (mkF m 24 #[.val (.int p1), .val (.int (own_rem (p1 &&& (2147483647 : Int32)) (5 : Int32))), .unset, .unset, .unset] [(.int (1 : Int32)), (.int (own_rem (p1 &&& (2147483647 : Int32)) (5 : Int32)))])) _
        refine XS.icmpNo X0.here hx rfl (hb hby at_24) rfl (teq hk1).2 ?_
        show Steps p.tables e below (s₁.setTop (mkF m 27 #[.val (.int p1), .val (.int (own_rem (p1 &&& (2147483647 : Int32)) (5 : Int32))), .unset, .unset, .unset] [])) _
        exact q
      obtain ⟨T22, X22, e22, st22⟩ := getS2 X0 hx hZ hown (host := "") (Or.inl (hw _ (List.mem_of_getElem? (i := 15) rfl))) Via.refl e0 S1 (g := (mkF m 27 #[.val (.int p1), .val (.int (own_rem (p1 &&& (2147483647 : Int32)) (5 : Int32))), .unset, .unset, .unset] [])) rfl (hb hby at_27)
      have k23_ : ∀ t, Steps p.tables e below (T22.setTop (mkF m 30 #[.val (.int p1), .val (.int (own_rem (p1 &&& (2147483647 : Int32)) (5 : Int32))), .unset, .unset, .unset] [(.ref a1)])) t → Steps p.tables e below (s₁.setTop (mkF m 0 #[.val (.int p1), .unset, .unset, .unset, .unset] [])) t := fun t q => k21_ t (st22 t q)
      have k24_ : ∀ t, Steps p.tables e below (T22.setTop (mkF m 31 #[.val (.int p1), .val (.int (own_rem (p1 &&& (2147483647 : Int32)) (5 : Int32))), .val (.ref a1), .unset, .unset] [])) t → Steps p.tables e below (s₁.setTop (mkF m 0 #[.val (.int p1), .unset, .unset, .unset, .unset] [])) t := by
        intro t q
        refine k23_ _ ?_
        show Steps p.tables e below (T22.setTop (mkF m 30 #[.val (.int p1), .val (.int (own_rem (p1 &&& (2147483647 : Int32)) (5 : Int32))), .unset, .unset, .unset] [(.ref a1)])) _
        refine XS.astoreN X22.here hx rfl (hb hby at_30) rfl rfl (l' := #[.val (.int p1), .val (.int (own_rem (p1 &&& (2147483647 : Int32)) (5 : Int32))), .val (.ref a1), .unset, .unset]) rfl ?_
        show Steps p.tables e below (T22.setTop (mkF m 31 #[.val (.int p1), .val (.int (own_rem (p1 &&& (2147483647 : Int32)) (5 : Int32))), .val (.ref a1), .unset, .unset] [])) _
        exact q
      obtain ⟨T25, X25, e25, st25⟩ := getS2 X22 hx hZ hown (host := "") (Or.inl (hw _ (List.mem_of_getElem? (i := 1) rfl))) Via.refl e22 S0 (g := (mkF m 31 #[.val (.int p1), .val (.int (own_rem (p1 &&& (2147483647 : Int32)) (5 : Int32))), .val (.ref a1), .unset, .unset] [])) rfl (hb hby at_31)
      have k26_ : ∀ t, Steps p.tables e below (T25.setTop (mkF m 34 #[.val (.int p1), .val (.int (own_rem (p1 &&& (2147483647 : Int32)) (5 : Int32))), .val (.ref a1), .unset, .unset] [(.ref a0')])) t → Steps p.tables e below (s₁.setTop (mkF m 0 #[.val (.int p1), .unset, .unset, .unset, .unset] [])) t := fun t q => k24_ t (st25 t q)
      have k27_ : ∀ t, Steps p.tables e below (T25.setTop (mkF m 79 #[.val (.int p1), .val (.int (own_rem (p1 &&& (2147483647 : Int32)) (5 : Int32))), .val (.ref a1), .val (.ref a0'), .unset] [(.ref a1)])) t → Steps p.tables e below (s₁.setTop (mkF m 0 #[.val (.int p1), .unset, .unset, .unset, .unset] [])) t := by
        intro t q
        refine k26_ _ ?_
        show Steps p.tables e below (T25.setTop (mkF m 34 #[.val (.int p1), .val (.int (own_rem (p1 &&& (2147483647 : Int32)) (5 : Int32))), .val (.ref a1), .unset, .unset] [(.ref a0')])) _
        refine XS.astoreN X25.here hx rfl (hb hby at_34) rfl rfl (l' := #[.val (.int p1), .val (.int (own_rem (p1 &&& (2147483647 : Int32)) (5 : Int32))), .val (.ref a1), .val (.ref a0'), .unset]) rfl ?_
        show Steps p.tables e below (T25.setTop (mkF m 35 #[.val (.int p1), .val (.int (own_rem (p1 &&& (2147483647 : Int32)) (5 : Int32))), .val (.ref a1), .val (.ref a0'), .unset] [])) _
        refine XS.goto X25.here hx rfl (pc0 := 35) (pc' := 78) rfl (hb hby at_35) (by decide) (by decide) ?_
        show Steps p.tables e below (T25.setTop (mkF m 78 #[.val (.int p1), .val (.int (own_rem (p1 &&& (2147483647 : Int32)) (5 : Int32))), .val (.ref a1), .val (.ref a0'), .unset] [])) _
        refine XS.aloadN X25.here hx rfl (hb hby at_78) rfl rfl ?_
        show Steps p.tables e below (T25.setTop (mkF m 79 #[.val (.int p1), .val (.int (own_rem (p1 &&& (2147483647 : Int32)) (5 : Int32))), .val (.ref a1), .val (.ref a0'), .unset] [(.ref a1)])) _
        exact q
      obtain ⟨cq28, kq28, q28a, q28b, q28c⟩ := isOf hZ e25 E1
      obtain ⟨_, _, ⟨T28, L28, kk28, n28⟩, -, X28, ⟨Lc28, hQ28, l28, y28, z28⟩, st28⟩ := X25.virtualBack hx (y := (⟨"com/example/triplewright/triplewright/model/TermType", "kind", "()Lcom/example/triplewright/triplewright/model/TermType;"⟩ : MethodName)) (z := (⟨"com/example/triplewright/triplewright/model/TermType", "kind", "()Lcom/example/triplewright/triplewright/model/TermType;"⟩ : MethodName)) hown (mvT hZ (hw _ (List.mem_of_getElem? (i := 4) rfl))) (mvT hZ (hw _ (List.mem_of_getElem? (i := 5) rfl))) (notFace_of_selects (args := #[]) (mvT hZ (hw _ (List.mem_of_getElem? (i := 7) rfl)))) (mvT hZ (hw _ (List.mem_of_getElem? (i := 7) rfl))) (mvT hZ (hw _ (List.mem_of_getElem? (i := 6) rfl))) (by decide) (backOf (W := 0) (rmK l Z a0 hw [] a1 a0' a1 a2 h0 n0 Z0 S0 S1 S2) hZ (hw _ (List.mem_of_getElem? (i := 8) rfl)) (hw _ (List.mem_of_getElem? (i := 2) rfl)) (by decide) (by decide)) q28a q28c (g := (mkF m 79 #[.val (.int p1), .val (.int (own_rem (p1 &&& (2147483647 : Int32)) (5 : Int32))), .val (.ref a1), .val (.ref a0'), .unset] [(.ref a1)])) rfl (by rw [hml]; rfl) (Steps.refl _) (argsL := []) (rest := []) (lenOf pd_36218 rfl) rfl (by show 2 * 0 + _ ≤ _; exact Nat.le_of_eq rfl) (hb hby at_79) (fun _ _ => ⟨rfl, e25, (by decide : 0 + 0 ≤ _), (by decide : 0 + 0 ≤ _)⟩)
      dsimp only [Pt.U, Pt.locs, Pt.cells, Pt.slots] at X28 l28 y28 z28 st28 hQ28
      subst l28 y28 z28
      obtain ⟨hv, Nq28, hq28⟩ := hQ28
      rw [own_k1] at hv
      subst hv
      have N28 := Fr.app N0 Nq28
      have k29_ : ∀ t, Steps p.tables e below (T28.setTop (mkF m 82 #[.val (.int p1), .val (.int (own_rem (p1 &&& (2147483647 : Int32)) (5 : Int32))), .val (.ref a1), .val (.ref a0'), .unset] [(.ref a0')])) t → Steps p.tables e below (s₁.setTop (mkF m 0 #[.val (.int p1), .unset, .unset, .unset, .unset] [])) t := fun t q => k27_ t (st28.trans q)
      have k30_ : ∀ t, Steps p.tables e below (T28.setTop (mkF m 87 #[.val (.int p1), .val (.int (own_rem (p1 &&& (2147483647 : Int32)) (5 : Int32))), .val (.ref a1), .val (.ref a0'), .val (.ref a0')] [(.ref a0'), (.ref a0')])) t → Steps p.tables e below (s₁.setTop (mkF m 0 #[.val (.int p1), .unset, .unset, .unset, .unset] [])) t := by
        intro t q
        refine k29_ _ ?_
        show Steps p.tables e below (T28.setTop (mkF m 82 #[.val (.int p1), .val (.int (own_rem (p1 &&& (2147483647 : Int32)) (5 : Int32))), .val (.ref a1), .val (.ref a0'), .unset] [(.ref a0')])) _
        refine XS.astore X28.here hx rfl (hb hby at_82) rfl rfl (l' := #[.val (.int p1), .val (.int (own_rem (p1 &&& (2147483647 : Int32)) (5 : Int32))), .val (.ref a1), .val (.ref a0'), .val (.ref a0')]) rfl ?_
        show Steps p.tables e below (T28.setTop (mkF m 84 #[.val (.int p1), .val (.int (own_rem (p1 &&& (2147483647 : Int32)) (5 : Int32))), .val (.ref a1), .val (.ref a0'), .val (.ref a0')] [])) _
        refine XS.aload X28.here hx rfl (hb hby at_84) rfl rfl ?_
        show Steps p.tables e below (T28.setTop (mkF m 86 #[.val (.int p1), .val (.int (own_rem (p1 &&& (2147483647 : Int32)) (5 : Int32))), .val (.ref a1), .val (.ref a0'), .val (.ref a0')] [(.ref a0')])) _
        refine XS.aloadN X28.here hx rfl (hb hby at_86) rfl rfl ?_
        show Steps p.tables e below (T28.setTop (mkF m 87 #[.val (.int p1), .val (.int (own_rem (p1 &&& (2147483647 : Int32)) (5 : Int32))), .val (.ref a1), .val (.ref a0'), .val (.ref a0')] [(.ref a0'), (.ref a0')])) _
        exact q
      have k31_ : ∀ t, Steps p.tables e below (T28.setTop (mkF m 90 #[.val (.int p1), .val (.int (own_rem (p1 &&& (2147483647 : Int32)) (5 : Int32))), .val (.ref a1), .val (.ref a0'), .val (.ref a0')] [])) t → Steps p.tables e below (s₁.setTop (mkF m 0 #[.val (.int p1), .unset, .unset, .unset, .unset] [])) t := by
        intro t q
        refine k30_ _ ?_
        show Steps p.tables e below (T28.setTop (mkF m 87 #[.val (.int p1), .val (.int (own_rem (p1 &&& (2147483647 : Int32)) (5 : Int32))), .val (.ref a1), .val (.ref a0'), .val (.ref a0')] [(.ref a0'), (.ref a0')])) _
        refine Jvm.RoadKit.acmp (g := (mkF m 87 #[.val (.int p1), .val (.int (own_rem (p1 &&& (2147483647 : Int32)) (5 : Int32))), .val (.ref a1), .val (.ref a0'), .val (.ref a0')] [(.ref a0'), (.ref a0')])) X28 hx rfl rfl rfl (pc0 := 87) (pc' := 90) (same := true) rfl (hb hby at_87) rfl (decide_eq_true (congrArg Value.ref rfl)) (by decide) (by decide) ?_
        show Steps p.tables e below (T28.setTop (mkF m 90 #[.val (.int p1), .val (.int (own_rem (p1 &&& (2147483647 : Int32)) (5 : Int32))), .val (.ref a1), .val (.ref a0'), .val (.ref a0')] [])) _
        exact q
      have k32_ : ∀ t, Steps p.tables e below (T28.setTop (mkF m 92 #[.val (.int p1), .val (.int (own_rem (p1 &&& (2147483647 : Int32)) (5 : Int32))), .val (.ref a1), .val (.ref a0'), .val (.ref a0')] [(.ref a0')])) t → Steps p.tables e below (s₁.setTop (mkF m 0 #[.val (.int p1), .unset, .unset, .unset, .unset] [])) t := by
        intro t q
        refine k31_ _ ?_
        show Steps p.tables e below (T28.setTop (mkF m 90 #[.val (.int p1), .val (.int (own_rem (p1 &&& (2147483647 : Int32)) (5 : Int32))), .val (.ref a1), .val (.ref a0'), .val (.ref a0')] [])) _
        refine XS.aload X28.here hx rfl (hb hby at_90) rfl rfl ?_
        show Steps p.tables e below (T28.setTop (mkF m 92 #[.val (.int p1), .val (.int (own_rem (p1 &&& (2147483647 : Int32)) (5 : Int32))), .val (.ref a1), .val (.ref a0'), .val (.ref a0')] [(.ref a0')])) _
        exact q
      obtain ⟨cq33, kq33, q33a, q33b, q33c⟩ := isOf hZ hq28 E0
      obtain ⟨_, _, ⟨T33, L33, kk33, n33⟩, -, X33, ⟨Lc33, hQ33, l33, y33, z33⟩, st33⟩ := X28.virtualBack hx (y := (⟨"com/example/triplewright/triplewright/model/TermType", "kind", "()Lcom/example/triplewright/triplewright/model/TermType;"⟩ : MethodName)) (z := (⟨"com/example/triplewright/triplewright/model/TermType", "kind", "()Lcom/example/triplewright/triplewright/model/TermType;"⟩ : MethodName)) hown (mvT hZ (hw _ (List.mem_of_getElem? (i := 4) rfl))) (mvT hZ (hw _ (List.mem_of_getElem? (i := 5) rfl))) (notFace_of_selects (args := #[]) (mvT hZ (hw _ (List.mem_of_getElem? (i := 7) rfl)))) (mvT hZ (hw _ (List.mem_of_getElem? (i := 7) rfl))) (mvT hZ (hw _ (List.mem_of_getElem? (i := 6) rfl))) (by decide) (backOf (W := 0) (rmK l Z a0 hw [] a0' a0' a1 a2 h0 n0 Z0 S0 S1 S2) hZ (hw _ (List.mem_of_getElem? (i := 8) rfl)) (hw _ (List.mem_of_getElem? (i := 2) rfl)) (by decide) (by decide)) q33a q33c (g := (mkF m 92 #[.val (.int p1), .val (.int (own_rem (p1 &&& (2147483647 : Int32)) (5 : Int32))), .val (.ref a1), .val (.ref a0'), .val (.ref a0')] [(.ref a0')])) rfl (by rw [hml]; rfl) (Steps.refl _) (argsL := []) (rest := []) (lenOf pd_36218 rfl) rfl (by show 2 * 0 + _ ≤ _; exact Nat.le_of_eq rfl) (hb hby at_92) (fun _ _ => ⟨rfl, hq28, (by decide : 0 + 0 + 0 ≤ _), (by decide : 0 + 0 + 0 ≤ _)⟩)
      dsimp only [Pt.U, Pt.locs, Pt.cells, Pt.slots] at X33 l33 y33 z33 st33 hQ33
      subst l33 y33 z33
      obtain ⟨hv, Nq33, hq33⟩ := hQ33
      rw [own_k0] at hv
      subst hv
      have N33 := Fr.app N28 Nq33
      have k34_ : ∀ t, Steps p.tables e below (T33.setTop (mkF m 95 #[.val (.int p1), .val (.int (own_rem (p1 &&& (2147483647 : Int32)) (5 : Int32))), .val (.ref a1), .val (.ref a0'), .val (.ref a0')] [(.ref a0')])) t → Steps p.tables e below (s₁.setTop (mkF m 0 #[.val (.int p1), .unset, .unset, .unset, .unset] [])) t := fun t q => k32_ t (st33.trans q)
      have k35_ : ∀ t, Steps p.tables e below (T33.setTop (mkF m 97 #[.val (.int p1), .val (.int (own_rem (p1 &&& (2147483647 : Int32)) (5 : Int32))), .val (.ref a1), .val (.ref a0'), .val (.ref a0')] [(.ref a0'), (.ref a0')])) t → Steps p.tables e below (s₁.setTop (mkF m 0 #[.val (.int p1), .unset, .unset, .unset, .unset] [])) t := by
        intro t q
        refine k34_ _ ?_
        show Steps p.tables e below (T33.setTop (mkF m 95 #[.val (.int p1), .val (.int (own_rem (p1 &&& (2147483647 : Int32)) (5 : Int32))), .val (.ref a1), .val (.ref a0'), .val (.ref a0')] [(.ref a0')])) _
        refine XS.aload X33.here hx rfl (hb hby at_95) rfl rfl ?_
        show Steps p.tables e below (T33.setTop (mkF m 97 #[.val (.int p1), .val (.int (own_rem (p1 &&& (2147483647 : Int32)) (5 : Int32))), .val (.ref a1), .val (.ref a0'), .val (.ref a0')] [(.ref a0'), (.ref a0')])) _
        exact q
      have k36_ : ∀ t, Steps p.tables e below (T33.setTop (mkF m 100 #[.val (.int p1), .val (.int (own_rem (p1 &&& (2147483647 : Int32)) (5 : Int32))), .val (.ref a1), .val (.ref a0'), .val (.ref a0')] [])) t → Steps p.tables e below (s₁.setTop (mkF m 0 #[.val (.int p1), .unset, .unset, .unset, .unset] [])) t := by
        intro t q
        refine k35_ _ ?_
        show Steps p.tables e below (T33.setTop (mkF m 97 #[.val (.int p1), .val (.int (own_rem (p1 &&& (2147483647 : Int32)) (5 : Int32))), .val (.ref a1), .val (.ref a0'), .val (.ref a0')] [(.ref a0'), (.ref a0')])) _
        refine Jvm.RoadKit.acmp (g := (mkF m 97 #[.val (.int p1), .val (.int (own_rem (p1 &&& (2147483647 : Int32)) (5 : Int32))), .val (.ref a1), .val (.ref a0'), .val (.ref a0')] [(.ref a0'), (.ref a0')])) X33 hx rfl rfl rfl (pc0 := 97) (pc' := 100) (same := true) rfl (hb hby at_97) rfl (decide_eq_true (congrArg Value.ref rfl)) (by decide) (by decide) ?_
        show Steps p.tables e below (T33.setTop (mkF m 100 #[.val (.int p1), .val (.int (own_rem (p1 &&& (2147483647 : Int32)) (5 : Int32))), .val (.ref a1), .val (.ref a0'), .val (.ref a0')] [])) _
        exact q
      have k37_ : ∀ t, Steps p.tables e below (T33.setTop (mkF m 105 #[.val (.int p1), .val (.int (own_rem (p1 &&& (2147483647 : Int32)) (5 : Int32))), .val (.ref a1), .val (.ref a0'), .val (.ref a0')] [(.int (1 : Int32))])) t → Steps p.tables e below (s₁.setTop (mkF m 0 #[.val (.int p1), .unset, .unset, .unset, .unset] [])) t := by
        intro t q
        refine k36_ _ ?_
        show Steps p.tables e below (T33.setTop (mkF m 100 #[.val (.int p1), .val (.int (own_rem (p1 &&& (2147483647 : Int32)) (5 : Int32))), .val (.ref a1), .val (.ref a0'), .val (.ref a0')] [])) _
        refine XS.iconst X33.here hx rfl (hb hby at_100) ?_
        show Steps p.tables e below (T33.setTop (mkF m 101 #[.val (.int p1), .val (.int (own_rem (p1 &&& (2147483647 : Int32)) (5 : Int32))), .val (.ref a1), .val (.ref a0'), .val (.ref a0')] [(.int (1 : Int32))])) _
        refine XS.goto X33.here hx rfl (pc0 := 101) (pc' := 105) rfl (hb hby at_101) (by decide) (by decide) ?_
        show Steps p.tables e below (T33.setTop (mkF m 105 #[.val (.int p1), .val (.int (own_rem (p1 &&& (2147483647 : Int32)) (5 : Int32))), .val (.ref a1), .val (.ref a0'), .val (.ref a0')] [(.int (1 : Int32))])) _
        exact q
      obtain ⟨fs, hr, hrun, hended, hW, hsame⟩ := X33.leave (v := some (.int (1 : Int32))) (fun h => by rw [Bd.returns] at h; cases h)
      refine ⟨_, _, pre0 _ (k37_ _ ?_), hrun, hended, _, _, rfl, ?_, ⟨_, rfl⟩, hW, hsame.mono (by decide) (by decide)⟩
      · show Steps p.tables e below (T33.setTop (mkF m 105 #[.val (.int p1), .val (.int (own_rem (p1 &&& (2147483647 : Int32)) (5 : Int32))), .val (.ref a1), .val (.ref a0'), .val (.ref a0')] [(.int (1 : Int32))])) _
        exact retN X33 hx (t := .boolean) Bd.returns (by simp) (hb hby at_105) hr
      · show Q0 Z p1 a0' a1 a2 a3 a4 od h0 n0 _ T33.heap _
        rw [hq33]
        exact ⟨rfl, N33⟩
    · have k38_ : ∀ t, Steps p.tables e below (s₁.setTop (mkF m 38 #[.val (.int p1), .val (.int (own_rem (p1 &&& (2147483647 : Int32)) (5 : Int32))), .unset, .unset, .unset] [])) t → Steps p.tables e below (s₁.setTop (mkF m 0 #[.val (.int p1), .unset, .unset, .unset, .unset] [])) t := by
        intro t q
        refine k20_ _ ?_
        show Steps p.tables e below (s₁.setTop (mkF m 24 #[.val (.int p1), .val (.int (own_rem (p1 &&& (2147483647 : Int32)) (5 : Int32))), .unset, .unset, .unset] [(.int (1 : Int32)), (.int (own_rem (p1 &&& (2147483647 : Int32)) (5 : Int32)))])) _
        refine XS.icmpYes X0.here hx rfl (pc0 := 24) (pc' := 38) rfl (hb hby at_24) rfl (feq hk1).2 (by decide) (by decide) ?_
        show Steps p.tables e below (s₁.setTop (mkF m 38 #[.val (.int p1), .val (.int (own_rem (p1 &&& (2147483647 : Int32)) (5 : Int32))), .unset, .unset, .unset] [])) _
        exact q
      have k39_ : ∀ t, Steps p.tables e below (s₁.setTop (mkF m 40 #[.val (.int p1), .val (.int (own_rem (p1 &&& (2147483647 : Int32)) (5 : Int32))), .unset, .unset, .unset] [(.int (2 : Int32)), (.int (own_rem (p1 &&& (2147483647 : Int32)) (5 : Int32)))])) t → Steps p.tables e below (s₁.setTop (mkF m 0 #[.val (.int p1), .unset, .unset, .unset, .unset] [])) t := by
        intro t q
        refine k38_ _ ?_
        show Steps p.tables e below (s₁.setTop (mkF m 38 #[.val (.int p1), .val (.int (own_rem (p1 &&& (2147483647 : Int32)) (5 : Int32))), .unset, .unset, .unset] [])) _
        refine XS.iloadN X0.here hx rfl (hb hby at_38) rfl ?_
        show Steps p.tables e below (s₁.setTop (mkF m 39 #[.val (.int p1), .val (.int (own_rem (p1 &&& (2147483647 : Int32)) (5 : Int32))), .unset, .unset, .unset] [(.int (own_rem (p1 &&& (2147483647 : Int32)) (5 : Int32)))])) _
        refine XS.iconst X0.here hx rfl (hb hby at_39) ?_
        show Steps p.tables e below (s₁.setTop (mkF m 40 #[.val (.int p1), .val (.int (own_rem (p1 &&& (2147483647 : Int32)) (5 : Int32))), .unset, .unset, .unset] [(.int (2 : Int32)), (.int (own_rem (p1 &&& (2147483647 : Int32)) (5 : Int32)))])) _
        exact q
      by_cases hk2 : (own_rem (p1 &&& (2147483647 : Int32)) (5 : Int32)) = (2 : Int32)
      · have k40_ : ∀ t, Steps p.tables e below (s₁.setTop (mkF m 43 #[.val (.int p1), .val (.int (own_rem (p1 &&& (2147483647 : Int32)) (5 : Int32))), .unset, .unset, .unset] [])) t → Steps p.tables e below (s₁.setTop (mkF m 0 #[.val (.int p1), .unset, .unset, .unset, .unset] [])) t := by
          intro t q
          refine k39_ _ ?_
          show Steps p.tables e below (s₁.setTop (mkF m 40 #[.val (.int p1), .val (.int (own_rem (p1 &&& (2147483647 : Int32)) (5 : Int32))), .unset, .unset, .unset] [(.int (2 : Int32)), (.int (own_rem (p1 &&& (2147483647 : Int32)) (5 : Int32)))])) _
          refine XS.icmpNo X0.here hx rfl (hb hby at_40) rfl (teq hk2).2 ?_
          show Steps p.tables e below (s₁.setTop (mkF m 43 #[.val (.int p1), .val (.int (own_rem (p1 &&& (2147483647 : Int32)) (5 : Int32))), .unset, .unset, .unset] [])) _
          exact q
        obtain ⟨T41, X41, e41, st41⟩ := getS2 X0 hx hZ hown (host := "") (Or.inl (hw _ (List.mem_of_getElem? (i := 19) rfl))) Via.refl e0 S2 (g := (mkF m 43 #[.val (.int p1), .val (.int (own_rem (p1 &&& (2147483647 : Int32)) (5 : Int32))), .unset, .unset, .unset] [])) rfl (hb hby at_43)
        have k42_ : ∀ t, Steps p.tables e below (T41.setTop (mkF m 46 #[.val (.int p1), .val (.int (own_rem (p1 &&& (2147483647 : Int32)) (5 : Int32))), .unset, .unset, .unset] [(.ref a2)])) t → Steps p.tables e below (s₁.setTop (mkF m 0 #[.val (.int p1), .unset, .unset, .unset, .unset] [])) t := fun t q => k40_ t (st41 t q)
        have k43_ : ∀ t, Steps p.tables e below (T41.setTop (mkF m 47 #[.val (.int p1), .val (.int (own_rem (p1 &&& (2147483647 : Int32)) (5 : Int32))), .val (.ref a2), .unset, .unset] [])) t → Steps p.tables e below (s₁.setTop (mkF m 0 #[.val (.int p1), .unset, .unset, .unset, .unset] [])) t := by
          intro t q
          refine k42_ _ ?_
          show Steps p.tables e below (T41.setTop (mkF m 46 #[.val (.int p1), .val (.int (own_rem (p1 &&& (2147483647 : Int32)) (5 : Int32))), .unset, .unset, .unset] [(.ref a2)])) _
          refine XS.astoreN X41.here hx rfl (hb hby at_46) rfl rfl (l' := #[.val (.int p1), .val (.int (own_rem (p1 &&& (2147483647 : Int32)) (5 : Int32))), .val (.ref a2), .unset, .unset]) rfl ?_
          show Steps p.tables e below (T41.setTop (mkF m 47 #[.val (.int p1), .val (.int (own_rem (p1 &&& (2147483647 : Int32)) (5 : Int32))), .val (.ref a2), .unset, .unset] [])) _
          exact q
        obtain ⟨T44, X44, e44, st44⟩ := getS2 X41 hx hZ hown (host := "") (Or.inl (hw _ (List.mem_of_getElem? (i := 1) rfl))) Via.refl e41 S0 (g := (mkF m 47 #[.val (.int p1), .val (.int (own_rem (p1 &&& (2147483647 : Int32)) (5 : Int32))), .val (.ref a2), .unset, .unset] [])) rfl (hb hby at_47)
        have k45_ : ∀ t, Steps p.tables e below (T44.setTop (mkF m 50 #[.val (.int p1), .val (.int (own_rem (p1 &&& (2147483647 : Int32)) (5 : Int32))), .val (.ref a2), .unset, .unset] [(.ref a0')])) t → Steps p.tables e below (s₁.setTop (mkF m 0 #[.val (.int p1), .unset, .unset, .unset, .unset] [])) t := fun t q => k43_ t (st44 t q)
        have k46_ : ∀ t, Steps p.tables e below (T44.setTop (mkF m 79 #[.val (.int p1), .val (.int (own_rem (p1 &&& (2147483647 : Int32)) (5 : Int32))), .val (.ref a2), .val (.ref a0'), .unset] [(.ref a2)])) t → Steps p.tables e below (s₁.setTop (mkF m 0 #[.val (.int p1), .unset, .unset, .unset, .unset] [])) t := by
          intro t q
          refine k45_ _ ?_
          show Steps p.tables e below (T44.setTop (mkF m 50 #[.val (.int p1), .val (.int (own_rem (p1 &&& (2147483647 : Int32)) (5 : Int32))), .val (.ref a2), .unset, .unset] [(.ref a0')])) _
          refine XS.astoreN X44.here hx rfl (hb hby at_50) rfl rfl (l' := #[.val (.int p1), .val (.int (own_rem (p1 &&& (2147483647 : Int32)) (5 : Int32))), .val (.ref a2), .val (.ref a0'), .unset]) rfl ?_
          show Steps p.tables e below (T44.setTop (mkF m 51 #[.val (.int p1), .val (.int (own_rem (p1 &&& (2147483647 : Int32)) (5 : Int32))), .val (.ref a2), .val (.ref a0'), .unset] [])) _
          refine XS.goto X44.here hx rfl (pc0 := 51) (pc' := 78) rfl (hb hby at_51) (by decide) (by decide) ?_
          show Steps p.tables e below (T44.setTop (mkF m 78 #[.val (.int p1), .val (.int (own_rem (p1 &&& (2147483647 : Int32)) (5 : Int32))), .val (.ref a2), .val (.ref a0'), .unset] [])) _
          refine XS.aloadN X44.here hx rfl (hb hby at_78) rfl rfl ?_
          show Steps p.tables e below (T44.setTop (mkF m 79 #[.val (.int p1), .val (.int (own_rem (p1 &&& (2147483647 : Int32)) (5 : Int32))), .val (.ref a2), .val (.ref a0'), .unset] [(.ref a2)])) _
          exact q
        obtain ⟨cq47, kq47, q47a, q47b, q47c⟩ := isOf hZ e44 E2
        obtain ⟨_, _, ⟨T47, L47, kk47, n47⟩, -, X47, ⟨Lc47, hQ47, l47, y47, z47⟩, st47⟩ := X44.virtualBack hx (y := (⟨"com/example/triplewright/triplewright/model/TermType", "kind", "()Lcom/example/triplewright/triplewright/model/TermType;"⟩ : MethodName)) (z := (⟨"com/example/triplewright/triplewright/model/TermType", "kind", "()Lcom/example/triplewright/triplewright/model/TermType;"⟩ : MethodName)) hown (mvT hZ (hw _ (List.mem_of_getElem? (i := 4) rfl))) (mvT hZ (hw _ (List.mem_of_getElem? (i := 5) rfl))) (notFace_of_selects (args := #[]) (mvT hZ (hw _ (List.mem_of_getElem? (i := 7) rfl)))) (mvT hZ (hw _ (List.mem_of_getElem? (i := 7) rfl))) (mvT hZ (hw _ (List.mem_of_getElem? (i := 6) rfl))) (by decide) (backOf (W := 0) (rmK l Z a0 hw [] a2 a0' a1 a2 h0 n0 Z0 S0 S1 S2) hZ (hw _ (List.mem_of_getElem? (i := 8) rfl)) (hw _ (List.mem_of_getElem? (i := 2) rfl)) (by decide) (by decide)) q47a q47c (g := (mkF m 79 #[.val (.int p1), .val (.int (own_rem (p1 &&& (2147483647 : Int32)) (5 : Int32))), .val (.ref a2), .val (.ref a0'), .unset] [(.ref a2)])) rfl (by rw [hml]; rfl) (Steps.refl _) (argsL := []) (rest := []) (lenOf pd_36218 rfl) rfl (by show 2 * 0 + _ ≤ _; exact Nat.le_of_eq rfl) (hb hby at_79) (fun _ _ => ⟨rfl, e44, (by decide : 0 + 0 ≤ _), (by decide : 0 + 0 ≤ _)⟩)
        dsimp only [Pt.U, Pt.locs, Pt.cells, Pt.slots] at X47 l47 y47 z47 st47 hQ47
        subst l47 y47 z47
        obtain ⟨hv, Nq47, hq47⟩ := hQ47
        rw [own_k2] at hv
        subst hv
        have N47 := Fr.app N0 Nq47
        have k48_ : ∀ t, Steps p.tables e below (T47.setTop (mkF m 82 #[.val (.int p1), .val (.int (own_rem (p1 &&& (2147483647 : Int32)) (5 : Int32))), .val (.ref a2), .val (.ref a0'), .unset] [(.ref a0')])) t → Steps p.tables e below (s₁.setTop (mkF m 0 #[.val (.int p1), .unset, .unset, .unset, .unset] [])) t := fun t q => k46_ t (st47.trans q)
        have k49_ : ∀ t, Steps p.tables e below (T47.setTop (mkF m 87 #[.val (.int p1), .val (.int (own_rem (p1 &&& (2147483647 : Int32)) (5 : Int32))), .val (.ref a2), .val (.ref a0'), .val (.ref a0')] [(.ref a0'), (.ref a0')])) t → Steps p.tables e below (s₁.setTop (mkF m 0 #[.val (.int p1), .unset, .unset, .unset, .unset] [])) t := by
          intro t q
          refine k48_ _ ?_
          show Steps p.tables e below (T47.setTop (mkF m 82 #[.val (.int p1), .val (.int (own_rem (p1 &&& (2147483647 : Int32)) (5 : Int32))), .val (.ref a2), .val (.ref a0'), .unset] [(.ref a0')])) _
          refine XS.astore X47.here hx rfl (hb hby at_82) rfl rfl (l' := #[.val (.int p1), .val (.int (own_rem (p1 &&& (2147483647 : Int32)) (5 : Int32))), .val (.ref a2), .val (.ref a0'), .val (.ref a0')]) rfl ?_
          show Steps p.tables e below (T47.setTop (mkF m 84 #[.val (.int p1), .val (.int (own_rem (p1 &&& (2147483647 : Int32)) (5 : Int32))), .val (.ref a2), .val (.ref a0'), .val (.ref a0')] [])) _
          refine XS.aload X47.here hx rfl (hb hby at_84) rfl rfl ?_
          show Steps p.tables e below (T47.setTop (mkF m 86 #[.val (.int p1), .val (.int (own_rem (p1 &&& (2147483647 : Int32)) (5 : Int32))), .val (.ref a2), .val (.ref a0'), .val (.ref a0')] [(.ref a0')])) _
          refine XS.aloadN X47.here hx rfl (hb hby at_86) rfl rfl ?_
          show Steps p.tables e below (T47.setTop (mkF m 87 #[.val (.int p1), .val (.int (own_rem (p1 &&& (2147483647 : Int32)) (5 : Int32))), .val (.ref a2), .val (.ref a0'), .val (.ref a0')] [(.ref a0'), (.ref a0')])) _
          exact q
        have k50_ : ∀ t, Steps p.tables e below (T47.setTop (mkF m 90 #[.val (.int p1), .val (.int (own_rem (p1 &&& (2147483647 : Int32)) (5 : Int32))), .val (.ref a2), .val (.ref a0'), .val (.ref a0')] [])) t → Steps p.tables e below (s₁.setTop (mkF m 0 #[.val (.int p1), .unset, .unset, .unset, .unset] [])) t := by
          intro t q
          refine k49_ _ ?_
          show Steps p.tables e below (T47.setTop (mkF m 87 #[.val (.int p1), .val (.int (own_rem (p1 &&& (2147483647 : Int32)) (5 : Int32))), .val (.ref a2), .val (.ref a0'), .val (.ref a0')] [(.ref a0'), (.ref a0')])) _
          refine Jvm.RoadKit.acmp (g := (mkF m 87 #[.val (.int p1), .val (.int (own_rem (p1 &&& (2147483647 : Int32)) (5 : Int32))), .val (.ref a2), .val (.ref a0'), .val (.ref a0')] [(.ref a0'), (.ref a0')])) X47 hx rfl rfl rfl (pc0 := 87) (pc' := 90) (same := true) rfl (hb hby at_87) rfl (decide_eq_true (congrArg Value.ref rfl)) (by decide) (by decide) ?_
          show Steps p.tables e below (T47.setTop (mkF m 90 #[.val (.int p1), .val (.int (own_rem (p1 &&& (2147483647 : Int32)) (5 : Int32))), .val (.ref a2), .val (.ref a0'), .val (.ref a0')] [])) _
          exact q
        have k51_ : ∀ t, Steps p.tables e below (T47.setTop (mkF m 92 #[.val (.int p1), .val (.int (own_rem (p1 &&& (2147483647 : Int32)) (5 : Int32))), .val (.ref a2), .val (.ref a0'), .val (.ref a0')] [(.ref a0')])) t → Steps p.tables e below (s₁.setTop (mkF m 0 #[.val (.int p1), .unset, .unset, .unset, .unset] [])) t := by
          intro t q
          refine k50_ _ ?_
          show Steps p.tables e below (T47.setTop (mkF m 90 #[.val (.int p1), .val (.int (own_rem (p1 &&& (2147483647 : Int32)) (5 : Int32))), .val (.ref a2), .val (.ref a0'), .val (.ref a0')] [])) _
          refine XS.aload X47.here hx rfl (hb hby at_90) rfl rfl ?_
          show Steps p.tables e below (T47.setTop (mkF m 92 #[.val (.int p1), .val (.int (own_rem (p1 &&& (2147483647 : Int32)) (5 : Int32))), .val (.ref a2), .val (.ref a0'), .val (.ref a0')] [(.ref a0')])) _
          exact q
        obtain ⟨cq52, kq52, q52a, q52b, q52c⟩ := isOf hZ hq47 E0
        obtain ⟨_, _, ⟨T52, L52, kk52, n52⟩, -, X52, ⟨Lc52, hQ52, l52, y52, z52⟩, st52⟩ := X47.virtualBack hx (y := (⟨"com/example/triplewright/triplewright/model/TermType", "kind", "()Lcom/example/triplewright/triplewright/model/TermType;"⟩ : MethodName)) (z := (⟨"com/example/triplewright/triplewright/model/TermType", "kind", "()Lcom/example/triplewright/triplewright/model/TermType;"⟩ : MethodName)) hown (mvT hZ (hw _ (List.mem_of_getElem? (i := 4) rfl))) (mvT hZ (hw _ (List.mem_of_getElem? (i := 5) rfl))) (notFace_of_selects (args := #[]) (mvT hZ (hw _ (List.mem_of_getElem? (i := 7) rfl)))) (mvT hZ (hw _ (List.mem_of_getElem? (i := 7) rfl))) (mvT hZ (hw _ (List.mem_of_getElem? (i := 6) rfl))) (by decide) (backOf (W := 0) (rmK l Z a0 hw [] a0' a0' a1 a2 h0 n0 Z0 S0 S1 S2) hZ (hw _ (List.mem_of_getElem? (i := 8) rfl)) (hw _ (List.mem_of_getElem? (i := 2) rfl)) (by decide) (by decide)) q52a q52c (g := (mkF m 92 #[.val (.int p1), .val (.int (own_rem (p1 &&& (2147483647 : Int32)) (5 : Int32))), .val (.ref a2), .val (.ref a0'), .val (.ref a0')] [(.ref a0')])) rfl (by rw [hml]; rfl) (Steps.refl _) (argsL := []) (rest := []) (lenOf pd_36218 rfl) rfl (by show 2 * 0 + _ ≤ _; exact Nat.le_of_eq rfl) (hb hby at_92) (fun _ _ => ⟨rfl, hq47, (by decide : 0 + 0 + 0 ≤ _), (by decide : 0 + 0 + 0 ≤ _)⟩)
        dsimp only [Pt.U, Pt.locs, Pt.cells, Pt.slots] at X52 l52 y52 z52 st52 hQ52
        subst l52 y52 z52
        obtain ⟨hv, Nq52, hq52⟩ := hQ52
        rw [own_k0] at hv
        subst hv
        have N52 := Fr.app N47 Nq52
        have k53_ : ∀ t, Steps p.tables e below (T52.setTop (mkF m 95 #[.val (.int p1), .val (.int (own_rem (p1 &&& (2147483647 : Int32)) (5 : Int32))), .val (.ref a2), .val (.ref a0'), .val (.ref a0')] [(.ref a0')])) t → Steps p.tables e below (s₁.setTop (mkF m 0 #[.val (.int p1), .unset, .unset, .unset, .unset] [])) t := fun t q => k51_ t (st52.trans q)
        have k54_ : ∀ t, Steps p.tables e below (T52.setTop (mkF m 97 #[.val (.int p1), .val (.int (own_rem (p1 &&& (2147483647 : Int32)) (5 : Int32))), .val (.ref a2), .val (.ref a0'), .val (.ref a0')] [(.ref a0'), (.ref a0')])) t → Steps p.tables e below (s₁.setTop (mkF m 0 #[.val (.int p1), .unset, .unset, .unset, .unset] [])) t := by
          intro t q
          refine k53_ _ ?_
          show Steps p.tables e below (T52.setTop (mkF m 95 #[.val (.int p1), .val (.int (own_rem (p1 &&& (2147483647 : Int32)) (5 : Int32))), .val (.ref a2), .val (.ref a0'), .val (.ref a0')] [(.ref a0')])) _
          refine XS.aload X52.here hx rfl (hb hby at_95) rfl rfl ?_
          show Steps p.tables e below (T52.setTop (mkF m 97 #[.val (.int p1), .val (.int (own_rem (p1 &&& (2147483647 : Int32)) (5 : Int32))), .val (.ref a2), .val (.ref a0'), .val (.ref a0')] [(.ref a0'), (.ref a0')])) _
          exact q
        have k55_ : ∀ t, Steps p.tables e below (T52.setTop (mkF m 100 #[.val (.int p1), .val (.int (own_rem (p1 &&& (2147483647 : Int32)) (5 : Int32))), .val (.ref a2), .val (.ref a0'), .val (.ref a0')] [])) t → Steps p.tables e below (s₁.setTop (mkF m 0 #[.val (.int p1), .unset, .unset, .unset, .unset] [])) t := by
          intro t q
          refine k54_ _ ?_
          show Steps p.tables e below (T52.setTop (mkF m 97 #[.val (.int p1), .val (.int (own_rem (p1 &&& (2147483647 : Int32)) (5 : Int32))), .val (.ref a2), .val (.ref a0'), .val (.ref a0')] [(.ref a0'), (.ref a0')])) _
          refine Jvm.RoadKit.acmp (g := (mkF m 97 #[.val (.int p1), .val (.int (own_rem (p1 &&& (2147483647 : Int32)) (5 : Int32))), .val (.ref a2), .val (.ref a0'), .val (.ref a0')] [(.ref a0'), (.ref a0')])) X52 hx rfl rfl rfl (pc0 := 97) (pc' := 100) (same := true) rfl (hb hby at_97) rfl (decide_eq_true (congrArg Value.ref rfl)) (by decide) (by decide) ?_
          show Steps p.tables e below (T52.setTop (mkF m 100 #[.val (.int p1), .val (.int (own_rem (p1 &&& (2147483647 : Int32)) (5 : Int32))), .val (.ref a2), .val (.ref a0'), .val (.ref a0')] [])) _
          exact q
        have k56_ : ∀ t, Steps p.tables e below (T52.setTop (mkF m 105 #[.val (.int p1), .val (.int (own_rem (p1 &&& (2147483647 : Int32)) (5 : Int32))), .val (.ref a2), .val (.ref a0'), .val (.ref a0')] [(.int (1 : Int32))])) t → Steps p.tables e below (s₁.setTop (mkF m 0 #[.val (.int p1), .unset, .unset, .unset, .unset] [])) t := by
          intro t q
          refine k55_ _ ?_
          show Steps p.tables e below (T52.setTop (mkF m 100 #[.val (.int p1), .val (.int (own_rem (p1 &&& (2147483647 : Int32)) (5 : Int32))), .val (.ref a2), .val (.ref a0'), .val (.ref a0')] [])) _
          refine XS.iconst X52.here hx rfl (hb hby at_100) ?_
          show Steps p.tables e below (T52.setTop (mkF m 101 #[.val (.int p1), .val (.int (own_rem (p1 &&& (2147483647 : Int32)) (5 : Int32))), .val (.ref a2), .val (.ref a0'), .val (.ref a0')] [(.int (1 : Int32))])) _
          refine XS.goto X52.here hx rfl (pc0 := 101) (pc' := 105) rfl (hb hby at_101) (by decide) (by decide) ?_
          show Steps p.tables e below (T52.setTop (mkF m 105 #[.val (.int p1), .val (.int (own_rem (p1 &&& (2147483647 : Int32)) (5 : Int32))), .val (.ref a2), .val (.ref a0'), .val (.ref a0')] [(.int (1 : Int32))])) _
          exact q
        obtain ⟨fs, hr, hrun, hended, hW, hsame⟩ := X52.leave (v := some (.int (1 : Int32))) (fun h => by rw [Bd.returns] at h; cases h)
        refine ⟨_, _, pre0 _ (k56_ _ ?_), hrun, hended, _, _, rfl, ?_, ⟨_, rfl⟩, hW, hsame.mono (by decide) (by decide)⟩
        · show Steps p.tables e below (T52.setTop (mkF m 105 #[.val (.int p1), .val (.int (own_rem (p1 &&& (2147483647 : Int32)) (5 : Int32))), .val (.ref a2), .val (.ref a0'), .val (.ref a0')] [(.int (1 : Int32))])) _
          exact retN X52 hx (t := .boolean) Bd.returns (by simp) (hb hby at_105) hr
        · show Q0 Z p1 a0' a1 a2 a3 a4 od h0 n0 _ T52.heap _
          rw [hq52]
          exact ⟨rfl, N52⟩
      · have k57_ : ∀ t, Steps p.tables e below (s₁.setTop (mkF m 54 #[.val (.int p1), .val (.int (own_rem (p1 &&& (2147483647 : Int32)) (5 : Int32))), .unset, .unset, .unset] [])) t → Steps p.tables e below (s₁.setTop (mkF m 0 #[.val (.int p1), .unset, .unset, .unset, .unset] [])) t := by
          intro t q
          refine k39_ _ ?_
          show Steps p.tables e below (s₁.setTop (mkF m 40 #[.val (.int p1), .val (.int (own_rem (p1 &&& (2147483647 : Int32)) (5 : Int32))), .unset, .unset, .unset] [(.int (2 : Int32)), (.int (own_rem (p1 &&& (2147483647 : Int32)) (5 : Int32)))])) _
          refine XS.icmpYes X0.here hx rfl (pc0 := 40) (pc' := 54) rfl (hb hby at_40) rfl (feq hk2).2 (by decide) (by decide) ?_
          show Steps p.tables e below (s₁.setTop (mkF m 54 #[.val (.int p1), .val (.int (own_rem (p1 &&& (2147483647 : Int32)) (5 : Int32))), .unset, .unset, .unset] [])) _
          exact q
        have k58_ : ∀ t, Steps p.tables e below (s₁.setTop (mkF m 56 #[.val (.int p1), .val (.int (own_rem (p1 &&& (2147483647 : Int32)) (5 : Int32))), .unset, .unset, .unset] [(.int (3 : Int32)), (.int (own_rem (p1 &&& (2147483647 : Int32)) (5 : Int32)))])) t → Steps p.tables e below (s₁.setTop (mkF m 0 #[.val (.int p1), .unset, .unset, .unset, .unset] [])) t := by
          intro t q
          refine k57_ _ ?_
          show Steps p.tables e below (s₁.setTop (mkF m 54 #[.val (.int p1), .val (.int (own_rem (p1 &&& (2147483647 : Int32)) (5 : Int32))), .unset, .unset, .unset] [])) _
          refine XS.iloadN X0.here hx rfl (hb hby at_54) rfl ?_
          show Steps p.tables e below (s₁.setTop (mkF m 55 #[.val (.int p1), .val (.int (own_rem (p1 &&& (2147483647 : Int32)) (5 : Int32))), .unset, .unset, .unset] [(.int (own_rem (p1 &&& (2147483647 : Int32)) (5 : Int32)))])) _
          refine XS.iconst X0.here hx rfl (hb hby at_55) ?_
          show Steps p.tables e below (s₁.setTop (mkF m 56 #[.val (.int p1), .val (.int (own_rem (p1 &&& (2147483647 : Int32)) (5 : Int32))), .unset, .unset, .unset] [(.int (3 : Int32)), (.int (own_rem (p1 &&& (2147483647 : Int32)) (5 : Int32)))])) _
          exact q
        by_cases hk3 : (own_rem (p1 &&& (2147483647 : Int32)) (5 : Int32)) = (3 : Int32)
        · have k59_ : ∀ t, Steps p.tables e below (s₁.setTop (mkF m 59 #[.val (.int p1), .val (.int (own_rem (p1 &&& (2147483647 : Int32)) (5 : Int32))), .unset, .unset, .unset] [])) t → Steps p.tables e below (s₁.setTop (mkF m 0 #[.val (.int p1), .unset, .unset, .unset, .unset] [])) t := by
            intro t q
            refine k58_ _ ?_
            show Steps p.tables e below (s₁.setTop (mkF m 56 #[.val (.int p1), .val (.int (own_rem (p1 &&& (2147483647 : Int32)) (5 : Int32))), .unset, .unset, .unset] [(.int (3 : Int32)), (.int (own_rem (p1 &&& (2147483647 : Int32)) (5 : Int32)))])) _
            refine XS.icmpNo X0.here hx rfl (hb hby at_56) rfl (teq hk3).2 ?_
            show Steps p.tables e below (s₁.setTop (mkF m 59 #[.val (.int p1), .val (.int (own_rem (p1 &&& (2147483647 : Int32)) (5 : Int32))), .unset, .unset, .unset] [])) _
            exact q
          obtain ⟨T60, X60, e60, st60⟩ := getS2 X0 hx hZ hown (host := "") (Or.inl (hw _ (List.mem_of_getElem? (i := 13) rfl))) Via.refl e0 S3 (g := (mkF m 59 #[.val (.int p1), .val (.int (own_rem (p1 &&& (2147483647 : Int32)) (5 : Int32))), .unset, .unset, .unset] [])) rfl (hb hby at_59)
          have k61_ : ∀ t, Steps p.tables e below (T60.setTop (mkF m 62 #[.val (.int p1), .val (.int (own_rem (p1 &&& (2147483647 : Int32)) (5 : Int32))), .unset, .unset, .unset] [(.ref a3)])) t → Steps p.tables e below (s₁.setTop (mkF m 0 #[.val (.int p1), .unset, .unset, .unset, .unset] [])) t := fun t q => k59_ t (st60 t q)
          have k62_ : ∀ t, Steps p.tables e below (T60.setTop (mkF m 63 #[.val (.int p1), .val (.int (own_rem (p1 &&& (2147483647 : Int32)) (5 : Int32))), .val (.ref a3), .unset, .unset] [])) t → Steps p.tables e below (s₁.setTop (mkF m 0 #[.val (.int p1), .unset, .unset, .unset, .unset] [])) t := by
            intro t q
            refine k61_ _ ?_
            show Steps p.tables e below (T60.setTop (mkF m 62 #[.val (.int p1), .val (.int (own_rem (p1 &&& (2147483647 : Int32)) (5 : Int32))), .unset, .unset, .unset] [(.ref a3)])) _
            refine XS.astoreN X60.here hx rfl (hb hby at_62) rfl rfl (l' := #[.val (.int p1), .val (.int (own_rem (p1 &&& (2147483647 : Int32)) (5 : Int32))), .val (.ref a3), .unset, .unset]) rfl ?_
            show Steps p.tables e below (T60.setTop (mkF m 63 #[.val (.int p1), .val (.int (own_rem (p1 &&& (2147483647 : Int32)) (5 : Int32))), .val (.ref a3), .unset, .unset] [])) _
            exact q
          obtain ⟨T63, X63, e63, st63⟩ := getS2 X60 hx hZ hown (host := "") (Or.inl (hw _ (List.mem_of_getElem? (i := 13) rfl))) Via.refl e60 S3 (g := (mkF m 63 #[.val (.int p1), .val (.int (own_rem (p1 &&& (2147483647 : Int32)) (5 : Int32))), .val (.ref a3), .unset, .unset] [])) rfl (hb hby at_63)
          have k64_ : ∀ t, Steps p.tables e below (T63.setTop (mkF m 66 #[.val (.int p1), .val (.int (own_rem (p1 &&& (2147483647 : Int32)) (5 : Int32))), .val (.ref a3), .unset, .unset] [(.ref a3)])) t → Steps p.tables e below (s₁.setTop (mkF m 0 #[.val (.int p1), .unset, .unset, .unset, .unset] [])) t := fun t q => k62_ t (st63 t q)
          have k65_ : ∀ t, Steps p.tables e below (T63.setTop (mkF m 79 #[.val (.int p1), .val (.int (own_rem (p1 &&& (2147483647 : Int32)) (5 : Int32))), .val (.ref a3), .val (.ref a3), .unset] [(.ref a3)])) t → Steps p.tables e below (s₁.setTop (mkF m 0 #[.val (.int p1), .unset, .unset, .unset, .unset] [])) t := by
            intro t q
            refine k64_ _ ?_
            show Steps p.tables e below (T63.setTop (mkF m 66 #[.val (.int p1), .val (.int (own_rem (p1 &&& (2147483647 : Int32)) (5 : Int32))), .val (.ref a3), .unset, .unset] [(.ref a3)])) _
            refine XS.astoreN X63.here hx rfl (hb hby at_66) rfl rfl (l' := #[.val (.int p1), .val (.int (own_rem (p1 &&& (2147483647 : Int32)) (5 : Int32))), .val (.ref a3), .val (.ref a3), .unset]) rfl ?_
            show Steps p.tables e below (T63.setTop (mkF m 67 #[.val (.int p1), .val (.int (own_rem (p1 &&& (2147483647 : Int32)) (5 : Int32))), .val (.ref a3), .val (.ref a3), .unset] [])) _
            refine XS.goto X63.here hx rfl (pc0 := 67) (pc' := 78) rfl (hb hby at_67) (by decide) (by decide) ?_
            show Steps p.tables e below (T63.setTop (mkF m 78 #[.val (.int p1), .val (.int (own_rem (p1 &&& (2147483647 : Int32)) (5 : Int32))), .val (.ref a3), .val (.ref a3), .unset] [])) _
            refine XS.aloadN X63.here hx rfl (hb hby at_78) rfl rfl ?_
            show Steps p.tables e below (T63.setTop (mkF m 79 #[.val (.int p1), .val (.int (own_rem (p1 &&& (2147483647 : Int32)) (5 : Int32))), .val (.ref a3), .val (.ref a3), .unset] [(.ref a3)])) _
            exact q
          obtain ⟨cq66, kq66, q66a, q66b, q66c⟩ := isOf hZ e63 E3
          obtain ⟨_, _, ⟨T66, L66, kk66, n66⟩, -, X66, ⟨Lc66, hQ66, l66, y66, z66⟩, st66⟩ := X63.virtualBack hx (y := (⟨"com/example/triplewright/triplewright/model/TermType", "kind", "()Lcom/example/triplewright/triplewright/model/TermType;"⟩ : MethodName)) (z := (⟨"com/example/triplewright/triplewright/model/TermType", "kind", "()Lcom/example/triplewright/triplewright/model/TermType;"⟩ : MethodName)) hown (mvT hZ (hw _ (List.mem_of_getElem? (i := 4) rfl))) (mvT hZ (hw _ (List.mem_of_getElem? (i := 5) rfl))) (notFace_of_selects (args := #[]) (mvT hZ (hw _ (List.mem_of_getElem? (i := 7) rfl)))) (mvT hZ (hw _ (List.mem_of_getElem? (i := 7) rfl))) (mvT hZ (hw _ (List.mem_of_getElem? (i := 6) rfl))) (by decide) (backOf (W := 0) (rmK l Z a0 hw [] a3 a0' a1 a2 h0 n0 Z0 S0 S1 S2) hZ (hw _ (List.mem_of_getElem? (i := 8) rfl)) (hw _ (List.mem_of_getElem? (i := 2) rfl)) (by decide) (by decide)) q66a q66c (g := (mkF m 79 #[.val (.int p1), .val (.int (own_rem (p1 &&& (2147483647 : Int32)) (5 : Int32))), .val (.ref a3), .val (.ref a3), .unset] [(.ref a3)])) rfl (by rw [hml]; rfl) (Steps.refl _) (argsL := []) (rest := []) (lenOf pd_36218 rfl) rfl (by show 2 * 0 + _ ≤ _; exact Nat.le_of_eq rfl) (hb hby at_79) (fun _ _ => ⟨rfl, e63, (by decide : 0 + 0 ≤ _), (by decide : 0 + 0 ≤ _)⟩)
          dsimp only [Pt.U, Pt.locs, Pt.cells, Pt.slots] at X66 l66 y66 z66 st66 hQ66
          subst l66 y66 z66
          obtain ⟨hv, Nq66, hq66⟩ := hQ66
          rw [own_kn (own_ord_ne ho3 ho1 (by decide)) (own_ord_ne ho3 ho2 (by decide))] at hv
          subst hv
          have N66 := Fr.app N0 Nq66
          have k67_ : ∀ t, Steps p.tables e below (T66.setTop (mkF m 82 #[.val (.int p1), .val (.int (own_rem (p1 &&& (2147483647 : Int32)) (5 : Int32))), .val (.ref a3), .val (.ref a3), .unset] [(.ref a3)])) t → Steps p.tables e below (s₁.setTop (mkF m 0 #[.val (.int p1), .unset, .unset, .unset, .unset] [])) t := fun t q => k65_ t (st66.trans q)
          have k68_ : ∀ t, Steps p.tables e below (T66.setTop (mkF m 87 #[.val (.int p1), .val (.int (own_rem (p1 &&& (2147483647 : Int32)) (5 : Int32))), .val (.ref a3), .val (.ref a3), .val (.ref a3)] [(.ref a3), (.ref a3)])) t → Steps p.tables e below (s₁.setTop (mkF m 0 #[.val (.int p1), .unset, .unset, .unset, .unset] [])) t := by
            intro t q
            refine k67_ _ ?_
            show Steps p.tables e below (T66.setTop (mkF m 82 #[.val (.int p1), .val (.int (own_rem (p1 &&& (2147483647 : Int32)) (5 : Int32))), .val (.ref a3), .val (.ref a3), .unset] [(.ref a3)])) _
            refine XS.astore X66.here hx rfl (hb hby at_82) rfl rfl (l' := #[.val (.int p1), .val (.int (own_rem (p1 &&& (2147483647 : Int32)) (5 : Int32))), .val (.ref a3), .val (.ref a3), .val (.ref a3)]) rfl ?_
            show Steps p.tables e below (T66.setTop (mkF m 84 #[.val (.int p1), .val (.int (own_rem (p1 &&& (2147483647 : Int32)) (5 : Int32))), .val (.ref a3), .val (.ref a3), .val (.ref a3)] [])) _
            refine XS.aload X66.here hx rfl (hb hby at_84) rfl rfl ?_
            show Steps p.tables e below (T66.setTop (mkF m 86 #[.val (.int p1), .val (.int (own_rem (p1 &&& (2147483647 : Int32)) (5 : Int32))), .val (.ref a3), .val (.ref a3), .val (.ref a3)] [(.ref a3)])) _
            refine XS.aloadN X66.here hx rfl (hb hby at_86) rfl rfl ?_
            show Steps p.tables e below (T66.setTop (mkF m 87 #[.val (.int p1), .val (.int (own_rem (p1 &&& (2147483647 : Int32)) (5 : Int32))), .val (.ref a3), .val (.ref a3), .val (.ref a3)] [(.ref a3), (.ref a3)])) _
            exact q
          have k69_ : ∀ t, Steps p.tables e below (T66.setTop (mkF m 90 #[.val (.int p1), .val (.int (own_rem (p1 &&& (2147483647 : Int32)) (5 : Int32))), .val (.ref a3), .val (.ref a3), .val (.ref a3)] [])) t → Steps p.tables e below (s₁.setTop (mkF m 0 #[.val (.int p1), .unset, .unset, .unset, .unset] [])) t := by
            intro t q
            refine k68_ _ ?_
            show Steps p.tables e below (T66.setTop (mkF m 87 #[.val (.int p1), .val (.int (own_rem (p1 &&& (2147483647 : Int32)) (5 : Int32))), .val (.ref a3), .val (.ref a3), .val (.ref a3)] [(.ref a3), (.ref a3)])) _
            refine Jvm.RoadKit.acmp (g := (mkF m 87 #[.val (.int p1), .val (.int (own_rem (p1 &&& (2147483647 : Int32)) (5 : Int32))), .val (.ref a3), .val (.ref a3), .val (.ref a3)] [(.ref a3), (.ref a3)])) X66 hx rfl rfl rfl (pc0 := 87) (pc' := 90) (same := true) rfl (hb hby at_87) rfl (decide_eq_true (congrArg Value.ref rfl)) (by decide) (by decide) ?_
            show Steps p.tables e below (T66.setTop (mkF m 90 #[.val (.int p1), .val (.int (own_rem (p1 &&& (2147483647 : Int32)) (5 : Int32))), .val (.ref a3), .val (.ref a3), .val (.ref a3)] [])) _
            exact q
          have k70_ : ∀ t, Steps p.tables e below (T66.setTop (mkF m 92 #[.val (.int p1), .val (.int (own_rem (p1 &&& (2147483647 : Int32)) (5 : Int32))), .val (.ref a3), .val (.ref a3), .val (.ref a3)] [(.ref a3)])) t → Steps p.tables e below (s₁.setTop (mkF m 0 #[.val (.int p1), .unset, .unset, .unset, .unset] [])) t := by
            intro t q
            refine k69_ _ ?_
            show Steps p.tables e below (T66.setTop (mkF m 90 #[.val (.int p1), .val (.int (own_rem (p1 &&& (2147483647 : Int32)) (5 : Int32))), .val (.ref a3), .val (.ref a3), .val (.ref a3)] [])) _
            refine XS.aload X66.here hx rfl (hb hby at_90) rfl rfl ?_
            show Steps p.tables e below (T66.setTop (mkF m 92 #[.val (.int p1), .val (.int (own_rem (p1 &&& (2147483647 : Int32)) (5 : Int32))), .val (.ref a3), .val (.ref a3), .val (.ref a3)] [(.ref a3)])) _
            exact q
          obtain ⟨cq71, kq71, q71a, q71b, q71c⟩ := isOf hZ hq66 E3
          obtain ⟨_, _, ⟨T71, L71, kk71, n71⟩, -, X71, ⟨Lc71, hQ71, l71, y71, z71⟩, st71⟩ := X66.virtualBack hx (y := (⟨"com/example/triplewright/triplewright/model/TermType", "kind", "()Lcom/example/triplewright/triplewright/model/TermType;"⟩ : MethodName)) (z := (⟨"com/example/triplewright/triplewright/model/TermType", "kind", "()Lcom/example/triplewright/triplewright/model/TermType;"⟩ : MethodName)) hown (mvT hZ (hw _ (List.mem_of_getElem? (i := 4) rfl))) (mvT hZ (hw _ (List.mem_of_getElem? (i := 5) rfl))) (notFace_of_selects (args := #[]) (mvT hZ (hw _ (List.mem_of_getElem? (i := 7) rfl)))) (mvT hZ (hw _ (List.mem_of_getElem? (i := 7) rfl))) (mvT hZ (hw _ (List.mem_of_getElem? (i := 6) rfl))) (by decide) (backOf (W := 0) (rmK l Z a0 hw [] a3 a0' a1 a2 h0 n0 Z0 S0 S1 S2) hZ (hw _ (List.mem_of_getElem? (i := 8) rfl)) (hw _ (List.mem_of_getElem? (i := 2) rfl)) (by decide) (by decide)) q71a q71c (g := (mkF m 92 #[.val (.int p1), .val (.int (own_rem (p1 &&& (2147483647 : Int32)) (5 : Int32))), .val (.ref a3), .val (.ref a3), .val (.ref a3)] [(.ref a3)])) rfl (by rw [hml]; rfl) (Steps.refl _) (argsL := []) (rest := []) (lenOf pd_36218 rfl) rfl (by show 2 * 0 + _ ≤ _; exact Nat.le_of_eq rfl) (hb hby at_92) (fun _ _ => ⟨rfl, hq66, (by decide : 0 + 0 + 0 ≤ _), (by decide : 0 + 0 + 0 ≤ _)⟩)
          dsimp only [Pt.U, Pt.locs, Pt.cells, Pt.slots] at X71 l71 y71 z71 st71 hQ71
          subst l71 y71 z71
          obtain ⟨hv, Nq71, hq71⟩ := hQ71
          rw [own_kn (own_ord_ne ho3 ho1 (by decide)) (own_ord_ne ho3 ho2 (by decide))] at hv
          subst hv
          have N71 := Fr.app N66 Nq71
          have k72_ : ∀ t, Steps p.tables e below (T71.setTop (mkF m 95 #[.val (.int p1), .val (.int (own_rem (p1 &&& (2147483647 : Int32)) (5 : Int32))), .val (.ref a3), .val (.ref a3), .val (.ref a3)] [(.ref a3)])) t → Steps p.tables e below (s₁.setTop (mkF m 0 #[.val (.int p1), .unset, .unset, .unset, .unset] [])) t := fun t q => k70_ t (st71.trans q)
          have k73_ : ∀ t, Steps p.tables e below (T71.setTop (mkF m 97 #[.val (.int p1), .val (.int (own_rem (p1 &&& (2147483647 : Int32)) (5 : Int32))), .val (.ref a3), .val (.ref a3), .val (.ref a3)] [(.ref a3), (.ref a3)])) t → Steps p.tables e below (s₁.setTop (mkF m 0 #[.val (.int p1), .unset, .unset, .unset, .unset] [])) t := by
            intro t q
            refine k72_ _ ?_
            show Steps p.tables e below (T71.setTop (mkF m 95 #[.val (.int p1), .val (.int (own_rem (p1 &&& (2147483647 : Int32)) (5 : Int32))), .val (.ref a3), .val (.ref a3), .val (.ref a3)] [(.ref a3)])) _
            refine XS.aload X71.here hx rfl (hb hby at_95) rfl rfl ?_
            show Steps p.tables e below (T71.setTop (mkF m 97 #[.val (.int p1), .val (.int (own_rem (p1 &&& (2147483647 : Int32)) (5 : Int32))), .val (.ref a3), .val (.ref a3), .val (.ref a3)] [(.ref a3), (.ref a3)])) _
            exact q
          have k74_ : ∀ t, Steps p.tables e below (T71.setTop (mkF m 100 #[.val (.int p1), .val (.int (own_rem (p1 &&& (2147483647 : Int32)) (5 : Int32))), .val (.ref a3), .val (.ref a3), .val (.ref a3)] [])) t → Steps p.tables e below (s₁.setTop (mkF m 0 #[.val (.int p1), .unset, .unset, .unset, .unset] [])) t := by
            intro t q
            refine k73_ _ ?_
            show Steps p.tables e below (T71.setTop (mkF m 97 #[.val (.int p1), .val (.int (own_rem (p1 &&& (2147483647 : Int32)) (5 : Int32))), .val (.ref a3), .val (.ref a3), .val (.ref a3)] [(.ref a3), (.ref a3)])) _
            refine Jvm.RoadKit.acmp (g := (mkF m 97 #[.val (.int p1), .val (.int (own_rem (p1 &&& (2147483647 : Int32)) (5 : Int32))), .val (.ref a3), .val (.ref a3), .val (.ref a3)] [(.ref a3), (.ref a3)])) X71 hx rfl rfl rfl (pc0 := 97) (pc' := 100) (same := true) rfl (hb hby at_97) rfl (decide_eq_true (congrArg Value.ref rfl)) (by decide) (by decide) ?_
            show Steps p.tables e below (T71.setTop (mkF m 100 #[.val (.int p1), .val (.int (own_rem (p1 &&& (2147483647 : Int32)) (5 : Int32))), .val (.ref a3), .val (.ref a3), .val (.ref a3)] [])) _
            exact q
          have k75_ : ∀ t, Steps p.tables e below (T71.setTop (mkF m 105 #[.val (.int p1), .val (.int (own_rem (p1 &&& (2147483647 : Int32)) (5 : Int32))), .val (.ref a3), .val (.ref a3), .val (.ref a3)] [(.int (1 : Int32))])) t → Steps p.tables e below (s₁.setTop (mkF m 0 #[.val (.int p1), .unset, .unset, .unset, .unset] [])) t := by
            intro t q
            refine k74_ _ ?_
            show Steps p.tables e below (T71.setTop (mkF m 100 #[.val (.int p1), .val (.int (own_rem (p1 &&& (2147483647 : Int32)) (5 : Int32))), .val (.ref a3), .val (.ref a3), .val (.ref a3)] [])) _
            refine XS.iconst X71.here hx rfl (hb hby at_100) ?_
            show Steps p.tables e below (T71.setTop (mkF m 101 #[.val (.int p1), .val (.int (own_rem (p1 &&& (2147483647 : Int32)) (5 : Int32))), .val (.ref a3), .val (.ref a3), .val (.ref a3)] [(.int (1 : Int32))])) _
            refine XS.goto X71.here hx rfl (pc0 := 101) (pc' := 105) rfl (hb hby at_101) (by decide) (by decide) ?_
            show Steps p.tables e below (T71.setTop (mkF m 105 #[.val (.int p1), .val (.int (own_rem (p1 &&& (2147483647 : Int32)) (5 : Int32))), .val (.ref a3), .val (.ref a3), .val (.ref a3)] [(.int (1 : Int32))])) _
            exact q
          obtain ⟨fs, hr, hrun, hended, hW, hsame⟩ := X71.leave (v := some (.int (1 : Int32))) (fun h => by rw [Bd.returns] at h; cases h)
          refine ⟨_, _, pre0 _ (k75_ _ ?_), hrun, hended, _, _, rfl, ?_, ⟨_, rfl⟩, hW, hsame.mono (by decide) (by decide)⟩
          · show Steps p.tables e below (T71.setTop (mkF m 105 #[.val (.int p1), .val (.int (own_rem (p1 &&& (2147483647 : Int32)) (5 : Int32))), .val (.ref a3), .val (.ref a3), .val (.ref a3)] [(.int (1 : Int32))])) _
            exact retN X71 hx (t := .boolean) Bd.returns (by simp) (hb hby at_105) hr
          · show Q0 Z p1 a0' a1 a2 a3 a4 od h0 n0 _ T71.heap _
            rw [hq71]
            exact ⟨rfl, N71⟩
        · have k76_ : ∀ t, Steps p.tables e below (s₁.setTop (mkF m 70 #[.val (.int p1), .val (.int (own_rem (p1 &&& (2147483647 : Int32)) (5 : Int32))), .unset, .unset, .unset] [])) t → Steps p.tables e below (s₁.setTop (mkF m 0 #[.val (.int p1), .unset, .unset, .unset, .unset] [])) t := by
            intro t q
            refine k58_ _ ?_
            show Steps p.tables e below (s₁.setTop (mkF m 56 #[.val (.int p1), .val (.int (own_rem (p1 &&& (2147483647 : Int32)) (5 : Int32))), .unset, .unset, .unset] [(.int (3 : Int32)), (.int (own_rem (p1 &&& (2147483647 : Int32)) (5 : Int32)))])) _
            refine XS.icmpYes X0.here hx rfl (pc0 := 56) (pc' := 70) rfl (hb hby at_56) rfl (feq hk3).2 (by decide) (by decide) ?_
            show Steps p.tables e below (s₁.setTop (mkF m 70 #[.val (.int p1), .val (.int (own_rem (p1 &&& (2147483647 : Int32)) (5 : Int32))), .unset, .unset, .unset] [])) _
            exact q
          obtain ⟨T77, X77, e77, st77⟩ := getS2 X0 hx hZ hown (host := "") (Or.inl (hw _ (List.mem_of_getElem? (i := 17) rfl))) Via.refl e0 S4 (g := (mkF m 70 #[.val (.int p1), .val (.int (own_rem (p1 &&& (2147483647 : Int32)) (5 : Int32))), .unset, .unset, .unset] [])) rfl (hb hby at_70)
          have k78_ : ∀ t, Steps p.tables e below (T77.setTop (mkF m 73 #[.val (.int p1), .val (.int (own_rem (p1 &&& (2147483647 : Int32)) (5 : Int32))), .unset, .unset, .unset] [(.ref a4)])) t → Steps p.tables e below (s₁.setTop (mkF m 0 #[.val (.int p1), .unset, .unset, .unset, .unset] [])) t := fun t q => k76_ t (st77 t q)
          have k79_ : ∀ t, Steps p.tables e below (T77.setTop (mkF m 74 #[.val (.int p1), .val (.int (own_rem (p1 &&& (2147483647 : Int32)) (5 : Int32))), .val (.ref a4), .unset, .unset] [])) t → Steps p.tables e below (s₁.setTop (mkF m 0 #[.val (.int p1), .unset, .unset, .unset, .unset] [])) t := by
            intro t q
            refine k78_ _ ?_
            show Steps p.tables e below (T77.setTop (mkF m 73 #[.val (.int p1), .val (.int (own_rem (p1 &&& (2147483647 : Int32)) (5 : Int32))), .unset, .unset, .unset] [(.ref a4)])) _
            refine XS.astoreN X77.here hx rfl (hb hby at_73) rfl rfl (l' := #[.val (.int p1), .val (.int (own_rem (p1 &&& (2147483647 : Int32)) (5 : Int32))), .val (.ref a4), .unset, .unset]) rfl ?_
            show Steps p.tables e below (T77.setTop (mkF m 74 #[.val (.int p1), .val (.int (own_rem (p1 &&& (2147483647 : Int32)) (5 : Int32))), .val (.ref a4), .unset, .unset] [])) _
            exact q
          obtain ⟨T80, X80, e80, st80⟩ := getS2 X77 hx hZ hown (host := "") (Or.inl (hw _ (List.mem_of_getElem? (i := 17) rfl))) Via.refl e77 S4 (g := (mkF m 74 #[.val (.int p1), .val (.int (own_rem (p1 &&& (2147483647 : Int32)) (5 : Int32))), .val (.ref a4), .unset, .unset] [])) rfl (hb hby at_74)
          have k81_ : ∀ t, Steps p.tables e below (T80.setTop (mkF m 77 #[.val (.int p1), .val (.int (own_rem (p1 &&& (2147483647 : Int32)) (5 : Int32))), .val (.ref a4), .unset, .unset] [(.ref a4)])) t → Steps p.tables e below (s₁.setTop (mkF m 0 #[.val (.int p1), .unset, .unset, .unset, .unset] [])) t := fun t q => k79_ t (st80 t q)
          have k82_ : ∀ t, Steps p.tables e below (T80.setTop (mkF m 79 #[.val (.int p1), .val (.int (own_rem (p1 &&& (2147483647 : Int32)) (5 : Int32))), .val (.ref a4), .val (.ref a4), .unset] [(.ref a4)])) t → Steps p.tables e below (s₁.setTop (mkF m 0 #[.val (.int p1), .unset, .unset, .unset, .unset] [])) t := by
            intro t q
            refine k81_ _ ?_
            show Steps p.tables e below (T80.setTop (mkF m 77 #[.val (.int p1), .val (.int (own_rem (p1 &&& (2147483647 : Int32)) (5 : Int32))), .val (.ref a4), .unset, .unset] [(.ref a4)])) _
            refine XS.astoreN X80.here hx rfl (hb hby at_77) rfl rfl (l' := #[.val (.int p1), .val (.int (own_rem (p1 &&& (2147483647 : Int32)) (5 : Int32))), .val (.ref a4), .val (.ref a4), .unset]) rfl ?_
            show Steps p.tables e below (T80.setTop (mkF m 78 #[.val (.int p1), .val (.int (own_rem (p1 &&& (2147483647 : Int32)) (5 : Int32))), .val (.ref a4), .val (.ref a4), .unset] [])) _
            refine XS.aloadN X80.here hx rfl (hb hby at_78) rfl rfl ?_
            show Steps p.tables e below (T80.setTop (mkF m 79 #[.val (.int p1), .val (.int (own_rem (p1 &&& (2147483647 : Int32)) (5 : Int32))), .val (.ref a4), .val (.ref a4), .unset] [(.ref a4)])) _
            exact q
          obtain ⟨cq83, kq83, q83a, q83b, q83c⟩ := isOf hZ e80 E4
          obtain ⟨_, _, ⟨T83, L83, kk83, n83⟩, -, X83, ⟨Lc83, hQ83, l83, y83, z83⟩, st83⟩ := X80.virtualBack hx (y := (⟨"com/example/triplewright/triplewright/model/TermType", "kind", "()Lcom/example/triplewright/triplewright/model/TermType;"⟩ : MethodName)) (z := (⟨"com/example/triplewright/triplewright/model/TermType", "kind", "()Lcom/example/triplewright/triplewright/model/TermType;"⟩ : MethodName)) hown (mvT hZ (hw _ (List.mem_of_getElem? (i := 4) rfl))) (mvT hZ (hw _ (List.mem_of_getElem? (i := 5) rfl))) (notFace_of_selects (args := #[]) (mvT hZ (hw _ (List.mem_of_getElem? (i := 7) rfl)))) (mvT hZ (hw _ (List.mem_of_getElem? (i := 7) rfl))) (mvT hZ (hw _ (List.mem_of_getElem? (i := 6) rfl))) (by decide) (backOf (W := 0) (rmK l Z a0 hw [] a4 a0' a1 a2 h0 n0 Z0 S0 S1 S2) hZ (hw _ (List.mem_of_getElem? (i := 8) rfl)) (hw _ (List.mem_of_getElem? (i := 2) rfl)) (by decide) (by decide)) q83a q83c (g := (mkF m 79 #[.val (.int p1), .val (.int (own_rem (p1 &&& (2147483647 : Int32)) (5 : Int32))), .val (.ref a4), .val (.ref a4), .unset] [(.ref a4)])) rfl (by rw [hml]; rfl) (Steps.refl _) (argsL := []) (rest := []) (lenOf pd_36218 rfl) rfl (by show 2 * 0 + _ ≤ _; exact Nat.le_of_eq rfl) (hb hby at_79) (fun _ _ => ⟨rfl, e80, (by decide : 0 + 0 ≤ _), (by decide : 0 + 0 ≤ _)⟩)
          dsimp only [Pt.U, Pt.locs, Pt.cells, Pt.slots] at X83 l83 y83 z83 st83 hQ83
          subst l83 y83 z83
          obtain ⟨hv, Nq83, hq83⟩ := hQ83
          rw [own_kn (own_ord_ne ho4 ho1 (by decide)) (own_ord_ne ho4 ho2 (by decide))] at hv
          subst hv
          have N83 := Fr.app N0 Nq83
          have k84_ : ∀ t, Steps p.tables e below (T83.setTop (mkF m 82 #[.val (.int p1), .val (.int (own_rem (p1 &&& (2147483647 : Int32)) (5 : Int32))), .val (.ref a4), .val (.ref a4), .unset] [(.ref a4)])) t → Steps p.tables e below (s₁.setTop (mkF m 0 #[.val (.int p1), .unset, .unset, .unset, .unset] [])) t := fun t q => k82_ t (st83.trans q)
          have k85_ : ∀ t, Steps p.tables e below (T83.setTop (mkF m 87 #[.val (.int p1), .val (.int (own_rem (p1 &&& (2147483647 : Int32)) (5 : Int32))), .val (.ref a4), .val (.ref a4), .val (.ref a4)] [(.ref a4), (.ref a4)])) t → Steps p.tables e below (s₁.setTop (mkF m 0 #[.val (.int p1), .unset, .unset, .unset, .unset] [])) t := by
            intro t q
            refine k84_ _ ?_
            show Steps p.tables e below (T83.setTop (mkF m 82 #[.val (.int p1), .val (.int (own_rem (p1 &&& (2147483647 : Int32)) (5 : Int32))), .val (.ref a4), .val (.ref a4), .unset] [(.ref a4)])) _
            refine XS.astore X83.here hx rfl (hb hby at_82) rfl rfl (l' := #[.val (.int p1), .val (.int (own_rem (p1 &&& (2147483647 : Int32)) (5 : Int32))), .val (.ref a4), .val (.ref a4), .val (.ref a4)]) rfl ?_
            show Steps p.tables e below (T83.setTop (mkF m 84 #[.val (.int p1), .val (.int (own_rem (p1 &&& (2147483647 : Int32)) (5 : Int32))), .val (.ref a4), .val (.ref a4), .val (.ref a4)] [])) _
            refine XS.aload X83.here hx rfl (hb hby at_84) rfl rfl ?_
            show Steps p.tables e below (T83.setTop (mkF m 86 #[.val (.int p1), .val (.int (own_rem (p1 &&& (2147483647 : Int32)) (5 : Int32))), .val (.ref a4), .val (.ref a4), .val (.ref a4)] [(.ref a4)])) _
            refine XS.aloadN X83.here hx rfl (hb hby at_86) rfl rfl ?_
            show Steps p.tables e below (T83.setTop (mkF m 87 #[.val (.int p1), .val (.int (own_rem (p1 &&& (2147483647 : Int32)) (5 : Int32))), .val (.ref a4), .val (.ref a4), .val (.ref a4)] [(.ref a4), (.ref a4)])) _
            exact q
          have k86_ : ∀ t, Steps p.tables e below (T83.setTop (mkF m 90 #[.val (.int p1), .val (.int (own_rem (p1 &&& (2147483647 : Int32)) (5 : Int32))), .val (.ref a4), .val (.ref a4), .val (.ref a4)] [])) t → Steps p.tables e below (s₁.setTop (mkF m 0 #[.val (.int p1), .unset, .unset, .unset, .unset] [])) t := by
            intro t q
            refine k85_ _ ?_
            show Steps p.tables e below (T83.setTop (mkF m 87 #[.val (.int p1), .val (.int (own_rem (p1 &&& (2147483647 : Int32)) (5 : Int32))), .val (.ref a4), .val (.ref a4), .val (.ref a4)] [(.ref a4), (.ref a4)])) _
            refine Jvm.RoadKit.acmp (g := (mkF m 87 #[.val (.int p1), .val (.int (own_rem (p1 &&& (2147483647 : Int32)) (5 : Int32))), .val (.ref a4), .val (.ref a4), .val (.ref a4)] [(.ref a4), (.ref a4)])) X83 hx rfl rfl rfl (pc0 := 87) (pc' := 90) (same := true) rfl (hb hby at_87) rfl (decide_eq_true (congrArg Value.ref rfl)) (by decide) (by decide) ?_
            show Steps p.tables e below (T83.setTop (mkF m 90 #[.val (.int p1), .val (.int (own_rem (p1 &&& (2147483647 : Int32)) (5 : Int32))), .val (.ref a4), .val (.ref a4), .val (.ref a4)] [])) _
            exact q
          have k87_ : ∀ t, Steps p.tables e below (T83.setTop (mkF m 92 #[.val (.int p1), .val (.int (own_rem (p1 &&& (2147483647 : Int32)) (5 : Int32))), .val (.ref a4), .val (.ref a4), .val (.ref a4)] [(.ref a4)])) t → Steps p.tables e below (s₁.setTop (mkF m 0 #[.val (.int p1), .unset, .unset, .unset, .unset] [])) t := by
            intro t q
            refine k86_ _ ?_
            show Steps p.tables e below (T83.setTop (mkF m 90 #[.val (.int p1), .val (.int (own_rem (p1 &&& (2147483647 : Int32)) (5 : Int32))), .val (.ref a4), .val (.ref a4), .val (.ref a4)] [])) _
            refine XS.aload X83.here hx rfl (hb hby at_90) rfl rfl ?_
            show Steps p.tables e below (T83.setTop (mkF m 92 #[.val (.int p1), .val (.int (own_rem (p1 &&& (2147483647 : Int32)) (5 : Int32))), .val (.ref a4), .val (.ref a4), .val (.ref a4)] [(.ref a4)])) _
            exact q
          obtain ⟨cq88, kq88, q88a, q88b, q88c⟩ := isOf hZ hq83 E4
          obtain ⟨_, _, ⟨T88, L88, kk88, n88⟩, -, X88, ⟨Lc88, hQ88, l88, y88, z88⟩, st88⟩ := X83.virtualBack hx (y := (⟨"com/example/triplewright/triplewright/model/TermType", "kind", "()Lcom/example/triplewright/triplewright/model/TermType;"⟩ : MethodName)) (z := (⟨"com/example/triplewright/triplewright/model/TermType", "kind", "()Lcom/example/triplewright/triplewright/model/TermType;"⟩ : MethodName)) hown (mvT hZ (hw _ (List.mem_of_getElem? (i := 4) rfl))) (mvT hZ (hw _ (List.mem_of_getElem? (i := 5) rfl))) (notFace_of_selects (args := #[]) (mvT hZ (hw _ (List.mem_of_getElem? (i := 7) rfl)))) (mvT hZ (hw _ (List.mem_of_getElem? (i := 7) rfl))) (mvT hZ (hw _ (List.mem_of_getElem? (i := 6) rfl))) (by decide) (backOf (W := 0) (rmK l Z a0 hw [] a4 a0' a1 a2 h0 n0 Z0 S0 S1 S2) hZ (hw _ (List.mem_of_getElem? (i := 8) rfl)) (hw _ (List.mem_of_getElem? (i := 2) rfl)) (by decide) (by decide)) q88a q88c (g := (mkF m 92 #[.val (.int p1), .val (.int (own_rem (p1 &&& (2147483647 : Int32)) (5 : Int32))), .val (.ref a4), .val (.ref a4), .val (.ref a4)] [(.ref a4)])) rfl (by rw [hml]; rfl) (Steps.refl _) (argsL := []) (rest := []) (lenOf pd_36218 rfl) rfl (by show 2 * 0 + _ ≤ _; exact Nat.le_of_eq rfl) (hb hby at_92) (fun _ _ => ⟨rfl, hq83, (by decide : 0 + 0 + 0 ≤ _), (by decide : 0 + 0 + 0 ≤ _)⟩)
          dsimp only [Pt.U, Pt.locs, Pt.cells, Pt.slots] at X88 l88 y88 z88 st88 hQ88
          subst l88 y88 z88
          obtain ⟨hv, Nq88, hq88⟩ := hQ88
          rw [own_kn (own_ord_ne ho4 ho1 (by decide)) (own_ord_ne ho4 ho2 (by decide))] at hv
          subst hv
          have N88 := Fr.app N83 Nq88
          have k89_ : ∀ t, Steps p.tables e below (T88.setTop (mkF m 95 #[.val (.int p1), .val (.int (own_rem (p1 &&& (2147483647 : Int32)) (5 : Int32))), .val (.ref a4), .val (.ref a4), .val (.ref a4)] [(.ref a4)])) t → Steps p.tables e below (s₁.setTop (mkF m 0 #[.val (.int p1), .unset, .unset, .unset, .unset] [])) t := fun t q => k87_ t (st88.trans q)
          have k90_ : ∀ t, Steps p.tables e below (T88.setTop (mkF m 97 #[.val (.int p1), .val (.int (own_rem (p1 &&& (2147483647 : Int32)) (5 : Int32))), .val (.ref a4), .val (.ref a4), .val (.ref a4)] [(.ref a4), (.ref a4)])) t → Steps p.tables e below (s₁.setTop (mkF m 0 #[.val (.int p1), .unset, .unset, .unset, .unset] [])) t := by
            intro t q
            refine k89_ _ ?_
            show Steps p.tables e below (T88.setTop (mkF m 95 #[.val (.int p1), .val (.int (own_rem (p1 &&& (2147483647 : Int32)) (5 : Int32))), .val (.ref a4), .val (.ref a4), .val (.ref a4)] [(.ref a4)])) _
            refine XS.aload X88.here hx rfl (hb hby at_95) rfl rfl ?_
            show Steps p.tables e below (T88.setTop (mkF m 97 #[.val (.int p1), .val (.int (own_rem (p1 &&& (2147483647 : Int32)) (5 : Int32))), .val (.ref a4), .val (.ref a4), .val (.ref a4)] [(.ref a4), (.ref a4)])) _
            exact q
          have k91_ : ∀ t, Steps p.tables e below (T88.setTop (mkF m 100 #[.val (.int p1), .val (.int (own_rem (p1 &&& (2147483647 : Int32)) (5 : Int32))), .val (.ref a4), .val (.ref a4), .val (.ref a4)] [])) t → Steps p.tables e below (s₁.setTop (mkF m 0 #[.val (.int p1), .unset, .unset, .unset, .unset] [])) t := by
            intro t q
            refine k90_ _ ?_
            show Steps p.tables e below (T88.setTop (mkF m 97 #[.val (.int p1), .val (.int (own_rem (p1 &&& (2147483647 : Int32)) (5 : Int32))), .val (.ref a4), .val (.ref a4), .val (.ref a4)] [(.ref a4), (.ref a4)])) _
            refine Jvm.RoadKit.acmp (g := (mkF m 97 #[.val (.int p1), .val (.int (own_rem (p1 &&& (2147483647 : Int32)) (5 : Int32))), .val (.ref a4), .val (.ref a4), .val (.ref a4)] [(.ref a4), (.ref a4)])) X88 hx rfl rfl rfl (pc0 := 97) (pc' := 100) (same := true) rfl (hb hby at_97) rfl (decide_eq_true (congrArg Value.ref rfl)) (by decide) (by decide) ?_
            show Steps p.tables e below (T88.setTop (mkF m 100 #[.val (.int p1), .val (.int (own_rem (p1 &&& (2147483647 : Int32)) (5 : Int32))), .val (.ref a4), .val (.ref a4), .val (.ref a4)] [])) _
            exact q
          have k92_ : ∀ t, Steps p.tables e below (T88.setTop (mkF m 105 #[.val (.int p1), .val (.int (own_rem (p1 &&& (2147483647 : Int32)) (5 : Int32))), .val (.ref a4), .val (.ref a4), .val (.ref a4)] [(.int (1 : Int32))])) t → Steps p.tables e below (s₁.setTop (mkF m 0 #[.val (.int p1), .unset, .unset, .unset, .unset] [])) t := by
            intro t q
            refine k91_ _ ?_
            show Steps p.tables e below (T88.setTop (mkF m 100 #[.val (.int p1), .val (.int (own_rem (p1 &&& (2147483647 : Int32)) (5 : Int32))), .val (.ref a4), .val (.ref a4), .val (.ref a4)] [])) _
            refine XS.iconst X88.here hx rfl (hb hby at_100) ?_
            show Steps p.tables e below (T88.setTop (mkF m 101 #[.val (.int p1), .val (.int (own_rem (p1 &&& (2147483647 : Int32)) (5 : Int32))), .val (.ref a4), .val (.ref a4), .val (.ref a4)] [(.int (1 : Int32))])) _
            refine XS.goto X88.here hx rfl (pc0 := 101) (pc' := 105) rfl (hb hby at_101) (by decide) (by decide) ?_
            show Steps p.tables e below (T88.setTop (mkF m 105 #[.val (.int p1), .val (.int (own_rem (p1 &&& (2147483647 : Int32)) (5 : Int32))), .val (.ref a4), .val (.ref a4), .val (.ref a4)] [(.int (1 : Int32))])) _
            exact q
          obtain ⟨fs, hr, hrun, hended, hW, hsame⟩ := X88.leave (v := some (.int (1 : Int32))) (fun h => by rw [Bd.returns] at h; cases h)
          refine ⟨_, _, pre0 _ (k92_ _ ?_), hrun, hended, _, _, rfl, ?_, ⟨_, rfl⟩, hW, hsame.mono (by decide) (by decide)⟩
          · show Steps p.tables e below (T88.setTop (mkF m 105 #[.val (.int p1), .val (.int (own_rem (p1 &&& (2147483647 : Int32)) (5 : Int32))), .val (.ref a4), .val (.ref a4), .val (.ref a4)] [(.int (1 : Int32))])) _
            exact retN X88 hx (t := .boolean) Bd.returns (by simp) (hb hby at_105) hr
          · show Q0 Z p1 a0' a1 a2 a3 a4 od h0 n0 _ T88.heap _
            rw [hq88]
            exact ⟨rfl, N88⟩
set_option maxRecDepth 65536 in
set_option maxHeartbeats 40000000 in
theorem comes_1 {Post : Tables → Env → Array Value → State → Outcome → State → Prop} (hpost : ∀ tb e args s v u, (limb_1_1.after args s (.returned v) u = true ∧ limb_1_2.after args s (.returned v) u = true ∧ True) → FrameEnd s (.returned v) u (Jvm.fieldLocs frame_1_writes args s ++ Jvm.arrayLocs frame_1_arrays args s ++ Jvm.staticLocs frame_1_statics s) 0 0 → Post tb e args s (.returned v) u) :
    ArmFor flags0 classFile x code maxLocals ret World_1 tables_1 room_1 Calls_1 rest_1 Pre_1 Post := by
  intro l hfl _ _ p e ha hc hk s m args below hf hA hF happ hP
  obtain ⟨hcalls, hrest, hpre⟩ := hP
  obtain ⟨-, -, -, hnamed, -, -, -, hat⟩ := (Spec.applies_iff hf).mp happ
  obtain ⟨hg, hn⟩ := and_e (Cond.before_iff.mp (show (Jvm.Cond.and given_1 narrow_1).before args s = true from hpre))
  obtain ⟨hcnt, hg0⟩ := and_e hg
  have hi0 := hg0
  obtain ⟨w0, rfl⟩ : ∃ w0 : Value, args = #[w0] := by
    have hs : args.size = 1 := by simpa [Cond.value, given_1] using hcnt
    obtain ⟨L⟩ := args
    match L, hs with
    | [w0], _ => exact ⟨w0, rfl⟩
  have hw := fun d (hd : d ∈ tables_1) => atoms_spec (ws := Jvm.Cond.code x code maxLocals ret :: tables_1) hat d (List.mem_cons_of_mem _ hd)
  have hfit : Fit s := fun {y c} hc i hi => by
    obtain ⟨ha, rfl⟩ := Array.getElem?_eq_some_iff.mp hc
    have q := List.all_eq_true.mp ((Array.all_eq_true_iff_forall_mem.mp hF) _ (Array.getElem_mem ha)) i (List.mem_range.mpr hi)
    simpa [Array.getElem?_eq_getElem hi] using q
  obtain ⟨i0, ei0⟩ := is_v hi0
  obtain rfl : w0 = (.int i0) := Option.some.inj ei0
  obtain ⟨na0, nr0⟩ := and_e hn
  obtain ⟨e_IRI, ev_IRI⟩ := exa_v na0
  have E_IRI := Exa.start ev_IRI na0
  have S_IRI := Sta.start ev_IRI (Or.inr ⟨(hw _ (List.mem_of_getElem? (i := 2) rfl)), (hw _ (List.mem_of_getElem? (i := 3) rfl))⟩)
  obtain ⟨na1, nr1⟩ := and_e nr0
  obtain ⟨e_URI, ev_URI⟩ := exa_v na1
  have E_URI := Exa.start ev_URI na1
  have S_URI := Sta.start ev_URI (Or.inr ⟨(hw _ (List.mem_of_getElem? (i := 2) rfl)), (hw _ (List.mem_of_getElem? (i := 10) rfl))⟩)
  obtain ⟨na2, nr2⟩ := and_e nr1
  have o_IRI := own_ord na2 ev_IRI
  obtain ⟨na3, nr3⟩ := and_e nr2
  have o_URI := own_ord na3 ev_URI
  obtain ⟨na4, nr4⟩ := and_e nr3
  obtain ⟨e_UNSAFE_IRI, ev_UNSAFE_IRI⟩ := exa_v na4
  have E_UNSAFE_IRI := Exa.start ev_UNSAFE_IRI na4
  have S_UNSAFE_IRI := Sta.start ev_UNSAFE_IRI (Or.inr ⟨(hw _ (List.mem_of_getElem? (i := 2) rfl)), (hw _ (List.mem_of_getElem? (i := 12) rfl))⟩)
  obtain ⟨na5, nr5⟩ := and_e nr4
  have o_UNSAFE_IRI := own_ord na5 ev_UNSAFE_IRI
  obtain ⟨na6, nr6⟩ := and_e nr5
  obtain ⟨e_BLANK_NODE, ev_BLANK_NODE⟩ := exa_v na6
  have E_BLANK_NODE := Exa.start ev_BLANK_NODE na6
  have S_BLANK_NODE := Sta.start ev_BLANK_NODE (Or.inr ⟨(hw _ (List.mem_of_getElem? (i := 2) rfl)), (hw _ (List.mem_of_getElem? (i := 14) rfl))⟩)
  obtain ⟨na7, nr7⟩ := and_e nr6
  have o_BLANK_NODE := own_ord na7 ev_BLANK_NODE
  obtain ⟨na8, nr8⟩ := and_e nr7
  obtain ⟨e_LITERAL, ev_LITERAL⟩ := exa_v na8
  have E_LITERAL := Exa.start ev_LITERAL na8
  have S_LITERAL := Sta.start ev_LITERAL (Or.inr ⟨(hw _ (List.mem_of_getElem? (i := 2) rfl)), (hw _ (List.mem_of_getElem? (i := 18) rfl))⟩)
  have na9 := nr8
  have o_LITERAL := own_ord na9 ev_LITERAL
  obtain ⟨n, o, h1, h2, h3, _, L, rfl, ⟨rfl, N⟩, hq⟩ := rm0 l s _ hw tables_1 i0 e_IRI e_URI e_UNSAFE_IRI e_BLANK_NODE e_LITERAL (fun a => s.fieldOf? a "java/lang/Enum" "ordinal" "I") s.heap s.heap.size (Nat.le_refl _) S_IRI S_URI S_UNSAFE_IRI S_BLANK_NODE S_LITERAL E_IRI E_URI E_UNSAFE_IRI E_BLANK_NODE E_LITERAL o_IRI o_URI o_UNSAFE_IRI o_BLANK_NODE o_LITERAL p e ha hc hk s m _ below hf ((Spec.applies_iff_loose hf).mp happ).1 ⟨rfl, State.Warmed39.refl s, rfl⟩ trivial
  refine ⟨n, _, h1, h2, h3, hpost _ _ _ _ _ _ ⟨Cond.after_iff.mpr rfl, Cond.after_iff.mpr (eq_i res_at (Term.int_eval (1)) rfl), trivial⟩ ⟨hq.1, hq.2.1, (hq.2.2.sift fun y hy => Or.inr (N y hy)).mono (by decide) (by decide)⟩⟩
theorem main_1_1 : Claimed_1_1 := comes_1 fun _ _ _ _ _ _ h hF => ⟨h.1, hF⟩
theorem main_1_2 : Claimed_1_2 := comes_1 fun _ _ _ _ _ _ h hF => ⟨h.2.1, hF⟩
end Jvm.Pilot.@@N@@
namespace Jvm.Pilot.@@N@@
open Jvm Jvm.ClassFile Sem Op Lib Jvm.Free Jvm.Stand Jvm.Pilot.@@N@@.Jvm.D
/-! MADE BY PROGRAM (witnessworld.py) out of the Statement's table words and the real class files: 12 classes; the members and pool entries that the words name. The judged class is class 1, her method 1. -/
namespace start1
open Jvm.ClassFile
def u (s : String) : CpInfo := .utf8 (stringToUtf16 s)
/-- a pool by its gaps: so many unusable entries, then the entry; so many at the end -/
def gap : Nat → List CpInfo → List CpInfo
  | 0, r => r
  | n + 1, r => .unusable :: gap n r
def poolList (es : List (Nat × CpInfo)) (last : Nat) : List CpInfo := es.foldr (fun e r => gap e.1 (e.2 :: r)) (gap last [])
def pool (es : List (Nat × CpInfo)) (last : Nat) : Array CpInfo := ⟨poolList es last⟩
def fileOf (pool : Array CpInfo) (this : Nat) (attrs : Array Attribute := #[]) (ms : Array MethodInfo := #[]) (fl : Nat := 33) (sup : Nat := 0) (ifs : Array Nat := #[]) (fds : Array FieldInfo := #[]) : ClassFile where
  minorVersion := 0
  majorVersion := 65
  constantPool := pool
  accessFlags := fl
  thisClass := this
  superClass := sup
  interfaces := ifs
  fields := fds
  methods := ms
  attributes := attrs
def plain (name : String) (sup : Option ClassId) : Class where
  name := name
  kind := .ordinary
  loader := none
  accessFlags := 33
  super := sup
  interfaces := #[]
  cf := none
  fields := #[]
  methods := #[]
  instanceTypes := #[]
  staticTypes := #[]
  resolved := #[]
  callSites := []
  init := .initialized
  statics := none
  mirror := none

def pool0 : Array CpInfo := pool [(5, u "<init>"), (0, u "()V"), (1, .class_ 10), (1, u "java/lang/Object")] 113

def k0m0 : Method := { name := "<init>", desc := "()V", sig := { parameters := [], returnType := none }, accessFlags := 1, code := none }
/-- java/lang/Object -/
def k0 : Class := { plain "java/lang/Object" none with
  accessFlags := 33
  interfaces := #[]
  cf := some (fileOf pool0 8 #[] #[{ accessFlags := 1, nameIndex := 5, descriptorIndex := 6, attributes := #[] }] 33 0 #[] #[])
  fields := #[]
  methods := #[k0m0]
  instanceTypes := #[]
  staticTypes := #[]
  resolved := Array.replicate 124 none
  statics := none }

def pool1 : Array CpInfo := pool [(2, .class_ 4), (1, u "java/lang/Object"), (0, u "<init>"), (0, u "()V"), (0, .integer 2147483647), (0, .fieldref 9 10), (0, .class_ 11), (0, .nameAndType 12 13), (0, u "com/example/triplewright/triplewright/model/TermType"), (0, u "IRI"), (0, u "Lcom/example/triplewright/triplewright/model/TermType;"), (0, .fieldref 9 15), (0, .nameAndType 16 13), (0, u "URI"), (0, .fieldref 9 18), (0, .nameAndType 19 13), (0, u "UNSAFE_IRI"), (0, .fieldref 9 21), (0, .nameAndType 22 13), (0, u "BLANK_NODE"), (0, .fieldref 9 24), (0, .nameAndType 25 13), (0, u "LITERAL"), (0, .methodref 9 27), (0, .nameAndType 28 29), (0, u "kind"), (0, u "()Lcom/example/triplewright/triplewright/model/TermType;"), (0, .class_ 31), (0, u "com/example/triplewright/triplewright/model/TermTypeKindPinLaw"), (2, u "law"), (0, u "(I)Z")] 3

def k1m0 : Method := { name := "<init>", desc := "()V", sig := { parameters := [], returnType := none }, accessFlags := 2, code := none }
def k1c1 : Code := { maxStack := 2, maxLocals := 5, code := code, exceptionTable := #[], attributes := #[] }
def k1m1 : Method := { name := "law", desc := "(I)Z", sig := { parameters := [.int], returnType := some .boolean }, accessFlags := 9, code := some k1c1 }
/-- com/example/triplewright/triplewright/model/TermTypeKindPinLaw -/
def k1 : Class := { plain "com/example/triplewright/triplewright/model/TermTypeKindPinLaw" (some 0) with
  accessFlags := 49
  interfaces := #[]
  cf := some (fileOf pool1 30 #[] #[{ accessFlags := 2, nameIndex := 5, descriptorIndex := 6, attributes := #[] }, { accessFlags := 9, nameIndex := 34, descriptorIndex := 35, attributes := #[] }] 49 2 #[] #[])
  fields := #[]
  methods := #[k1m0, k1m1]
  instanceTypes := #[]
  staticTypes := #[]
  resolved := Array.replicate 39 none
  statics := none }

def pool2 : Array CpInfo := pool [(1, .class_ 2), (0, u "java/lang/constant/Constable"), (0, .class_ 4), (0, u "java/lang/Object")] 6

/-- java/lang/constant/Constable -/
def k2 : Class := { plain "java/lang/constant/Constable" (some 0) with
  accessFlags := 1537
  interfaces := #[]
  cf := some (fileOf pool2 1 #[] #[] 1537 3 #[] #[])
  fields := #[]
  methods := #[]
  instanceTypes := #[]
  staticTypes := #[]
  resolved := Array.replicate 11 none
  statics := none }

def pool3 : Array CpInfo := pool [(1, .class_ 2), (0, u "java/lang/Comparable"), (0, .class_ 4), (0, u "java/lang/Object")] 7

/-- java/lang/Comparable -/
def k3 : Class := { plain "java/lang/Comparable" (some 0) with
  accessFlags := 1537
  interfaces := #[]
  cf := some (fileOf pool3 1 #[] #[] 1537 3 #[] #[])
  fields := #[]
  methods := #[]
  instanceTypes := #[]
  staticTypes := #[]
  resolved := Array.replicate 12 none
  statics := none }

def pool4 : Array CpInfo := pool [(1, .class_ 2), (0, u "java/io/Serializable"), (0, .class_ 4), (0, u "java/lang/Object")] 2

/-- java/io/Serializable -/
def k4 : Class := { plain "java/io/Serializable" (some 0) with
  accessFlags := 1537
  interfaces := #[]
  cf := some (fileOf pool4 1 #[] #[] 1537 3 #[] #[])
  fields := #[]
  methods := #[]
  instanceTypes := #[]
  staticTypes := #[]
  resolved := Array.replicate 7 none
  statics := none }

def pool5 : Array CpInfo := pool [(2, .class_ 4), (1, u "java/lang/Enum"), (0, u "name"), (0, u "Ljava/lang/String;"), (2, u "ordinal"), (0, u "I"), (1, .class_ 14), (1, u "java/lang/Object"), (4, u "hash"), (86, .class_ 108), (1, u "java/lang/Enum$EnumDesc"), (2, .class_ 112), (0, u "java/lang/constant/Constable"), (0, .class_ 114), (0, u "java/lang/Comparable"), (0, .class_ 116), (0, u "java/io/Serializable")] 87

/-- java/lang/Enum -/
def k5 : Class := { plain "java/lang/Enum" (some 0) with
  accessFlags := 1057
  interfaces := #[2, 3, 4]
  cf := some (fileOf pool5 2 #[.nestMembers #[106]] #[] 1057 12 #[111, 113, 115] #[{ accessFlags := 18, nameIndex := 5, descriptorIndex := 6, attributes := #[] }, { accessFlags := 18, nameIndex := 9, descriptorIndex := 10, attributes := #[] }, { accessFlags := 2, nameIndex := 19, descriptorIndex := 10, attributes := #[] }])
  fields := #[{ name := "name", type := (.object "java/lang/String"), accessFlags := 18, slot := 0, constantValue := 0 }, { name := "ordinal", type := .int, accessFlags := 18, slot := 1, constantValue := 0 }, { name := "hash", type := .int, accessFlags := 2, slot := 2, constantValue := 0 }]
  methods := #[]
  instanceTypes := #[(.object "java/lang/String"), .int, .int]
  staticTypes := #[]
  resolved := Array.replicate 204 none
  statics := none }

def pool6 : Array CpInfo := pool [(1, .class_ 2), (0, u "com/example/triplewright/triplewright/model/TermType"), (0, .fieldref 1 4), (0, .nameAndType 5 6), (0, u "IRI"), (0, u "Lcom/example/triplewright/triplewright/model/TermType;"), (0, .fieldref 1 8), (0, .nameAndType 9 6), (0, u "URI"), (0, .fieldref 1 11), (0, .nameAndType 12 6), (0, u "UNSAFE_IRI"), (2, u "BLANK_NODE"), (2, u "LITERAL"), (2, u "$VALUES"), (0, u "[Lcom/example/triplewright/triplewright/model/TermType;"), (6, .class_ 31), (1, u "java/lang/Enum"), (23, u "kind"), (0, u "()Lcom/example/triplewright/triplewright/model/TermType;")] 5

def k6c0 : Code := { maxStack := 2, maxLocals := 1, code := prog_44_method_4_code, exceptionTable := #[], attributes := #[] }
def k6m0 : Method := { name := "kind", desc := "()Lcom/example/triplewright/triplewright/model/TermType;", sig := { parameters := [], returnType := some (.object "com/example/triplewright/triplewright/model/TermType") }, accessFlags := 1, code := some k6c0 }
/-- com/example/triplewright/triplewright/model/TermType -/
def k6 : Class := { plain "com/example/triplewright/triplewright/model/TermType" (some 5) with
  accessFlags := 16433
  interfaces := #[]
  cf := some (fileOf pool6 1 #[] #[{ accessFlags := 1, nameIndex := 55, descriptorIndex := 56, attributes := #[] }] 16433 29 #[] #[{ accessFlags := 16409, nameIndex := 5, descriptorIndex := 6, attributes := #[] }, { accessFlags := 16409, nameIndex := 9, descriptorIndex := 6, attributes := #[] }, { accessFlags := 16409, nameIndex := 12, descriptorIndex := 6, attributes := #[] }, { accessFlags := 16409, nameIndex := 15, descriptorIndex := 6, attributes := #[] }, { accessFlags := 16409, nameIndex := 18, descriptorIndex := 6, attributes := #[] }, { accessFlags := 4122, nameIndex := 21, descriptorIndex := 22, attributes := #[] }])
  fields := #[{ name := "IRI", type := (.object "com/example/triplewright/triplewright/model/TermType"), accessFlags := 16409, slot := 0, constantValue := 0 }, { name := "URI", type := (.object "com/example/triplewright/triplewright/model/TermType"), accessFlags := 16409, slot := 1, constantValue := 0 }, { name := "UNSAFE_IRI", type := (.object "com/example/triplewright/triplewright/model/TermType"), accessFlags := 16409, slot := 2, constantValue := 0 }, { name := "BLANK_NODE", type := (.object "com/example/triplewright/triplewright/model/TermType"), accessFlags := 16409, slot := 3, constantValue := 0 }, { name := "LITERAL", type := (.object "com/example/triplewright/triplewright/model/TermType"), accessFlags := 16409, slot := 4, constantValue := 0 }, { name := "$VALUES", type := (.array (.object "com/example/triplewright/triplewright/model/TermType")), accessFlags := 4122, slot := 5, constantValue := 0 }]
  methods := #[k6m0]
  instanceTypes := #[(.object "java/lang/String"), .int, .int]
  staticTypes := #[(.object "com/example/triplewright/triplewright/model/TermType"), (.object "com/example/triplewright/triplewright/model/TermType"), (.object "com/example/triplewright/triplewright/model/TermType"), (.object "com/example/triplewright/triplewright/model/TermType"), (.object "com/example/triplewright/triplewright/model/TermType"), (.array (.object "com/example/triplewright/triplewright/model/TermType"))]
  resolved := Array.replicate 62 none
  statics := some 0 }

def pool7 : Array CpInfo := pool [(1, u "java/lang/Cloneable"), (0, .class_ 1), (0, u "java/lang/Object"), (0, .class_ 3)] 3

/-- java/lang/Cloneable -/
def k7 : Class := { plain "java/lang/Cloneable" (some 0) with
  accessFlags := 1537
  interfaces := #[]
  cf := some (fileOf pool7 2 #[] #[] 1537 4 #[] #[])
  fields := #[]
  methods := #[]
  instanceTypes := #[]
  staticTypes := #[]
  resolved := Array.replicate 8 none
  statics := none }

/-- the primitive byte -/
def k8 : Class := { plain "byte" none with kind := .primitive 'B', accessFlags := 0x411 }
/-- [B -/
def k9 : Class := { plain "[B" (some 0) with kind := .array 8 .byte, interfaces := #[7, 4], accessFlags := 1041 }

/-- the primitive int -/
def k10 : Class := { plain "int" none with kind := .primitive 'I', accessFlags := 0x411 }
/-- [I -/
def k11 : Class := { plain "[I" (some 0) with kind := .array 10 .int, interfaces := #[7, 4], accessFlags := 1041 }

def heap : Heap := #[{ cls := 6, slots := #[.ref 1, .ref 2, .ref 3, .ref 4, .ref 5, .null], vm := .statics 6 },
  { cls := 6, slots := #[.null, .int 0, .int 0], vm := .none },
  { cls := 6, slots := #[.null, .int 1, .int 0], vm := .none },
  { cls := 6, slots := #[.null, .int 2, .int 0], vm := .none },
  { cls := 6, slots := #[.null, .int 3, .int 0], vm := .none },
  { cls := 6, slots := #[.null, .int 4, .int 0], vm := .none }]
def classes : Array Class := #[k0, k1, k2, k3, k4, k5, k6, k7, k8, k9, k10, k11]
def interned : List (Array UInt16 × Addr) := []
def slotsUsed : Nat := 21
def theMethod : MethodId := ⟨1, 1⟩
def args0 : Array Value := #[.int 5]
def aboutOver (below : List Frame) : State where
  vm := { classes := classes, interned := interned.toArray }
  heap := heap
  slotsUsed := slotsUsed
  threads := #[{ frames := .invoking theMethod args0 :: below }]
def below0 : List Frame := [.native { method := ⟨0, 0⟩, args := #[] }]
def about1 : State := aboutOver below0
def p0 : Program := .bare "" "" ""
def e0 : Env := launch0.env 0 0 0
theorem w_frames : about1.frames = Frame.invoking theMethod args0 :: below0 := rfl
set_option maxRecDepth 65536 in
theorem w_args : argsFit about1.vm theMethod args0 = true := by decide +kernel
set_option maxRecDepth 65536 in
theorem w_heap : heapFits about1 = true := by decide +kernel
set_option maxRecDepth 65536 in
theorem w_runnable : about1.curStatus? = some .runnable := by decide +kernel
set_option maxRecDepth 65536 in
theorem w_alone : about1.alone = true := by decide +kernel
set_option maxRecDepth 65536 in
theorem w_named : about1.methodNamed? x = some theMethod := by decide +kernel
set_option maxRecDepth 65536 in
theorem w_hears : about1.hears theMethod below0 = true := by decide +kernel
set_option maxRecDepth 65536 in
theorem w_ripe : about1.ripe theMethod args0 below0 = true := by decide +kernel
theorem w_running : about1.status = .running := rfl
set_option maxRecDepth 65536 in
theorem w_room : about1.hasRoom e0.platform room_1 = true :=
  launch0.hasRoom_least _ room_1 (by decide +kernel) (by decide +kernel) (by decide +kernel) (by decide +kernel) (by decide +kernel) (by decide +kernel)
theorem allAtoms_all (ts : List Jvm.Cond) (a : Array Jvm.Value) (st : Jvm.State) : (allAtoms ts).before a st = ts.all (fun c => c.before a st) := by
  induction ts with
  | nil => rfl
  | cons c t ih =>
    show (Jvm.Cond.and c (allAtoms t)).before a st = _
    rw [Jvm.Cond.before_and, ih, List.all_cons]
def words1 : List Jvm.Cond := Jvm.Cond.code x code maxLocals ret :: tables_1
/-- a 'code' word, met by the world's own term for the bytes: nothing is compared byte by byte -/
theorem code_word {y : MethodName} {bytes : ByteArray} {mx : Nat} {rt : Option FieldType} {a : Array Value} {s : State} {m : MethodId} {meth : Method} {c : Code} (h1 : s.methodNamed? y = some m) (h2 : s.vm.method? m = some meth) (h3 : meth.code = some c) (h4 : c.code = bytes)
    (h5 : (c.maxLocals == mx && c.exceptionTable.isEmpty && decide (c.maxStack ≤ mostOperands) && decide (meth.sig.returnType = rt) && !meth.locks && decide (parseMethodDescriptor y.desc = some meth.sig)) = true) : (Jvm.Cond.code y bytes mx rt).before a s = true := by
  simp only [Bool.and_eq_true, beq_iff_eq, Bool.not_eq_true', decide_eq_true_eq] at h5
  obtain ⟨⟨⟨⟨⟨g1, g2⟩, g3⟩, g4⟩, g5⟩, g6⟩ := h5
  simp [Cond.before, Cond.holds, Cond.value, h1, h2, h3, h4, g1, g2, g3, g4, g5, g6]
def isCode : Jvm.Cond → Bool
  | .code _ _ _ _ => true
  | _ => false
theorem all_split {L : List Jvm.Cond} {P : Jvm.Cond → Bool} (h1 : L.all (fun c => isCode c || P c) = true) (h2 : ∀ c ∈ L.filter isCode, P c = true) : L.all P = true := by
  refine List.all_eq_true.mpr fun c hc => ?_
  have h := List.all_eq_true.mp h1 c hc
  rcases Bool.eq_false_or_eq_true (isCode c) with hi | hi
  · exact h2 c (List.mem_filter.mpr ⟨hc, hi⟩)
  · simpa [hi] using h
set_option maxRecDepth 65536 in
theorem w_c0 : (Jvm.Cond.code x code maxLocals ret).before args0 about1 = true := code_word (m := ⟨1, 1⟩) (meth := k1m1) (c := k1c1) (by decide +kernel) rfl rfl rfl (by decide +kernel)
set_option maxRecDepth 65536 in
theorem w_c1 : (Jvm.Cond.code ({ cls := "com/example/triplewright/triplewright/model/TermType", name := "kind", desc := "()Lcom/example/triplewright/triplewright/model/TermType;" } : Jvm.MethodName) prog_44_method_4_code (1 : Nat) (Option.some (Jvm.ClassFile.FieldType.object "com/example/triplewright/triplewright/model/TermType"))).before args0 about1 = true := code_word (m := ⟨6, 0⟩) (meth := k6m0) (c := k6c0) (by decide +kernel) rfl rfl rfl (by decide +kernel)
def codes1 : List Jvm.Cond := [Jvm.Cond.code x code maxLocals ret, Jvm.Cond.code ({ cls := "com/example/triplewright/triplewright/model/TermType", name := "kind", desc := "()Lcom/example/triplewright/triplewright/model/TermType;" } : Jvm.MethodName) prog_44_method_4_code (1 : Nat) (Option.some (Jvm.ClassFile.FieldType.object "com/example/triplewright/triplewright/model/TermType"))]
set_option maxRecDepth 65536 in
theorem codes_eq : words1.filter isCode = codes1 := rfl
theorem w_codes : ∀ c ∈ words1.filter isCode, c.before args0 about1 = true := by
  rw [codes_eq]
  intro c hc
  simp only [codes1, List.mem_cons, List.not_mem_nil, or_false] at hc
  rcases hc with rfl | rfl
  · exact w_c0
  · exact w_c1
set_option maxRecDepth 65536 in
theorem w_t1 : words1.all (fun c => isCode c || c.before args0 about1) = true := by decide +kernel
theorem w_tables : (allAtoms (Jvm.Cond.code x code maxLocals ret :: tables_1)).before args0 about1 = true := by
  rw [allAtoms_all]
  show words1.all (fun c => c.before args0 about1) = true
  refine all_split ?_ w_codes
  rw [w_t1]
set_option maxRecDepth 65536 in
theorem w_case : (Jvm.Cond.and given_1 narrow_1).before args0 about1 = true := by decide +kernel
theorem w_applies : (headSpec (Jvm.Cond.code x code maxLocals ret :: tables_1) room_1).applies x e0.platform about1 = true :=
  (Spec.applies_iff w_frames).mpr ⟨w_running, w_runnable, w_alone, w_named, w_hears, w_ripe, w_room, w_tables⟩
theorem atStart : AtStart classFile x code maxLocals ret World_1 tables_1 room_1 Calls_1 rest_1 Pre_1 launch0 p0 e0 about1 theMethod args0 below0 :=
  ⟨lists_1, trivial, launch0.admits_env _ _ _, launch0.least_env, fairChoices_fair.cas, fairChoices_fair.clock, w_frames, w_args, w_heap, w_applies, trivial, trivial, w_case⟩
end start1
theorem witness_1 : WitnessClaimed_1 := ⟨start1.p0, start1.e0, start1.about1, start1.theMethod, start1.args0, start1.below0, start1.atStart⟩
end Jvm.Pilot.@@N@@
