import JvmDerived
import JvmDerived.Pilot.@@N@@Statement
import JvmDerived.Pilot.@@N@@Code
set_option linter.unusedVariables false
set_option linter.unusedSimpArgs false
namespace Jvm.RoadKit
open Sem ClassFile Op Lib Jvm.Stand Jvm.Free Jvm.LawKit
section New
variable {p : Program} {l : Launch} {e : Env} {R : Room} {s : State} {m : MethodId} {args : Array Value} {below : List Frame} {meth : Method} {c : Code} {T : State} {locs : List Loc} {cells slots : Nat}
theorem retI (X : Stand p l e R s m args below meth c T locs cells slots) (hx : p.tables.exec = Jvm.exec) {pc : Nat} {Ls : Array Slot} {z : Int32} {rest : List Value} (hret : meth.sig.returnType = some .int) (hd : decode c.code pc = .ok (.ireturn, 1)) {fs : List Frame}
    (hl : ∀ (f : JFrame) (acts : List Action), f.method = m → f.locked = none → f.entered = [] → (doReturn e (T.setTop f) acts (some (.int z))).1 = T.setFrames fs) : Steps p.tables e below (T.setTop (mkF m pc Ls (.int z :: rest))) (T.setFrames fs) := by
  have hm' : T.vm.method? m = some meth := X.method'
  have hn : narrow .int (.int z) = .int z := rfl
  show Steps p.tables e below (T.setTop { method := m, pc := pc, locals := Ls, stack := _ :: rest, locked := none }) _
  jvm_step X.here [X.here.top, hx, hd, hm', hret, hn]
  first | (intro acts; rw [hl _ acts rfl rfl rfl]) | rw [hl _ _ rfl rfl rfl]
  exact Steps.refl _
end New
end Jvm.RoadKit
namespace Jvm.RoadKit
open Sem ClassFile Op Lib Jvm.Stand Jvm.Free Jvm.LawKit
theorem own_lsw {tb : Tables} [Ours tb] {e : Env} {below : List Frame} {T target : State} {m : MethodId} {c : Code} {g : JFrame} (h : At T m c below) (hx : tb.exec = Jvm.exec) (hg : g.method = m) {dflt : Int} {pairs : Array (Int × Int)} {len : Nat} {pc0 pc' : Nat} (hpc : g.pc = pc0) (hd : decode c.code g.pc = .ok (.lookupswitch dflt pairs, len)) {i : Int32} {rest : List Value} (hs : g.stack = .int i :: rest) {o : Int}
    (hoff : lookupswitch.offset pairs.toList dflt i.toInt = o) (hso : (pairs.toList.zip (pairs.toList.drop 1)).all (fun (a, next) => a.1 < next.1) = true) (ho : 0 ≤ (pc0 : Int) + o) (hp : ((pc0 : Int) + o).toNat = pc')
    (hr : Steps tb e below (T.setTop { g with pc := pc', stack := rest }) target) : Steps tb e below (T.setTop g) target := by
  subst hg hpc hp
  jvm_step h [h.top, hx, hd, hs, hoff, ho, lookupswitch.wp_chain]
  exact ⟨by simpa using hso, hr⟩
theorem own_off_no {k d : Int} : ∀ {L : List (Int × Int)}, (∀ q ∈ L, ¬ q.1 = k) → lookupswitch.offset L d k = d
  | [], _ => rfl
  | (a, o) :: r, h => by rw [lookupswitch.offset_cons, if_neg (h (a, o) (List.mem_cons_self ..))]; exact own_off_no fun q hq => h q (List.mem_cons_of_mem _ hq)
theorem own_ne_lit {x k : Int32} (h : ¬ x = k) {z : Int} (hz : k.toInt = z) : ¬ z = x.toInt := fun q => h (Int32.toInt_inj.mp (by rw [← q, hz]))
def own_rem (x y : Int32) : Int32 := x - (x / y) * y
def bi (P : Prop) [Decidable P] : Int32 := if P then 1 else 0
theorem bi_t {P : Prop} [Decidable P] (h : P) : bi P = 1 := if_pos h
theorem bi_f {P : Prop} [Decidable P] (h : ¬ P) : bi P = 0 := if_neg h
theorem bi_nar {P : Prop} [Decidable P] : nar .boolean (bi P) = bi P := by unfold bi; split <;> rfl
theorem bi_0 {P : Prop} [Decidable P] : (bi P = 0) ↔ ¬ P := by unfold bi; split <;> simp_all
theorem bi_inj {P Q : Prop} [Decidable P] [Decidable Q] (h : P ↔ Q) : bi P = bi Q := by unfold bi; simp only [h]
end Jvm.RoadKit
namespace Jvm.RoadKit
open Sem ClassFile Op Lib Jvm.Stand Jvm.Free Jvm.LawKit
section OwnWords
variable {args : Array Value} {s : State} {idx : List Nat} {t i : Term} {aT : Addr} {cl : Cell} {b k A B z : Int32}
theorem own_or {G Y : Cond} (h : (Cond.or G Y).value args s none s idx = some true) (hg : G.value args s none s idx = some false) : Y.value args s none s idx = some true := by
  simpa only [Cond.value, hg] using h
theorem own_el (h : (Cond.eq (.elem t i) (.int b)).value args s none s idx = some true) (ht : t.eval args s none idx s = some (.ref aT)) (hi : i.eval args s none idx s = some (.int k)) (hc : s.heap[aT]? = some cl) : atv cl k = b := by
  obtain ⟨x, y, e1, e2, -, -⟩ := cmp_v (Or.inl h)
  obtain ⟨-, e3⟩ := elem_in e1 ht hi hc
  have e4 : (Term.int b).eval args s none idx s = some (.int b) := rfl
  cases e4.symm.trans e2
  have e5 : x = .int b := by cases x <;> simp [Cond.value, e1, e4] at h; rw [h]
  subst e5
  exact atv_of e3
theorem own_r1 (h : (Cond.all t (.or (.le (.int A) (.index 0)) (.eq (.elem t (.index 0)) (.int b)))).value args s none s [] = some true) (ht : ∀ idx, t.eval args s none idx s = some (.ref aT)) (hc : s.heap[aT]? = some cl) (ha : s.arrayAt? aT = some cl) {n : Nat} (hn : n < cl.slots.size) (h1 : ¬ A ≤ n.toInt32) : atv cl n.toInt32 = b := by
  have q := Cond.all_elim (ht []) ha h n hn
  exact own_el (own_or q (by simp [Cond.value, Term.eval, h1])) (ht _) (by simp [Term.eval]) hc
theorem own_r2 (h : (Cond.all t (.or (.lt (.index 0) (.int A)) (.or (.le (.int B) (.index 0)) (.eq (.elem t (.index 0)) (.int b))))).value args s none s [] = some true) (ht : ∀ idx, t.eval args s none idx s = some (.ref aT)) (hc : s.heap[aT]? = some cl) (ha : s.arrayAt? aT = some cl) {n : Nat} (hn : n < cl.slots.size) (h1 : ¬ n.toInt32 < A) (h2 : ¬ B ≤ n.toInt32) : atv cl n.toInt32 = b := by
  have q := Cond.all_elim (ht []) ha h n hn
  exact own_el (own_or (own_or q (by simp [Cond.value, Term.eval, h1])) (by simp [Cond.value, Term.eval, h2])) (ht _) (by simp [Term.eval]) hc
theorem own_len (h : (Cond.eq (.length t) (.int z)).value args s none s idx = some true) (ht : t.eval args s none idx s = some (.ref aT)) (ha : s.arrayAt? aT = some cl) : cl.slots.size < 2 ^ 31 ∧ cl.slots.size.toInt32 = z := by
  by_cases q : cl.slots.size < 2 ^ 31
  · simp [Cond.value, Term.eval, ht, ha, q] at h; exact ⟨q, h⟩
  · simp [Cond.value, Term.eval, ht, ha, q] at h
theorem own_sta_idx {C n d : String} {v : Value} (h : (Term.static C n d).eval args s none [] s = some v) (idx : List Nat) : (Term.static C n d).eval args s none idx s = some v := by
  simp only [Term.eval] at h ⊢; exact h
end OwnWords
theorem own_toInt_ofNat {n : Nat} (h : n < 2147483648) : (Int32.ofNat n).toInt = n := Int32.toInt_ofNat_small h
theorem own_of_rng {c : Int32} (h0 : ¬ c < 0) : c = Int32.ofNat c.toInt.toNat := by
  have h0' : 0 ≤ c.toInt := by rw [Int32.lt_iff_toInt_lt] at h0; have : (0 : Int32).toInt = 0 := rfl; omega
  have := c.toInt_lt
  apply Int32.toInt_inj.mp
  rw [own_toInt_ofNat (by omega)]; omega
end Jvm.RoadKit
namespace Jvm.RoadKit
open Sem ClassFile Op Lib Jvm.Stand Jvm.Free Jvm.LawKit
theorem own_ord {args : Array Value} {s : State} {t : Term} {a : Addr} {k : Int32} {C n d : String} (h : (Cond.eq (.field t C n d) (.int k)).value args s none s [] = some true) (ht : t.eval args s none [] s = some (.ref a)) : s.fieldOf? a C n d = some (.int k) := by
  obtain ⟨x, y, e1, e2, -, -⟩ := cmp_v (Or.inl h)
  have e4 : (Term.int k).eval args s none [] s = some (.int k) := rfl
  have e5 : x = .int k := by cases x <;> simp [Cond.value, e1, e4] at h; rw [h]
  rw [fld_at ht] at e1
  rw [e1, e5]
theorem own_ord_ne {o : Addr → Option Value} {a b : Addr} {j k : Int32} (h1 : o a = some (.int j)) (h2 : o b = some (.int k)) (hjk : ¬ j = k) : ¬ a = b := fun e => by
  subst e; exact hjk (Value.int.inj (Option.some.inj (h1.symm.trans h2)))
theorem own_and7 (x : Int32) : (x &&& 7).toInt = 0 ∨ (x &&& 7).toInt = 1 ∨ (x &&& 7).toInt = 2 ∨ (x &&& 7).toInt = 3 ∨ (x &&& 7).toInt = 4 ∨ (x &&& 7).toInt = 5 ∨ (x &&& 7).toInt = 6 ∨ (x &&& 7).toInt = 7 := by
  have h := c_mask x 7 3 (by decide) (by decide)
  have : ((2 ^ 3 : Nat) : Int) = 8 := rfl
  omega
theorem own_i32 {x k : Int32} {z : Int} (h : x.toInt = z) (hk : k.toInt = z) : x = k := Int32.toInt_inj.mp (h.trans hk.symm)
end Jvm.RoadKit
namespace Jvm.Pilot.@@N@@
open Jvm Jvm.ClassFile Sem Op Lib Jvm.Free Jvm.Stand Jvm.LawKit Jvm.RoadKit Bundle Jvm.Pilot.@@N@@.Jvm.D
abbrev own_c (x : Int32) : Int32 := x.toUInt32.toUInt16.toUInt32.toInt32
abbrev own_P1 (c : Int32) : Prop := ¬ (32 : Int32) < c ∨ c = 34 ∨ c = 60 ∨ c = 62 ∨ c = 92 ∨ c = 94 ∨ c = 96 ∨ c = 123 ∨ c = 124 ∨ c = 125
abbrev own_b1 (c : Int32) : Prop := ¬ (lcmpW ((((5764607548804038655 : Int64).toUInt64 >>> (c &&& 0x3f).toInt64.toUInt64).toInt64) &&& (1 : Int64)) (0 : Int64)) = (0 : Int32)
abbrev own_b2 (c : Int32) : Prop := ¬ (lcmpW ((((4035225271761108992 : Int64).toUInt64 >>> ((c - (64 : Int32)) &&& 0x3f).toInt64.toUInt64).toInt64) &&& (1 : Int64)) (0 : Int64)) = (0 : Int32)
def own_P2 (c : Int32) : Int32 := if c < (64 : Int32) then bi (own_b1 c) else if c < (128 : Int32) then bi (own_b2 c) else 0
theorem own_all : ∀ n : Fin 128, bi (own_P1 (Int32.ofNat n.val)) = own_P2 (Int32.ofNat n.val) := by decide +kernel
theorem own_c_rng (x : Int32) : 0 ≤ (own_c x).toInt := (c_i2c x).2.1
theorem own_eq {c : Int32} (h0 : 0 ≤ c.toInt) : bi (own_P1 c) = own_P2 c := by
  by_cases h : c < 128
  · have hc : c = Int32.ofNat c.toInt.toNat := by
      apply Int32.toInt_inj.mp
      rw [Int32.toInt_ofNat_of_lt (by rw [Int32.lt_iff_toInt_lt] at h; have : (128 : Int32).toInt = 128 := rfl; omega)]; omega
    have hn : c.toInt.toNat < 128 := by rw [Int32.lt_iff_toInt_lt] at h; have : (128 : Int32).toInt = 128 := rfl; omega
    have := own_all ⟨c.toInt.toNat, hn⟩
    rw [hc]; exact this
  · have h64 : ¬ c < 64 := fun q => h (by rw [Int32.lt_iff_toInt_lt] at q ⊢; have : (128 : Int32).toInt = 128 := rfl; have : (64 : Int32).toInt = 64 := rfl; omega)
    have e2 : own_P2 c = 0 := by unfold own_P2; rw [if_neg h64, if_neg h]
    rw [e2]
    refine bi_f ?_
    have g : ∀ k : Int32, k < 128 → ¬ c = k := fun k hk q => h (q ▸ hk)
    have h32 : (32 : Int32) < c := by rw [Int32.lt_iff_toInt_lt] at h ⊢; have : (128 : Int32).toInt = 128 := rfl; have : (32 : Int32).toInt = 32 := rfl; omega
    have := g 34 (by decide); have := g 60 (by decide); have := g 62 (by decide); have := g 92 (by decide); have := g 94 (by decide); have := g 96 (by decide); have := g 123 (by decide); have := g 124 (by decide); have := g 125 (by decide)
    simp_all
def QC (Z : State) (p1 : Int32) (h0 : Heap) (n0 : Nat) (v : Option Value) (h : Heap) (L : List Loc) : Prop := v = some (.int (bi (own_P1 p1))) ∧ Fr n0 L ∧ h = h0
theorem ef_C (m : MethodId) (x0 : Int32) : entryFrame m #[(.int x0)] 1 = mkF m 0 #[.val (.int x0)] [] := by first | (simp [entryFrame, mkF, argsToLocals, Value.category]; done) | rfl
theorem pn_Iri : plainName "com/example/triplewright/triplewright/rdf/Iri" = true := by first | (simp [plainName, overriddenIn]; done) | decide +kernel
theorem d_prog_47_method_8_0 : decode prog_47_method_8_code 0 = .ok (.iload_n 0, 1) := by decide +kernel
theorem d_prog_47_method_8_1 : decode prog_47_method_8_code 1 = .ok (.bipush 32, 2) := by decide +kernel
theorem d_prog_47_method_8_3 : decode prog_47_method_8_code 3 = .ok (.if_icmp .le 91, 3) := by decide +kernel
theorem d_prog_47_method_8_6 : decode prog_47_method_8_code 6 = .ok (.iload_n 0, 1) := by decide +kernel
theorem d_prog_47_method_8_7 : decode prog_47_method_8_code 7 = .ok (.lookupswitch 84 #[(34, 81), (60, 81), (62, 81), (92, 81), (94, 81), (96, 81), (123, 81), (124, 81), (125, 81)], 81) := by decide +kernel
theorem d_prog_47_method_8_88 : decode prog_47_method_8_code 88 = .ok (.goto 6, 3) := by decide +kernel
theorem d_prog_47_method_8_94 : decode prog_47_method_8_code 94 = .ok (.iconst 1, 1) := by decide +kernel
theorem d_prog_47_method_8_95 : decode prog_47_method_8_code 95 = .ok (.goto 4, 3) := by decide +kernel
theorem d_prog_47_method_8_91 : decode prog_47_method_8_code 91 = .ok (.goto 7, 3) := by decide +kernel
theorem d_prog_47_method_8_98 : decode prog_47_method_8_code 98 = .ok (.iconst 0, 1) := by decide +kernel
theorem d_prog_47_method_8_99 : decode prog_47_method_8_code 99 = .ok (.ireturn, 1) := by decide +kernel
set_option maxRecDepth 65536 in
set_option maxHeartbeats 40000000 in
theorem rmC (l : Launch) (Z : State) (a0 : Array Value) (hw : ∀ d ∈ tables_1, d.before a0 Z = true) (ws : List Jvm.Cond) (p1 : Int32) (h0 : Heap) (n0 : Nat) (Z0 : n0 ≤ h0.size) :
    MetFree l (⟨"com/example/triplewright/triplewright/rdf/Iri", "cannotHold", "(C)Z"⟩ : MethodName) (head1 (Jvm.Cond.code (⟨"com/example/triplewright/triplewright/rdf/Iri", "cannotHold", "(C)Z"⟩ : MethodName) prog_47_method_8_code 1 (some .boolean) :: ws) ({ frames := 0, cells := 0, slots := 0, locals := 0 } : Room)) (fun a U => a = #[(.int p1)] ∧ Z.Warmed39 U.vm ∧ U.heap = h0) (fun _ _ _ _ _ => True) (fun _ U o U' => ∃ v L, o = .returned v ∧ QC Z p1 h0 n0 v U'.heap L ∧ FrameEnd U o U' L ({ frames := 0, cells := 0, slots := 0, locals := 0 } : Room).cells ({ frames := 0, cells := 0, slots := 0, locals := 0 } : Room).slots) := by
  refine MetFree.of_bodySF (plainFor_of_name pn_Iri) hisR ?_
  intro p e s m args below meth c s₁ Bd hml0 hP hK
  obtain ⟨rfl, hZ, hh⟩ := hP
  have hx := Bd.exec
  have hby := Bd.bytes
  have hml : c.maxLocals = 1 := hml0
  have hown : s.vm.findClass "com/example/triplewright/triplewright/rdf/Iri" = some m.cls := findClass_of_methodNamed Bd.named
  have hnm := (name_of_methodNamed Bd.named Bd.method).1
  have X0 : Stand p l e ({ frames := 0, cells := 0, slots := 0, locals := 0 } : Room) s m #[(.int p1)] below meth c s₁ [] 0 0 := Stand.of_body Bd
  have e0 : s₁.heap = h0 := by rw [← hh, Bd.state]; rfl
  have N0 := Fr.nil n0
  have Zn := Z0
  have pre0 : ∀ t, Steps p.tables e below (s₁.setTop (mkF m 0 #[.val (.int p1)] [])) t → Steps p.tables e below (s₁.setTop (entryFrame m #[(.int p1)] 1)) t := fun t q => castTop (ef_C m p1) q
  have k0 : ∀ t, Steps p.tables e below (s₁.setTop (mkF m 0 #[.val (.int p1)] [])) t → Steps p.tables e below (s₁.setTop (mkF m 0 #[.val (.int p1)] [])) t := fun t q => q
  have k1_ : ∀ t, Steps p.tables e below (s₁.setTop (mkF m 99 #[.val (.int p1)] [(.int (bi (own_P1 p1)))])) t → Steps p.tables e below (s₁.setTop (mkF m 0 #[.val (.int p1)] [])) t := by
    intro t q
    refine k0 _ ?_
    show Steps p.tables e below (s₁.setTop (mkF m 0 #[.val (.int p1)] [])) _
    refine XS.iloadN X0.here hx rfl (hb hby d_prog_47_method_8_0) rfl ?_
    show Steps p.tables e below (s₁.setTop (mkF m 1 #[.val (.int p1)] [(.int p1)])) _
    refine XS.bipush X0.here hx rfl (hb hby d_prog_47_method_8_1) ?_
    show Steps p.tables e below (s₁.setTop (mkF m 3 #[.val (.int p1)] [(.int (32 : Int32)), (.int p1)])) _
    by_cases hc3 : (32 : Int32) < p1
    · refine XS.icmpNo X0.here hx rfl (hb hby d_prog_47_method_8_3) rfl (tlt hc3).2.2.2 ?_
      show Steps p.tables e below (s₁.setTop (mkF m 6 #[.val (.int p1)] [])) _
      refine XS.iloadN X0.here hx rfl (hb hby d_prog_47_method_8_6) rfl ?_
      show Steps p.tables e below (s₁.setTop (mkF m 7 #[.val (.int p1)] [(.int p1)])) _
      by_cases hs7_34 : p1 = (34 : Int32)
      · refine own_lsw X0.here hx rfl (pc0 := 7) (pc' := 88) rfl (hb hby d_prog_47_method_8_7) rfl (o := 81) (by rw [hs7_34]; decide) (by decide) (by decide) (by decide) ?_
        show Steps p.tables e below (s₁.setTop (mkF m 88 #[.val (.int p1)] [])) _
        refine XS.goto X0.here hx rfl (pc0 := 88) (pc' := 94) rfl (hb hby d_prog_47_method_8_88) (by decide) (by decide) ?_
        show Steps p.tables e below (s₁.setTop (mkF m 94 #[.val (.int p1)] [])) _
        refine XS.iconst X0.here hx rfl (hb hby d_prog_47_method_8_94) ?_
        show Steps p.tables e below (s₁.setTop (mkF m 95 #[.val (.int p1)] [(.int (1 : Int32))])) _
        refine XS.goto X0.here hx rfl (pc0 := 95) (pc' := 99) rfl (hb hby d_prog_47_method_8_95) (by decide) (by decide) ?_
        show Steps p.tables e below (s₁.setTop (mkF m 99 #[.val (.int p1)] [(.int (1 : Int32))])) _
        have w0 : (bi (own_P1 p1)) = (1 : Int32) := by exact bi_t (by simp [own_P1, hc3, hs7_34])
        replace q := Eq.mp (congrArg (fun z => Steps p.tables e below (s₁.setTop (mkF m 99 #[.val (.int p1)] [(.int z)])) t) w0) q
        exact q
      · by_cases hs7_60 : p1 = (60 : Int32)
        · refine own_lsw X0.here hx rfl (pc0 := 7) (pc' := 88) rfl (hb hby d_prog_47_method_8_7) rfl (o := 81) (by rw [hs7_60]; decide) (by decide) (by decide) (by decide) ?_
          show Steps p.tables e below (s₁.setTop (mkF m 88 #[.val (.int p1)] [])) _
          refine XS.goto X0.here hx rfl (pc0 := 88) (pc' := 94) rfl (hb hby d_prog_47_method_8_88) (by decide) (by decide) ?_
          show Steps p.tables e below (s₁.setTop (mkF m 94 #[.val (.int p1)] [])) _
          refine XS.iconst X0.here hx rfl (hb hby d_prog_47_method_8_94) ?_
          show Steps p.tables e below (s₁.setTop (mkF m 95 #[.val (.int p1)] [(.int (1 : Int32))])) _
          refine XS.goto X0.here hx rfl (pc0 := 95) (pc' := 99) rfl (hb hby d_prog_47_method_8_95) (by decide) (by decide) ?_
          show Steps p.tables e below (s₁.setTop (mkF m 99 #[.val (.int p1)] [(.int (1 : Int32))])) _
          have w0 : (bi (own_P1 p1)) = (1 : Int32) := by exact bi_t (by simp [own_P1, hc3, hs7_34, hs7_60])
          replace q := Eq.mp (congrArg (fun z => Steps p.tables e below (s₁.setTop (mkF m 99 #[.val (.int p1)] [(.int z)])) t) w0) q
          exact q
        · by_cases hs7_62 : p1 = (62 : Int32)
          · refine own_lsw X0.here hx rfl (pc0 := 7) (pc' := 88) rfl (hb hby d_prog_47_method_8_7) rfl (o := 81) (by rw [hs7_62]; decide) (by decide) (by decide) (by decide) ?_
            show Steps p.tables e below (s₁.setTop (mkF m 88 #[.val (.int p1)] [])) _
            refine XS.goto X0.here hx rfl (pc0 := 88) (pc' := 94) rfl (hb hby d_prog_47_method_8_88) (by decide) (by decide) ?_
            show Steps p.tables e below (s₁.setTop (mkF m 94 #[.val (.int p1)] [])) _
            refine XS.iconst X0.here hx rfl (hb hby d_prog_47_method_8_94) ?_
            show Steps p.tables e below (s₁.setTop (mkF m 95 #[.val (.int p1)] [(.int (1 : Int32))])) _
            refine XS.goto X0.here hx rfl (pc0 := 95) (pc' := 99) rfl (hb hby d_prog_47_method_8_95) (by decide) (by decide) ?_
            show Steps p.tables e below (s₁.setTop (mkF m 99 #[.val (.int p1)] [(.int (1 : Int32))])) _
            have w0 : (bi (own_P1 p1)) = (1 : Int32) := by exact bi_t (by simp [own_P1, hc3, hs7_34, hs7_60, hs7_62])
            replace q := Eq.mp (congrArg (fun z => Steps p.tables e below (s₁.setTop (mkF m 99 #[.val (.int p1)] [(.int z)])) t) w0) q
            exact q
          · by_cases hs7_92 : p1 = (92 : Int32)
            · refine own_lsw X0.here hx rfl (pc0 := 7) (pc' := 88) rfl (hb hby d_prog_47_method_8_7) rfl (o := 81) (by rw [hs7_92]; decide) (by decide) (by decide) (by decide) ?_
              show Steps p.tables e below (s₁.setTop (mkF m 88 #[.val (.int p1)] [])) _
              refine XS.goto X0.here hx rfl (pc0 := 88) (pc' := 94) rfl (hb hby d_prog_47_method_8_88) (by decide) (by decide) ?_
              show Steps p.tables e below (s₁.setTop (mkF m 94 #[.val (.int p1)] [])) _
              refine XS.iconst X0.here hx rfl (hb hby d_prog_47_method_8_94) ?_
              show Steps p.tables e below (s₁.setTop (mkF m 95 #[.val (.int p1)] [(.int (1 : Int32))])) _
              refine XS.goto X0.here hx rfl (pc0 := 95) (pc' := 99) rfl (hb hby d_prog_47_method_8_95) (by decide) (by decide) ?_
              show Steps p.tables e below (s₁.setTop (mkF m 99 #[.val (.int p1)] [(.int (1 : Int32))])) _
              have w0 : (bi (own_P1 p1)) = (1 : Int32) := by exact bi_t (by simp [own_P1, hc3, hs7_34, hs7_60, hs7_62, hs7_92])
              replace q := Eq.mp (congrArg (fun z => Steps p.tables e below (s₁.setTop (mkF m 99 #[.val (.int p1)] [(.int z)])) t) w0) q
              exact q
            · by_cases hs7_94 : p1 = (94 : Int32)
              · refine own_lsw X0.here hx rfl (pc0 := 7) (pc' := 88) rfl (hb hby d_prog_47_method_8_7) rfl (o := 81) (by rw [hs7_94]; decide) (by decide) (by decide) (by decide) ?_
                show Steps p.tables e below (s₁.setTop (mkF m 88 #[.val (.int p1)] [])) _
                refine XS.goto X0.here hx rfl (pc0 := 88) (pc' := 94) rfl (hb hby d_prog_47_method_8_88) (by decide) (by decide) ?_
                show Steps p.tables e below (s₁.setTop (mkF m 94 #[.val (.int p1)] [])) _
                refine XS.iconst X0.here hx rfl (hb hby d_prog_47_method_8_94) ?_
                show Steps p.tables e below (s₁.setTop (mkF m 95 #[.val (.int p1)] [(.int (1 : Int32))])) _
                refine XS.goto X0.here hx rfl (pc0 := 95) (pc' := 99) rfl (hb hby d_prog_47_method_8_95) (by decide) (by decide) ?_
                show Steps p.tables e below (s₁.setTop (mkF m 99 #[.val (.int p1)] [(.int (1 : Int32))])) _
                have w0 : (bi (own_P1 p1)) = (1 : Int32) := by exact bi_t (by simp [own_P1, hc3, hs7_34, hs7_60, hs7_62, hs7_92, hs7_94])
                replace q := Eq.mp (congrArg (fun z => Steps p.tables e below (s₁.setTop (mkF m 99 #[.val (.int p1)] [(.int z)])) t) w0) q
                exact q
              · by_cases hs7_96 : p1 = (96 : Int32)
                · refine own_lsw X0.here hx rfl (pc0 := 7) (pc' := 88) rfl (hb hby d_prog_47_method_8_7) rfl (o := 81) (by rw [hs7_96]; decide) (by decide) (by decide) (by decide) ?_
                  show Steps p.tables e below (s₁.setTop (mkF m 88 #[.val (.int p1)] [])) _
                  refine XS.goto X0.here hx rfl (pc0 := 88) (pc' := 94) rfl (hb hby d_prog_47_method_8_88) (by decide) (by decide) ?_
                  show Steps p.tables e below (s₁.setTop (mkF m 94 #[.val (.int p1)] [])) _
                  refine XS.iconst X0.here hx rfl (hb hby d_prog_47_method_8_94) ?_
                  show Steps p.tables e below (s₁.setTop (mkF m 95 #[.val (.int p1)] [(.int (1 : Int32))])) _
                  refine XS.goto X0.here hx rfl (pc0 := 95) (pc' := 99) rfl (hb hby d_prog_47_method_8_95) (by decide) (by decide) ?_
                  show Steps p.tables e below (s₁.setTop (mkF m 99 #[.val (.int p1)] [(.int (1 : Int32))])) _
                  have w0 : (bi (own_P1 p1)) = (1 : Int32) := by exact bi_t (by simp [own_P1, hc3, hs7_34, hs7_60, hs7_62, hs7_92, hs7_94, hs7_96])
                  replace q := Eq.mp (congrArg (fun z => Steps p.tables e below (s₁.setTop (mkF m 99 #[.val (.int p1)] [(.int z)])) t) w0) q
                  exact q
                · by_cases hs7_123 : p1 = (123 : Int32)
                  · refine own_lsw X0.here hx rfl (pc0 := 7) (pc' := 88) rfl (hb hby d_prog_47_method_8_7) rfl (o := 81) (by rw [hs7_123]; decide) (by decide) (by decide) (by decide) ?_
                    show Steps p.tables e below (s₁.setTop (mkF m 88 #[.val (.int p1)] [])) _
                    refine XS.goto X0.here hx rfl (pc0 := 88) (pc' := 94) rfl (hb hby d_prog_47_method_8_88) (by decide) (by decide) ?_
                    show Steps p.tables e below (s₁.setTop (mkF m 94 #[.val (.int p1)] [])) _
                    refine XS.iconst X0.here hx rfl (hb hby d_prog_47_method_8_94) ?_
                    show Steps p.tables e below (s₁.setTop (mkF m 95 #[.val (.int p1)] [(.int (1 : Int32))])) _
                    refine XS.goto X0.here hx rfl (pc0 := 95) (pc' := 99) rfl (hb hby d_prog_47_method_8_95) (by decide) (by decide) ?_
                    show Steps p.tables e below (s₁.setTop (mkF m 99 #[.val (.int p1)] [(.int (1 : Int32))])) _
                    have w0 : (bi (own_P1 p1)) = (1 : Int32) := by exact bi_t (by simp [own_P1, hc3, hs7_34, hs7_60, hs7_62, hs7_92, hs7_94, hs7_96, hs7_123])
                    replace q := Eq.mp (congrArg (fun z => Steps p.tables e below (s₁.setTop (mkF m 99 #[.val (.int p1)] [(.int z)])) t) w0) q
                    exact q
                  · by_cases hs7_124 : p1 = (124 : Int32)
                    · refine own_lsw X0.here hx rfl (pc0 := 7) (pc' := 88) rfl (hb hby d_prog_47_method_8_7) rfl (o := 81) (by rw [hs7_124]; decide) (by decide) (by decide) (by decide) ?_
                      show Steps p.tables e below (s₁.setTop (mkF m 88 #[.val (.int p1)] [])) _
                      refine XS.goto X0.here hx rfl (pc0 := 88) (pc' := 94) rfl (hb hby d_prog_47_method_8_88) (by decide) (by decide) ?_
                      show Steps p.tables e below (s₁.setTop (mkF m 94 #[.val (.int p1)] [])) _
                      refine XS.iconst X0.here hx rfl (hb hby d_prog_47_method_8_94) ?_
                      show Steps p.tables e below (s₁.setTop (mkF m 95 #[.val (.int p1)] [(.int (1 : Int32))])) _
                      refine XS.goto X0.here hx rfl (pc0 := 95) (pc' := 99) rfl (hb hby d_prog_47_method_8_95) (by decide) (by decide) ?_
                      show Steps p.tables e below (s₁.setTop (mkF m 99 #[.val (.int p1)] [(.int (1 : Int32))])) _
                      have w0 : (bi (own_P1 p1)) = (1 : Int32) := by exact bi_t (by simp [own_P1, hc3, hs7_34, hs7_60, hs7_62, hs7_92, hs7_94, hs7_96, hs7_123, hs7_124])
                      replace q := Eq.mp (congrArg (fun z => Steps p.tables e below (s₁.setTop (mkF m 99 #[.val (.int p1)] [(.int z)])) t) w0) q
                      exact q
                    · by_cases hs7_125 : p1 = (125 : Int32)
                      · refine own_lsw X0.here hx rfl (pc0 := 7) (pc' := 88) rfl (hb hby d_prog_47_method_8_7) rfl (o := 81) (by rw [hs7_125]; decide) (by decide) (by decide) (by decide) ?_
                        show Steps p.tables e below (s₁.setTop (mkF m 88 #[.val (.int p1)] [])) _
                        refine XS.goto X0.here hx rfl (pc0 := 88) (pc' := 94) rfl (hb hby d_prog_47_method_8_88) (by decide) (by decide) ?_
                        show Steps p.tables e below (s₁.setTop (mkF m 94 #[.val (.int p1)] [])) _
                        refine XS.iconst X0.here hx rfl (hb hby d_prog_47_method_8_94) ?_
                        show Steps p.tables e below (s₁.setTop (mkF m 95 #[.val (.int p1)] [(.int (1 : Int32))])) _
                        refine XS.goto X0.here hx rfl (pc0 := 95) (pc' := 99) rfl (hb hby d_prog_47_method_8_95) (by decide) (by decide) ?_
                        show Steps p.tables e below (s₁.setTop (mkF m 99 #[.val (.int p1)] [(.int (1 : Int32))])) _
                        have w0 : (bi (own_P1 p1)) = (1 : Int32) := by exact bi_t (by simp [own_P1, hc3, hs7_34, hs7_60, hs7_62, hs7_92, hs7_94, hs7_96, hs7_123, hs7_124, hs7_125])
                        replace q := Eq.mp (congrArg (fun z => Steps p.tables e below (s₁.setTop (mkF m 99 #[.val (.int p1)] [(.int z)])) t) w0) q
                        exact q
                      · refine own_lsw X0.here hx rfl (pc0 := 7) (pc' := 91) rfl (hb hby d_prog_47_method_8_7) rfl (o := 84) (own_off_no (by simp only [List.mem_cons, List.not_mem_nil, or_false, forall_eq_or_imp, forall_eq]; exact ⟨own_ne_lit hs7_34 rfl, own_ne_lit hs7_60 rfl, own_ne_lit hs7_62 rfl, own_ne_lit hs7_92 rfl, own_ne_lit hs7_94 rfl, own_ne_lit hs7_96 rfl, own_ne_lit hs7_123 rfl, own_ne_lit hs7_124 rfl, own_ne_lit hs7_125 rfl⟩)) (by decide) (by decide) (by decide) ?_
                        show Steps p.tables e below (s₁.setTop (mkF m 91 #[.val (.int p1)] [])) _
                        refine XS.goto X0.here hx rfl (pc0 := 91) (pc' := 98) rfl (hb hby d_prog_47_method_8_91) (by decide) (by decide) ?_
                        show Steps p.tables e below (s₁.setTop (mkF m 98 #[.val (.int p1)] [])) _
                        refine XS.iconst X0.here hx rfl (hb hby d_prog_47_method_8_98) ?_
                        show Steps p.tables e below (s₁.setTop (mkF m 99 #[.val (.int p1)] [(.int (0 : Int32))])) _
                        have w0 : (bi (own_P1 p1)) = (0 : Int32) := by exact bi_f (by simp [own_P1, hc3, hs7_34, hs7_60, hs7_62, hs7_92, hs7_94, hs7_96, hs7_123, hs7_124, hs7_125])
                        replace q := Eq.mp (congrArg (fun z => Steps p.tables e below (s₁.setTop (mkF m 99 #[.val (.int p1)] [(.int z)])) t) w0) q
                        exact q
    · refine XS.icmpYes X0.here hx rfl (pc0 := 3) (pc' := 94) rfl (hb hby d_prog_47_method_8_3) rfl (flt hc3).2.2.2 (by decide) (by decide) ?_
      show Steps p.tables e below (s₁.setTop (mkF m 94 #[.val (.int p1)] [])) _
      refine XS.iconst X0.here hx rfl (hb hby d_prog_47_method_8_94) ?_
      show Steps p.tables e below (s₁.setTop (mkF m 95 #[.val (.int p1)] [(.int (1 : Int32))])) _
      refine XS.goto X0.here hx rfl (pc0 := 95) (pc' := 99) rfl (hb hby d_prog_47_method_8_95) (by decide) (by decide) ?_
      show Steps p.tables e below (s₁.setTop (mkF m 99 #[.val (.int p1)] [(.int (1 : Int32))])) _
      have w0 : (bi (own_P1 p1)) = (1 : Int32) := by exact bi_t (by simp [own_P1, hc3])
      replace q := Eq.mp (congrArg (fun z => Steps p.tables e below (s₁.setTop (mkF m 99 #[.val (.int p1)] [(.int z)])) t) w0) q
      exact q
  obtain ⟨fs, hr, hrun, hended, hW, hsame⟩ := X0.leave (v := some (.int (nar .boolean (bi (own_P1 p1))))) (fun h => by rw [Bd.returns] at h; cases h)
  refine ⟨_, _, pre0 _ (k1_ _ ?_), hrun, hended, _, _, rfl, ?_, ⟨_, rfl⟩, hW, hsame.mono (by decide) (by decide)⟩
  · show Steps p.tables e below (s₁.setTop (mkF m 99 #[.val (.int p1)] [(.int (bi (own_P1 p1)))])) _
    exact retN X0 hx (t := .boolean) Bd.returns (by simp) (hb hby d_prog_47_method_8_99) hr
  · show QC Z p1 h0 n0 _ s₁.heap _
    rw [e0]
    exact ⟨by rw [bi_nar], N0, rfl⟩
def QE (Z : State) (p1 : Int32) (h0 : Heap) (n0 : Nat) (v : Option Value) (h : Heap) (L : List Loc) : Prop := v = some (.int (own_P2 p1)) ∧ Fr n0 L ∧ h = h0
theorem ef_E (m : MethodId) (x0 : Int32) : entryFrame m #[(.int x0)] 5 = mkF m 0 #[.val (.int x0), .unset, .unset, .unset, .unset] [] := by first | (simp [entryFrame, mkF, argsToLocals, Value.category]; done) | rfl
theorem pn_IriCannotHoldPinLaw : plainName "com/example/triplewright/triplewright/rdf/IriCannotHoldPinLaw" = true := by first | (simp [plainName, overriddenIn]; done) | decide +kernel
theorem d_method_2_0 : decode method_2_code 0 = .ok (.ldc2_w 7, 3) := by decide +kernel
theorem d_method_2_3 : decode method_2_code 3 = .ok (.lstore_n 1, 1) := by decide +kernel
theorem d_method_2_4 : decode method_2_code 4 = .ok (.ldc2_w 9, 3) := by decide +kernel
theorem d_method_2_7 : decode method_2_code 7 = .ok (.lstore_n 3, 1) := by decide +kernel
theorem d_method_2_8 : decode method_2_code 8 = .ok (.iload_n 0, 1) := by decide +kernel
theorem d_method_2_9 : decode method_2_code 9 = .ok (.bipush 64, 2) := by decide +kernel
theorem d_method_2_11 : decode method_2_code 11 = .ok (.if_icmp .ge 19, 3) := by decide +kernel
theorem d_method_2_14 : decode method_2_code 14 = .ok (.lload_n 1, 1) := by decide +kernel
theorem d_method_2_15 : decode method_2_code 15 = .ok (.iload_n 0, 1) := by decide +kernel
theorem d_method_2_16 : decode method_2_code 16 = .ok (.lushr, 1) := by decide +kernel
theorem d_method_2_17 : decode method_2_code 17 = .ok (.lconst 1, 1) := by decide +kernel
theorem d_method_2_18 : decode method_2_code 18 = .ok (.land, 1) := by decide +kernel
theorem d_method_2_19 : decode method_2_code 19 = .ok (.lconst 0, 1) := by decide +kernel
theorem d_method_2_20 : decode method_2_code 20 = .ok (.lcmp, 1) := by decide +kernel
theorem d_method_2_21 : decode method_2_code 21 = .ok (.ifCond .eq 7, 3) := by decide +kernel
theorem d_method_2_28 : decode method_2_code 28 = .ok (.iconst 0, 1) := by decide +kernel
theorem d_method_2_24 : decode method_2_code 24 = .ok (.iconst 1, 1) := by decide +kernel
theorem d_method_2_25 : decode method_2_code 25 = .ok (.goto 4, 3) := by decide +kernel
theorem d_method_2_29 : decode method_2_code 29 = .ok (.ireturn, 1) := by decide +kernel
theorem d_method_2_30 : decode method_2_code 30 = .ok (.iload_n 0, 1) := by decide +kernel
theorem d_method_2_31 : decode method_2_code 31 = .ok (.sipush 128, 3) := by decide +kernel
theorem d_method_2_34 : decode method_2_code 34 = .ok (.if_icmp .ge 22, 3) := by decide +kernel
theorem d_method_2_37 : decode method_2_code 37 = .ok (.lload_n 3, 1) := by decide +kernel
theorem d_method_2_38 : decode method_2_code 38 = .ok (.iload_n 0, 1) := by decide +kernel
theorem d_method_2_39 : decode method_2_code 39 = .ok (.bipush 64, 2) := by decide +kernel
theorem d_method_2_41 : decode method_2_code 41 = .ok (.isub, 1) := by decide +kernel
theorem d_method_2_42 : decode method_2_code 42 = .ok (.lushr, 1) := by decide +kernel
theorem d_method_2_43 : decode method_2_code 43 = .ok (.lconst 1, 1) := by decide +kernel
theorem d_method_2_44 : decode method_2_code 44 = .ok (.land, 1) := by decide +kernel
theorem d_method_2_45 : decode method_2_code 45 = .ok (.lconst 0, 1) := by decide +kernel
theorem d_method_2_46 : decode method_2_code 46 = .ok (.lcmp, 1) := by decide +kernel
theorem d_method_2_47 : decode method_2_code 47 = .ok (.ifCond .eq 7, 3) := by decide +kernel
theorem d_method_2_54 : decode method_2_code 54 = .ok (.iconst 0, 1) := by decide +kernel
theorem d_method_2_50 : decode method_2_code 50 = .ok (.iconst 1, 1) := by decide +kernel
theorem d_method_2_51 : decode method_2_code 51 = .ok (.goto 4, 3) := by decide +kernel
theorem d_method_2_55 : decode method_2_code 55 = .ok (.ireturn, 1) := by decide +kernel
theorem d_method_2_56 : decode method_2_code 56 = .ok (.iconst 0, 1) := by decide +kernel
theorem d_method_2_57 : decode method_2_code 57 = .ok (.ireturn, 1) := by decide +kernel
set_option maxRecDepth 65536 in
set_option maxHeartbeats 40000000 in
theorem rmE (l : Launch) (Z : State) (a0 : Array Value) (hw : ∀ d ∈ tables_1, d.before a0 Z = true) (ws : List Jvm.Cond) (p1 : Int32) (h0 : Heap) (n0 : Nat) (Z0 : n0 ≤ h0.size) :
    MetFree l (⟨"com/example/triplewright/triplewright/rdf/IriCannotHoldPinLaw", "expected", "(C)Z"⟩ : MethodName) (head1 (Jvm.Cond.code (⟨"com/example/triplewright/triplewright/rdf/IriCannotHoldPinLaw", "expected", "(C)Z"⟩ : MethodName) method_2_code 5 (some .boolean) :: ws) ({ frames := 0, cells := 0, slots := 0, locals := 0 } : Room)) (fun a U => a = #[(.int p1)] ∧ Z.Warmed39 U.vm ∧ U.heap = h0) (fun _ _ _ _ _ => True) (fun _ U o U' => ∃ v L, o = .returned v ∧ QE Z p1 h0 n0 v U'.heap L ∧ FrameEnd U o U' L ({ frames := 0, cells := 0, slots := 0, locals := 0 } : Room).cells ({ frames := 0, cells := 0, slots := 0, locals := 0 } : Room).slots) := by
  refine MetFree.of_bodySF (plainFor_of_name pn_IriCannotHoldPinLaw) hisR ?_
  intro p e s m args below meth c s₁ Bd hml0 hP hK
  obtain ⟨rfl, hZ, hh⟩ := hP
  have hx := Bd.exec
  have hby := Bd.bytes
  have hml : c.maxLocals = 5 := hml0
  have hown : s.vm.findClass "com/example/triplewright/triplewright/rdf/IriCannotHoldPinLaw" = some m.cls := findClass_of_methodNamed Bd.named
  have hnm := (name_of_methodNamed Bd.named Bd.method).1
  have X0 : Stand p l e ({ frames := 0, cells := 0, slots := 0, locals := 0 } : Room) s m #[(.int p1)] below meth c s₁ [] 0 0 := Stand.of_body Bd
  have e0 : s₁.heap = h0 := by rw [← hh, Bd.state]; rfl
  have N0 := Fr.nil n0
  have Zn := Z0
  have pre0 : ∀ t, Steps p.tables e below (s₁.setTop (mkF m 0 #[.val (.int p1), .unset, .unset, .unset, .unset] [])) t → Steps p.tables e below (s₁.setTop (entryFrame m #[(.int p1)] 5)) t := fun t q => castTop (ef_E m p1) q
  have k0 : ∀ t, Steps p.tables e below (s₁.setTop (mkF m 0 #[.val (.int p1), .unset, .unset, .unset, .unset] [])) t → Steps p.tables e below (s₁.setTop (mkF m 0 #[.val (.int p1), .unset, .unset, .unset, .unset] [])) t := fun t q => q
  have k1_ : ∀ t, Steps p.tables e below (s₁.setTop (mkF m 11 #[.val (.int p1), .val (.long (5764607548804038655 : Int64)), .second, .val (.long (4035225271761108992 : Int64)), .second] [(.int (64 : Int32)), (.int p1)])) t → Steps p.tables e below (s₁.setTop (mkF m 0 #[.val (.int p1), .unset, .unset, .unset, .unset] [])) t := by
    intro t q
    refine k0 _ ?_
    show Steps p.tables e below (s₁.setTop (mkF m 0 #[.val (.int p1), .unset, .unset, .unset, .unset] [])) _
    refine X0.ldc2Long hx hown (mvT hZ (hw _ (List.mem_of_getElem? (i := 8) rfl))) (g := (mkF m 0 #[.val (.int p1), .unset, .unset, .unset, .unset] [])) rfl (hb hby d_method_2_0) _ ?_
    show Steps p.tables e below (s₁.setTop (mkF m 3 #[.val (.int p1), .unset, .unset, .unset, .unset] [(.long (5764607548804038655 : Int64))])) _
    refine XS.lstoreN X0.here hx rfl (hb hby d_method_2_3) rfl (l' := #[.val (.int p1), .val (.long (5764607548804038655 : Int64)), .second, .unset, .unset]) rfl ?_
    show Steps p.tables e below (s₁.setTop (mkF m 4 #[.val (.int p1), .val (.long (5764607548804038655 : Int64)), .second, .unset, .unset] [])) _
    refine X0.ldc2Long hx hown (mvT hZ (hw _ (List.mem_of_getElem? (i := 9) rfl))) (g := (mkF m 4 #[.val (.int p1), .val (.long (5764607548804038655 : Int64)), .second, .unset, .unset] [])) rfl (hb hby d_method_2_4) _ ?_
    show Steps p.tables e below (s₁.setTop (mkF m 7 #[.val (.int p1), .val (.long (5764607548804038655 : Int64)), .second, .unset, .unset] [(.long (4035225271761108992 : Int64))])) _
    refine XS.lstoreN X0.here hx rfl (hb hby d_method_2_7) rfl (l' := #[.val (.int p1), .val (.long (5764607548804038655 : Int64)), .second, .val (.long (4035225271761108992 : Int64)), .second]) rfl ?_
    show Steps p.tables e below (s₁.setTop (mkF m 8 #[.val (.int p1), .val (.long (5764607548804038655 : Int64)), .second, .val (.long (4035225271761108992 : Int64)), .second] [])) _
    refine XS.iloadN X0.here hx rfl (hb hby d_method_2_8) rfl ?_
    show Steps p.tables e below (s₁.setTop (mkF m 9 #[.val (.int p1), .val (.long (5764607548804038655 : Int64)), .second, .val (.long (4035225271761108992 : Int64)), .second] [(.int p1)])) _
    refine XS.bipush X0.here hx rfl (hb hby d_method_2_9) ?_
    show Steps p.tables e below (s₁.setTop (mkF m 11 #[.val (.int p1), .val (.long (5764607548804038655 : Int64)), .second, .val (.long (4035225271761108992 : Int64)), .second] [(.int (64 : Int32)), (.int p1)])) _
    exact q
  by_cases ha : p1 < (64 : Int32)
  · have k2_ : ∀ t, Steps p.tables e below (s₁.setTop (mkF m 14 #[.val (.int p1), .val (.long (5764607548804038655 : Int64)), .second, .val (.long (4035225271761108992 : Int64)), .second] [])) t → Steps p.tables e below (s₁.setTop (mkF m 0 #[.val (.int p1), .unset, .unset, .unset, .unset] [])) t := by
      intro t q
      refine k1_ _ ?_
      show Steps p.tables e below (s₁.setTop (mkF m 11 #[.val (.int p1), .val (.long (5764607548804038655 : Int64)), .second, .val (.long (4035225271761108992 : Int64)), .second] [(.int (64 : Int32)), (.int p1)])) _
      refine XS.icmpNo X0.here hx rfl (hb hby d_method_2_11) rfl (tlt ha).2.1 ?_
      show Steps p.tables e below (s₁.setTop (mkF m 14 #[.val (.int p1), .val (.long (5764607548804038655 : Int64)), .second, .val (.long (4035225271761108992 : Int64)), .second] [])) _
      exact q
    have k3_ : ∀ t, Steps p.tables e below (s₁.setTop (mkF m 21 #[.val (.int p1), .val (.long (5764607548804038655 : Int64)), .second, .val (.long (4035225271761108992 : Int64)), .second] [(.int (lcmpW ((((5764607548804038655 : Int64).toUInt64 >>> (p1 &&& 0x3f).toInt64.toUInt64).toInt64) &&& (1 : Int64)) (0 : Int64)))])) t → Steps p.tables e below (s₁.setTop (mkF m 0 #[.val (.int p1), .unset, .unset, .unset, .unset] [])) t := by
      intro t q
      refine k2_ _ ?_
      show Steps p.tables e below (s₁.setTop (mkF m 14 #[.val (.int p1), .val (.long (5764607548804038655 : Int64)), .second, .val (.long (4035225271761108992 : Int64)), .second] [])) _
      refine XS.lloadN X0.here hx rfl (hb hby d_method_2_14) rfl ?_
      show Steps p.tables e below (s₁.setTop (mkF m 15 #[.val (.int p1), .val (.long (5764607548804038655 : Int64)), .second, .val (.long (4035225271761108992 : Int64)), .second] [(.long (5764607548804038655 : Int64))])) _
      refine XS.iloadN X0.here hx rfl (hb hby d_method_2_15) rfl ?_
      show Steps p.tables e below (s₁.setTop (mkF m 16 #[.val (.int p1), .val (.long (5764607548804038655 : Int64)), .second, .val (.long (4035225271761108992 : Int64)), .second] [(.int p1), (.long (5764607548804038655 : Int64))])) _
      refine XS.lushr X0.here hx rfl (hb hby d_method_2_16) rfl ?_
      show Steps p.tables e below (s₁.setTop (mkF m 17 #[.val (.int p1), .val (.long (5764607548804038655 : Int64)), .second, .val (.long (4035225271761108992 : Int64)), .second] [(.long (((5764607548804038655 : Int64).toUInt64 >>> (p1 &&& 0x3f).toInt64.toUInt64).toInt64))])) _
      refine XS.lconst X0.here hx rfl (hb hby d_method_2_17) ?_
      show Steps p.tables e below (s₁.setTop (mkF m 18 #[.val (.int p1), .val (.long (5764607548804038655 : Int64)), .second, .val (.long (4035225271761108992 : Int64)), .second] [(.long (1 : Int64)), (.long (((5764607548804038655 : Int64).toUInt64 >>> (p1 &&& 0x3f).toInt64.toUInt64).toInt64))])) _
      refine XS.land X0.here hx rfl (hb hby d_method_2_18) rfl ?_
      show Steps p.tables e below (s₁.setTop (mkF m 19 #[.val (.int p1), .val (.long (5764607548804038655 : Int64)), .second, .val (.long (4035225271761108992 : Int64)), .second] [(.long ((((5764607548804038655 : Int64).toUInt64 >>> (p1 &&& 0x3f).toInt64.toUInt64).toInt64) &&& (1 : Int64)))])) _
      refine XS.lconst X0.here hx rfl (hb hby d_method_2_19) ?_
      show Steps p.tables e below (s₁.setTop (mkF m 20 #[.val (.int p1), .val (.long (5764607548804038655 : Int64)), .second, .val (.long (4035225271761108992 : Int64)), .second] [(.long (0 : Int64)), (.long ((((5764607548804038655 : Int64).toUInt64 >>> (p1 &&& 0x3f).toInt64.toUInt64).toInt64) &&& (1 : Int64)))])) _
      refine XS.lcmp X0.here hx rfl (hb hby d_method_2_20) rfl ?_
      show Steps p.tables e below (s₁.setTop (mkF m 21 #[.val (.int p1), .val (.long (5764607548804038655 : Int64)), .second, .val (.long (4035225271761108992 : Int64)), .second] [(.int (lcmpW ((((5764607548804038655 : Int64).toUInt64 >>> (p1 &&& 0x3f).toInt64.toUInt64).toInt64) &&& (1 : Int64)) (0 : Int64)))])) _
      exact q
    have k4_ : ∀ t, Steps p.tables e below (s₁.setTop (mkF m 29 #[.val (.int p1), .val (.long (5764607548804038655 : Int64)), .second, .val (.long (4035225271761108992 : Int64)), .second] [(.int (bi (own_b1 p1)))])) t → Steps p.tables e below (s₁.setTop (mkF m 0 #[.val (.int p1), .unset, .unset, .unset, .unset] [])) t := by
      intro t q
      refine k3_ _ ?_
      show Steps p.tables e below (s₁.setTop (mkF m 21 #[.val (.int p1), .val (.long (5764607548804038655 : Int64)), .second, .val (.long (4035225271761108992 : Int64)), .second] [(.int (lcmpW ((((5764607548804038655 : Int64).toUInt64 >>> (p1 &&& 0x3f).toInt64.toUInt64).toInt64) &&& (1 : Int64)) (0 : Int64)))])) _
      by_cases hc21 : (lcmpW ((((5764607548804038655 : Int64).toUInt64 >>> (p1 &&& 0x3f).toInt64.toUInt64).toInt64) &&& (1 : Int64)) (0 : Int64)) = (0 : Int32)
      · refine XS.ifYes X0.here hx rfl (pc0 := 21) (pc' := 28) rfl (hb hby d_method_2_21) rfl ((if0 _ _).trans (teq hc21).1) (by decide) (by decide) ?_
        show Steps p.tables e below (s₁.setTop (mkF m 28 #[.val (.int p1), .val (.long (5764607548804038655 : Int64)), .second, .val (.long (4035225271761108992 : Int64)), .second] [])) _
        refine XS.iconst X0.here hx rfl (hb hby d_method_2_28) ?_
        show Steps p.tables e below (s₁.setTop (mkF m 29 #[.val (.int p1), .val (.long (5764607548804038655 : Int64)), .second, .val (.long (4035225271761108992 : Int64)), .second] [(.int (0 : Int32))])) _
        have w0 : (bi (own_b1 p1)) = (0 : Int32) := by first | exact bi_t (by simpa using hc21) | exact bi_f (by simpa using hc21)
        replace q := Eq.mp (congrArg (fun z => Steps p.tables e below (s₁.setTop (mkF m 29 #[.val (.int p1), .val (.long (5764607548804038655 : Int64)), .second, .val (.long (4035225271761108992 : Int64)), .second] [(.int z)])) t) w0) q
        exact q
      · refine XS.ifNo X0.here hx rfl (hb hby d_method_2_21) rfl ((if0 _ _).trans (feq hc21).1) ?_
        show Steps p.tables e below (s₁.setTop (mkF m 24 #[.val (.int p1), .val (.long (5764607548804038655 : Int64)), .second, .val (.long (4035225271761108992 : Int64)), .second] [])) _
        refine XS.iconst X0.here hx rfl (hb hby d_method_2_24) ?_
        show Steps p.tables e below (s₁.setTop (mkF m 25 #[.val (.int p1), .val (.long (5764607548804038655 : Int64)), .second, .val (.long (4035225271761108992 : Int64)), .second] [(.int (1 : Int32))])) _
        refine XS.goto X0.here hx rfl (pc0 := 25) (pc' := 29) rfl (hb hby d_method_2_25) (by decide) (by decide) ?_
        show Steps p.tables e below (s₁.setTop (mkF m 29 #[.val (.int p1), .val (.long (5764607548804038655 : Int64)), .second, .val (.long (4035225271761108992 : Int64)), .second] [(.int (1 : Int32))])) _
        have w0 : (bi (own_b1 p1)) = (1 : Int32) := by first | exact bi_t (by simpa using hc21) | exact bi_f (by simpa using hc21)
        replace q := Eq.mp (congrArg (fun z => Steps p.tables e below (s₁.setTop (mkF m 29 #[.val (.int p1), .val (.long (5764607548804038655 : Int64)), .second, .val (.long (4035225271761108992 : Int64)), .second] [(.int z)])) t) w0) q
        exact q
    obtain ⟨fs, hr, hrun, hended, hW, hsame⟩ := X0.leave (v := some (.int (nar .boolean (bi (own_b1 p1))))) (fun h => by rw [Bd.returns] at h; cases h)
    refine ⟨_, _, pre0 _ (k4_ _ ?_), hrun, hended, _, _, rfl, ?_, ⟨_, rfl⟩, hW, hsame.mono (by decide) (by decide)⟩
    · show Steps p.tables e below (s₁.setTop (mkF m 29 #[.val (.int p1), .val (.long (5764607548804038655 : Int64)), .second, .val (.long (4035225271761108992 : Int64)), .second] [(.int (bi (own_b1 p1)))])) _
      exact retN X0 hx (t := .boolean) Bd.returns (by simp) (hb hby d_method_2_29) hr
    · show QE Z p1 h0 n0 _ s₁.heap _
      rw [e0]
      exact ⟨by rw [bi_nar]; unfold own_P2; rw [if_pos ha], N0, rfl⟩
  · have k5_ : ∀ t, Steps p.tables e below (s₁.setTop (mkF m 30 #[.val (.int p1), .val (.long (5764607548804038655 : Int64)), .second, .val (.long (4035225271761108992 : Int64)), .second] [])) t → Steps p.tables e below (s₁.setTop (mkF m 0 #[.val (.int p1), .unset, .unset, .unset, .unset] [])) t := by
      intro t q
      refine k1_ _ ?_
      show Steps p.tables e below (s₁.setTop (mkF m 11 #[.val (.int p1), .val (.long (5764607548804038655 : Int64)), .second, .val (.long (4035225271761108992 : Int64)), .second] [(.int (64 : Int32)), (.int p1)])) _
      refine XS.icmpYes X0.here hx rfl (pc0 := 11) (pc' := 30) rfl (hb hby d_method_2_11) rfl (flt ha).2.1 (by decide) (by decide) ?_
      show Steps p.tables e below (s₁.setTop (mkF m 30 #[.val (.int p1), .val (.long (5764607548804038655 : Int64)), .second, .val (.long (4035225271761108992 : Int64)), .second] [])) _
      exact q
    have k6_ : ∀ t, Steps p.tables e below (s₁.setTop (mkF m 34 #[.val (.int p1), .val (.long (5764607548804038655 : Int64)), .second, .val (.long (4035225271761108992 : Int64)), .second] [(.int (128 : Int32)), (.int p1)])) t → Steps p.tables e below (s₁.setTop (mkF m 0 #[.val (.int p1), .unset, .unset, .unset, .unset] [])) t := by
      intro t q
      refine k5_ _ ?_
      show Steps p.tables e below (s₁.setTop (mkF m 30 #[.val (.int p1), .val (.long (5764607548804038655 : Int64)), .second, .val (.long (4035225271761108992 : Int64)), .second] [])) _
      refine XS.iloadN X0.here hx rfl (hb hby d_method_2_30) rfl ?_
      show Steps p.tables e below (s₁.setTop (mkF m 31 #[.val (.int p1), .val (.long (5764607548804038655 : Int64)), .second, .val (.long (4035225271761108992 : Int64)), .second] [(.int p1)])) _
      refine XS.sipush X0.here hx rfl (hb hby d_method_2_31) ?_
      show Steps p.tables e below (s₁.setTop (mkF m 34 #[.val (.int p1), .val (.long (5764607548804038655 : Int64)), .second, .val (.long (4035225271761108992 : Int64)), .second] [(.int (128 : Int32)), (.int p1)])) _
      exact q
    by_cases hb2 : p1 < (128 : Int32)
    · have k7_ : ∀ t, Steps p.tables e below (s₁.setTop (mkF m 37 #[.val (.int p1), .val (.long (5764607548804038655 : Int64)), .second, .val (.long (4035225271761108992 : Int64)), .second] [])) t → Steps p.tables e below (s₁.setTop (mkF m 0 #[.val (.int p1), .unset, .unset, .unset, .unset] [])) t := by
        intro t q
        refine k6_ _ ?_
        show Steps p.tables e below (s₁.setTop (mkF m 34 #[.val (.int p1), .val (.long (5764607548804038655 : Int64)), .second, .val (.long (4035225271761108992 : Int64)), .second] [(.int (128 : Int32)), (.int p1)])) _
        refine XS.icmpNo X0.here hx rfl (hb hby d_method_2_34) rfl (tlt hb2).2.1 ?_
        show Steps p.tables e below (s₁.setTop (mkF m 37 #[.val (.int p1), .val (.long (5764607548804038655 : Int64)), .second, .val (.long (4035225271761108992 : Int64)), .second] [])) _
        exact q
      have k8_ : ∀ t, Steps p.tables e below (s₁.setTop (mkF m 47 #[.val (.int p1), .val (.long (5764607548804038655 : Int64)), .second, .val (.long (4035225271761108992 : Int64)), .second] [(.int (lcmpW ((((4035225271761108992 : Int64).toUInt64 >>> ((p1 - (64 : Int32)) &&& 0x3f).toInt64.toUInt64).toInt64) &&& (1 : Int64)) (0 : Int64)))])) t → Steps p.tables e below (s₁.setTop (mkF m 0 #[.val (.int p1), .unset, .unset, .unset, .unset] [])) t := by
        intro t q
        refine k7_ _ ?_
        show Steps p.tables e below (s₁.setTop (mkF m 37 #[.val (.int p1), .val (.long (5764607548804038655 : Int64)), .second, .val (.long (4035225271761108992 : Int64)), .second] [])) _
        refine XS.lloadN X0.here hx rfl (hb hby d_method_2_37) rfl ?_
        show Steps p.tables e below (s₁.setTop (mkF m 38 #[.val (.int p1), .val (.long (5764607548804038655 : Int64)), .second, .val (.long (4035225271761108992 : Int64)), .second] [(.long (4035225271761108992 : Int64))])) _
        refine XS.iloadN X0.here hx rfl (hb hby d_method_2_38) rfl ?_
        show Steps p.tables e below (s₁.setTop (mkF m 39 #[.val (.int p1), .val (.long (5764607548804038655 : Int64)), .second, .val (.long (4035225271761108992 : Int64)), .second] [(.int p1), (.long (4035225271761108992 : Int64))])) _
        refine XS.bipush X0.here hx rfl (hb hby d_method_2_39) ?_
        show Steps p.tables e below (s₁.setTop (mkF m 41 #[.val (.int p1), .val (.long (5764607548804038655 : Int64)), .second, .val (.long (4035225271761108992 : Int64)), .second] [(.int (64 : Int32)), (.int p1), (.long (4035225271761108992 : Int64))])) _
        refine XS.isub X0.here hx rfl (hb hby d_method_2_41) rfl ?_
        show Steps p.tables e below (s₁.setTop (mkF m 42 #[.val (.int p1), .val (.long (5764607548804038655 : Int64)), .second, .val (.long (4035225271761108992 : Int64)), .second] [(.int (p1 - (64 : Int32))), (.long (4035225271761108992 : Int64))])) _
        refine XS.lushr X0.here hx rfl (hb hby d_method_2_42) rfl ?_
        show Steps p.tables e below (s₁.setTop (mkF m 43 #[.val (.int p1), .val (.long (5764607548804038655 : Int64)), .second, .val (.long (4035225271761108992 : Int64)), .second] [(.long (((4035225271761108992 : Int64).toUInt64 >>> ((p1 - (64 : Int32)) &&& 0x3f).toInt64.toUInt64).toInt64))])) _
        refine XS.lconst X0.here hx rfl (hb hby d_method_2_43) ?_
        show Steps p.tables e below (s₁.setTop (mkF m 44 #[.val (.int p1), .val (.long (5764607548804038655 : Int64)), .second, .val (.long (4035225271761108992 : Int64)), .second] [(.long (1 : Int64)), (.long (((4035225271761108992 : Int64).toUInt64 >>> ((p1 - (64 : Int32)) &&& 0x3f).toInt64.toUInt64).toInt64))])) _
        refine XS.land X0.here hx rfl (hb hby d_method_2_44) rfl ?_
        show Steps p.tables e below (s₁.setTop (mkF m 45 #[.val (.int p1), .val (.long (5764607548804038655 : Int64)), .second, .val (.long (4035225271761108992 : Int64)), .second] [(.long ((((4035225271761108992 : Int64).toUInt64 >>> ((p1 - (64 : Int32)) &&& 0x3f).toInt64.toUInt64).toInt64) &&& (1 : Int64)))])) _
        refine XS.lconst X0.here hx rfl (hb hby d_method_2_45) ?_
        show Steps p.tables e below (s₁.setTop (mkF m 46 #[.val (.int p1), .val (.long (5764607548804038655 : Int64)), .second, .val (.long (4035225271761108992 : Int64)), .second] [(.long (0 : Int64)), (.long ((((4035225271761108992 : Int64).toUInt64 >>> ((p1 - (64 : Int32)) &&& 0x3f).toInt64.toUInt64).toInt64) &&& (1 : Int64)))])) _
        refine XS.lcmp X0.here hx rfl (hb hby d_method_2_46) rfl ?_
        show Steps p.tables e below (s₁.setTop (mkF m 47 #[.val (.int p1), .val (.long (5764607548804038655 : Int64)), .second, .val (.long (4035225271761108992 : Int64)), .second] [(.int (lcmpW ((((4035225271761108992 : Int64).toUInt64 >>> ((p1 - (64 : Int32)) &&& 0x3f).toInt64.toUInt64).toInt64) &&& (1 : Int64)) (0 : Int64)))])) _
        exact q
      have k9_ : ∀ t, Steps p.tables e below (s₁.setTop (mkF m 55 #[.val (.int p1), .val (.long (5764607548804038655 : Int64)), .second, .val (.long (4035225271761108992 : Int64)), .second] [(.int (bi (own_b2 p1)))])) t → Steps p.tables e below (s₁.setTop (mkF m 0 #[.val (.int p1), .unset, .unset, .unset, .unset] [])) t := by
        intro t q
        refine k8_ _ ?_
        show Steps p.tables e below (s₁.setTop (mkF m 47 #[.val (.int p1), .val (.long (5764607548804038655 : Int64)), .second, .val (.long (4035225271761108992 : Int64)), .second] [(.int (lcmpW ((((4035225271761108992 : Int64).toUInt64 >>> ((p1 - (64 : Int32)) &&& 0x3f).toInt64.toUInt64).toInt64) &&& (1 : Int64)) (0 : Int64)))])) _
        by_cases hc47 : (lcmpW ((((4035225271761108992 : Int64).toUInt64 >>> ((p1 - (64 : Int32)) &&& 0x3f).toInt64.toUInt64).toInt64) &&& (1 : Int64)) (0 : Int64)) = (0 : Int32)
        · refine XS.ifYes X0.here hx rfl (pc0 := 47) (pc' := 54) rfl (hb hby d_method_2_47) rfl ((if0 _ _).trans (teq hc47).1) (by decide) (by decide) ?_
          show Steps p.tables e below (s₁.setTop (mkF m 54 #[.val (.int p1), .val (.long (5764607548804038655 : Int64)), .second, .val (.long (4035225271761108992 : Int64)), .second] [])) _
          refine XS.iconst X0.here hx rfl (hb hby d_method_2_54) ?_
          show Steps p.tables e below (s₁.setTop (mkF m 55 #[.val (.int p1), .val (.long (5764607548804038655 : Int64)), .second, .val (.long (4035225271761108992 : Int64)), .second] [(.int (0 : Int32))])) _
          have w0 : (bi (own_b2 p1)) = (0 : Int32) := by first | exact bi_t (by simpa using hc47) | exact bi_f (by simpa using hc47)
          replace q := Eq.mp (congrArg (fun z => Steps p.tables e below (s₁.setTop (mkF m 55 #[.val (.int p1), .val (.long (5764607548804038655 : Int64)), .second, .val (.long (4035225271761108992 : Int64)), .second] [(.int z)])) t) w0) q
          exact q
        · refine XS.ifNo X0.here hx rfl (hb hby d_method_2_47) rfl ((if0 _ _).trans (feq hc47).1) ?_
          show Steps p.tables e below (s₁.setTop (mkF m 50 #[.val (.int p1), .val (.long (5764607548804038655 : Int64)), .second, .val (.long (4035225271761108992 : Int64)), .second] [])) _
          refine XS.iconst X0.here hx rfl (hb hby d_method_2_50) ?_
          show Steps p.tables e below (s₁.setTop (mkF m 51 #[.val (.int p1), .val (.long (5764607548804038655 : Int64)), .second, .val (.long (4035225271761108992 : Int64)), .second] [(.int (1 : Int32))])) _
          refine XS.goto X0.here hx rfl (pc0 := 51) (pc' := 55) rfl (hb hby d_method_2_51) (by decide) (by decide) ?_
          show Steps p.tables e below (s₁.setTop (mkF m 55 #[.val (.int p1), .val (.long (5764607548804038655 : Int64)), .second, .val (.long (4035225271761108992 : Int64)), .second] [(.int (1 : Int32))])) _
          have w0 : (bi (own_b2 p1)) = (1 : Int32) := by first | exact bi_t (by simpa using hc47) | exact bi_f (by simpa using hc47)
          replace q := Eq.mp (congrArg (fun z => Steps p.tables e below (s₁.setTop (mkF m 55 #[.val (.int p1), .val (.long (5764607548804038655 : Int64)), .second, .val (.long (4035225271761108992 : Int64)), .second] [(.int z)])) t) w0) q
          exact q
      obtain ⟨fs, hr, hrun, hended, hW, hsame⟩ := X0.leave (v := some (.int (nar .boolean (bi (own_b2 p1))))) (fun h => by rw [Bd.returns] at h; cases h)
      refine ⟨_, _, pre0 _ (k9_ _ ?_), hrun, hended, _, _, rfl, ?_, ⟨_, rfl⟩, hW, hsame.mono (by decide) (by decide)⟩
      · show Steps p.tables e below (s₁.setTop (mkF m 55 #[.val (.int p1), .val (.long (5764607548804038655 : Int64)), .second, .val (.long (4035225271761108992 : Int64)), .second] [(.int (bi (own_b2 p1)))])) _
        exact retN X0 hx (t := .boolean) Bd.returns (by simp) (hb hby d_method_2_55) hr
      · show QE Z p1 h0 n0 _ s₁.heap _
        rw [e0]
        exact ⟨by rw [bi_nar]; unfold own_P2; rw [if_neg ha, if_pos hb2], N0, rfl⟩
    · have k10_ : ∀ t, Steps p.tables e below (s₁.setTop (mkF m 56 #[.val (.int p1), .val (.long (5764607548804038655 : Int64)), .second, .val (.long (4035225271761108992 : Int64)), .second] [])) t → Steps p.tables e below (s₁.setTop (mkF m 0 #[.val (.int p1), .unset, .unset, .unset, .unset] [])) t := by
        intro t q
        refine k6_ _ ?_
        show Steps p.tables e below (s₁.setTop (mkF m 34 #[.val (.int p1), .val (.long (5764607548804038655 : Int64)), .second, .val (.long (4035225271761108992 : Int64)), .second] [(.int (128 : Int32)), (.int p1)])) _
        refine XS.icmpYes X0.here hx rfl (pc0 := 34) (pc' := 56) rfl (hb hby d_method_2_34) rfl (flt hb2).2.1 (by decide) (by decide) ?_
        show Steps p.tables e below (s₁.setTop (mkF m 56 #[.val (.int p1), .val (.long (5764607548804038655 : Int64)), .second, .val (.long (4035225271761108992 : Int64)), .second] [])) _
        exact q
      have k11_ : ∀ t, Steps p.tables e below (s₁.setTop (mkF m 57 #[.val (.int p1), .val (.long (5764607548804038655 : Int64)), .second, .val (.long (4035225271761108992 : Int64)), .second] [(.int (0 : Int32))])) t → Steps p.tables e below (s₁.setTop (mkF m 0 #[.val (.int p1), .unset, .unset, .unset, .unset] [])) t := by
        intro t q
        refine k10_ _ ?_
        show Steps p.tables e below (s₁.setTop (mkF m 56 #[.val (.int p1), .val (.long (5764607548804038655 : Int64)), .second, .val (.long (4035225271761108992 : Int64)), .second] [])) _
        refine XS.iconst X0.here hx rfl (hb hby d_method_2_56) ?_
        show Steps p.tables e below (s₁.setTop (mkF m 57 #[.val (.int p1), .val (.long (5764607548804038655 : Int64)), .second, .val (.long (4035225271761108992 : Int64)), .second] [(.int (0 : Int32))])) _
        exact q
      obtain ⟨fs, hr, hrun, hended, hW, hsame⟩ := X0.leave (v := some (.int (0 : Int32))) (fun h => by rw [Bd.returns] at h; cases h)
      refine ⟨_, _, pre0 _ (k11_ _ ?_), hrun, hended, _, _, rfl, ?_, ⟨_, rfl⟩, hW, hsame.mono (by decide) (by decide)⟩
      · show Steps p.tables e below (s₁.setTop (mkF m 57 #[.val (.int p1), .val (.long (5764607548804038655 : Int64)), .second, .val (.long (4035225271761108992 : Int64)), .second] [(.int (0 : Int32))])) _
        exact retN X0 hx (t := .boolean) Bd.returns (by simp) (hb hby d_method_2_57) hr
      · show QE Z p1 h0 n0 _ s₁.heap _
        rw [e0]
        exact ⟨by unfold own_P2; rw [if_neg ha, if_neg hb2], N0, rfl⟩
def Q0 (Z : State) (p1 : Int32) (h0 : Heap) (n0 : Nat) (v : Option Value) (h : Heap) (L : List Loc) : Prop := v = some (.int 1) ∧ Fr n0 L
theorem ef_0 (m : MethodId) (x0 : Int32) : entryFrame m #[(.int x0)] maxLocals = mkF m 0 #[.val (.int x0), .unset] [] := by first | (simp [entryFrame, mkF, argsToLocals, Value.category, maxLocals]; done) | rfl
theorem pd_22014 : parseMethodDescriptor "(C)Z" = some ⟨[.char], some .boolean⟩ := by decide +kernel
set_option maxRecDepth 65536 in
set_option maxHeartbeats 40000000 in
theorem rm0 (l : Launch) (Z : State) (a0 : Array Value) (hw : ∀ d ∈ tables_1, d.before a0 Z = true) (ws : List Jvm.Cond) (p1 : Int32) (h0 : Heap) (n0 : Nat) (Z0 : n0 ≤ h0.size) :
    MetFree l x (head1 (Jvm.Cond.code x code maxLocals ret :: ws) room_1) (fun a U => a = #[(.int p1)] ∧ Z.Warmed39 U.vm ∧ U.heap = h0) (fun _ _ _ _ _ => True) (fun _ U o U' => ∃ v L, o = .returned v ∧ Q0 Z p1 h0 n0 v U'.heap L ∧ FrameEnd U o U' L room_1.cells room_1.slots) := by
  refine MetFree.of_bodySF (plainFor_of_name pn_IriCannotHoldPinLaw) hisR ?_
  intro p e s m args below meth c s₁ Bd hml0 hP hK
  obtain ⟨rfl, hZ, hh⟩ := hP
  have hx := Bd.exec
  have hby := Bd.bytes
  have hml : c.maxLocals = 2 := hml0
  have hown : s.vm.findClass "com/example/triplewright/triplewright/rdf/IriCannotHoldPinLaw" = some m.cls := findClass_of_methodNamed Bd.named
  have hnm := (name_of_methodNamed Bd.named Bd.method).1
  have X0 : Stand p l e room_1 s m #[(.int p1)] below meth c s₁ [] 0 0 := Stand.of_body Bd
  have e0 : s₁.heap = h0 := by rw [← hh, Bd.state]; rfl
  have N0 := Fr.nil n0
  have Zn := Z0
  have pre0 : ∀ t, Steps p.tables e below (s₁.setTop (mkF m 0 #[.val (.int p1), .unset] [])) t → Steps p.tables e below (s₁.setTop (entryFrame m #[(.int p1)] maxLocals)) t := fun t q => castTop (ef_0 m p1) q
  have k0 : ∀ t, Steps p.tables e below (s₁.setTop (mkF m 0 #[.val (.int p1), .unset] [])) t → Steps p.tables e below (s₁.setTop (mkF m 0 #[.val (.int p1), .unset] [])) t := fun t q => q
  have k1_ : ∀ t, Steps p.tables e below (s₁.setTop (mkF m 4 #[.val (.int p1), .val (.int (p1.toUInt32.toUInt16.toUInt32.toInt32))] [(.int (p1.toUInt32.toUInt16.toUInt32.toInt32))])) t → Steps p.tables e below (s₁.setTop (mkF m 0 #[.val (.int p1), .unset] [])) t := by
    intro t q
    refine k0 _ ?_
    show Steps p.tables e below (s₁.setTop (mkF m 0 #[.val (.int p1), .unset] [])) _
    refine XS.iloadN X0.here hx rfl (hb hby at_0) rfl ?_
    show Steps p.tables e below (s₁.setTop (mkF m 1 #[.val (.int p1), .unset] [(.int p1)])) _
    refine XS.i2c X0.here hx rfl (hb hby at_1) rfl ?_
    show Steps p.tables e below (s₁.setTop (mkF m 2 #[.val (.int p1), .unset] [(.int (p1.toUInt32.toUInt16.toUInt32.toInt32))])) _
    refine XS.istoreN X0.here hx rfl (hb hby at_2) rfl (l' := #[.val (.int p1), .val (.int (p1.toUInt32.toUInt16.toUInt32.toInt32))]) rfl ?_
    show Steps p.tables e below (s₁.setTop (mkF m 3 #[.val (.int p1), .val (.int (p1.toUInt32.toUInt16.toUInt32.toInt32))] [])) _
    refine XS.iloadN X0.here hx rfl (hb hby at_3) rfl ?_
    show Steps p.tables e below (s₁.setTop (mkF m 4 #[.val (.int p1), .val (.int (p1.toUInt32.toUInt16.toUInt32.toInt32))] [(.int (p1.toUInt32.toUInt16.toUInt32.toInt32))])) _
    exact q
  obtain ⟨_, _, ⟨T2, L2, kk2, n2⟩, -, X2, ⟨Lc2, hQ2, l2, y2, z2⟩, st2⟩ := Jvm.LawKit.callS X0 hx (y := (⟨"com/example/triplewright/triplewright/rdf/Iri", "cannotHold", "(C)Z"⟩ : MethodName)) hown (mvT hZ (hw _ (List.mem_of_getElem? (i := 0) rfl))) (mvT hZ (hw _ (List.mem_of_getElem? (i := 1) rfl))) (mvT hZ (hw _ (List.mem_of_getElem? (i := 2) rfl))) (mvT hZ (hw _ (List.mem_of_getElem? (i := 3) rfl))) (by decide) (backOf (W := 0) (rmC l Z a0 hw [] (p1.toUInt32.toUInt16.toUInt32.toInt32) h0 n0 Z0) hZ (hw _ (List.mem_of_getElem? (i := 3) rfl)) (hw _ (List.mem_of_getElem? (i := 2) rfl)) (by decide) (by decide)) (g := (mkF m 4 #[.val (.int p1), .val (.int (p1.toUInt32.toUInt16.toUInt32.toInt32))] [(.int (p1.toUInt32.toUInt16.toUInt32.toInt32))])) rfl (by rw [hml]; rfl) (argsL := [(.int (p1.toUInt32.toUInt16.toUInt32.toInt32))]) (rest := []) (lenOf pd_22014 rfl) rfl (by show 2 * 0 + _ ≤ _; exact Nat.le_of_eq rfl) (hb hby at_4) (fun _ _ => ⟨rfl, e0, (by decide : 0 + 0 ≤ _), (by decide : 0 + 0 ≤ _)⟩)
  dsimp only [Pt.U, Pt.locs, Pt.cells, Pt.slots] at X2 l2 y2 z2 st2 hQ2
  subst l2 y2 z2
  obtain ⟨rfl, Nq2, hq2⟩ := hQ2
  have N2 := Fr.app N0 Nq2
  have k3_ : ∀ t, Steps p.tables e below (T2.setTop (mkF m 7 #[.val (.int p1), .val (.int (p1.toUInt32.toUInt16.toUInt32.toInt32))] [(.int (bi (own_P1 (p1.toUInt32.toUInt16.toUInt32.toInt32))))])) t → Steps p.tables e below (s₁.setTop (mkF m 0 #[.val (.int p1), .unset] [])) t := fun t q => k1_ t (st2 t q)
  have k4_ : ∀ t, Steps p.tables e below (T2.setTop (mkF m 8 #[.val (.int p1), .val (.int (p1.toUInt32.toUInt16.toUInt32.toInt32))] [(.int (p1.toUInt32.toUInt16.toUInt32.toInt32)), (.int (bi (own_P1 (p1.toUInt32.toUInt16.toUInt32.toInt32))))])) t → Steps p.tables e below (s₁.setTop (mkF m 0 #[.val (.int p1), .unset] [])) t := by
    intro t q
    refine k3_ _ ?_
    show Steps p.tables e below (T2.setTop (mkF m 7 #[.val (.int p1), .val (.int (p1.toUInt32.toUInt16.toUInt32.toInt32))] [(.int (bi (own_P1 (p1.toUInt32.toUInt16.toUInt32.toInt32))))])) _
    refine XS.iloadN X2.here hx rfl (hb hby at_7) rfl ?_
    show Steps p.tables e below (T2.setTop (mkF m 8 #[.val (.int p1), .val (.int (p1.toUInt32.toUInt16.toUInt32.toInt32))] [(.int (p1.toUInt32.toUInt16.toUInt32.toInt32)), (.int (bi (own_P1 (p1.toUInt32.toUInt16.toUInt32.toInt32))))])) _
    exact q
  obtain ⟨_, _, ⟨T5, L5, kk5, n5⟩, -, X5, ⟨Lc5, hQ5, l5, y5, z5⟩, st5⟩ := Jvm.LawKit.callS X2 hx (y := (⟨"com/example/triplewright/triplewright/rdf/IriCannotHoldPinLaw", "expected", "(C)Z"⟩ : MethodName)) hown (mvT hZ (hw _ (List.mem_of_getElem? (i := 4) rfl))) (mvT hZ (hw _ (List.mem_of_getElem? (i := 5) rfl))) (mvT hZ (hw _ (List.mem_of_getElem? (i := 6) rfl))) (mvT hZ (hw _ (List.mem_of_getElem? (i := 7) rfl))) (by decide) (backOf (W := 1) (rmE l Z a0 hw [] (p1.toUInt32.toUInt16.toUInt32.toInt32) h0 n0 Z0) hZ (hw _ (List.mem_of_getElem? (i := 7) rfl)) (hw _ (List.mem_of_getElem? (i := 6) rfl)) (by decide) (by decide)) (g := (mkF m 8 #[.val (.int p1), .val (.int (p1.toUInt32.toUInt16.toUInt32.toInt32))] [(.int (p1.toUInt32.toUInt16.toUInt32.toInt32)), (.int (bi (own_P1 (p1.toUInt32.toUInt16.toUInt32.toInt32))))])) rfl (by rw [hml]; rfl) (argsL := [(.int (p1.toUInt32.toUInt16.toUInt32.toInt32))]) (rest := [(.int (bi (own_P1 (p1.toUInt32.toUInt16.toUInt32.toInt32))))]) (lenOf pd_22014 rfl) rfl (by show 2 * 0 + _ ≤ _; exact Nat.le_of_eq rfl) (hb hby at_8) (fun _ _ => ⟨rfl, hq2, (by decide : 0 + 0 + 0 ≤ _), (by decide : 0 + 0 + 0 ≤ _)⟩)
  dsimp only [Pt.U, Pt.locs, Pt.cells, Pt.slots] at X5 l5 y5 z5 st5 hQ5
  subst l5 y5 z5
  obtain ⟨rfl, Nq5, hq5⟩ := hQ5
  have N5 := Fr.app N2 Nq5
  have k6_ : ∀ t, Steps p.tables e below (T5.setTop (mkF m 11 #[.val (.int p1), .val (.int (p1.toUInt32.toUInt16.toUInt32.toInt32))] [(.int (own_P2 (p1.toUInt32.toUInt16.toUInt32.toInt32))), (.int (bi (own_P1 (p1.toUInt32.toUInt16.toUInt32.toInt32))))])) t → Steps p.tables e below (s₁.setTop (mkF m 0 #[.val (.int p1), .unset] [])) t := fun t q => k4_ t (st5 t q)
  have k7_ : ∀ t, Steps p.tables e below (T5.setTop (mkF m 14 #[.val (.int p1), .val (.int (p1.toUInt32.toUInt16.toUInt32.toInt32))] [])) t → Steps p.tables e below (s₁.setTop (mkF m 0 #[.val (.int p1), .unset] [])) t := by
    intro t q
    refine k6_ _ ?_
    show Steps p.tables e below (T5.setTop (mkF m 11 #[.val (.int p1), .val (.int (p1.toUInt32.toUInt16.toUInt32.toInt32))] [(.int (own_P2 (p1.toUInt32.toUInt16.toUInt32.toInt32))), (.int (bi (own_P1 (p1.toUInt32.toUInt16.toUInt32.toInt32))))])) _
    refine XS.icmpNo X5.here hx rfl (hb hby at_11) rfl (teq (own_eq (own_c_rng p1))).2 ?_
    show Steps p.tables e below (T5.setTop (mkF m 14 #[.val (.int p1), .val (.int (p1.toUInt32.toUInt16.toUInt32.toInt32))] [])) _
    exact q
  have k8_ : ∀ t, Steps p.tables e below (T5.setTop (mkF m 19 #[.val (.int p1), .val (.int (p1.toUInt32.toUInt16.toUInt32.toInt32))] [(.int (1 : Int32))])) t → Steps p.tables e below (s₁.setTop (mkF m 0 #[.val (.int p1), .unset] [])) t := by
    intro t q
    refine k7_ _ ?_
    show Steps p.tables e below (T5.setTop (mkF m 14 #[.val (.int p1), .val (.int (p1.toUInt32.toUInt16.toUInt32.toInt32))] [])) _
    refine XS.iconst X5.here hx rfl (hb hby at_14) ?_
    show Steps p.tables e below (T5.setTop (mkF m 15 #[.val (.int p1), .val (.int (p1.toUInt32.toUInt16.toUInt32.toInt32))] [(.int (1 : Int32))])) _
    refine XS.goto X5.here hx rfl (pc0 := 15) (pc' := 19) rfl (hb hby at_15) (by decide) (by decide) ?_
    show Steps p.tables e below (T5.setTop (mkF m 19 #[.val (.int p1), .val (.int (p1.toUInt32.toUInt16.toUInt32.toInt32))] [(.int (1 : Int32))])) _
    exact q
  obtain ⟨fs, hr, hrun, hended, hW, hsame⟩ := X5.leave (v := some (.int (1 : Int32))) (fun h => by rw [Bd.returns] at h; cases h)
  refine ⟨_, _, pre0 _ (k8_ _ ?_), hrun, hended, _, _, rfl, ?_, ⟨_, rfl⟩, hW, hsame.mono (by decide) (by decide)⟩
  · show Steps p.tables e below (T5.setTop (mkF m 19 #[.val (.int p1), .val (.int (p1.toUInt32.toUInt16.toUInt32.toInt32))] [(.int (1 : Int32))])) _
    exact retN X5 hx (t := .boolean) Bd.returns (by simp) (hb hby at_19) hr
  · show Q0 Z p1 h0 n0 _ T5.heap _
    rw [hq5]
    exact ⟨rfl, N5⟩
set_option maxRecDepth 65536 in
set_option maxHeartbeats 40000000 in
theorem comes_1 {Post : Tables → Env → Array Value → State → Outcome → State → Prop} (hpost : ∀ tb e args s v u, (limb_1_1.after args s (.returned v) u = true ∧ limb_1_2.after args s (.returned v) u = true ∧ True) → FrameEnd s (.returned v) u (Jvm.fieldLocs frame_1_writes args s ++ Jvm.arrayLocs frame_1_arrays args s ++ Jvm.staticLocs frame_1_statics s) 0 0 → Post tb e args s (.returned v) u) :
    ArmFor flags0 classFile x code maxLocals ret World_1 tables_1 room_1 Calls_1 rest_1 Pre_1 Post := by
  intro l hfl _ _ p e ha hc hk s m args below hf hA hF happ hP
  obtain ⟨hcalls, hrest, hpre⟩ := hP
  obtain ⟨-, -, -, hnamed, -, -, -, hat⟩ := (Spec.applies_iff hf).mp happ
  obtain ⟨hg, hn⟩ := and_e (Cond.before_iff.mp (show (Jvm.Cond.and given_1 narrow_1).before args s = true from hpre))
  obtain ⟨hcnt, hg0⟩ := and_e hg
  have hi0 := hg0
  obtain ⟨w0, rfl⟩ : ∃ w0 : Value, args = #[w0] := by
    have hs : args.size = 1 := by simpa [Cond.value, given_1] using hcnt
    obtain ⟨L⟩ := args
    match L, hs with
    | [w0], _ => exact ⟨w0, rfl⟩
  have hw := fun d (hd : d ∈ tables_1) => atoms_spec (ws := Jvm.Cond.code x code maxLocals ret :: tables_1) hat d (List.mem_cons_of_mem _ hd)
  have hfit : Fit s := fun {y c} hc i hi => by
    obtain ⟨ha, rfl⟩ := Array.getElem?_eq_some_iff.mp hc
    have q := List.all_eq_true.mp ((Array.all_eq_true_iff_forall_mem.mp hF) _ (Array.getElem_mem ha)) i (List.mem_range.mpr hi)
    simpa [Array.getElem?_eq_getElem hi] using q
  obtain ⟨i0, ei0⟩ := is_v hi0
  obtain rfl : w0 = (.int i0) := Option.some.inj ei0
  obtain ⟨n, o, h1, h2, h3, _, L, rfl, ⟨rfl, N⟩, hq⟩ := rm0 l s _ hw tables_1 i0  s.heap s.heap.size (Nat.le_refl _)  p e ha hc hk s m _ below hf ((Spec.applies_iff_loose hf).mp happ).1 ⟨rfl, State.Warmed39.refl s, rfl⟩ trivial
  refine ⟨n, _, h1, h2, h3, hpost _ _ _ _ _ _ ⟨Cond.after_iff.mpr rfl, Cond.after_iff.mpr (eq_i res_at (Term.int_eval (1)) rfl), trivial⟩ ⟨hq.1, hq.2.1, (hq.2.2.sift fun y hy => Or.inr (N y hy)).mono (by decide) (by decide)⟩⟩
theorem main_1_1 : Claimed_1_1 := comes_1 fun _ _ _ _ _ _ h hF => ⟨h.1, hF⟩
theorem main_1_2 : Claimed_1_2 := comes_1 fun _ _ _ _ _ _ h hF => ⟨h.2.1, hF⟩
end Jvm.Pilot.@@N@@
namespace Jvm.Pilot.@@N@@
open Jvm Jvm.ClassFile Sem Op Lib Jvm.Free Jvm.Stand Jvm.Pilot.@@N@@.Jvm.D
/-! MADE BY PROGRAM (witnessworld.py) out of the Statement's table words and the real class files: 10 classes; the members and pool entries that the words name. The judged class is class 1, her method 2. -/
namespace start1
open Jvm.ClassFile
def u (s : String) : CpInfo := .utf8 (stringToUtf16 s)
/-- a pool by its gaps: so many unusable entries, then the entry; so many at the end -/
def gap : Nat → List CpInfo → List CpInfo
  | 0, r => r
  | n + 1, r => .unusable :: gap n r
def poolList (es : List (Nat × CpInfo)) (last : Nat) : List CpInfo := es.foldr (fun e r => gap e.1 (e.2 :: r)) (gap last [])
def pool (es : List (Nat × CpInfo)) (last : Nat) : Array CpInfo := ⟨poolList es last⟩
def fileOf (pool : Array CpInfo) (this : Nat) (attrs : Array Attribute := #[]) (ms : Array MethodInfo := #[]) (fl : Nat := 33) (sup : Nat := 0) (ifs : Array Nat := #[]) (fds : Array FieldInfo := #[]) : ClassFile where
  minorVersion := 0
  majorVersion := 65
  constantPool := pool
  accessFlags := fl
  thisClass := this
  superClass := sup
  interfaces := ifs
  fields := fds
  methods := ms
  attributes := attrs
def plain (name : String) (sup : Option ClassId) : Class where
  name := name
  kind := .ordinary
  loader := none
  accessFlags := 33
  super := sup
  interfaces := #[]
  cf := none
  fields := #[]
  methods := #[]
  instanceTypes := #[]
  staticTypes := #[]
  resolved := #[]
  callSites := []
  init := .initialized
  statics := none
  mirror := none

def pool0 : Array CpInfo := pool [(5, u "<init>"), (0, u "()V"), (1, .class_ 10), (1, u "java/lang/Object")] 113

def k0m0 : Method := { name := "<init>", desc := "()V", sig := { parameters := [], returnType := none }, accessFlags := 1, code := none }
/-- java/lang/Object -/
def k0 : Class := { plain "java/lang/Object" none with
  accessFlags := 33
  interfaces := #[]
  cf := some (fileOf pool0 8 #[] #[{ accessFlags := 1, nameIndex := 5, descriptorIndex := 6, attributes := #[] }] 33 0 #[] #[])
  fields := #[]
  methods := #[k0m0]
  instanceTypes := #[]
  staticTypes := #[]
  resolved := Array.replicate 124 none
  statics := none }

def pool1 : Array CpInfo := pool [(2, .class_ 4), (1, u "java/lang/Object"), (0, u "<init>"), (0, u "()V"), (0, .long 5764607548804038655), (1, .long 4035225271761108992), (1, .methodref 12 13), (0, .class_ 14), (0, .nameAndType 15 16), (0, u "com/example/triplewright/triplewright/rdf/Iri"), (0, u "cannotHold"), (0, u "(C)Z"), (0, .methodref 18 19), (0, .class_ 20), (0, .nameAndType 21 16), (0, u "com/example/triplewright/triplewright/rdf/IriCannotHoldPinLaw"), (0, u "expected"), (3, u "law"), (0, u "(I)Z")] 2

def k1m0 : Method := { name := "<init>", desc := "()V", sig := { parameters := [], returnType := none }, accessFlags := 2, code := none }
def k1c1 : Code := { maxStack := 4, maxLocals := 5, code := method_2_code, exceptionTable := #[], attributes := #[] }
def k1m1 : Method := { name := "expected", desc := "(C)Z", sig := { parameters := [.char], returnType := some .boolean }, accessFlags := 10, code := some k1c1 }
def k1c2 : Code := { maxStack := 2, maxLocals := 2, code := code, exceptionTable := #[], attributes := #[] }
def k1m2 : Method := { name := "law", desc := "(I)Z", sig := { parameters := [.int], returnType := some .boolean }, accessFlags := 9, code := some k1c2 }
/-- com/example/triplewright/triplewright/rdf/IriCannotHoldPinLaw -/
def k1 : Class := { plain "com/example/triplewright/triplewright/rdf/IriCannotHoldPinLaw" (some 0) with
  accessFlags := 49
  interfaces := #[]
  cf := some (fileOf pool1 18 #[] #[{ accessFlags := 2, nameIndex := 5, descriptorIndex := 6, attributes := #[] }, { accessFlags := 10, nameIndex := 21, descriptorIndex := 16, attributes := #[] }, { accessFlags := 9, nameIndex := 25, descriptorIndex := 26, attributes := #[] }] 49 2 #[] #[])
  fields := #[]
  methods := #[k1m0, k1m1, k1m2]
  instanceTypes := #[]
  staticTypes := #[]
  resolved := Array.replicate 29 none
  statics := none }

def pool2 : Array CpInfo := pool [(1, .class_ 2), (0, u "com/example/triplewright/triplewright/rdf/Term"), (0, .class_ 4), (0, u "java/lang/Object")] 9

/-- com/example/triplewright/triplewright/rdf/Term -/
def k2 : Class := { plain "com/example/triplewright/triplewright/rdf/Term" (some 0) with
  accessFlags := 1537
  interfaces := #[]
  cf := some (fileOf pool2 1 #[] #[] 1537 3 #[] #[])
  fields := #[]
  methods := #[]
  instanceTypes := #[]
  staticTypes := #[]
  resolved := Array.replicate 14 none
  statics := none }

def pool3 : Array CpInfo := pool [(2, .class_ 4), (1, u "java/lang/Object"), (3, u "value"), (9, .class_ 20), (1, u "com/example/triplewright/triplewright/rdf/Iri"), (0, u "Ljava/lang/String;"), (6, u "firstCannotHold"), (0, u "I"), (29, u "cannotHold"), (0, u "(C)Z"), (10, u "RDF_TYPE"), (0, u "Lcom/example/triplewright/triplewright/rdf/Iri;"), (0, .class_ 74), (0, u "com/example/triplewright/triplewright/rdf/Term")] 24

def k3c0 : Code := { maxStack := 2, maxLocals := 1, code := prog_47_method_8_code, exceptionTable := #[], attributes := #[] }
def k3m0 : Method := { name := "cannotHold", desc := "(C)Z", sig := { parameters := [.char], returnType := some .boolean }, accessFlags := 9, code := some k3c0 }
/-- com/example/triplewright/triplewright/rdf/Iri -/
def k3 : Class := { plain "com/example/triplewright/triplewright/rdf/Iri" (some 0) with
  accessFlags := 49
  interfaces := #[2]
  cf := some (fileOf pool3 18 #[] #[{ accessFlags := 9, nameIndex := 59, descriptorIndex := 60, attributes := #[] }] 49 2 #[73] #[{ accessFlags := 25, nameIndex := 71, descriptorIndex := 72, attributes := #[] }, { accessFlags := 18, nameIndex := 8, descriptorIndex := 21, attributes := #[] }, { accessFlags := 18, nameIndex := 28, descriptorIndex := 29, attributes := #[] }])
  fields := #[{ name := "RDF_TYPE", type := (.object "com/example/triplewright/triplewright/rdf/Iri"), accessFlags := 25, slot := 0, constantValue := 0 }, { name := "value", type := (.object "java/lang/String"), accessFlags := 18, slot := 0, constantValue := 0 }, { name := "firstCannotHold", type := .int, accessFlags := 18, slot := 1, constantValue := 0 }]
  methods := #[k3m0]
  instanceTypes := #[(.object "java/lang/String"), .int]
  staticTypes := #[(.object "com/example/triplewright/triplewright/rdf/Iri")]
  resolved := Array.replicate 99 none
  statics := none }

def pool4 : Array CpInfo := pool [(1, u "java/lang/Cloneable"), (0, .class_ 1), (0, u "java/lang/Object"), (0, .class_ 3)] 3

/-- java/lang/Cloneable -/
def k4 : Class := { plain "java/lang/Cloneable" (some 0) with
  accessFlags := 1537
  interfaces := #[]
  cf := some (fileOf pool4 2 #[] #[] 1537 4 #[] #[])
  fields := #[]
  methods := #[]
  instanceTypes := #[]
  staticTypes := #[]
  resolved := Array.replicate 8 none
  statics := none }

def pool5 : Array CpInfo := pool [(1, u "java/io/Serializable"), (0, .class_ 1), (0, u "java/lang/Object"), (0, .class_ 3)] 3

/-- java/io/Serializable -/
def k5 : Class := { plain "java/io/Serializable" (some 0) with
  accessFlags := 1537
  interfaces := #[]
  cf := some (fileOf pool5 2 #[] #[] 1537 4 #[] #[])
  fields := #[]
  methods := #[]
  instanceTypes := #[]
  staticTypes := #[]
  resolved := Array.replicate 8 none
  statics := none }

/-- the primitive byte -/
def k6 : Class := { plain "byte" none with kind := .primitive 'B', accessFlags := 0x411 }
/-- [B -/
def k7 : Class := { plain "[B" (some 0) with kind := .array 6 .byte, interfaces := #[4, 5], accessFlags := 1041 }

/-- the primitive int -/
def k8 : Class := { plain "int" none with kind := .primitive 'I', accessFlags := 0x411 }
/-- [I -/
def k9 : Class := { plain "[I" (some 0) with kind := .array 8 .int, interfaces := #[4, 5], accessFlags := 1041 }

def heap : Heap := #[]
def classes : Array Class := #[k0, k1, k2, k3, k4, k5, k6, k7, k8, k9]
def interned : List (Array UInt16 × Addr) := []
def slotsUsed : Nat := 0
def theMethod : MethodId := ⟨1, 2⟩
def args0 : Array Value := #[.int 5]
def aboutOver (below : List Frame) : State where
  vm := { classes := classes, interned := interned.toArray }
  heap := heap
  slotsUsed := slotsUsed
  threads := #[{ frames := .invoking theMethod args0 :: below }]
def below0 : List Frame := [.native { method := ⟨0, 0⟩, args := #[] }]
def about1 : State := aboutOver below0
def p0 : Program := .bare "" "" ""
def e0 : Env := launch0.env 0 0 0
theorem w_frames : about1.frames = Frame.invoking theMethod args0 :: below0 := rfl
set_option maxRecDepth 65536 in
theorem w_args : argsFit about1.vm theMethod args0 = true := by decide +kernel
set_option maxRecDepth 65536 in
theorem w_heap : heapFits about1 = true := by decide +kernel
set_option maxRecDepth 65536 in
theorem w_runnable : about1.curStatus? = some .runnable := by decide +kernel
set_option maxRecDepth 65536 in
theorem w_alone : about1.alone = true := by decide +kernel
set_option maxRecDepth 65536 in
theorem w_named : about1.methodNamed? x = some theMethod := by decide +kernel
set_option maxRecDepth 65536 in
theorem w_hears : about1.hears theMethod below0 = true := by decide +kernel
set_option maxRecDepth 65536 in
theorem w_ripe : about1.ripe theMethod args0 below0 = true := by decide +kernel
theorem w_running : about1.status = .running := rfl
set_option maxRecDepth 65536 in
theorem w_room : about1.hasRoom e0.platform room_1 = true :=
  launch0.hasRoom_least _ room_1 (by decide +kernel) (by decide +kernel) (by decide +kernel) (by decide +kernel) (by decide +kernel) (by decide +kernel)
theorem allAtoms_all (ts : List Jvm.Cond) (a : Array Jvm.Value) (st : Jvm.State) : (allAtoms ts).before a st = ts.all (fun c => c.before a st) := by
  induction ts with
  | nil => rfl
  | cons c t ih =>
    show (Jvm.Cond.and c (allAtoms t)).before a st = _
    rw [Jvm.Cond.before_and, ih, List.all_cons]
def words1 : List Jvm.Cond := Jvm.Cond.code x code maxLocals ret :: tables_1
/-- a 'code' word, met by the world's own term for the bytes: nothing is compared byte by byte -/
theorem code_word {y : MethodName} {bytes : ByteArray} {mx : Nat} {rt : Option FieldType} {a : Array Value} {s : State} {m : MethodId} {meth : Method} {c : Code} (h1 : s.methodNamed? y = some m) (h2 : s.vm.method? m = some meth) (h3 : meth.code = some c) (h4 : c.code = bytes)
    (h5 : (c.maxLocals == mx && c.exceptionTable.isEmpty && decide (c.maxStack ≤ mostOperands) && decide (meth.sig.returnType = rt) && !meth.locks && decide (parseMethodDescriptor y.desc = some meth.sig)) = true) : (Jvm.Cond.code y bytes mx rt).before a s = true := by
  simp only [Bool.and_eq_true, beq_iff_eq, Bool.not_eq_true', decide_eq_true_eq] at h5
  obtain ⟨⟨⟨⟨⟨g1, g2⟩, g3⟩, g4⟩, g5⟩, g6⟩ := h5
  simp [Cond.before, Cond.holds, Cond.value, h1, h2, h3, h4, g1, g2, g3, g4, g5, g6]
def isCode : Jvm.Cond → Bool
  | .code _ _ _ _ => true
  | _ => false
theorem all_split {L : List Jvm.Cond} {P : Jvm.Cond → Bool} (h1 : L.all (fun c => isCode c || P c) = true) (h2 : ∀ c ∈ L.filter isCode, P c = true) : L.all P = true := by
  refine List.all_eq_true.mpr fun c hc => ?_
  have h := List.all_eq_true.mp h1 c hc
  rcases Bool.eq_false_or_eq_true (isCode c) with hi | hi
  · exact h2 c (List.mem_filter.mpr ⟨hc, hi⟩)
  · simpa [hi] using h
set_option maxRecDepth 65536 in
theorem w_c0 : (Jvm.Cond.code x code maxLocals ret).before args0 about1 = true := code_word (m := ⟨1, 2⟩) (meth := k1m2) (c := k1c2) (by decide +kernel) rfl rfl rfl (by decide +kernel)
set_option maxRecDepth 65536 in
theorem w_c1 : (Jvm.Cond.code ({ cls := "com/example/triplewright/triplewright/rdf/Iri", name := "cannotHold", desc := "(C)Z" } : Jvm.MethodName) prog_47_method_8_code (1 : Nat) (Option.some Jvm.ClassFile.FieldType.boolean)).before args0 about1 = true := code_word (m := ⟨3, 0⟩) (meth := k3m0) (c := k3c0) (by decide +kernel) rfl rfl rfl (by decide +kernel)
set_option maxRecDepth 65536 in
theorem w_c2 : (Jvm.Cond.code ({ cls := "com/example/triplewright/triplewright/rdf/IriCannotHoldPinLaw", name := "expected", desc := "(C)Z" } : Jvm.MethodName) method_2_code (5 : Nat) (Option.some Jvm.ClassFile.FieldType.boolean)).before args0 about1 = true := code_word (m := ⟨1, 1⟩) (meth := k1m1) (c := k1c1) (by decide +kernel) rfl rfl rfl (by decide +kernel)
def codes1 : List Jvm.Cond := [Jvm.Cond.code x code maxLocals ret, Jvm.Cond.code ({ cls := "com/example/triplewright/triplewright/rdf/Iri", name := "cannotHold", desc := "(C)Z" } : Jvm.MethodName) prog_47_method_8_code (1 : Nat) (Option.some Jvm.ClassFile.FieldType.boolean), Jvm.Cond.code ({ cls := "com/example/triplewright/triplewright/rdf/IriCannotHoldPinLaw", name := "expected", desc := "(C)Z" } : Jvm.MethodName) method_2_code (5 : Nat) (Option.some Jvm.ClassFile.FieldType.boolean)]
set_option maxRecDepth 65536 in
theorem codes_eq : words1.filter isCode = codes1 := rfl
theorem w_codes : ∀ c ∈ words1.filter isCode, c.before args0 about1 = true := by
  rw [codes_eq]
  intro c hc
  simp only [codes1, List.mem_cons, List.not_mem_nil, or_false] at hc
  rcases hc with rfl | rfl | rfl
  · exact w_c0
  · exact w_c1
  · exact w_c2
set_option maxRecDepth 65536 in
theorem w_t1 : words1.all (fun c => isCode c || c.before args0 about1) = true := by decide +kernel
theorem w_tables : (allAtoms (Jvm.Cond.code x code maxLocals ret :: tables_1)).before args0 about1 = true := by
  rw [allAtoms_all]
  show words1.all (fun c => c.before args0 about1) = true
  refine all_split ?_ w_codes
  rw [w_t1]
set_option maxRecDepth 65536 in
theorem w_case : (Jvm.Cond.and given_1 narrow_1).before args0 about1 = true := by decide +kernel
theorem w_applies : (headSpec (Jvm.Cond.code x code maxLocals ret :: tables_1) room_1).applies x e0.platform about1 = true :=
  (Spec.applies_iff w_frames).mpr ⟨w_running, w_runnable, w_alone, w_named, w_hears, w_ripe, w_room, w_tables⟩
theorem atStart : AtStart classFile x code maxLocals ret World_1 tables_1 room_1 Calls_1 rest_1 Pre_1 launch0 p0 e0 about1 theMethod args0 below0 :=
  ⟨lists_1, trivial, launch0.admits_env _ _ _, launch0.least_env, fairChoices_fair.cas, fairChoices_fair.clock, w_frames, w_args, w_heap, w_applies, trivial, trivial, w_case⟩
end start1
theorem witness_1 : WitnessClaimed_1 := ⟨start1.p0, start1.e0, start1.about1, start1.theMethod, start1.args0, start1.below0, start1.atStart⟩
end Jvm.Pilot.@@N@@
