import JvmDerived
import JvmDerived.Pilot.@@N@@Statement
import JvmDerived.Pilot.@@N@@Code
set_option linter.unusedVariables false
set_option linter.unusedSimpArgs false
namespace Jvm.RoadKit
open Sem ClassFile Op Lib Jvm.Stand Jvm.Free Jvm.LawKit
section New
variable {p : Program} {l : Launch} {e : Env} {R : Room} {s : State} {m : MethodId} {args : Array Value} {below : List Frame} {meth : Method} {c : Code} {T : State} {locs : List Loc} {cells slots : Nat}
theorem retI (X : Stand p l e R s m args below meth c T locs cells slots) (hx : p.tables.exec = Jvm.exec) {pc : Nat} {Ls : Array Slot} {z : Int32} {rest : List Value} (hret : meth.sig.returnType = some .int) (hd : decode c.code pc = .ok (.ireturn, 1)) {fs : List Frame}
    (hl : ∀ (f : JFrame) (acts : List Action), f.method = m → f.locked = none → f.entered = [] → (doReturn e (T.setTop f) acts (some (.int z))).1 = T.setFrames fs) : Steps p.tables e below (T.setTop (mkF m pc Ls (.int z :: rest))) (T.setFrames fs) := by
  have hm' : T.vm.method? m = some meth := X.method'
  have hn : narrow .int (.int z) = .int z := rfl
  show Steps p.tables e below (T.setTop { method := m, pc := pc, locals := Ls, stack := _ :: rest, locked := none }) _
  jvm_step X.here [X.here.top, hx, hd, hm', hret, hn]
  first | (intro acts; rw [hl _ acts rfl rfl rfl]) | rw [hl _ _ rfl rfl rfl]
  exact Steps.refl _
end New
end Jvm.RoadKit
namespace Jvm.RoadKit
open Sem ClassFile Op Lib Jvm.Stand Jvm.Free Jvm.LawKit
theorem own_lsw {tb : Tables} [Ours tb] {e : Env} {below : List Frame} {T target : State} {m : MethodId} {c : Code} {g : JFrame} (h : At T m c below) (hx : tb.exec = Jvm.exec) (hg : g.method = m) {dflt : Int} {pairs : Array (Int × Int)} {len : Nat} {pc0 pc' : Nat} (hpc : g.pc = pc0) (hd : decode c.code g.pc = .ok (.lookupswitch dflt pairs, len)) {i : Int32} {rest : List Value} (hs : g.stack = .int i :: rest) {o : Int}
    (hoff : lookupswitch.offset pairs.toList dflt i.toInt = o) (hso : (pairs.toList.zip (pairs.toList.drop 1)).all (fun (a, next) => a.1 < next.1) = true) (ho : 0 ≤ (pc0 : Int) + o) (hp : ((pc0 : Int) + o).toNat = pc')
    (hr : Steps tb e below (T.setTop { g with pc := pc', stack := rest }) target) : Steps tb e below (T.setTop g) target := by
  subst hg hpc hp
  jvm_step h [h.top, hx, hd, hs, hoff, ho, lookupswitch.wp_chain]
  exact ⟨by simpa using hso, hr⟩
theorem own_off_no {k d : Int} : ∀ {L : List (Int × Int)}, (∀ q ∈ L, ¬ q.1 = k) → lookupswitch.offset L d k = d
  | [], _ => rfl
  | (a, o) :: r, h => by rw [lookupswitch.offset_cons, if_neg (h (a, o) (List.mem_cons_self ..))]; exact own_off_no fun q hq => h q (List.mem_cons_of_mem _ hq)
theorem own_ne_lit {x k : Int32} (h : ¬ x = k) {z : Int} (hz : k.toInt = z) : ¬ z = x.toInt := fun q => h (Int32.toInt_inj.mp (by rw [← q, hz]))
def own_rem (x y : Int32) : Int32 := x - (x / y) * y
def bi (P : Prop) [Decidable P] : Int32 := if P then 1 else 0
theorem bi_t {P : Prop} [Decidable P] (h : P) : bi P = 1 := if_pos h
theorem bi_f {P : Prop} [Decidable P] (h : ¬ P) : bi P = 0 := if_neg h
theorem bi_nar {P : Prop} [Decidable P] : nar .boolean (bi P) = bi P := by unfold bi; split <;> rfl
theorem bi_0 {P : Prop} [Decidable P] : (bi P = 0) ↔ ¬ P := by unfold bi; split <;> simp_all
theorem bi_inj {P Q : Prop} [Decidable P] [Decidable Q] (h : P ↔ Q) : bi P = bi Q := by unfold bi; simp only [h]
end Jvm.RoadKit
namespace Jvm.RoadKit
open Sem ClassFile Op Lib Jvm.Stand Jvm.Free Jvm.LawKit
section OwnWords
variable {args : Array Value} {s : State} {idx : List Nat} {t i : Term} {aT : Addr} {cl : Cell} {b k A B z : Int32}
theorem own_or {G Y : Cond} (h : (Cond.or G Y).value args s none s idx = some true) (hg : G.value args s none s idx = some false) : Y.value args s none s idx = some true := by
  simpa only [Cond.value, hg] using h
theorem own_el (h : (Cond.eq (.elem t i) (.int b)).value args s none s idx = some true) (ht : t.eval args s none idx s = some (.ref aT)) (hi : i.eval args s none idx s = some (.int k)) (hc : s.heap[aT]? = some cl) : atv cl k = b := by
  obtain ⟨x, y, e1, e2, -, -⟩ := cmp_v (Or.inl h)
  obtain ⟨-, e3⟩ := elem_in e1 ht hi hc
  have e4 : (Term.int b).eval args s none idx s = some (.int b) := rfl
  cases e4.symm.trans e2
  have e5 : x = .int b := by cases x <;> simp [Cond.value, e1, e4] at h; rw [h]
  subst e5
  exact atv_of e3
theorem own_r1 (h : (Cond.all t (.or (.le (.int A) (.index 0)) (.eq (.elem t (.index 0)) (.int b)))).value args s none s [] = some true) (ht : ∀ idx, t.eval args s none idx s = some (.ref aT)) (hc : s.heap[aT]? = some cl) (ha : s.arrayAt? aT = some cl) {n : Nat} (hn : n < cl.slots.size) (h1 : ¬ A ≤ n.toInt32) : atv cl n.toInt32 = b := by
  have q := Cond.all_elim (ht []) ha h n hn
  exact own_el (own_or q (by simp [Cond.value, Term.eval, h1])) (ht _) (by simp [Term.eval]) hc
theorem own_r2 (h : (Cond.all t (.or (.lt (.index 0) (.int A)) (.or (.le (.int B) (.index 0)) (.eq (.elem t (.index 0)) (.int b))))).value args s none s [] = some true) (ht : ∀ idx, t.eval args s none idx s = some (.ref aT)) (hc : s.heap[aT]? = some cl) (ha : s.arrayAt? aT = some cl) {n : Nat} (hn : n < cl.slots.size) (h1 : ¬ n.toInt32 < A) (h2 : ¬ B ≤ n.toInt32) : atv cl n.toInt32 = b := by
  have q := Cond.all_elim (ht []) ha h n hn
  exact own_el (own_or (own_or q (by simp [Cond.value, Term.eval, h1])) (by simp [Cond.value, Term.eval, h2])) (ht _) (by simp [Term.eval]) hc
theorem own_len (h : (Cond.eq (.length t) (.int z)).value args s none s idx = some true) (ht : t.eval args s none idx s = some (.ref aT)) (ha : s.arrayAt? aT = some cl) : cl.slots.size < 2 ^ 31 ∧ cl.slots.size.toInt32 = z := by
  by_cases q : cl.slots.size < 2 ^ 31
  · simp [Cond.value, Term.eval, ht, ha, q] at h; exact ⟨q, h⟩
  · simp [Cond.value, Term.eval, ht, ha, q] at h
theorem own_sta_idx {C n d : String} {v : Value} (h : (Term.static C n d).eval args s none [] s = some v) (idx : List Nat) : (Term.static C n d).eval args s none idx s = some v := by
  simp only [Term.eval] at h ⊢; exact h
end OwnWords
theorem own_toInt_ofNat {n : Nat} (h : n < 2147483648) : (Int32.ofNat n).toInt = n := Int32.toInt_ofNat_small h
theorem own_of_rng {c : Int32} (h0 : ¬ c < 0) : c = Int32.ofNat c.toInt.toNat := by
  have h0' : 0 ≤ c.toInt := by rw [Int32.lt_iff_toInt_lt] at h0; have : (0 : Int32).toInt = 0 := rfl; omega
  have := c.toInt_lt
  apply Int32.toInt_inj.mp
  rw [own_toInt_ofNat (by omega)]; omega
end Jvm.RoadKit
namespace Jvm.RoadKit
open Sem ClassFile Op Lib Jvm.Stand Jvm.Free Jvm.LawKit
theorem own_ord {args : Array Value} {s : State} {t : Term} {a : Addr} {k : Int32} {C n d : String} (h : (Cond.eq (.field t C n d) (.int k)).value args s none s [] = some true) (ht : t.eval args s none [] s = some (.ref a)) : s.fieldOf? a C n d = some (.int k) := by
  obtain ⟨x, y, e1, e2, -, -⟩ := cmp_v (Or.inl h)
  have e4 : (Term.int k).eval args s none [] s = some (.int k) := rfl
  have e5 : x = .int k := by cases x <;> simp [Cond.value, e1, e4] at h; rw [h]
  rw [fld_at ht] at e1
  rw [e1, e5]
theorem own_ord_ne {o : Addr → Option Value} {a b : Addr} {j k : Int32} (h1 : o a = some (.int j)) (h2 : o b = some (.int k)) (hjk : ¬ j = k) : ¬ a = b := fun e => by
  subst e; exact hjk (Value.int.inj (Option.some.inj (h1.symm.trans h2)))
theorem own_and7 (x : Int32) : (x &&& 7).toInt = 0 ∨ (x &&& 7).toInt = 1 ∨ (x &&& 7).toInt = 2 ∨ (x &&& 7).toInt = 3 ∨ (x &&& 7).toInt = 4 ∨ (x &&& 7).toInt = 5 ∨ (x &&& 7).toInt = 6 ∨ (x &&& 7).toInt = 7 := by
  have h := c_mask x 7 3 (by decide) (by decide)
  have : ((2 ^ 3 : Nat) : Int) = 8 := rfl
  omega
theorem own_i32 {x k : Int32} {z : Int} (h : x.toInt = z) (hk : k.toInt = z) : x = k := Int32.toInt_inj.mp (h.trans hk.symm)
end Jvm.RoadKit
namespace Jvm.Pilot.@@N@@
open Jvm Jvm.ClassFile Sem Op Lib Jvm.Free Jvm.Stand Jvm.LawKit Jvm.RoadKit Bundle Jvm.Pilot.@@N@@.Jvm.D
def own_tv (n : Nat) : Int32 := if n < 33 then 0 else if n = 33 then 1 else if n = 34 then 0 else if n < 40 then 1 else if n = 40 then 0 else if n = 41 then 0 else if n = 42 then 1 else if n = 43 then 1 else if n = 44 then 0 else if n = 45 then 1 else if n = 46 then 1 else if n = 47 then 0 else if n < 58 then 1 else if n < 65 then 0 else if n < 91 then 1 else if n = 91 then 0 else if n = 92 then 0 else if n = 93 then 0 else if n < 123 then 1 else if n = 123 then 0 else if n = 124 then 1 else if n = 125 then 0 else if n = 126 then 1 else if n = 127 then 0 else 0
def own_tok (cl : Cell) (p : Int32) : Int32 := if p < (0 : Int32) then 0 else if p < (128 : Int32) then (if atv cl p = (0 : Int32) then 0 else 1) else 0
def QT (Z : State) (p1 : Int32) (aT : Addr) (cl : Cell) (h0 : Heap) (n0 : Nat) (v : Option Value) (h : Heap) (L : List Loc) : Prop := v = some (.int (own_tok cl p1)) ∧ Fr n0 L ∧ h = h0
theorem ef_T (m : MethodId) (x0 : Int32) : entryFrame m #[(.int x0)] 1 = mkF m 0 #[.val (.int x0)] [] := by first | (simp [entryFrame, mkF, argsToLocals, Value.category]; done) | rfl
theorem pn_HttpSyntax : plainName "com/example/lean_router/leanrouter/http/HttpSyntax" = true := by first | (simp [plainName, overriddenIn]; done) | decide +kernel
theorem d_prog_25_method_3_0 : decode prog_25_method_3_code 0 = .ok (.iload_n 0, 1) := by decide +kernel
theorem d_prog_25_method_3_1 : decode prog_25_method_3_code 1 = .ok (.ifCond .lt 23, 3) := by decide +kernel
theorem d_prog_25_method_3_24 : decode prog_25_method_3_code 24 = .ok (.iconst 0, 1) := by decide +kernel
theorem d_prog_25_method_3_25 : decode prog_25_method_3_code 25 = .ok (.ireturn, 1) := by decide +kernel
theorem d_prog_25_method_3_4 : decode prog_25_method_3_code 4 = .ok (.iload_n 0, 1) := by decide +kernel
theorem d_prog_25_method_3_5 : decode prog_25_method_3_code 5 = .ok (.getstatic 29, 3) := by decide +kernel
theorem d_prog_25_method_3_8 : decode prog_25_method_3_code 8 = .ok (.arraylength, 1) := by decide +kernel
theorem d_prog_25_method_3_9 : decode prog_25_method_3_code 9 = .ok (.if_icmp .ge 15, 3) := by decide +kernel
theorem d_prog_25_method_3_12 : decode prog_25_method_3_code 12 = .ok (.getstatic 29, 3) := by decide +kernel
theorem d_prog_25_method_3_15 : decode prog_25_method_3_code 15 = .ok (.iload_n 0, 1) := by decide +kernel
theorem d_prog_25_method_3_16 : decode prog_25_method_3_code 16 = .ok (.baload, 1) := by decide +kernel
theorem d_prog_25_method_3_17 : decode prog_25_method_3_code 17 = .ok (.ifCond .eq 7, 3) := by decide +kernel
theorem d_prog_25_method_3_20 : decode prog_25_method_3_code 20 = .ok (.iconst 1, 1) := by decide +kernel
theorem d_prog_25_method_3_21 : decode prog_25_method_3_code 21 = .ok (.goto 4, 3) := by decide +kernel
set_option maxRecDepth 65536 in
set_option maxHeartbeats 40000000 in
theorem rmT (l : Launch) (Z : State) (a0 : Array Value) (hw : ∀ d ∈ tables_1, d.before a0 Z = true) (ws : List Jvm.Cond) (p1 : Int32) (aT : Addr) (cl : Cell) (h0 : Heap) (n0 : Nat) (Z0 : n0 ≤ h0.size) (ST : Sta Z h0 "com/example/lean_router/leanrouter/http/HttpSyntax" "TOKEN_CHARS" "[Z" (.ref aT)) (TB : Tab Z h0 aT cl .boolean 128) :
    MetFree l (⟨"com/example/lean_router/leanrouter/http/HttpSyntax", "isTokenChar", "(I)Z"⟩ : MethodName) (head1 (Jvm.Cond.code (⟨"com/example/lean_router/leanrouter/http/HttpSyntax", "isTokenChar", "(I)Z"⟩ : MethodName) prog_25_method_3_code 1 (some .boolean) :: ws) ({ frames := 0, cells := 0, slots := 0, locals := 0 } : Room)) (fun a' U => a' = #[(.int p1)] ∧ Z.Warmed39 U.vm ∧ U.heap = h0) (fun _ _ _ _ _ => True) (fun _ U o U' => ∃ v L, o = .returned v ∧ QT Z p1 aT cl h0 n0 v U'.heap L ∧ FrameEnd U o U' L ({ frames := 0, cells := 0, slots := 0, locals := 0 } : Room).cells ({ frames := 0, cells := 0, slots := 0, locals := 0 } : Room).slots) := by
  refine MetFree.of_bodySF (plainFor_of_name pn_HttpSyntax) hisR ?_
  intro p e s m args below meth c s₁ Bd hml0 hP hK
  obtain ⟨rfl, hZ, hh⟩ := hP
  have hx := Bd.exec
  have hby := Bd.bytes
  have hml : c.maxLocals = 1 := hml0
  have hown : s.vm.findClass "com/example/lean_router/leanrouter/http/HttpSyntax" = some m.cls := findClass_of_methodNamed Bd.named
  have hnm := (name_of_methodNamed Bd.named Bd.method).1
  have X0 : Stand p l e ({ frames := 0, cells := 0, slots := 0, locals := 0 } : Room) s m #[(.int p1)] below meth c s₁ [] 0 0 := Stand.of_body Bd
  have e0 : s₁.heap = h0 := by rw [← hh, Bd.state]; rfl
  have N0 := Fr.nil n0
  have Zn := Z0
  have pre0 : ∀ t, Steps p.tables e below (s₁.setTop (mkF m 0 #[.val (.int p1)] [])) t → Steps p.tables e below (s₁.setTop (entryFrame m #[(.int p1)] 1)) t := fun t q => castTop (ef_T m p1) q
  have k0 : ∀ t, Steps p.tables e below (s₁.setTop (mkF m 0 #[.val (.int p1)] [])) t → Steps p.tables e below (s₁.setTop (mkF m 0 #[.val (.int p1)] [])) t := fun t q => q
  have k1_ : ∀ t, Steps p.tables e below (s₁.setTop (mkF m 1 #[.val (.int p1)] [(.int p1)])) t → Steps p.tables e below (s₁.setTop (mkF m 0 #[.val (.int p1)] [])) t := by
    intro t q
    refine k0 _ ?_
    show Steps p.tables e below (s₁.setTop (mkF m 0 #[.val (.int p1)] [])) _
    refine XS.iloadN X0.here hx rfl (hb hby d_prog_25_method_3_0) rfl ?_
    show Steps p.tables e below (s₁.setTop (mkF m 1 #[.val (.int p1)] [(.int p1)])) _
    exact q
  by_cases ha : p1 < (0 : Int32)
  · have k2_ : ∀ t, Steps p.tables e below (s₁.setTop (mkF m 24 #[.val (.int p1)] [])) t → Steps p.tables e below (s₁.setTop (mkF m 0 #[.val (.int p1)] [])) t := by
      intro t q
      refine k1_ _ ?_
      show Steps p.tables e below (s₁.setTop (mkF m 1 #[.val (.int p1)] [(.int p1)])) _
      refine XS.ifYes X0.here hx rfl (pc0 := 1) (pc' := 24) rfl (hb hby d_prog_25_method_3_1) rfl ((if0 _ _).trans (tlt ha).1) (by decide) (by decide) ?_
      show Steps p.tables e below (s₁.setTop (mkF m 24 #[.val (.int p1)] [])) _
      exact q
    have k3_ : ∀ t, Steps p.tables e below (s₁.setTop (mkF m 25 #[.val (.int p1)] [(.int (0 : Int32))])) t → Steps p.tables e below (s₁.setTop (mkF m 0 #[.val (.int p1)] [])) t := by
      intro t q
      refine k2_ _ ?_
      show Steps p.tables e below (s₁.setTop (mkF m 24 #[.val (.int p1)] [])) _
      refine XS.iconst X0.here hx rfl (hb hby d_prog_25_method_3_24) ?_
      show Steps p.tables e below (s₁.setTop (mkF m 25 #[.val (.int p1)] [(.int (0 : Int32))])) _
      exact q
    obtain ⟨fs, hr, hrun, hended, hW, hsame⟩ := X0.leave (v := some (.int (0 : Int32))) (fun h => by rw [Bd.returns] at h; cases h)
    refine ⟨_, _, pre0 _ (k3_ _ ?_), hrun, hended, _, _, rfl, ?_, ⟨_, rfl⟩, hW, hsame.mono (by decide) (by decide)⟩
    · show Steps p.tables e below (s₁.setTop (mkF m 25 #[.val (.int p1)] [(.int (0 : Int32))])) _
      exact retN X0 hx (t := .boolean) Bd.returns (by simp) (hb hby d_prog_25_method_3_25) hr
    · show QT Z p1 aT cl h0 n0 _ s₁.heap _
      rw [e0]
      exact ⟨by unfold own_tok; rw [if_pos ha], N0, rfl⟩
  · have k4_ : ∀ t, Steps p.tables e below (s₁.setTop (mkF m 4 #[.val (.int p1)] [])) t → Steps p.tables e below (s₁.setTop (mkF m 0 #[.val (.int p1)] [])) t := by
      intro t q
      refine k1_ _ ?_
      show Steps p.tables e below (s₁.setTop (mkF m 1 #[.val (.int p1)] [(.int p1)])) _
      refine XS.ifNo X0.here hx rfl (hb hby d_prog_25_method_3_1) rfl ((if0 _ _).trans (flt ha).1) ?_
      show Steps p.tables e below (s₁.setTop (mkF m 4 #[.val (.int p1)] [])) _
      exact q
    have k5_ : ∀ t, Steps p.tables e below (s₁.setTop (mkF m 5 #[.val (.int p1)] [(.int p1)])) t → Steps p.tables e below (s₁.setTop (mkF m 0 #[.val (.int p1)] [])) t := by
      intro t q
      refine k4_ _ ?_
      show Steps p.tables e below (s₁.setTop (mkF m 4 #[.val (.int p1)] [])) _
      refine XS.iloadN X0.here hx rfl (hb hby d_prog_25_method_3_4) rfl ?_
      show Steps p.tables e below (s₁.setTop (mkF m 5 #[.val (.int p1)] [(.int p1)])) _
      exact q
    obtain ⟨T6, X6, e6, st6⟩ := getS2 X0 hx hZ hown (host := "") (Or.inl (hw _ (List.mem_of_getElem? (i := 4) rfl))) Via.refl e0 ST (g := (mkF m 5 #[.val (.int p1)] [(.int p1)])) rfl (hb hby d_prog_25_method_3_5)
    have k7_ : ∀ t, Steps p.tables e below (T6.setTop (mkF m 8 #[.val (.int p1)] [(.ref aT), (.int p1)])) t → Steps p.tables e below (s₁.setTop (mkF m 0 #[.val (.int p1)] [])) t := fun t q => k5_ t (st6 t q)
    have k8_ : ∀ t, Steps p.tables e below (T6.setTop (mkF m 9 #[.val (.int p1)] [(.int (128 : Int32)), (.int p1)])) t → Steps p.tables e below (s₁.setTop (mkF m 0 #[.val (.int p1)] [])) t := by
      intro t q
      refine k7_ _ ?_
      show Steps p.tables e below (T6.setTop (mkF m 8 #[.val (.int p1)] [(.ref aT), (.int p1)])) _
      refine X6.arraylength hx (by rw [e6]; exact TB.1.1) (State.isArrayOf_alike hZ.alike TB.1.2.1) (g := (mkF m 8 #[.val (.int p1)] [(.ref aT), (.int p1)])) rfl rfl (hb hby d_prog_25_method_3_8) _ ?_
      rw [len_of TB.2.1 TB.2.2.1]
      show Steps p.tables e below (T6.setTop (mkF m 9 #[.val (.int p1)] [(.int (128 : Int32)), (.int p1)])) _
      exact q
    by_cases hb2 : p1 < (128 : Int32)
    · have k9_ : ∀ t, Steps p.tables e below (T6.setTop (mkF m 12 #[.val (.int p1)] [])) t → Steps p.tables e below (s₁.setTop (mkF m 0 #[.val (.int p1)] [])) t := by
        intro t q
        refine k8_ _ ?_
        show Steps p.tables e below (T6.setTop (mkF m 9 #[.val (.int p1)] [(.int (128 : Int32)), (.int p1)])) _
        refine XS.icmpNo X6.here hx rfl (hb hby d_prog_25_method_3_9) rfl (tlt hb2).2.1 ?_
        show Steps p.tables e below (T6.setTop (mkF m 12 #[.val (.int p1)] [])) _
        exact q
      obtain ⟨T10, X10, e10, st10⟩ := getS2 X6 hx hZ hown (host := "") (Or.inl (hw _ (List.mem_of_getElem? (i := 4) rfl))) Via.refl e6 ST (g := (mkF m 12 #[.val (.int p1)] [])) rfl (hb hby d_prog_25_method_3_12)
      have k11_ : ∀ t, Steps p.tables e below (T10.setTop (mkF m 15 #[.val (.int p1)] [(.ref aT)])) t → Steps p.tables e below (s₁.setTop (mkF m 0 #[.val (.int p1)] [])) t := fun t q => k9_ t (st10 t q)
      have k12_ : ∀ t, Steps p.tables e below (T10.setTop (mkF m 17 #[.val (.int p1)] [(.int (atv cl p1))])) t → Steps p.tables e below (s₁.setTop (mkF m 0 #[.val (.int p1)] [])) t := by
        intro t q
        refine k11_ _ ?_
        show Steps p.tables e below (T10.setTop (mkF m 15 #[.val (.int p1)] [(.ref aT)])) _
        refine XS.iloadN X10.here hx rfl (hb hby d_prog_25_method_3_15) rfl ?_
        show Steps p.tables e below (T10.setTop (mkF m 16 #[.val (.int p1)] [(.int p1), (.ref aT)])) _
        refine X10.baloadBooleans hx (j := p1) (v := (.int (atv cl p1))) (by rw [e10]; exact TB.1.1) (State.isArrayOf_alike hZ.alike TB.1.2.1) TB.1.2.2 (inb_of TB.2.1 ⟨ha, hb2⟩) (TB.2.2.2 _ (inb_of TB.2.1 ⟨ha, hb2⟩)) (g := (mkF m 16 #[.val (.int p1)] [(.int p1), (.ref aT)])) rfl rfl (hb hby d_prog_25_method_3_16) _ ?_
        show Steps p.tables e below (T10.setTop (mkF m 17 #[.val (.int p1)] [(.int (atv cl p1))])) _
        exact q
      by_cases hc2 : (atv cl p1) = (0 : Int32)
      · have k13_ : ∀ t, Steps p.tables e below (T10.setTop (mkF m 24 #[.val (.int p1)] [])) t → Steps p.tables e below (s₁.setTop (mkF m 0 #[.val (.int p1)] [])) t := by
          intro t q
          refine k12_ _ ?_
          show Steps p.tables e below (T10.setTop (mkF m 17 #[.val (.int p1)] [(.int (atv cl p1))])) _
          refine XS.ifYes X10.here hx rfl (pc0 := 17) (pc' := 24) rfl (hb hby d_prog_25_method_3_17) rfl ((if0 _ _).trans (teq hc2).1) (by decide) (by decide) ?_
          show Steps p.tables e below (T10.setTop (mkF m 24 #[.val (.int p1)] [])) _
          exact q
        have k14_ : ∀ t, Steps p.tables e below (T10.setTop (mkF m 25 #[.val (.int p1)] [(.int (0 : Int32))])) t → Steps p.tables e below (s₁.setTop (mkF m 0 #[.val (.int p1)] [])) t := by
          intro t q
          refine k13_ _ ?_
          show Steps p.tables e below (T10.setTop (mkF m 24 #[.val (.int p1)] [])) _
          refine XS.iconst X10.here hx rfl (hb hby d_prog_25_method_3_24) ?_
          show Steps p.tables e below (T10.setTop (mkF m 25 #[.val (.int p1)] [(.int (0 : Int32))])) _
          exact q
        obtain ⟨fs, hr, hrun, hended, hW, hsame⟩ := X10.leave (v := some (.int (0 : Int32))) (fun h => by rw [Bd.returns] at h; cases h)
        refine ⟨_, _, pre0 _ (k14_ _ ?_), hrun, hended, _, _, rfl, ?_, ⟨_, rfl⟩, hW, hsame.mono (by decide) (by decide)⟩
        · show Steps p.tables e below (T10.setTop (mkF m 25 #[.val (.int p1)] [(.int (0 : Int32))])) _
          exact retN X10 hx (t := .boolean) Bd.returns (by simp) (hb hby d_prog_25_method_3_25) hr
        · show QT Z p1 aT cl h0 n0 _ T10.heap _
          rw [e10]
          exact ⟨by unfold own_tok; rw [if_neg ha, if_pos hb2, if_pos hc2], N0, rfl⟩
      · have k15_ : ∀ t, Steps p.tables e below (T10.setTop (mkF m 20 #[.val (.int p1)] [])) t → Steps p.tables e below (s₁.setTop (mkF m 0 #[.val (.int p1)] [])) t := by
          intro t q
          refine k12_ _ ?_
          show Steps p.tables e below (T10.setTop (mkF m 17 #[.val (.int p1)] [(.int (atv cl p1))])) _
          refine XS.ifNo X10.here hx rfl (hb hby d_prog_25_method_3_17) rfl ((if0 _ _).trans (feq hc2).1) ?_
          show Steps p.tables e below (T10.setTop (mkF m 20 #[.val (.int p1)] [])) _
          exact q
        have k16_ : ∀ t, Steps p.tables e below (T10.setTop (mkF m 25 #[.val (.int p1)] [(.int (1 : Int32))])) t → Steps p.tables e below (s₁.setTop (mkF m 0 #[.val (.int p1)] [])) t := by
          intro t q
          refine k15_ _ ?_
          show Steps p.tables e below (T10.setTop (mkF m 20 #[.val (.int p1)] [])) _
          refine XS.iconst X10.here hx rfl (hb hby d_prog_25_method_3_20) ?_
          show Steps p.tables e below (T10.setTop (mkF m 21 #[.val (.int p1)] [(.int (1 : Int32))])) _
          refine XS.goto X10.here hx rfl (pc0 := 21) (pc' := 25) rfl (hb hby d_prog_25_method_3_21) (by decide) (by decide) ?_
          show Steps p.tables e below (T10.setTop (mkF m 25 #[.val (.int p1)] [(.int (1 : Int32))])) _
          exact q
        obtain ⟨fs, hr, hrun, hended, hW, hsame⟩ := X10.leave (v := some (.int (1 : Int32))) (fun h => by rw [Bd.returns] at h; cases h)
        refine ⟨_, _, pre0 _ (k16_ _ ?_), hrun, hended, _, _, rfl, ?_, ⟨_, rfl⟩, hW, hsame.mono (by decide) (by decide)⟩
        · show Steps p.tables e below (T10.setTop (mkF m 25 #[.val (.int p1)] [(.int (1 : Int32))])) _
          exact retN X10 hx (t := .boolean) Bd.returns (by simp) (hb hby d_prog_25_method_3_25) hr
        · show QT Z p1 aT cl h0 n0 _ T10.heap _
          rw [e10]
          exact ⟨by unfold own_tok; rw [if_neg ha, if_pos hb2, if_neg hc2], N0, rfl⟩
    · have k17_ : ∀ t, Steps p.tables e below (T6.setTop (mkF m 24 #[.val (.int p1)] [])) t → Steps p.tables e below (s₁.setTop (mkF m 0 #[.val (.int p1)] [])) t := by
        intro t q
        refine k8_ _ ?_
        show Steps p.tables e below (T6.setTop (mkF m 9 #[.val (.int p1)] [(.int (128 : Int32)), (.int p1)])) _
        refine XS.icmpYes X6.here hx rfl (pc0 := 9) (pc' := 24) rfl (hb hby d_prog_25_method_3_9) rfl (flt hb2).2.1 (by decide) (by decide) ?_
        show Steps p.tables e below (T6.setTop (mkF m 24 #[.val (.int p1)] [])) _
        exact q
      have k18_ : ∀ t, Steps p.tables e below (T6.setTop (mkF m 25 #[.val (.int p1)] [(.int (0 : Int32))])) t → Steps p.tables e below (s₁.setTop (mkF m 0 #[.val (.int p1)] [])) t := by
        intro t q
        refine k17_ _ ?_
        show Steps p.tables e below (T6.setTop (mkF m 24 #[.val (.int p1)] [])) _
        refine XS.iconst X6.here hx rfl (hb hby d_prog_25_method_3_24) ?_
        show Steps p.tables e below (T6.setTop (mkF m 25 #[.val (.int p1)] [(.int (0 : Int32))])) _
        exact q
      obtain ⟨fs, hr, hrun, hended, hW, hsame⟩ := X6.leave (v := some (.int (0 : Int32))) (fun h => by rw [Bd.returns] at h; cases h)
      refine ⟨_, _, pre0 _ (k18_ _ ?_), hrun, hended, _, _, rfl, ?_, ⟨_, rfl⟩, hW, hsame.mono (by decide) (by decide)⟩
      · show Steps p.tables e below (T6.setTop (mkF m 25 #[.val (.int p1)] [(.int (0 : Int32))])) _
        exact retN X6 hx (t := .boolean) Bd.returns (by simp) (hb hby d_prog_25_method_3_25) hr
      · show QT Z p1 aT cl h0 n0 _ T6.heap _
        rw [e6]
        exact ⟨by unfold own_tok; rw [if_neg ha, if_neg hb2], N0, rfl⟩
abbrev own_D (p : Int32) : Prop := ¬ p < (48 : Int32) ∧ ¬ (57 : Int32) < p
abbrev own_U (p : Int32) : Prop := ¬ p < (65 : Int32) ∧ ¬ (90 : Int32) < p
abbrev own_L (p : Int32) : Prop := ¬ p < (97 : Int32) ∧ ¬ (122 : Int32) < p
abbrev own_S (p : Int32) : Prop := p = (33 : Int32) ∨ p = (35 : Int32) ∨ p = (36 : Int32) ∨ p = (37 : Int32) ∨ p = (38 : Int32) ∨ p = (39 : Int32) ∨ p = (42 : Int32) ∨ p = (43 : Int32) ∨ p = (45 : Int32) ∨ p = (46 : Int32) ∨ p = (94 : Int32) ∨ p = (95 : Int32) ∨ p = (96 : Int32) ∨ p = (124 : Int32) ∨ p = (126 : Int32)
abbrev own_T (p : Int32) : Prop := ¬ bi (own_D p) = 0 ∨ ¬ bi (own_U p) = 0 ∨ ¬ bi (own_L p) = 0 ∨ ¬ bi (own_S p) = 0
theorem own_all : ∀ n : Fin 128, (if own_tv n.val = (0 : Int32) then (0 : Int32) else 1) = bi (own_T (Int32.ofNat n.val)) := by decide +kernel
theorem own_eq {cl : Cell} (h : ∀ n, n < 128 → atv cl (Int32.ofNat n) = own_tv n) (p : Int32) : own_tok cl p = bi (own_T p) := by
  have lt : ∀ x y : Int32, x < y ↔ x.toInt < y.toInt := fun x y => Int32.lt_iff_toInt_lt
  have far : (p < 0 ∨ ¬ p < 128) → ¬ own_T p := by
    intro q
    have g : ∀ k : Int32, ¬ k < 0 → k < 128 → ¬ p = k := fun k h1 h2 e => by subst e; exact q.elim h1 (fun z => z h2)
    have hD : ¬ own_D p := fun z => by
      have z1 := z.1; have z2 := z.2; rw [lt] at z1 z2 q; rw [lt] at q
      have : (48 : Int32).toInt = 48 := rfl; have : (57 : Int32).toInt = 57 := rfl; have : (128 : Int32).toInt = 128 := rfl; have : (0 : Int32).toInt = 0 := rfl; omega
    have hU : ¬ own_U p := fun z => by
      have z1 := z.1; have z2 := z.2; rw [lt] at z1 z2 q; rw [lt] at q
      have : (65 : Int32).toInt = 65 := rfl; have : (90 : Int32).toInt = 90 := rfl; have : (128 : Int32).toInt = 128 := rfl; have : (0 : Int32).toInt = 0 := rfl; omega
    have hL : ¬ own_L p := fun z => by
      have z1 := z.1; have z2 := z.2; rw [lt] at z1 z2 q; rw [lt] at q
      have : (97 : Int32).toInt = 97 := rfl; have : (122 : Int32).toInt = 122 := rfl; have : (128 : Int32).toInt = 128 := rfl; have : (0 : Int32).toInt = 0 := rfl; omega
    have hS : ¬ own_S p := by
      rintro (e | e | e | e | e | e | e | e | e | e | e | e | e | e | e) <;> exact g _ (by decide) (by decide) e
    rintro (z | z | z | z)
    · exact z (bi_f hD)
    · exact z (bi_f hU)
    · exact z (bi_f hL)
    · exact z (bi_f hS)
  unfold own_tok
  by_cases h0 : p < 0
  · rw [if_pos h0, bi_f (far (Or.inl h0))]
  · rw [if_neg h0]
    by_cases h1 : p < 128
    · rw [if_pos h1]
      have e := own_of_rng h0
      have hn : p.toInt.toNat < 128 := by rw [lt] at h0 h1; have : (128 : Int32).toInt = 128 := rfl; have : (0 : Int32).toInt = 0 := rfl; omega
      rw [e, h _ hn]
      exact own_all ⟨_, hn⟩
    · rw [if_neg h1, bi_f (far (Or.inr h1))]
def QE (Z : State) (p1 : Int32) (h0 : Heap) (n0 : Nat) (v : Option Value) (h : Heap) (L : List Loc) : Prop := v = some (.int (bi (own_T p1))) ∧ Fr n0 L ∧ h = h0
theorem ef_E (m : MethodId) (x0 : Int32) : entryFrame m #[(.int x0)] 5 = mkF m 0 #[.val (.int x0), .unset, .unset, .unset, .unset] [] := by first | (simp [entryFrame, mkF, argsToLocals, Value.category]; done) | rfl
theorem pn_HttpSyntaxIsTokenCharPinLaw : plainName "com/example/lean_router/leanrouter/http/HttpSyntaxIsTokenCharPinLaw" = true := by first | (simp [plainName, overriddenIn]; done) | decide +kernel
theorem d_method_2_0 : decode method_2_code 0 = .ok (.iload_n 0, 1) := by decide +kernel
theorem d_method_2_1 : decode method_2_code 1 = .ok (.bipush 48, 2) := by decide +kernel
theorem d_method_2_3 : decode method_2_code 3 = .ok (.if_icmp .lt 13, 3) := by decide +kernel
theorem d_method_2_16 : decode method_2_code 16 = .ok (.iconst 0, 1) := by decide +kernel
theorem d_method_2_6 : decode method_2_code 6 = .ok (.iload_n 0, 1) := by decide +kernel
theorem d_method_2_7 : decode method_2_code 7 = .ok (.bipush 57, 2) := by decide +kernel
theorem d_method_2_9 : decode method_2_code 9 = .ok (.if_icmp .gt 7, 3) := by decide +kernel
theorem d_method_2_12 : decode method_2_code 12 = .ok (.iconst 1, 1) := by decide +kernel
theorem d_method_2_13 : decode method_2_code 13 = .ok (.goto 4, 3) := by decide +kernel
theorem d_method_2_17 : decode method_2_code 17 = .ok (.istore_n 1, 1) := by decide +kernel
theorem d_method_2_18 : decode method_2_code 18 = .ok (.iload_n 0, 1) := by decide +kernel
theorem d_method_2_19 : decode method_2_code 19 = .ok (.bipush 65, 2) := by decide +kernel
theorem d_method_2_21 : decode method_2_code 21 = .ok (.if_icmp .lt 13, 3) := by decide +kernel
theorem d_method_2_34 : decode method_2_code 34 = .ok (.iconst 0, 1) := by decide +kernel
theorem d_method_2_24 : decode method_2_code 24 = .ok (.iload_n 0, 1) := by decide +kernel
theorem d_method_2_25 : decode method_2_code 25 = .ok (.bipush 90, 2) := by decide +kernel
theorem d_method_2_27 : decode method_2_code 27 = .ok (.if_icmp .gt 7, 3) := by decide +kernel
theorem d_method_2_30 : decode method_2_code 30 = .ok (.iconst 1, 1) := by decide +kernel
theorem d_method_2_31 : decode method_2_code 31 = .ok (.goto 4, 3) := by decide +kernel
theorem d_method_2_35 : decode method_2_code 35 = .ok (.istore_n 2, 1) := by decide +kernel
theorem d_method_2_36 : decode method_2_code 36 = .ok (.iload_n 0, 1) := by decide +kernel
theorem d_method_2_37 : decode method_2_code 37 = .ok (.bipush 97, 2) := by decide +kernel
theorem d_method_2_39 : decode method_2_code 39 = .ok (.if_icmp .lt 13, 3) := by decide +kernel
theorem d_method_2_52 : decode method_2_code 52 = .ok (.iconst 0, 1) := by decide +kernel
theorem d_method_2_42 : decode method_2_code 42 = .ok (.iload_n 0, 1) := by decide +kernel
theorem d_method_2_43 : decode method_2_code 43 = .ok (.bipush 122, 2) := by decide +kernel
theorem d_method_2_45 : decode method_2_code 45 = .ok (.if_icmp .gt 7, 3) := by decide +kernel
theorem d_method_2_48 : decode method_2_code 48 = .ok (.iconst 1, 1) := by decide +kernel
theorem d_method_2_49 : decode method_2_code 49 = .ok (.goto 4, 3) := by decide +kernel
theorem d_method_2_53 : decode method_2_code 53 = .ok (.istore_n 3, 1) := by decide +kernel
theorem d_method_2_54 : decode method_2_code 54 = .ok (.iload_n 0, 1) := by decide +kernel
theorem d_method_2_55 : decode method_2_code 55 = .ok (.bipush 33, 2) := by decide +kernel
theorem d_method_2_57 : decode method_2_code 57 = .ok (.if_icmp .eq 87, 3) := by decide +kernel
theorem d_method_2_144 : decode method_2_code 144 = .ok (.iconst 1, 1) := by decide +kernel
theorem d_method_2_145 : decode method_2_code 145 = .ok (.goto 4, 3) := by decide +kernel
theorem d_method_2_60 : decode method_2_code 60 = .ok (.iload_n 0, 1) := by decide +kernel
theorem d_method_2_61 : decode method_2_code 61 = .ok (.bipush 35, 2) := by decide +kernel
theorem d_method_2_63 : decode method_2_code 63 = .ok (.if_icmp .eq 81, 3) := by decide +kernel
theorem d_method_2_66 : decode method_2_code 66 = .ok (.iload_n 0, 1) := by decide +kernel
theorem d_method_2_67 : decode method_2_code 67 = .ok (.bipush 36, 2) := by decide +kernel
theorem d_method_2_69 : decode method_2_code 69 = .ok (.if_icmp .eq 75, 3) := by decide +kernel
theorem d_method_2_72 : decode method_2_code 72 = .ok (.iload_n 0, 1) := by decide +kernel
theorem d_method_2_73 : decode method_2_code 73 = .ok (.bipush 37, 2) := by decide +kernel
theorem d_method_2_75 : decode method_2_code 75 = .ok (.if_icmp .eq 69, 3) := by decide +kernel
theorem d_method_2_78 : decode method_2_code 78 = .ok (.iload_n 0, 1) := by decide +kernel
theorem d_method_2_79 : decode method_2_code 79 = .ok (.bipush 38, 2) := by decide +kernel
theorem d_method_2_81 : decode method_2_code 81 = .ok (.if_icmp .eq 63, 3) := by decide +kernel
theorem d_method_2_84 : decode method_2_code 84 = .ok (.iload_n 0, 1) := by decide +kernel
theorem d_method_2_85 : decode method_2_code 85 = .ok (.bipush 39, 2) := by decide +kernel
theorem d_method_2_87 : decode method_2_code 87 = .ok (.if_icmp .eq 57, 3) := by decide +kernel
theorem d_method_2_90 : decode method_2_code 90 = .ok (.iload_n 0, 1) := by decide +kernel
theorem d_method_2_91 : decode method_2_code 91 = .ok (.bipush 42, 2) := by decide +kernel
theorem d_method_2_93 : decode method_2_code 93 = .ok (.if_icmp .eq 51, 3) := by decide +kernel
theorem d_method_2_96 : decode method_2_code 96 = .ok (.iload_n 0, 1) := by decide +kernel
theorem d_method_2_97 : decode method_2_code 97 = .ok (.bipush 43, 2) := by decide +kernel
theorem d_method_2_99 : decode method_2_code 99 = .ok (.if_icmp .eq 45, 3) := by decide +kernel
theorem d_method_2_102 : decode method_2_code 102 = .ok (.iload_n 0, 1) := by decide +kernel
theorem d_method_2_103 : decode method_2_code 103 = .ok (.bipush 45, 2) := by decide +kernel
theorem d_method_2_105 : decode method_2_code 105 = .ok (.if_icmp .eq 39, 3) := by decide +kernel
theorem d_method_2_108 : decode method_2_code 108 = .ok (.iload_n 0, 1) := by decide +kernel
theorem d_method_2_109 : decode method_2_code 109 = .ok (.bipush 46, 2) := by decide +kernel
theorem d_method_2_111 : decode method_2_code 111 = .ok (.if_icmp .eq 33, 3) := by decide +kernel
theorem d_method_2_114 : decode method_2_code 114 = .ok (.iload_n 0, 1) := by decide +kernel
theorem d_method_2_115 : decode method_2_code 115 = .ok (.bipush 94, 2) := by decide +kernel
theorem d_method_2_117 : decode method_2_code 117 = .ok (.if_icmp .eq 27, 3) := by decide +kernel
theorem d_method_2_120 : decode method_2_code 120 = .ok (.iload_n 0, 1) := by decide +kernel
theorem d_method_2_121 : decode method_2_code 121 = .ok (.bipush 95, 2) := by decide +kernel
theorem d_method_2_123 : decode method_2_code 123 = .ok (.if_icmp .eq 21, 3) := by decide +kernel
theorem d_method_2_126 : decode method_2_code 126 = .ok (.iload_n 0, 1) := by decide +kernel
theorem d_method_2_127 : decode method_2_code 127 = .ok (.bipush 96, 2) := by decide +kernel
theorem d_method_2_129 : decode method_2_code 129 = .ok (.if_icmp .eq 15, 3) := by decide +kernel
theorem d_method_2_132 : decode method_2_code 132 = .ok (.iload_n 0, 1) := by decide +kernel
theorem d_method_2_133 : decode method_2_code 133 = .ok (.bipush 124, 2) := by decide +kernel
theorem d_method_2_135 : decode method_2_code 135 = .ok (.if_icmp .eq 9, 3) := by decide +kernel
theorem d_method_2_138 : decode method_2_code 138 = .ok (.iload_n 0, 1) := by decide +kernel
theorem d_method_2_139 : decode method_2_code 139 = .ok (.bipush 126, 2) := by decide +kernel
theorem d_method_2_141 : decode method_2_code 141 = .ok (.if_icmp .ne 7, 3) := by decide +kernel
theorem d_method_2_148 : decode method_2_code 148 = .ok (.iconst 0, 1) := by decide +kernel
theorem d_method_2_149 : decode method_2_code 149 = .ok (.istore 4, 2) := by decide +kernel
theorem d_method_2_151 : decode method_2_code 151 = .ok (.iload_n 1, 1) := by decide +kernel
theorem d_method_2_152 : decode method_2_code 152 = .ok (.ifCond .ne 16, 3) := by decide +kernel
theorem d_method_2_155 : decode method_2_code 155 = .ok (.iload_n 2, 1) := by decide +kernel
theorem d_method_2_156 : decode method_2_code 156 = .ok (.ifCond .ne 12, 3) := by decide +kernel
theorem d_method_2_159 : decode method_2_code 159 = .ok (.iload_n 3, 1) := by decide +kernel
theorem d_method_2_160 : decode method_2_code 160 = .ok (.ifCond .ne 8, 3) := by decide +kernel
theorem d_method_2_163 : decode method_2_code 163 = .ok (.iload 4, 2) := by decide +kernel
theorem d_method_2_165 : decode method_2_code 165 = .ok (.ifCond .eq 7, 3) := by decide +kernel
theorem d_method_2_172 : decode method_2_code 172 = .ok (.iconst 0, 1) := by decide +kernel
theorem d_method_2_168 : decode method_2_code 168 = .ok (.iconst 1, 1) := by decide +kernel
theorem d_method_2_169 : decode method_2_code 169 = .ok (.goto 4, 3) := by decide +kernel
theorem d_method_2_173 : decode method_2_code 173 = .ok (.ireturn, 1) := by decide +kernel
set_option maxRecDepth 65536 in
set_option maxHeartbeats 40000000 in
theorem rmE (l : Launch) (Z : State) (a0 : Array Value) (hw : ∀ d ∈ tables_1, d.before a0 Z = true) (ws : List Jvm.Cond) (p1 : Int32) (h0 : Heap) (n0 : Nat) (Z0 : n0 ≤ h0.size) :
    MetFree l (⟨"com/example/lean_router/leanrouter/http/HttpSyntaxIsTokenCharPinLaw", "tchar", "(I)Z"⟩ : MethodName) (head1 (Jvm.Cond.code (⟨"com/example/lean_router/leanrouter/http/HttpSyntaxIsTokenCharPinLaw", "tchar", "(I)Z"⟩ : MethodName) method_2_code 5 (some .boolean) :: ws) ({ frames := 0, cells := 0, slots := 0, locals := 0 } : Room)) (fun a' U => a' = #[(.int p1)] ∧ Z.Warmed39 U.vm ∧ U.heap = h0) (fun _ _ _ _ _ => True) (fun _ U o U' => ∃ v L, o = .returned v ∧ QE Z p1 h0 n0 v U'.heap L ∧ FrameEnd U o U' L ({ frames := 0, cells := 0, slots := 0, locals := 0 } : Room).cells ({ frames := 0, cells := 0, slots := 0, locals := 0 } : Room).slots) := by
  refine MetFree.of_bodySF (plainFor_of_name pn_HttpSyntaxIsTokenCharPinLaw) hisR ?_
  intro p e s m args below meth c s₁ Bd hml0 hP hK
  obtain ⟨rfl, hZ, hh⟩ := hP
  have hx := Bd.exec
  have hby := Bd.bytes
  have hml : c.maxLocals = 5 := hml0
  have hown : s.vm.findClass "com/example/lean_router/leanrouter/http/HttpSyntaxIsTokenCharPinLaw" = some m.cls := findClass_of_methodNamed Bd.named
  have hnm := (name_of_methodNamed Bd.named Bd.method).1
  have X0 : Stand p l e ({ frames := 0, cells := 0, slots := 0, locals := 0 } : Room) s m #[(.int p1)] below meth c s₁ [] 0 0 := Stand.of_body Bd
  have e0 : s₁.heap = h0 := by rw [← hh, Bd.state]; rfl
  have N0 := Fr.nil n0
  have Zn := Z0
  have pre0 : ∀ t, Steps p.tables e below (s₁.setTop (mkF m 0 #[.val (.int p1), .unset, .unset, .unset, .unset] [])) t → Steps p.tables e below (s₁.setTop (entryFrame m #[(.int p1)] 5)) t := fun t q => castTop (ef_E m p1) q
  have k0 : ∀ t, Steps p.tables e below (s₁.setTop (mkF m 0 #[.val (.int p1), .unset, .unset, .unset, .unset] [])) t → Steps p.tables e below (s₁.setTop (mkF m 0 #[.val (.int p1), .unset, .unset, .unset, .unset] [])) t := fun t q => q
  have k1_ : ∀ t, Steps p.tables e below (s₁.setTop (mkF m 17 #[.val (.int p1), .unset, .unset, .unset, .unset] [(.int (bi (own_D p1)))])) t → Steps p.tables e below (s₁.setTop (mkF m 0 #[.val (.int p1), .unset, .unset, .unset, .unset] [])) t := by
    intro t q
    refine k0 _ ?_
    show Steps p.tables e below (s₁.setTop (mkF m 0 #[.val (.int p1), .unset, .unset, .unset, .unset] [])) _
    refine XS.iloadN X0.here hx rfl (hb hby d_method_2_0) rfl ?_
    show Steps p.tables e below (s₁.setTop (mkF m 1 #[.val (.int p1), .unset, .unset, .unset, .unset] [(.int p1)])) _
    refine XS.bipush X0.here hx rfl (hb hby d_method_2_1) ?_
    show Steps p.tables e below (s₁.setTop (mkF m 3 #[.val (.int p1), .unset, .unset, .unset, .unset] [(.int (48 : Int32)), (.int p1)])) _
    by_cases hc3 : p1 < (48 : Int32)
    · refine XS.icmpYes X0.here hx rfl (pc0 := 3) (pc' := 16) rfl (hb hby d_method_2_3) rfl (tlt hc3).1 (by decide) (by decide) ?_
      show Steps p.tables e below (s₁.setTop (mkF m 16 #[.val (.int p1), .unset, .unset, .unset, .unset] [])) _
      refine XS.iconst X0.here hx rfl (hb hby d_method_2_16) ?_
      show Steps p.tables e below (s₁.setTop (mkF m 17 #[.val (.int p1), .unset, .unset, .unset, .unset] [(.int (0 : Int32))])) _
      have w0 : (bi (own_D p1)) = (0 : Int32) := by exact bi_f (by simp [own_D, hc3])
      replace q := Eq.mp (congrArg (fun z => Steps p.tables e below (s₁.setTop (mkF m 17 #[.val (.int p1), .unset, .unset, .unset, .unset] [(.int z)])) t) w0) q
      exact q
    · refine XS.icmpNo X0.here hx rfl (hb hby d_method_2_3) rfl (flt hc3).1 ?_
      show Steps p.tables e below (s₁.setTop (mkF m 6 #[.val (.int p1), .unset, .unset, .unset, .unset] [])) _
      refine XS.iloadN X0.here hx rfl (hb hby d_method_2_6) rfl ?_
      show Steps p.tables e below (s₁.setTop (mkF m 7 #[.val (.int p1), .unset, .unset, .unset, .unset] [(.int p1)])) _
      refine XS.bipush X0.here hx rfl (hb hby d_method_2_7) ?_
      show Steps p.tables e below (s₁.setTop (mkF m 9 #[.val (.int p1), .unset, .unset, .unset, .unset] [(.int (57 : Int32)), (.int p1)])) _
      by_cases hc9 : (57 : Int32) < p1
      · refine XS.icmpYes X0.here hx rfl (pc0 := 9) (pc' := 16) rfl (hb hby d_method_2_9) rfl (tlt hc9).2.2.1 (by decide) (by decide) ?_
        show Steps p.tables e below (s₁.setTop (mkF m 16 #[.val (.int p1), .unset, .unset, .unset, .unset] [])) _
        refine XS.iconst X0.here hx rfl (hb hby d_method_2_16) ?_
        show Steps p.tables e below (s₁.setTop (mkF m 17 #[.val (.int p1), .unset, .unset, .unset, .unset] [(.int (0 : Int32))])) _
        have w0 : (bi (own_D p1)) = (0 : Int32) := by exact bi_f (by simp [own_D, hc3, hc9])
        replace q := Eq.mp (congrArg (fun z => Steps p.tables e below (s₁.setTop (mkF m 17 #[.val (.int p1), .unset, .unset, .unset, .unset] [(.int z)])) t) w0) q
        exact q
      · refine XS.icmpNo X0.here hx rfl (hb hby d_method_2_9) rfl (flt hc9).2.2.1 ?_
        show Steps p.tables e below (s₁.setTop (mkF m 12 #[.val (.int p1), .unset, .unset, .unset, .unset] [])) _
        refine XS.iconst X0.here hx rfl (hb hby d_method_2_12) ?_
        show Steps p.tables e below (s₁.setTop (mkF m 13 #[.val (.int p1), .unset, .unset, .unset, .unset] [(.int (1 : Int32))])) _
        refine XS.goto X0.here hx rfl (pc0 := 13) (pc' := 17) rfl (hb hby d_method_2_13) (by decide) (by decide) ?_
        show Steps p.tables e below (s₁.setTop (mkF m 17 #[.val (.int p1), .unset, .unset, .unset, .unset] [(.int (1 : Int32))])) _
        have w0 : (bi (own_D p1)) = (1 : Int32) := by exact bi_t (by simp [own_D, hc3, hc9])
        replace q := Eq.mp (congrArg (fun z => Steps p.tables e below (s₁.setTop (mkF m 17 #[.val (.int p1), .unset, .unset, .unset, .unset] [(.int z)])) t) w0) q
        exact q
  have k2_ : ∀ t, Steps p.tables e below (s₁.setTop (mkF m 18 #[.val (.int p1), .val (.int (bi (own_D p1))), .unset, .unset, .unset] [])) t → Steps p.tables e below (s₁.setTop (mkF m 0 #[.val (.int p1), .unset, .unset, .unset, .unset] [])) t := by
    intro t q
    refine k1_ _ ?_
    show Steps p.tables e below (s₁.setTop (mkF m 17 #[.val (.int p1), .unset, .unset, .unset, .unset] [(.int (bi (own_D p1)))])) _
    refine XS.istoreN X0.here hx rfl (hb hby d_method_2_17) rfl (l' := #[.val (.int p1), .val (.int (bi (own_D p1))), .unset, .unset, .unset]) rfl ?_
    show Steps p.tables e below (s₁.setTop (mkF m 18 #[.val (.int p1), .val (.int (bi (own_D p1))), .unset, .unset, .unset] [])) _
    exact q
  have k3_ : ∀ t, Steps p.tables e below (s₁.setTop (mkF m 35 #[.val (.int p1), .val (.int (bi (own_D p1))), .unset, .unset, .unset] [(.int (bi (own_U p1)))])) t → Steps p.tables e below (s₁.setTop (mkF m 0 #[.val (.int p1), .unset, .unset, .unset, .unset] [])) t := by
    intro t q
    refine k2_ _ ?_
    show Steps p.tables e below (s₁.setTop (mkF m 18 #[.val (.int p1), .val (.int (bi (own_D p1))), .unset, .unset, .unset] [])) _
    refine XS.iloadN X0.here hx rfl (hb hby d_method_2_18) rfl ?_
    show Steps p.tables e below (s₁.setTop (mkF m 19 #[.val (.int p1), .val (.int (bi (own_D p1))), .unset, .unset, .unset] [(.int p1)])) _
    refine XS.bipush X0.here hx rfl (hb hby d_method_2_19) ?_
    show Steps p.tables e below (s₁.setTop (mkF m 21 #[.val (.int p1), .val (.int (bi (own_D p1))), .unset, .unset, .unset] [(.int (65 : Int32)), (.int p1)])) _
    by_cases hc21 : p1 < (65 : Int32)
    · refine XS.icmpYes X0.here hx rfl (pc0 := 21) (pc' := 34) rfl (hb hby d_method_2_21) rfl (tlt hc21).1 (by decide) (by decide) ?_
      show Steps p.tables e below (s₁.setTop (mkF m 34 #[.val (.int p1), .val (.int (bi (own_D p1))), .unset, .unset, .unset] [])) _
      refine XS.iconst X0.here hx rfl (hb hby d_method_2_34) ?_
      show Steps p.tables e below (s₁.setTop (mkF m 35 #[.val (.int p1), .val (.int (bi (own_D p1))), .unset, .unset, .unset] [(.int (0 : Int32))])) _
      have w0 : (bi (own_U p1)) = (0 : Int32) := by exact bi_f (by simp [own_U, hc21])
      replace q := Eq.mp (congrArg (fun z => Steps p.tables e below (s₁.setTop (mkF m 35 #[.val (.int p1), .val (.int (bi (own_D p1))), .unset, .unset, .unset] [(.int z)])) t) w0) q
      exact q
    · refine XS.icmpNo X0.here hx rfl (hb hby d_method_2_21) rfl (flt hc21).1 ?_
      show Steps p.tables e below (s₁.setTop (mkF m 24 #[.val (.int p1), .val (.int (bi (own_D p1))), .unset, .unset, .unset] [])) _
      refine XS.iloadN X0.here hx rfl (hb hby d_method_2_24) rfl ?_
      show Steps p.tables e below (s₁.setTop (mkF m 25 #[.val (.int p1), .val (.int (bi (own_D p1))), .unset, .unset, .unset] [(.int p1)])) _
      refine XS.bipush X0.here hx rfl (hb hby d_method_2_25) ?_
      show Steps p.tables e below (s₁.setTop (mkF m 27 #[.val (.int p1), .val (.int (bi (own_D p1))), .unset, .unset, .unset] [(.int (90 : Int32)), (.int p1)])) _
      by_cases hc27 : (90 : Int32) < p1
      · refine XS.icmpYes X0.here hx rfl (pc0 := 27) (pc' := 34) rfl (hb hby d_method_2_27) rfl (tlt hc27).2.2.1 (by decide) (by decide) ?_
        show Steps p.tables e below (s₁.setTop (mkF m 34 #[.val (.int p1), .val (.int (bi (own_D p1))), .unset, .unset, .unset] [])) _
        refine XS.iconst X0.here hx rfl (hb hby d_method_2_34) ?_
        show Steps p.tables e below (s₁.setTop (mkF m 35 #[.val (.int p1), .val (.int (bi (own_D p1))), .unset, .unset, .unset] [(.int (0 : Int32))])) _
        have w0 : (bi (own_U p1)) = (0 : Int32) := by exact bi_f (by simp [own_U, hc21, hc27])
        replace q := Eq.mp (congrArg (fun z => Steps p.tables e below (s₁.setTop (mkF m 35 #[.val (.int p1), .val (.int (bi (own_D p1))), .unset, .unset, .unset] [(.int z)])) t) w0) q
        exact q
      · refine XS.icmpNo X0.here hx rfl (hb hby d_method_2_27) rfl (flt hc27).2.2.1 ?_
        show Steps p.tables e below (s₁.setTop (mkF m 30 #[.val (.int p1), .val (.int (bi (own_D p1))), .unset, .unset, .unset] [])) _
        refine XS.iconst X0.here hx rfl (hb hby d_method_2_30) ?_
        show Steps p.tables e below (s₁.setTop (mkF m 31 #[.val (.int p1), .val (.int (bi (own_D p1))), .unset, .unset, .unset] [(.int (1 : Int32))])) _
        refine XS.goto X0.here hx rfl (pc0 := 31) (pc' := 35) rfl (hb hby d_method_2_31) (by decide) (by decide) ?_
        show Steps p.tables e below (s₁.setTop (mkF m 35 #[.val (.int p1), .val (.int (bi (own_D p1))), .unset, .unset, .unset] [(.int (1 : Int32))])) _
        have w0 : (bi (own_U p1)) = (1 : Int32) := by exact bi_t (by simp [own_U, hc21, hc27])
        replace q := Eq.mp (congrArg (fun z => Steps p.tables e below (s₁.setTop (mkF m 35 #[.val (.int p1), .val (.int (bi (own_D p1))), .unset, .unset, .unset] [(.int z)])) t) w0) q
        exact q
  have k4_ : ∀ t, Steps p.tables e below (s₁.setTop (mkF m 36 #[.val (.int p1), .val (.int (bi (own_D p1))), .val (.int (bi (own_U p1))), .unset, .unset] [])) t → Steps p.tables e below (s₁.setTop (mkF m 0 #[.val (.int p1), .unset, .unset, .unset, .unset] [])) t := by
    intro t q
    refine k3_ _ ?_
    show Steps p.tables e below (s₁.setTop (mkF m 35 #[.val (.int p1), .val (.int (bi (own_D p1))), .unset, .unset, .unset] [(.int (bi (own_U p1)))])) _
    refine XS.istoreN X0.here hx rfl (hb hby d_method_2_35) rfl (l' := #[.val (.int p1), .val (.int (bi (own_D p1))), .val (.int (bi (own_U p1))), .unset, .unset]) rfl ?_
    show Steps p.tables e below (s₁.setTop (mkF m 36 #[.val (.int p1), .val (.int (bi (own_D p1))), .val (.int (bi (own_U p1))), .unset, .unset] [])) _
    exact q
  have k5_ : ∀ t, Steps p.tables e below (s₁.setTop (mkF m 53 #[.val (.int p1), .val (.int (bi (own_D p1))), .val (.int (bi (own_U p1))), .unset, .unset] [(.int (bi (own_L p1)))])) t → Steps p.tables e below (s₁.setTop (mkF m 0 #[.val (.int p1), .unset, .unset, .unset, .unset] [])) t := by
    intro t q
    refine k4_ _ ?_
    show Steps p.tables e below (s₁.setTop (mkF m 36 #[.val (.int p1), .val (.int (bi (own_D p1))), .val (.int (bi (own_U p1))), .unset, .unset] [])) _
    refine XS.iloadN X0.here hx rfl (hb hby d_method_2_36) rfl ?_
    show Steps p.tables e below (s₁.setTop (mkF m 37 #[.val (.int p1), .val (.int (bi (own_D p1))), .val (.int (bi (own_U p1))), .unset, .unset] [(.int p1)])) _
    refine XS.bipush X0.here hx rfl (hb hby d_method_2_37) ?_
    show Steps p.tables e below (s₁.setTop (mkF m 39 #[.val (.int p1), .val (.int (bi (own_D p1))), .val (.int (bi (own_U p1))), .unset, .unset] [(.int (97 : Int32)), (.int p1)])) _
    by_cases hc39 : p1 < (97 : Int32)
    · refine XS.icmpYes X0.here hx rfl (pc0 := 39) (pc' := 52) rfl (hb hby d_method_2_39) rfl (tlt hc39).1 (by decide) (by decide) ?_
      show Steps p.tables e below (s₁.setTop (mkF m 52 #[.val (.int p1), .val (.int (bi (own_D p1))), .val (.int (bi (own_U p1))), .unset, .unset] [])) _
      refine XS.iconst X0.here hx rfl (hb hby d_method_2_52) ?_
      show Steps p.tables e below (s₁.setTop (mkF m 53 #[.val (.int p1), .val (.int (bi (own_D p1))), .val (.int (bi (own_U p1))), .unset, .unset] [(.int (0 : Int32))])) _
      have w0 : (bi (own_L p1)) = (0 : Int32) := by exact bi_f (by simp [own_L, hc39])
      replace q := Eq.mp (congrArg (fun z => Steps p.tables e below (s₁.setTop (mkF m 53 #[.val (.int p1), .val (.int (bi (own_D p1))), .val (.int (bi (own_U p1))), .unset, .unset] [(.int z)])) t) w0) q
      exact q
    · refine XS.icmpNo X0.here hx rfl (hb hby d_method_2_39) rfl (flt hc39).1 ?_
      show Steps p.tables e below (s₁.setTop (mkF m 42 #[.val (.int p1), .val (.int (bi (own_D p1))), .val (.int (bi (own_U p1))), .unset, .unset] [])) _
      refine XS.iloadN X0.here hx rfl (hb hby d_method_2_42) rfl ?_
      show Steps p.tables e below (s₁.setTop (mkF m 43 #[.val (.int p1), .val (.int (bi (own_D p1))), .val (.int (bi (own_U p1))), .unset, .unset] [(.int p1)])) _
      refine XS.bipush X0.here hx rfl (hb hby d_method_2_43) ?_
      show Steps p.tables e below (s₁.setTop (mkF m 45 #[.val (.int p1), .val (.int (bi (own_D p1))), .val (.int (bi (own_U p1))), .unset, .unset] [(.int (122 : Int32)), (.int p1)])) _
      by_cases hc45 : (122 : Int32) < p1
      · refine XS.icmpYes X0.here hx rfl (pc0 := 45) (pc' := 52) rfl (hb hby d_method_2_45) rfl (tlt hc45).2.2.1 (by decide) (by decide) ?_
        show Steps p.tables e below (s₁.setTop (mkF m 52 #[.val (.int p1), .val (.int (bi (own_D p1))), .val (.int (bi (own_U p1))), .unset, .unset] [])) _
        refine XS.iconst X0.here hx rfl (hb hby d_method_2_52) ?_
        show Steps p.tables e below (s₁.setTop (mkF m 53 #[.val (.int p1), .val (.int (bi (own_D p1))), .val (.int (bi (own_U p1))), .unset, .unset] [(.int (0 : Int32))])) _
        have w0 : (bi (own_L p1)) = (0 : Int32) := by exact bi_f (by simp [own_L, hc39, hc45])
        replace q := Eq.mp (congrArg (fun z => Steps p.tables e below (s₁.setTop (mkF m 53 #[.val (.int p1), .val (.int (bi (own_D p1))), .val (.int (bi (own_U p1))), .unset, .unset] [(.int z)])) t) w0) q
        exact q
      · refine XS.icmpNo X0.here hx rfl (hb hby d_method_2_45) rfl (flt hc45).2.2.1 ?_
        show Steps p.tables e below (s₁.setTop (mkF m 48 #[.val (.int p1), .val (.int (bi (own_D p1))), .val (.int (bi (own_U p1))), .unset, .unset] [])) _
        refine XS.iconst X0.here hx rfl (hb hby d_method_2_48) ?_
        show Steps p.tables e below (s₁.setTop (mkF m 49 #[.val (.int p1), .val (.int (bi (own_D p1))), .val (.int (bi (own_U p1))), .unset, .unset] [(.int (1 : Int32))])) _
        refine XS.goto X0.here hx rfl (pc0 := 49) (pc' := 53) rfl (hb hby d_method_2_49) (by decide) (by decide) ?_
        show Steps p.tables e below (s₁.setTop (mkF m 53 #[.val (.int p1), .val (.int (bi (own_D p1))), .val (.int (bi (own_U p1))), .unset, .unset] [(.int (1 : Int32))])) _
        have w0 : (bi (own_L p1)) = (1 : Int32) := by exact bi_t (by simp [own_L, hc39, hc45])
        replace q := Eq.mp (congrArg (fun z => Steps p.tables e below (s₁.setTop (mkF m 53 #[.val (.int p1), .val (.int (bi (own_D p1))), .val (.int (bi (own_U p1))), .unset, .unset] [(.int z)])) t) w0) q
        exact q
  have k6_ : ∀ t, Steps p.tables e below (s₁.setTop (mkF m 54 #[.val (.int p1), .val (.int (bi (own_D p1))), .val (.int (bi (own_U p1))), .val (.int (bi (own_L p1))), .unset] [])) t → Steps p.tables e below (s₁.setTop (mkF m 0 #[.val (.int p1), .unset, .unset, .unset, .unset] [])) t := by
    intro t q
    refine k5_ _ ?_
    show Steps p.tables e below (s₁.setTop (mkF m 53 #[.val (.int p1), .val (.int (bi (own_D p1))), .val (.int (bi (own_U p1))), .unset, .unset] [(.int (bi (own_L p1)))])) _
    refine XS.istoreN X0.here hx rfl (hb hby d_method_2_53) rfl (l' := #[.val (.int p1), .val (.int (bi (own_D p1))), .val (.int (bi (own_U p1))), .val (.int (bi (own_L p1))), .unset]) rfl ?_
    show Steps p.tables e below (s₁.setTop (mkF m 54 #[.val (.int p1), .val (.int (bi (own_D p1))), .val (.int (bi (own_U p1))), .val (.int (bi (own_L p1))), .unset] [])) _
    exact q
  have k7_ : ∀ t, Steps p.tables e below (s₁.setTop (mkF m 149 #[.val (.int p1), .val (.int (bi (own_D p1))), .val (.int (bi (own_U p1))), .val (.int (bi (own_L p1))), .unset] [(.int (bi (own_S p1)))])) t → Steps p.tables e below (s₁.setTop (mkF m 0 #[.val (.int p1), .unset, .unset, .unset, .unset] [])) t := by
    intro t q
    refine k6_ _ ?_
    show Steps p.tables e below (s₁.setTop (mkF m 54 #[.val (.int p1), .val (.int (bi (own_D p1))), .val (.int (bi (own_U p1))), .val (.int (bi (own_L p1))), .unset] [])) _
    refine XS.iloadN X0.here hx rfl (hb hby d_method_2_54) rfl ?_
    show Steps p.tables e below (s₁.setTop (mkF m 55 #[.val (.int p1), .val (.int (bi (own_D p1))), .val (.int (bi (own_U p1))), .val (.int (bi (own_L p1))), .unset] [(.int p1)])) _
    refine XS.bipush X0.here hx rfl (hb hby d_method_2_55) ?_
    show Steps p.tables e below (s₁.setTop (mkF m 57 #[.val (.int p1), .val (.int (bi (own_D p1))), .val (.int (bi (own_U p1))), .val (.int (bi (own_L p1))), .unset] [(.int (33 : Int32)), (.int p1)])) _
    by_cases hc57 : p1 = (33 : Int32)
    · refine XS.icmpYes X0.here hx rfl (pc0 := 57) (pc' := 144) rfl (hb hby d_method_2_57) rfl (teq hc57).1 (by decide) (by decide) ?_
      show Steps p.tables e below (s₁.setTop (mkF m 144 #[.val (.int p1), .val (.int (bi (own_D p1))), .val (.int (bi (own_U p1))), .val (.int (bi (own_L p1))), .unset] [])) _
      refine XS.iconst X0.here hx rfl (hb hby d_method_2_144) ?_
      show Steps p.tables e below (s₁.setTop (mkF m 145 #[.val (.int p1), .val (.int (bi (own_D p1))), .val (.int (bi (own_U p1))), .val (.int (bi (own_L p1))), .unset] [(.int (1 : Int32))])) _
      refine XS.goto X0.here hx rfl (pc0 := 145) (pc' := 149) rfl (hb hby d_method_2_145) (by decide) (by decide) ?_
      show Steps p.tables e below (s₁.setTop (mkF m 149 #[.val (.int p1), .val (.int (bi (own_D p1))), .val (.int (bi (own_U p1))), .val (.int (bi (own_L p1))), .unset] [(.int (1 : Int32))])) _
      have w0 : (bi (own_S p1)) = (1 : Int32) := by exact bi_t (by simp [own_S, hc57])
      replace q := Eq.mp (congrArg (fun z => Steps p.tables e below (s₁.setTop (mkF m 149 #[.val (.int p1), .val (.int (bi (own_D p1))), .val (.int (bi (own_U p1))), .val (.int (bi (own_L p1))), .unset] [(.int z)])) t) w0) q
      exact q
    · refine XS.icmpNo X0.here hx rfl (hb hby d_method_2_57) rfl (feq hc57).1 ?_
      show Steps p.tables e below (s₁.setTop (mkF m 60 #[.val (.int p1), .val (.int (bi (own_D p1))), .val (.int (bi (own_U p1))), .val (.int (bi (own_L p1))), .unset] [])) _
      refine XS.iloadN X0.here hx rfl (hb hby d_method_2_60) rfl ?_
      show Steps p.tables e below (s₁.setTop (mkF m 61 #[.val (.int p1), .val (.int (bi (own_D p1))), .val (.int (bi (own_U p1))), .val (.int (bi (own_L p1))), .unset] [(.int p1)])) _
      refine XS.bipush X0.here hx rfl (hb hby d_method_2_61) ?_
      show Steps p.tables e below (s₁.setTop (mkF m 63 #[.val (.int p1), .val (.int (bi (own_D p1))), .val (.int (bi (own_U p1))), .val (.int (bi (own_L p1))), .unset] [(.int (35 : Int32)), (.int p1)])) _
      by_cases hc63 : p1 = (35 : Int32)
      · refine XS.icmpYes X0.here hx rfl (pc0 := 63) (pc' := 144) rfl (hb hby d_method_2_63) rfl (teq hc63).1 (by decide) (by decide) ?_
        show Steps p.tables e below (s₁.setTop (mkF m 144 #[.val (.int p1), .val (.int (bi (own_D p1))), .val (.int (bi (own_U p1))), .val (.int (bi (own_L p1))), .unset] [])) _
        refine XS.iconst X0.here hx rfl (hb hby d_method_2_144) ?_
        show Steps p.tables e below (s₁.setTop (mkF m 145 #[.val (.int p1), .val (.int (bi (own_D p1))), .val (.int (bi (own_U p1))), .val (.int (bi (own_L p1))), .unset] [(.int (1 : Int32))])) _
        refine XS.goto X0.here hx rfl (pc0 := 145) (pc' := 149) rfl (hb hby d_method_2_145) (by decide) (by decide) ?_
        show Steps p.tables e below (s₁.setTop (mkF m 149 #[.val (.int p1), .val (.int (bi (own_D p1))), .val (.int (bi (own_U p1))), .val (.int (bi (own_L p1))), .unset] [(.int (1 : Int32))])) _
        have w0 : (bi (own_S p1)) = (1 : Int32) := by exact bi_t (by simp [own_S, hc57, hc63])
        replace q := Eq.mp (congrArg (fun z => Steps p.tables e below (s₁.setTop (mkF m 149 #[.val (.int p1), .val (.int (bi (own_D p1))), .val (.int (bi (own_U p1))), .val (.int (bi (own_L p1))), .unset] [(.int z)])) t) w0) q
        exact q
      · refine XS.icmpNo X0.here hx rfl (hb hby d_method_2_63) rfl (feq hc63).1 ?_
        show Steps p.tables e below (s₁.setTop (mkF m 66 #[.val (.int p1), .val (.int (bi (own_D p1))), .val (.int (bi (own_U p1))), .val (.int (bi (own_L p1))), .unset] [])) _
        refine XS.iloadN X0.here hx rfl (hb hby d_method_2_66) rfl ?_
        show Steps p.tables e below (s₁.setTop (mkF m 67 #[.val (.int p1), .val (.int (bi (own_D p1))), .val (.int (bi (own_U p1))), .val (.int (bi (own_L p1))), .unset] [(.int p1)])) _
        refine XS.bipush X0.here hx rfl (hb hby d_method_2_67) ?_
        show Steps p.tables e below (s₁.setTop (mkF m 69 #[.val (.int p1), .val (.int (bi (own_D p1))), .val (.int (bi (own_U p1))), .val (.int (bi (own_L p1))), .unset] [(.int (36 : Int32)), (.int p1)])) _
        by_cases hc69 : p1 = (36 : Int32)
        · refine XS.icmpYes X0.here hx rfl (pc0 := 69) (pc' := 144) rfl (hb hby d_method_2_69) rfl (teq hc69).1 (by decide) (by decide) ?_
          show Steps p.tables e below (s₁.setTop (mkF m 144 #[.val (.int p1), .val (.int (bi (own_D p1))), .val (.int (bi (own_U p1))), .val (.int (bi (own_L p1))), .unset] [])) _
          refine XS.iconst X0.here hx rfl (hb hby d_method_2_144) ?_
          show Steps p.tables e below (s₁.setTop (mkF m 145 #[.val (.int p1), .val (.int (bi (own_D p1))), .val (.int (bi (own_U p1))), .val (.int (bi (own_L p1))), .unset] [(.int (1 : Int32))])) _
          refine XS.goto X0.here hx rfl (pc0 := 145) (pc' := 149) rfl (hb hby d_method_2_145) (by decide) (by decide) ?_
          show Steps p.tables e below (s₁.setTop (mkF m 149 #[.val (.int p1), .val (.int (bi (own_D p1))), .val (.int (bi (own_U p1))), .val (.int (bi (own_L p1))), .unset] [(.int (1 : Int32))])) _
          have w0 : (bi (own_S p1)) = (1 : Int32) := by exact bi_t (by simp [own_S, hc57, hc63, hc69])
          replace q := Eq.mp (congrArg (fun z => Steps p.tables e below (s₁.setTop (mkF m 149 #[.val (.int p1), .val (.int (bi (own_D p1))), .val (.int (bi (own_U p1))), .val (.int (bi (own_L p1))), .unset] [(.int z)])) t) w0) q
          exact q
        · refine XS.icmpNo X0.here hx rfl (hb hby d_method_2_69) rfl (feq hc69).1 ?_
          show Steps p.tables e below (s₁.setTop (mkF m 72 #[.val (.int p1), .val (.int (bi (own_D p1))), .val (.int (bi (own_U p1))), .val (.int (bi (own_L p1))), .unset] [])) _
          refine XS.iloadN X0.here hx rfl (hb hby d_method_2_72) rfl ?_
          show Steps p.tables e below (s₁.setTop (mkF m 73 #[.val (.int p1), .val (.int (bi (own_D p1))), .val (.int (bi (own_U p1))), .val (.int (bi (own_L p1))), .unset] [(.int p1)])) _
          refine XS.bipush X0.here hx rfl (hb hby d_method_2_73) ?_
          show Steps p.tables e below (s₁.setTop (mkF m 75 #[.val (.int p1), .val (.int (bi (own_D p1))), .val (.int (bi (own_U p1))), .val (.int (bi (own_L p1))), .unset] [(.int (37 : Int32)), (.int p1)])) _
          by_cases hc75 : p1 = (37 : Int32)
          · refine XS.icmpYes X0.here hx rfl (pc0 := 75) (pc' := 144) rfl (hb hby d_method_2_75) rfl (teq hc75).1 (by decide) (by decide) ?_
            show Steps p.tables e below (s₁.setTop (mkF m 144 #[.val (.int p1), .val (.int (bi (own_D p1))), .val (.int (bi (own_U p1))), .val (.int (bi (own_L p1))), .unset] [])) _
            refine XS.iconst X0.here hx rfl (hb hby d_method_2_144) ?_
            show Steps p.tables e below (s₁.setTop (mkF m 145 #[.val (.int p1), .val (.int (bi (own_D p1))), .val (.int (bi (own_U p1))), .val (.int (bi (own_L p1))), .unset] [(.int (1 : Int32))])) _
            refine XS.goto X0.here hx rfl (pc0 := 145) (pc' := 149) rfl (hb hby d_method_2_145) (by decide) (by decide) ?_
            show Steps p.tables e below (s₁.setTop (mkF m 149 #[.val (.int p1), .val (.int (bi (own_D p1))), .val (.int (bi (own_U p1))), .val (.int (bi (own_L p1))), .unset] [(.int (1 : Int32))])) _
            have w0 : (bi (own_S p1)) = (1 : Int32) := by exact bi_t (by simp [own_S, hc57, hc63, hc69, hc75])
            replace q := Eq.mp (congrArg (fun z => Steps p.tables e below (s₁.setTop (mkF m 149 #[.val (.int p1), .val (.int (bi (own_D p1))), .val (.int (bi (own_U p1))), .val (.int (bi (own_L p1))), .unset] [(.int z)])) t) w0) q
            exact q
          · refine XS.icmpNo X0.here hx rfl (hb hby d_method_2_75) rfl (feq hc75).1 ?_
            show Steps p.tables e below (s₁.setTop (mkF m 78 #[.val (.int p1), .val (.int (bi (own_D p1))), .val (.int (bi (own_U p1))), .val (.int (bi (own_L p1))), .unset] [])) _
            refine XS.iloadN X0.here hx rfl (hb hby d_method_2_78) rfl ?_
            show Steps p.tables e below (s₁.setTop (mkF m 79 #[.val (.int p1), .val (.int (bi (own_D p1))), .val (.int (bi (own_U p1))), .val (.int (bi (own_L p1))), .unset] [(.int p1)])) _
            refine XS.bipush X0.here hx rfl (hb hby d_method_2_79) ?_
            show Steps p.tables e below (s₁.setTop (mkF m 81 #[.val (.int p1), .val (.int (bi (own_D p1))), .val (.int (bi (own_U p1))), .val (.int (bi (own_L p1))), .unset] [(.int (38 : Int32)), (.int p1)])) _
            by_cases hc81 : p1 = (38 : Int32)
            · refine XS.icmpYes X0.here hx rfl (pc0 := 81) (pc' := 144) rfl (hb hby d_method_2_81) rfl (teq hc81).1 (by decide) (by decide) ?_
              show Steps p.tables e below (s₁.setTop (mkF m 144 #[.val (.int p1), .val (.int (bi (own_D p1))), .val (.int (bi (own_U p1))), .val (.int (bi (own_L p1))), .unset] [])) _
              refine XS.iconst X0.here hx rfl (hb hby d_method_2_144) ?_
              show Steps p.tables e below (s₁.setTop (mkF m 145 #[.val (.int p1), .val (.int (bi (own_D p1))), .val (.int (bi (own_U p1))), .val (.int (bi (own_L p1))), .unset] [(.int (1 : Int32))])) _
              refine XS.goto X0.here hx rfl (pc0 := 145) (pc' := 149) rfl (hb hby d_method_2_145) (by decide) (by decide) ?_
              show Steps p.tables e below (s₁.setTop (mkF m 149 #[.val (.int p1), .val (.int (bi (own_D p1))), .val (.int (bi (own_U p1))), .val (.int (bi (own_L p1))), .unset] [(.int (1 : Int32))])) _
              have w0 : (bi (own_S p1)) = (1 : Int32) := by exact bi_t (by simp [own_S, hc57, hc63, hc69, hc75, hc81])
              replace q := Eq.mp (congrArg (fun z => Steps p.tables e below (s₁.setTop (mkF m 149 #[.val (.int p1), .val (.int (bi (own_D p1))), .val (.int (bi (own_U p1))), .val (.int (bi (own_L p1))), .unset] [(.int z)])) t) w0) q
              exact q
            · refine XS.icmpNo X0.here hx rfl (hb hby d_method_2_81) rfl (feq hc81).1 ?_
              show Steps p.tables e below (s₁.setTop (mkF m 84 #[.val (.int p1), .val (.int (bi (own_D p1))), .val (.int (bi (own_U p1))), .val (.int (bi (own_L p1))), .unset] [])) _
              refine XS.iloadN X0.here hx rfl (hb hby d_method_2_84) rfl ?_
              show Steps p.tables e below (s₁.setTop (mkF m 85 #[.val (.int p1), .val (.int (bi (own_D p1))), .val (.int (bi (own_U p1))), .val (.int (bi (own_L p1))), .unset] [(.int p1)])) _
              refine XS.bipush X0.here hx rfl (hb hby d_method_2_85) ?_
              show Steps p.tables e below (s₁.setTop (mkF m 87 #[.val (.int p1), .val (.int (bi (own_D p1))), .val (.int (bi (own_U p1))), .val (.int (bi (own_L p1))), .unset] [(.int (39 : Int32)), (.int p1)])) _
              by_cases hc87 : p1 = (39 : Int32)
              · refine XS.icmpYes X0.here hx rfl (pc0 := 87) (pc' := 144) rfl (hb hby d_method_2_87) rfl (teq hc87).1 (by decide) (by decide) ?_
                show Steps p.tables e below (s₁.setTop (mkF m 144 #[.val (.int p1), .val (.int (bi (own_D p1))), .val (.int (bi (own_U p1))), .val (.int (bi (own_L p1))), .unset] [])) _
                refine XS.iconst X0.here hx rfl (hb hby d_method_2_144) ?_
                show Steps p.tables e below (s₁.setTop (mkF m 145 #[.val (.int p1), .val (.int (bi (own_D p1))), .val (.int (bi (own_U p1))), .val (.int (bi (own_L p1))), .unset] [(.int (1 : Int32))])) _
                refine XS.goto X0.here hx rfl (pc0 := 145) (pc' := 149) rfl (hb hby d_method_2_145) (by decide) (by decide) ?_
                show Steps p.tables e below (s₁.setTop (mkF m 149 #[.val (.int p1), .val (.int (bi (own_D p1))), .val (.int (bi (own_U p1))), .val (.int (bi (own_L p1))), .unset] [(.int (1 : Int32))])) _
                have w0 : (bi (own_S p1)) = (1 : Int32) := by exact bi_t (by simp [own_S, hc57, hc63, hc69, hc75, hc81, hc87])
                replace q := Eq.mp (congrArg (fun z => Steps p.tables e below (s₁.setTop (mkF m 149 #[.val (.int p1), .val (.int (bi (own_D p1))), .val (.int (bi (own_U p1))), .val (.int (bi (own_L p1))), .unset] [(.int z)])) t) w0) q
                exact q
              · refine XS.icmpNo X0.here hx rfl (hb hby d_method_2_87) rfl (feq hc87).1 ?_
                show Steps p.tables e below (s₁.setTop (mkF m 90 #[.val (.int p1), .val (.int (bi (own_D p1))), .val (.int (bi (own_U p1))), .val (.int (bi (own_L p1))), .unset] [])) _
                refine XS.iloadN X0.here hx rfl (hb hby d_method_2_90) rfl ?_
                show Steps p.tables e below (s₁.setTop (mkF m 91 #[.val (.int p1), .val (.int (bi (own_D p1))), .val (.int (bi (own_U p1))), .val (.int (bi (own_L p1))), .unset] [(.int p1)])) _
                refine XS.bipush X0.here hx rfl (hb hby d_method_2_91) ?_
                show Steps p.tables e below (s₁.setTop (mkF m 93 #[.val (.int p1), .val (.int (bi (own_D p1))), .val (.int (bi (own_U p1))), .val (.int (bi (own_L p1))), .unset] [(.int (42 : Int32)), (.int p1)])) _
                by_cases hc93 : p1 = (42 : Int32)
                · refine XS.icmpYes X0.here hx rfl (pc0 := 93) (pc' := 144) rfl (hb hby d_method_2_93) rfl (teq hc93).1 (by decide) (by decide) ?_
                  show Steps p.tables e below (s₁.setTop (mkF m 144 #[.val (.int p1), .val (.int (bi (own_D p1))), .val (.int (bi (own_U p1))), .val (.int (bi (own_L p1))), .unset] [])) _
                  refine XS.iconst X0.here hx rfl (hb hby d_method_2_144) ?_
                  show Steps p.tables e below (s₁.setTop (mkF m 145 #[.val (.int p1), .val (.int (bi (own_D p1))), .val (.int (bi (own_U p1))), .val (.int (bi (own_L p1))), .unset] [(.int (1 : Int32))])) _
                  refine XS.goto X0.here hx rfl (pc0 := 145) (pc' := 149) rfl (hb hby d_method_2_145) (by decide) (by decide) ?_
                  show Steps p.tables e below (s₁.setTop (mkF m 149 #[.val (.int p1), .val (.int (bi (own_D p1))), .val (.int (bi (own_U p1))), .val (.int (bi (own_L p1))), .unset] [(.int (1 : Int32))])) _
                  have w0 : (bi (own_S p1)) = (1 : Int32) := by exact bi_t (by simp [own_S, hc57, hc63, hc69, hc75, hc81, hc87, hc93])
                  replace q := Eq.mp (congrArg (fun z => Steps p.tables e below (s₁.setTop (mkF m 149 #[.val (.int p1), .val (.int (bi (own_D p1))), .val (.int (bi (own_U p1))), .val (.int (bi (own_L p1))), .unset] [(.int z)])) t) w0) q
                  exact q
                · refine XS.icmpNo X0.here hx rfl (hb hby d_method_2_93) rfl (feq hc93).1 ?_
                  show Steps p.tables e below (s₁.setTop (mkF m 96 #[.val (.int p1), .val (.int (bi (own_D p1))), .val (.int (bi (own_U p1))), .val (.int (bi (own_L p1))), .unset] [])) _
                  refine XS.iloadN X0.here hx rfl (hb hby d_method_2_96) rfl ?_
                  show Steps p.tables e below (s₁.setTop (mkF m 97 #[.val (.int p1), .val (.int (bi (own_D p1))), .val (.int (bi (own_U p1))), .val (.int (bi (own_L p1))), .unset] [(.int p1)])) _
                  refine XS.bipush X0.here hx rfl (hb hby d_method_2_97) ?_
                  show Steps p.tables e below (s₁.setTop (mkF m 99 #[.val (.int p1), .val (.int (bi (own_D p1))), .val (.int (bi (own_U p1))), .val (.int (bi (own_L p1))), .unset] [(.int (43 : Int32)), (.int p1)])) _
                  by_cases hc99 : p1 = (43 : Int32)
                  · refine XS.icmpYes X0.here hx rfl (pc0 := 99) (pc' := 144) rfl (hb hby d_method_2_99) rfl (teq hc99).1 (by decide) (by decide) ?_
                    show Steps p.tables e below (s₁.setTop (mkF m 144 #[.val (.int p1), .val (.int (bi (own_D p1))), .val (.int (bi (own_U p1))), .val (.int (bi (own_L p1))), .unset] [])) _
                    refine XS.iconst X0.here hx rfl (hb hby d_method_2_144) ?_
                    show Steps p.tables e below (s₁.setTop (mkF m 145 #[.val (.int p1), .val (.int (bi (own_D p1))), .val (.int (bi (own_U p1))), .val (.int (bi (own_L p1))), .unset] [(.int (1 : Int32))])) _
                    refine XS.goto X0.here hx rfl (pc0 := 145) (pc' := 149) rfl (hb hby d_method_2_145) (by decide) (by decide) ?_
                    show Steps p.tables e below (s₁.setTop (mkF m 149 #[.val (.int p1), .val (.int (bi (own_D p1))), .val (.int (bi (own_U p1))), .val (.int (bi (own_L p1))), .unset] [(.int (1 : Int32))])) _
                    have w0 : (bi (own_S p1)) = (1 : Int32) := by exact bi_t (by simp [own_S, hc57, hc63, hc69, hc75, hc81, hc87, hc93, hc99])
                    replace q := Eq.mp (congrArg (fun z => Steps p.tables e below (s₁.setTop (mkF m 149 #[.val (.int p1), .val (.int (bi (own_D p1))), .val (.int (bi (own_U p1))), .val (.int (bi (own_L p1))), .unset] [(.int z)])) t) w0) q
                    exact q
                  · refine XS.icmpNo X0.here hx rfl (hb hby d_method_2_99) rfl (feq hc99).1 ?_
                    show Steps p.tables e below (s₁.setTop (mkF m 102 #[.val (.int p1), .val (.int (bi (own_D p1))), .val (.int (bi (own_U p1))), .val (.int (bi (own_L p1))), .unset] [])) _
                    refine XS.iloadN X0.here hx rfl (hb hby d_method_2_102) rfl ?_
                    show Steps p.tables e below (s₁.setTop (mkF m 103 #[.val (.int p1), .val (.int (bi (own_D p1))), .val (.int (bi (own_U p1))), .val (.int (bi (own_L p1))), .unset] [(.int p1)])) _
                    refine XS.bipush X0.here hx rfl (hb hby d_method_2_103) ?_
                    show Steps p.tables e below (s₁.setTop (mkF m 105 #[.val (.int p1), .val (.int (bi (own_D p1))), .val (.int (bi (own_U p1))), .val (.int (bi (own_L p1))), .unset] [(.int (45 : Int32)), (.int p1)])) _
                    by_cases hc105 : p1 = (45 : Int32)
                    · refine XS.icmpYes X0.here hx rfl (pc0 := 105) (pc' := 144) rfl (hb hby d_method_2_105) rfl (teq hc105).1 (by decide) (by decide) ?_
                      show Steps p.tables e below (s₁.setTop (mkF m 144 #[.val (.int p1), .val (.int (bi (own_D p1))), .val (.int (bi (own_U p1))), .val (.int (bi (own_L p1))), .unset] [])) _
                      refine XS.iconst X0.here hx rfl (hb hby d_method_2_144) ?_
                      show Steps p.tables e below (s₁.setTop (mkF m 145 #[.val (.int p1), .val (.int (bi (own_D p1))), .val (.int (bi (own_U p1))), .val (.int (bi (own_L p1))), .unset] [(.int (1 : Int32))])) _
                      refine XS.goto X0.here hx rfl (pc0 := 145) (pc' := 149) rfl (hb hby d_method_2_145) (by decide) (by decide) ?_
                      show Steps p.tables e below (s₁.setTop (mkF m 149 #[.val (.int p1), .val (.int (bi (own_D p1))), .val (.int (bi (own_U p1))), .val (.int (bi (own_L p1))), .unset] [(.int (1 : Int32))])) _
                      have w0 : (bi (own_S p1)) = (1 : Int32) := by exact bi_t (by simp [own_S, hc57, hc63, hc69, hc75, hc81, hc87, hc93, hc99, hc105])
                      replace q := Eq.mp (congrArg (fun z => Steps p.tables e below (s₁.setTop (mkF m 149 #[.val (.int p1), .val (.int (bi (own_D p1))), .val (.int (bi (own_U p1))), .val (.int (bi (own_L p1))), .unset] [(.int z)])) t) w0) q
                      exact q
                    · refine XS.icmpNo X0.here hx rfl (hb hby d_method_2_105) rfl (feq hc105).1 ?_
                      show Steps p.tables e below (s₁.setTop (mkF m 108 #[.val (.int p1), .val (.int (bi (own_D p1))), .val (.int (bi (own_U p1))), .val (.int (bi (own_L p1))), .unset] [])) _
                      refine XS.iloadN X0.here hx rfl (hb hby d_method_2_108) rfl ?_
                      show Steps p.tables e below (s₁.setTop (mkF m 109 #[.val (.int p1), .val (.int (bi (own_D p1))), .val (.int (bi (own_U p1))), .val (.int (bi (own_L p1))), .unset] [(.int p1)])) _
                      refine XS.bipush X0.here hx rfl (hb hby d_method_2_109) ?_
                      show Steps p.tables e below (s₁.setTop (mkF m 111 #[.val (.int p1), .val (.int (bi (own_D p1))), .val (.int (bi (own_U p1))), .val (.int (bi (own_L p1))), .unset] [(.int (46 : Int32)), (.int p1)])) _
                      by_cases hc111 : p1 = (46 : Int32)
                      · refine XS.icmpYes X0.here hx rfl (pc0 := 111) (pc' := 144) rfl (hb hby d_method_2_111) rfl (teq hc111).1 (by decide) (by decide) ?_
                        show Steps p.tables e below (s₁.setTop (mkF m 144 #[.val (.int p1), .val (.int (bi (own_D p1))), .val (.int (bi (own_U p1))), .val (.int (bi (own_L p1))), .unset] [])) _
                        refine XS.iconst X0.here hx rfl (hb hby d_method_2_144) ?_
                        show Steps p.tables e below (s₁.setTop (mkF m 145 #[.val (.int p1), .val (.int (bi (own_D p1))), .val (.int (bi (own_U p1))), .val (.int (bi (own_L p1))), .unset] [(.int (1 : Int32))])) _
                        refine XS.goto X0.here hx rfl (pc0 := 145) (pc' := 149) rfl (hb hby d_method_2_145) (by decide) (by decide) ?_
                        show Steps p.tables e below (s₁.setTop (mkF m 149 #[.val (.int p1), .val (.int (bi (own_D p1))), .val (.int (bi (own_U p1))), .val (.int (bi (own_L p1))), .unset] [(.int (1 : Int32))])) _
                        have w0 : (bi (own_S p1)) = (1 : Int32) := by exact bi_t (by simp [own_S, hc57, hc63, hc69, hc75, hc81, hc87, hc93, hc99, hc105, hc111])
                        replace q := Eq.mp (congrArg (fun z => Steps p.tables e below (s₁.setTop (mkF m 149 #[.val (.int p1), .val (.int (bi (own_D p1))), .val (.int (bi (own_U p1))), .val (.int (bi (own_L p1))), .unset] [(.int z)])) t) w0) q
                        exact q
                      · refine XS.icmpNo X0.here hx rfl (hb hby d_method_2_111) rfl (feq hc111).1 ?_
                        show Steps p.tables e below (s₁.setTop (mkF m 114 #[.val (.int p1), .val (.int (bi (own_D p1))), .val (.int (bi (own_U p1))), .val (.int (bi (own_L p1))), .unset] [])) _
                        refine XS.iloadN X0.here hx rfl (hb hby d_method_2_114) rfl ?_
                        show Steps p.tables e below (s₁.setTop (mkF m 115 #[.val (.int p1), .val (.int (bi (own_D p1))), .val (.int (bi (own_U p1))), .val (.int (bi (own_L p1))), .unset] [(.int p1)])) _
                        refine XS.bipush X0.here hx rfl (hb hby d_method_2_115) ?_
                        show Steps p.tables e below (s₁.setTop (mkF m 117 #[.val (.int p1), .val (.int (bi (own_D p1))), .val (.int (bi (own_U p1))), .val (.int (bi (own_L p1))), .unset] [(.int (94 : Int32)), (.int p1)])) _
                        by_cases hc117 : p1 = (94 : Int32)
                        · refine XS.icmpYes X0.here hx rfl (pc0 := 117) (pc' := 144) rfl (hb hby d_method_2_117) rfl (teq hc117).1 (by decide) (by decide) ?_
                          show Steps p.tables e below (s₁.setTop (mkF m 144 #[.val (.int p1), .val (.int (bi (own_D p1))), .val (.int (bi (own_U p1))), .val (.int (bi (own_L p1))), .unset] [])) _
                          refine XS.iconst X0.here hx rfl (hb hby d_method_2_144) ?_
                          show Steps p.tables e below (s₁.setTop (mkF m 145 #[.val (.int p1), .val (.int (bi (own_D p1))), .val (.int (bi (own_U p1))), .val (.int (bi (own_L p1))), .unset] [(.int (1 : Int32))])) _
                          refine XS.goto X0.here hx rfl (pc0 := 145) (pc' := 149) rfl (hb hby d_method_2_145) (by decide) (by decide) ?_
                          show Steps p.tables e below (s₁.setTop (mkF m 149 #[.val (.int p1), .val (.int (bi (own_D p1))), .val (.int (bi (own_U p1))), .val (.int (bi (own_L p1))), .unset] [(.int (1 : Int32))])) _
                          have w0 : (bi (own_S p1)) = (1 : Int32) := by exact bi_t (by simp [own_S, hc57, hc63, hc69, hc75, hc81, hc87, hc93, hc99, hc105, hc111, hc117])
                          replace q := Eq.mp (congrArg (fun z => Steps p.tables e below (s₁.setTop (mkF m 149 #[.val (.int p1), .val (.int (bi (own_D p1))), .val (.int (bi (own_U p1))), .val (.int (bi (own_L p1))), .unset] [(.int z)])) t) w0) q
                          exact q
                        · refine XS.icmpNo X0.here hx rfl (hb hby d_method_2_117) rfl (feq hc117).1 ?_
                          show Steps p.tables e below (s₁.setTop (mkF m 120 #[.val (.int p1), .val (.int (bi (own_D p1))), .val (.int (bi (own_U p1))), .val (.int (bi (own_L p1))), .unset] [])) _
                          refine XS.iloadN X0.here hx rfl (hb hby d_method_2_120) rfl ?_
                          show Steps p.tables e below (s₁.setTop (mkF m 121 #[.val (.int p1), .val (.int (bi (own_D p1))), .val (.int (bi (own_U p1))), .val (.int (bi (own_L p1))), .unset] [(.int p1)])) _
                          refine XS.bipush X0.here hx rfl (hb hby d_method_2_121) ?_
                          show Steps p.tables e below (s₁.setTop (mkF m 123 #[.val (.int p1), .val (.int (bi (own_D p1))), .val (.int (bi (own_U p1))), .val (.int (bi (own_L p1))), .unset] [(.int (95 : Int32)), (.int p1)])) _
                          by_cases hc123 : p1 = (95 : Int32)
                          · refine XS.icmpYes X0.here hx rfl (pc0 := 123) (pc' := 144) rfl (hb hby d_method_2_123) rfl (teq hc123).1 (by decide) (by decide) ?_
                            show Steps p.tables e below (s₁.setTop (mkF m 144 #[.val (.int p1), .val (.int (bi (own_D p1))), .val (.int (bi (own_U p1))), .val (.int (bi (own_L p1))), .unset] [])) _
                            refine XS.iconst X0.here hx rfl (hb hby d_method_2_144) ?_
                            show Steps p.tables e below (s₁.setTop (mkF m 145 #[.val (.int p1), .val (.int (bi (own_D p1))), .val (.int (bi (own_U p1))), .val (.int (bi (own_L p1))), .unset] [(.int (1 : Int32))])) _
                            refine XS.goto X0.here hx rfl (pc0 := 145) (pc' := 149) rfl (hb hby d_method_2_145) (by decide) (by decide) ?_
                            show Steps p.tables e below (s₁.setTop (mkF m 149 #[.val (.int p1), .val (.int (bi (own_D p1))), .val (.int (bi (own_U p1))), .val (.int (bi (own_L p1))), .unset] [(.int (1 : Int32))])) _
                            have w0 : (bi (own_S p1)) = (1 : Int32) := by exact bi_t (by simp [own_S, hc57, hc63, hc69, hc75, hc81, hc87, hc93, hc99, hc105, hc111, hc117, hc123])
                            replace q := Eq.mp (congrArg (fun z => Steps p.tables e below (s₁.setTop (mkF m 149 #[.val (.int p1), .val (.int (bi (own_D p1))), .val (.int (bi (own_U p1))), .val (.int (bi (own_L p1))), .unset] [(.int z)])) t) w0) q
                            exact q
                          · refine XS.icmpNo X0.here hx rfl (hb hby d_method_2_123) rfl (feq hc123).1 ?_
                            show Steps p.tables e below (s₁.setTop (mkF m 126 #[.val (.int p1), .val (.int (bi (own_D p1))), .val (.int (bi (own_U p1))), .val (.int (bi (own_L p1))), .unset] [])) _
                            refine XS.iloadN X0.here hx rfl (hb hby d_method_2_126) rfl ?_
                            show Steps p.tables e below (s₁.setTop (mkF m 127 #[.val (.int p1), .val (.int (bi (own_D p1))), .val (.int (bi (own_U p1))), .val (.int (bi (own_L p1))), .unset] [(.int p1)])) _
                            refine XS.bipush X0.here hx rfl (hb hby d_method_2_127) ?_
                            show Steps p.tables e below (s₁.setTop (mkF m 129 #[.val (.int p1), .val (.int (bi (own_D p1))), .val (.int (bi (own_U p1))), .val (.int (bi (own_L p1))), .unset] [(.int (96 : Int32)), (.int p1)])) _
                            by_cases hc129 : p1 = (96 : Int32)
                            · refine XS.icmpYes X0.here hx rfl (pc0 := 129) (pc' := 144) rfl (hb hby d_method_2_129) rfl (teq hc129).1 (by decide) (by decide) ?_
                              show Steps p.tables e below (s₁.setTop (mkF m 144 #[.val (.int p1), .val (.int (bi (own_D p1))), .val (.int (bi (own_U p1))), .val (.int (bi (own_L p1))), .unset] [])) _
                              refine XS.iconst X0.here hx rfl (hb hby d_method_2_144) ?_
                              show Steps p.tables e below (s₁.setTop (mkF m 145 #[.val (.int p1), .val (.int (bi (own_D p1))), .val (.int (bi (own_U p1))), .val (.int (bi (own_L p1))), .unset] [(.int (1 : Int32))])) _
                              refine XS.goto X0.here hx rfl (pc0 := 145) (pc' := 149) rfl (hb hby d_method_2_145) (by decide) (by decide) ?_
                              show Steps p.tables e below (s₁.setTop (mkF m 149 #[.val (.int p1), .val (.int (bi (own_D p1))), .val (.int (bi (own_U p1))), .val (.int (bi (own_L p1))), .unset] [(.int (1 : Int32))])) _
                              have w0 : (bi (own_S p1)) = (1 : Int32) := by exact bi_t (by simp [own_S, hc57, hc63, hc69, hc75, hc81, hc87, hc93, hc99, hc105, hc111, hc117, hc123, hc129])
                              replace q := Eq.mp (congrArg (fun z => Steps p.tables e below (s₁.setTop (mkF m 149 #[.val (.int p1), .val (.int (bi (own_D p1))), .val (.int (bi (own_U p1))), .val (.int (bi (own_L p1))), .unset] [(.int z)])) t) w0) q
                              exact q
                            · refine XS.icmpNo X0.here hx rfl (hb hby d_method_2_129) rfl (feq hc129).1 ?_
                              show Steps p.tables e below (s₁.setTop (mkF m 132 #[.val (.int p1), .val (.int (bi (own_D p1))), .val (.int (bi (own_U p1))), .val (.int (bi (own_L p1))), .unset] [])) _
                              refine XS.iloadN X0.here hx rfl (hb hby d_method_2_132) rfl ?_
                              show Steps p.tables e below (s₁.setTop (mkF m 133 #[.val (.int p1), .val (.int (bi (own_D p1))), .val (.int (bi (own_U p1))), .val (.int (bi (own_L p1))), .unset] [(.int p1)])) _
                              refine XS.bipush X0.here hx rfl (hb hby d_method_2_133) ?_
                              show Steps p.tables e below (s₁.setTop (mkF m 135 #[.val (.int p1), .val (.int (bi (own_D p1))), .val (.int (bi (own_U p1))), .val (.int (bi (own_L p1))), .unset] [(.int (124 : Int32)), (.int p1)])) _
                              by_cases hc135 : p1 = (124 : Int32)
                              · refine XS.icmpYes X0.here hx rfl (pc0 := 135) (pc' := 144) rfl (hb hby d_method_2_135) rfl (teq hc135).1 (by decide) (by decide) ?_
                                show Steps p.tables e below (s₁.setTop (mkF m 144 #[.val (.int p1), .val (.int (bi (own_D p1))), .val (.int (bi (own_U p1))), .val (.int (bi (own_L p1))), .unset] [])) _
                                refine XS.iconst X0.here hx rfl (hb hby d_method_2_144) ?_
                                show Steps p.tables e below (s₁.setTop (mkF m 145 #[.val (.int p1), .val (.int (bi (own_D p1))), .val (.int (bi (own_U p1))), .val (.int (bi (own_L p1))), .unset] [(.int (1 : Int32))])) _
                                refine XS.goto X0.here hx rfl (pc0 := 145) (pc' := 149) rfl (hb hby d_method_2_145) (by decide) (by decide) ?_
                                show Steps p.tables e below (s₁.setTop (mkF m 149 #[.val (.int p1), .val (.int (bi (own_D p1))), .val (.int (bi (own_U p1))), .val (.int (bi (own_L p1))), .unset] [(.int (1 : Int32))])) _
                                have w0 : (bi (own_S p1)) = (1 : Int32) := by exact bi_t (by simp [own_S, hc57, hc63, hc69, hc75, hc81, hc87, hc93, hc99, hc105, hc111, hc117, hc123, hc129, hc135])
                                replace q := Eq.mp (congrArg (fun z => Steps p.tables e below (s₁.setTop (mkF m 149 #[.val (.int p1), .val (.int (bi (own_D p1))), .val (.int (bi (own_U p1))), .val (.int (bi (own_L p1))), .unset] [(.int z)])) t) w0) q
                                exact q
                              · refine XS.icmpNo X0.here hx rfl (hb hby d_method_2_135) rfl (feq hc135).1 ?_
                                show Steps p.tables e below (s₁.setTop (mkF m 138 #[.val (.int p1), .val (.int (bi (own_D p1))), .val (.int (bi (own_U p1))), .val (.int (bi (own_L p1))), .unset] [])) _
                                refine XS.iloadN X0.here hx rfl (hb hby d_method_2_138) rfl ?_
                                show Steps p.tables e below (s₁.setTop (mkF m 139 #[.val (.int p1), .val (.int (bi (own_D p1))), .val (.int (bi (own_U p1))), .val (.int (bi (own_L p1))), .unset] [(.int p1)])) _
                                refine XS.bipush X0.here hx rfl (hb hby d_method_2_139) ?_
                                show Steps p.tables e below (s₁.setTop (mkF m 141 #[.val (.int p1), .val (.int (bi (own_D p1))), .val (.int (bi (own_U p1))), .val (.int (bi (own_L p1))), .unset] [(.int (126 : Int32)), (.int p1)])) _
                                by_cases hc141 : p1 = (126 : Int32)
                                · refine XS.icmpNo X0.here hx rfl (hb hby d_method_2_141) rfl (teq hc141).2 ?_
                                  show Steps p.tables e below (s₁.setTop (mkF m 144 #[.val (.int p1), .val (.int (bi (own_D p1))), .val (.int (bi (own_U p1))), .val (.int (bi (own_L p1))), .unset] [])) _
                                  refine XS.iconst X0.here hx rfl (hb hby d_method_2_144) ?_
                                  show Steps p.tables e below (s₁.setTop (mkF m 145 #[.val (.int p1), .val (.int (bi (own_D p1))), .val (.int (bi (own_U p1))), .val (.int (bi (own_L p1))), .unset] [(.int (1 : Int32))])) _
                                  refine XS.goto X0.here hx rfl (pc0 := 145) (pc' := 149) rfl (hb hby d_method_2_145) (by decide) (by decide) ?_
                                  show Steps p.tables e below (s₁.setTop (mkF m 149 #[.val (.int p1), .val (.int (bi (own_D p1))), .val (.int (bi (own_U p1))), .val (.int (bi (own_L p1))), .unset] [(.int (1 : Int32))])) _
                                  have w0 : (bi (own_S p1)) = (1 : Int32) := by exact bi_t (by simp [own_S, hc57, hc63, hc69, hc75, hc81, hc87, hc93, hc99, hc105, hc111, hc117, hc123, hc129, hc135, hc141])
                                  replace q := Eq.mp (congrArg (fun z => Steps p.tables e below (s₁.setTop (mkF m 149 #[.val (.int p1), .val (.int (bi (own_D p1))), .val (.int (bi (own_U p1))), .val (.int (bi (own_L p1))), .unset] [(.int z)])) t) w0) q
                                  exact q
                                · refine XS.icmpYes X0.here hx rfl (pc0 := 141) (pc' := 148) rfl (hb hby d_method_2_141) rfl (feq hc141).2 (by decide) (by decide) ?_
                                  show Steps p.tables e below (s₁.setTop (mkF m 148 #[.val (.int p1), .val (.int (bi (own_D p1))), .val (.int (bi (own_U p1))), .val (.int (bi (own_L p1))), .unset] [])) _
                                  refine XS.iconst X0.here hx rfl (hb hby d_method_2_148) ?_
                                  show Steps p.tables e below (s₁.setTop (mkF m 149 #[.val (.int p1), .val (.int (bi (own_D p1))), .val (.int (bi (own_U p1))), .val (.int (bi (own_L p1))), .unset] [(.int (0 : Int32))])) _
                                  have w0 : (bi (own_S p1)) = (0 : Int32) := by exact bi_f (by simp [own_S, hc57, hc63, hc69, hc75, hc81, hc87, hc93, hc99, hc105, hc111, hc117, hc123, hc129, hc135, hc141])
                                  replace q := Eq.mp (congrArg (fun z => Steps p.tables e below (s₁.setTop (mkF m 149 #[.val (.int p1), .val (.int (bi (own_D p1))), .val (.int (bi (own_U p1))), .val (.int (bi (own_L p1))), .unset] [(.int z)])) t) w0) q
                                  exact q
  have k8_ : ∀ t, Steps p.tables e below (s₁.setTop (mkF m 151 #[.val (.int p1), .val (.int (bi (own_D p1))), .val (.int (bi (own_U p1))), .val (.int (bi (own_L p1))), .val (.int (bi (own_S p1)))] [])) t → Steps p.tables e below (s₁.setTop (mkF m 0 #[.val (.int p1), .unset, .unset, .unset, .unset] [])) t := by
    intro t q
    refine k7_ _ ?_
    show Steps p.tables e below (s₁.setTop (mkF m 149 #[.val (.int p1), .val (.int (bi (own_D p1))), .val (.int (bi (own_U p1))), .val (.int (bi (own_L p1))), .unset] [(.int (bi (own_S p1)))])) _
    refine XS.istore X0.here hx rfl (hb hby d_method_2_149) rfl (l' := #[.val (.int p1), .val (.int (bi (own_D p1))), .val (.int (bi (own_U p1))), .val (.int (bi (own_L p1))), .val (.int (bi (own_S p1)))]) rfl ?_
    show Steps p.tables e below (s₁.setTop (mkF m 151 #[.val (.int p1), .val (.int (bi (own_D p1))), .val (.int (bi (own_U p1))), .val (.int (bi (own_L p1))), .val (.int (bi (own_S p1)))] [])) _
    exact q
  have k9_ : ∀ t, Steps p.tables e below (s₁.setTop (mkF m 173 #[.val (.int p1), .val (.int (bi (own_D p1))), .val (.int (bi (own_U p1))), .val (.int (bi (own_L p1))), .val (.int (bi (own_S p1)))] [(.int (bi (own_T p1)))])) t → Steps p.tables e below (s₁.setTop (mkF m 0 #[.val (.int p1), .unset, .unset, .unset, .unset] [])) t := by
    intro t q
    refine k8_ _ ?_
    show Steps p.tables e below (s₁.setTop (mkF m 151 #[.val (.int p1), .val (.int (bi (own_D p1))), .val (.int (bi (own_U p1))), .val (.int (bi (own_L p1))), .val (.int (bi (own_S p1)))] [])) _
    refine XS.iloadN X0.here hx rfl (hb hby d_method_2_151) rfl ?_
    show Steps p.tables e below (s₁.setTop (mkF m 152 #[.val (.int p1), .val (.int (bi (own_D p1))), .val (.int (bi (own_U p1))), .val (.int (bi (own_L p1))), .val (.int (bi (own_S p1)))] [(.int (bi (own_D p1)))])) _
    by_cases hc152 : (bi (own_D p1)) = (0 : Int32)
    · refine XS.ifNo X0.here hx rfl (hb hby d_method_2_152) rfl ((if0 _ _).trans (teq hc152).2) ?_
      show Steps p.tables e below (s₁.setTop (mkF m 155 #[.val (.int p1), .val (.int (bi (own_D p1))), .val (.int (bi (own_U p1))), .val (.int (bi (own_L p1))), .val (.int (bi (own_S p1)))] [])) _
      refine XS.iloadN X0.here hx rfl (hb hby d_method_2_155) rfl ?_
      show Steps p.tables e below (s₁.setTop (mkF m 156 #[.val (.int p1), .val (.int (bi (own_D p1))), .val (.int (bi (own_U p1))), .val (.int (bi (own_L p1))), .val (.int (bi (own_S p1)))] [(.int (bi (own_U p1)))])) _
      by_cases hc156 : (bi (own_U p1)) = (0 : Int32)
      · refine XS.ifNo X0.here hx rfl (hb hby d_method_2_156) rfl ((if0 _ _).trans (teq hc156).2) ?_
        show Steps p.tables e below (s₁.setTop (mkF m 159 #[.val (.int p1), .val (.int (bi (own_D p1))), .val (.int (bi (own_U p1))), .val (.int (bi (own_L p1))), .val (.int (bi (own_S p1)))] [])) _
        refine XS.iloadN X0.here hx rfl (hb hby d_method_2_159) rfl ?_
        show Steps p.tables e below (s₁.setTop (mkF m 160 #[.val (.int p1), .val (.int (bi (own_D p1))), .val (.int (bi (own_U p1))), .val (.int (bi (own_L p1))), .val (.int (bi (own_S p1)))] [(.int (bi (own_L p1)))])) _
        by_cases hc160 : (bi (own_L p1)) = (0 : Int32)
        · refine XS.ifNo X0.here hx rfl (hb hby d_method_2_160) rfl ((if0 _ _).trans (teq hc160).2) ?_
          show Steps p.tables e below (s₁.setTop (mkF m 163 #[.val (.int p1), .val (.int (bi (own_D p1))), .val (.int (bi (own_U p1))), .val (.int (bi (own_L p1))), .val (.int (bi (own_S p1)))] [])) _
          refine XS.iload X0.here hx rfl (hb hby d_method_2_163) rfl ?_
          show Steps p.tables e below (s₁.setTop (mkF m 165 #[.val (.int p1), .val (.int (bi (own_D p1))), .val (.int (bi (own_U p1))), .val (.int (bi (own_L p1))), .val (.int (bi (own_S p1)))] [(.int (bi (own_S p1)))])) _
          by_cases hc165 : (bi (own_S p1)) = (0 : Int32)
          · refine XS.ifYes X0.here hx rfl (pc0 := 165) (pc' := 172) rfl (hb hby d_method_2_165) rfl ((if0 _ _).trans (teq hc165).1) (by decide) (by decide) ?_
            show Steps p.tables e below (s₁.setTop (mkF m 172 #[.val (.int p1), .val (.int (bi (own_D p1))), .val (.int (bi (own_U p1))), .val (.int (bi (own_L p1))), .val (.int (bi (own_S p1)))] [])) _
            refine XS.iconst X0.here hx rfl (hb hby d_method_2_172) ?_
            show Steps p.tables e below (s₁.setTop (mkF m 173 #[.val (.int p1), .val (.int (bi (own_D p1))), .val (.int (bi (own_U p1))), .val (.int (bi (own_L p1))), .val (.int (bi (own_S p1)))] [(.int (0 : Int32))])) _
            have w0 : (bi (own_T p1)) = (0 : Int32) := by exact bi_f (fun q => q.elim (fun z => z hc152) (fun q => q.elim (fun z => z hc156) (fun q => q.elim (fun z => z hc160) (fun z => z hc165))))
            replace q := Eq.mp (congrArg (fun z => Steps p.tables e below (s₁.setTop (mkF m 173 #[.val (.int p1), .val (.int (bi (own_D p1))), .val (.int (bi (own_U p1))), .val (.int (bi (own_L p1))), .val (.int (bi (own_S p1)))] [(.int z)])) t) w0) q
            exact q
          · refine XS.ifNo X0.here hx rfl (hb hby d_method_2_165) rfl ((if0 _ _).trans (feq hc165).1) ?_
            show Steps p.tables e below (s₁.setTop (mkF m 168 #[.val (.int p1), .val (.int (bi (own_D p1))), .val (.int (bi (own_U p1))), .val (.int (bi (own_L p1))), .val (.int (bi (own_S p1)))] [])) _
            refine XS.iconst X0.here hx rfl (hb hby d_method_2_168) ?_
            show Steps p.tables e below (s₁.setTop (mkF m 169 #[.val (.int p1), .val (.int (bi (own_D p1))), .val (.int (bi (own_U p1))), .val (.int (bi (own_L p1))), .val (.int (bi (own_S p1)))] [(.int (1 : Int32))])) _
            refine XS.goto X0.here hx rfl (pc0 := 169) (pc' := 173) rfl (hb hby d_method_2_169) (by decide) (by decide) ?_
            show Steps p.tables e below (s₁.setTop (mkF m 173 #[.val (.int p1), .val (.int (bi (own_D p1))), .val (.int (bi (own_U p1))), .val (.int (bi (own_L p1))), .val (.int (bi (own_S p1)))] [(.int (1 : Int32))])) _
            have w0 : (bi (own_T p1)) = (1 : Int32) := by exact bi_t (Or.inr (Or.inr (Or.inr hc165)))
            replace q := Eq.mp (congrArg (fun z => Steps p.tables e below (s₁.setTop (mkF m 173 #[.val (.int p1), .val (.int (bi (own_D p1))), .val (.int (bi (own_U p1))), .val (.int (bi (own_L p1))), .val (.int (bi (own_S p1)))] [(.int z)])) t) w0) q
            exact q
        · refine XS.ifYes X0.here hx rfl (pc0 := 160) (pc' := 168) rfl (hb hby d_method_2_160) rfl ((if0 _ _).trans (feq hc160).2) (by decide) (by decide) ?_
          show Steps p.tables e below (s₁.setTop (mkF m 168 #[.val (.int p1), .val (.int (bi (own_D p1))), .val (.int (bi (own_U p1))), .val (.int (bi (own_L p1))), .val (.int (bi (own_S p1)))] [])) _
          refine XS.iconst X0.here hx rfl (hb hby d_method_2_168) ?_
          show Steps p.tables e below (s₁.setTop (mkF m 169 #[.val (.int p1), .val (.int (bi (own_D p1))), .val (.int (bi (own_U p1))), .val (.int (bi (own_L p1))), .val (.int (bi (own_S p1)))] [(.int (1 : Int32))])) _
          refine XS.goto X0.here hx rfl (pc0 := 169) (pc' := 173) rfl (hb hby d_method_2_169) (by decide) (by decide) ?_
          show Steps p.tables e below (s₁.setTop (mkF m 173 #[.val (.int p1), .val (.int (bi (own_D p1))), .val (.int (bi (own_U p1))), .val (.int (bi (own_L p1))), .val (.int (bi (own_S p1)))] [(.int (1 : Int32))])) _
          have w0 : (bi (own_T p1)) = (1 : Int32) := by exact bi_t (Or.inr (Or.inr (Or.inl hc160)))
          replace q := Eq.mp (congrArg (fun z => Steps p.tables e below (s₁.setTop (mkF m 173 #[.val (.int p1), .val (.int (bi (own_D p1))), .val (.int (bi (own_U p1))), .val (.int (bi (own_L p1))), .val (.int (bi (own_S p1)))] [(.int z)])) t) w0) q
          exact q
      · refine XS.ifYes X0.here hx rfl (pc0 := 156) (pc' := 168) rfl (hb hby d_method_2_156) rfl ((if0 _ _).trans (feq hc156).2) (by decide) (by decide) ?_
        show Steps p.tables e below (s₁.setTop (mkF m 168 #[.val (.int p1), .val (.int (bi (own_D p1))), .val (.int (bi (own_U p1))), .val (.int (bi (own_L p1))), .val (.int (bi (own_S p1)))] [])) _
        refine XS.iconst X0.here hx rfl (hb hby d_method_2_168) ?_
        show Steps p.tables e below (s₁.setTop (mkF m 169 #[.val (.int p1), .val (.int (bi (own_D p1))), .val (.int (bi (own_U p1))), .val (.int (bi (own_L p1))), .val (.int (bi (own_S p1)))] [(.int (1 : Int32))])) _
        refine XS.goto X0.here hx rfl (pc0 := 169) (pc' := 173) rfl (hb hby d_method_2_169) (by decide) (by decide) ?_
        show Steps p.tables e below (s₁.setTop (mkF m 173 #[.val (.int p1), .val (.int (bi (own_D p1))), .val (.int (bi (own_U p1))), .val (.int (bi (own_L p1))), .val (.int (bi (own_S p1)))] [(.int (1 : Int32))])) _
        have w0 : (bi (own_T p1)) = (1 : Int32) := by exact bi_t (Or.inr (Or.inl hc156))
        replace q := Eq.mp (congrArg (fun z => Steps p.tables e below (s₁.setTop (mkF m 173 #[.val (.int p1), .val (.int (bi (own_D p1))), .val (.int (bi (own_U p1))), .val (.int (bi (own_L p1))), .val (.int (bi (own_S p1)))] [(.int z)])) t) w0) q
        exact q
    · refine XS.ifYes X0.here hx rfl (pc0 := 152) (pc' := 168) rfl (hb hby d_method_2_152) rfl ((if0 _ _).trans (feq hc152).2) (by decide) (by decide) ?_
      show Steps p.tables e below (s₁.setTop (mkF m 168 #[.val (.int p1), .val (.int (bi (own_D p1))), .val (.int (bi (own_U p1))), .val (.int (bi (own_L p1))), .val (.int (bi (own_S p1)))] [])) _
      refine XS.iconst X0.here hx rfl (hb hby d_method_2_168) ?_
      show Steps p.tables e below (s₁.setTop (mkF m 169 #[.val (.int p1), .val (.int (bi (own_D p1))), .val (.int (bi (own_U p1))), .val (.int (bi (own_L p1))), .val (.int (bi (own_S p1)))] [(.int (1 : Int32))])) _
      refine XS.goto X0.here hx rfl (pc0 := 169) (pc' := 173) rfl (hb hby d_method_2_169) (by decide) (by decide) ?_
      show Steps p.tables e below (s₁.setTop (mkF m 173 #[.val (.int p1), .val (.int (bi (own_D p1))), .val (.int (bi (own_U p1))), .val (.int (bi (own_L p1))), .val (.int (bi (own_S p1)))] [(.int (1 : Int32))])) _
      have w0 : (bi (own_T p1)) = (1 : Int32) := by exact bi_t (Or.inl hc152)
      replace q := Eq.mp (congrArg (fun z => Steps p.tables e below (s₁.setTop (mkF m 173 #[.val (.int p1), .val (.int (bi (own_D p1))), .val (.int (bi (own_U p1))), .val (.int (bi (own_L p1))), .val (.int (bi (own_S p1)))] [(.int z)])) t) w0) q
      exact q
  obtain ⟨fs, hr, hrun, hended, hW, hsame⟩ := X0.leave (v := some (.int (nar .boolean (bi (own_T p1))))) (fun h => by rw [Bd.returns] at h; cases h)
  refine ⟨_, _, pre0 _ (k9_ _ ?_), hrun, hended, _, _, rfl, ?_, ⟨_, rfl⟩, hW, hsame.mono (by decide) (by decide)⟩
  · show Steps p.tables e below (s₁.setTop (mkF m 173 #[.val (.int p1), .val (.int (bi (own_D p1))), .val (.int (bi (own_U p1))), .val (.int (bi (own_L p1))), .val (.int (bi (own_S p1)))] [(.int (bi (own_T p1)))])) _
    exact retN X0 hx (t := .boolean) Bd.returns (by simp) (hb hby d_method_2_173) hr
  · show QE Z p1 h0 n0 _ s₁.heap _
    rw [e0]
    exact ⟨by rw [bi_nar], N0, rfl⟩
def own_x (a b : Int32) : Int32 := if (b &&& (1 : Int32)) = (0 : Int32) then a else (a &&& (255 : Int32))
def Q0 (Z : State) (p1 : Int32) (p2 : Int32) (aT : Addr) (cl : Cell) (h0 : Heap) (n0 : Nat) (v : Option Value) (h : Heap) (L : List Loc) : Prop := v = some (.int 1) ∧ Fr n0 L
theorem ef_0 (m : MethodId) (x0 : Int32) (x1 : Int32) : entryFrame m #[(.int x0), (.int x1)] maxLocals = mkF m 0 #[.val (.int x0), .val (.int x1), .unset] [] := by first | (simp [entryFrame, mkF, argsToLocals, Value.category, maxLocals]; done) | rfl
theorem pd_27780 : parseMethodDescriptor "(I)Z" = some ⟨[.int], some .boolean⟩ := by decide +kernel
set_option maxRecDepth 65536 in
set_option maxHeartbeats 40000000 in
theorem rm0 (l : Launch) (Z : State) (a0 : Array Value) (hw : ∀ d ∈ tables_1, d.before a0 Z = true) (ws : List Jvm.Cond) (p1 : Int32) (p2 : Int32) (aT : Addr) (cl : Cell) (h0 : Heap) (n0 : Nat) (Z0 : n0 ≤ h0.size) (ST : Sta Z h0 "com/example/lean_router/leanrouter/http/HttpSyntax" "TOKEN_CHARS" "[Z" (.ref aT)) (TB : Tab Z h0 aT cl .boolean 128) (htv : ∀ n, n < 128 → atv cl (Int32.ofNat n) = own_tv n) :
    MetFree l x (head1 (Jvm.Cond.code x code maxLocals ret :: ws) room_1) (fun a' U => a' = #[(.int p1), (.int p2)] ∧ Z.Warmed39 U.vm ∧ U.heap = h0) (fun _ _ _ _ _ => True) (fun _ U o U' => ∃ v L, o = .returned v ∧ Q0 Z p1 p2 aT cl h0 n0 v U'.heap L ∧ FrameEnd U o U' L room_1.cells room_1.slots) := by
  refine MetFree.of_bodySF (plainFor_of_name pn_HttpSyntaxIsTokenCharPinLaw) hisR ?_
  intro p e s m args below meth c s₁ Bd hml0 hP hK
  obtain ⟨rfl, hZ, hh⟩ := hP
  have hx := Bd.exec
  have hby := Bd.bytes
  have hml : c.maxLocals = 3 := hml0
  have hown : s.vm.findClass "com/example/lean_router/leanrouter/http/HttpSyntaxIsTokenCharPinLaw" = some m.cls := findClass_of_methodNamed Bd.named
  have hnm := (name_of_methodNamed Bd.named Bd.method).1
  have X0 : Stand p l e room_1 s m #[(.int p1), (.int p2)] below meth c s₁ [] 0 0 := Stand.of_body Bd
  have e0 : s₁.heap = h0 := by rw [← hh, Bd.state]; rfl
  have N0 := Fr.nil n0
  have Zn := Z0
  have pre0 : ∀ t, Steps p.tables e below (s₁.setTop (mkF m 0 #[.val (.int p1), .val (.int p2), .unset] [])) t → Steps p.tables e below (s₁.setTop (entryFrame m #[(.int p1), (.int p2)] maxLocals)) t := fun t q => castTop (ef_0 m p1 p2) q
  have k0 : ∀ t, Steps p.tables e below (s₁.setTop (mkF m 0 #[.val (.int p1), .val (.int p2), .unset] [])) t → Steps p.tables e below (s₁.setTop (mkF m 0 #[.val (.int p1), .val (.int p2), .unset] [])) t := fun t q => q
  have k1_ : ∀ t, Steps p.tables e below (s₁.setTop (mkF m 15 #[.val (.int p1), .val (.int p2), .unset] [(.int (own_x p1 p2))])) t → Steps p.tables e below (s₁.setTop (mkF m 0 #[.val (.int p1), .val (.int p2), .unset] [])) t := by
    intro t q
    refine k0 _ ?_
    show Steps p.tables e below (s₁.setTop (mkF m 0 #[.val (.int p1), .val (.int p2), .unset] [])) _
    refine XS.iloadN X0.here hx rfl (hb hby at_0) rfl ?_
    show Steps p.tables e below (s₁.setTop (mkF m 1 #[.val (.int p1), .val (.int p2), .unset] [(.int p2)])) _
    refine XS.iconst X0.here hx rfl (hb hby at_1) ?_
    show Steps p.tables e below (s₁.setTop (mkF m 2 #[.val (.int p1), .val (.int p2), .unset] [(.int (1 : Int32)), (.int p2)])) _
    refine XS.iand X0.here hx rfl (hb hby at_2) rfl ?_
    show Steps p.tables e below (s₁.setTop (mkF m 3 #[.val (.int p1), .val (.int p2), .unset] [(.int (p2 &&& (1 : Int32)))])) _
    by_cases hc3 : (p2 &&& (1 : Int32)) = (0 : Int32)
    · refine XS.ifYes X0.here hx rfl (pc0 := 3) (pc' := 14) rfl (hb hby at_3) rfl ((if0 _ _).trans (teq hc3).1) (by decide) (by decide) ?_
      show Steps p.tables e below (s₁.setTop (mkF m 14 #[.val (.int p1), .val (.int p2), .unset] [])) _
      refine XS.iloadN X0.here hx rfl (hb hby at_14) rfl ?_
      show Steps p.tables e below (s₁.setTop (mkF m 15 #[.val (.int p1), .val (.int p2), .unset] [(.int p1)])) _
      have w0 : (own_x p1 p2) = p1 := by unfold own_x; first | exact if_pos hc3 | exact if_neg hc3
      replace q := Eq.mp (congrArg (fun z => Steps p.tables e below (s₁.setTop (mkF m 15 #[.val (.int p1), .val (.int p2), .unset] [(.int z)])) t) w0) q
      exact q
    · refine XS.ifNo X0.here hx rfl (hb hby at_3) rfl ((if0 _ _).trans (feq hc3).1) ?_
      show Steps p.tables e below (s₁.setTop (mkF m 6 #[.val (.int p1), .val (.int p2), .unset] [])) _
      refine XS.iloadN X0.here hx rfl (hb hby at_6) rfl ?_
      show Steps p.tables e below (s₁.setTop (mkF m 7 #[.val (.int p1), .val (.int p2), .unset] [(.int p1)])) _
      refine XS.sipush X0.here hx rfl (hb hby at_7) ?_
      show Steps p.tables e below (s₁.setTop (mkF m 10 #[.val (.int p1), .val (.int p2), .unset] [(.int (255 : Int32)), (.int p1)])) _
      refine XS.iand X0.here hx rfl (hb hby at_10) rfl ?_
      show Steps p.tables e below (s₁.setTop (mkF m 11 #[.val (.int p1), .val (.int p2), .unset] [(.int (p1 &&& (255 : Int32)))])) _
      refine XS.goto X0.here hx rfl (pc0 := 11) (pc' := 15) rfl (hb hby at_11) (by decide) (by decide) ?_
      show Steps p.tables e below (s₁.setTop (mkF m 15 #[.val (.int p1), .val (.int p2), .unset] [(.int (p1 &&& (255 : Int32)))])) _
      have w0 : (own_x p1 p2) = (p1 &&& (255 : Int32)) := by unfold own_x; first | exact if_pos hc3 | exact if_neg hc3
      replace q := Eq.mp (congrArg (fun z => Steps p.tables e below (s₁.setTop (mkF m 15 #[.val (.int p1), .val (.int p2), .unset] [(.int z)])) t) w0) q
      exact q
  have k2_ : ∀ t, Steps p.tables e below (s₁.setTop (mkF m 17 #[.val (.int p1), .val (.int p2), .val (.int (own_x p1 p2))] [(.int (own_x p1 p2))])) t → Steps p.tables e below (s₁.setTop (mkF m 0 #[.val (.int p1), .val (.int p2), .unset] [])) t := by
    intro t q
    refine k1_ _ ?_
    show Steps p.tables e below (s₁.setTop (mkF m 15 #[.val (.int p1), .val (.int p2), .unset] [(.int (own_x p1 p2))])) _
    refine XS.istoreN X0.here hx rfl (hb hby at_15) rfl (l' := #[.val (.int p1), .val (.int p2), .val (.int (own_x p1 p2))]) rfl ?_
    show Steps p.tables e below (s₁.setTop (mkF m 16 #[.val (.int p1), .val (.int p2), .val (.int (own_x p1 p2))] [])) _
    refine XS.iloadN X0.here hx rfl (hb hby at_16) rfl ?_
    show Steps p.tables e below (s₁.setTop (mkF m 17 #[.val (.int p1), .val (.int p2), .val (.int (own_x p1 p2))] [(.int (own_x p1 p2))])) _
    exact q
  obtain ⟨_, _, ⟨T3, L3, kk3, n3⟩, -, X3, ⟨Lc3, hQ3, l3, y3, z3⟩, st3⟩ := Jvm.LawKit.callS X0 hx (y := (⟨"com/example/lean_router/leanrouter/http/HttpSyntax", "isTokenChar", "(I)Z"⟩ : MethodName)) hown (mvT hZ (hw _ (List.mem_of_getElem? (i := 0) rfl))) (mvT hZ (hw _ (List.mem_of_getElem? (i := 1) rfl))) (mvT hZ (hw _ (List.mem_of_getElem? (i := 2) rfl))) (mvT hZ (hw _ (List.mem_of_getElem? (i := 3) rfl))) (by decide) (backOf (W := 0) (rmT l Z a0 hw [] (own_x p1 p2) aT cl h0 n0 Z0 ST TB) hZ (hw _ (List.mem_of_getElem? (i := 3) rfl)) (hw _ (List.mem_of_getElem? (i := 2) rfl)) (by decide) (by decide)) (g := (mkF m 17 #[.val (.int p1), .val (.int p2), .val (.int (own_x p1 p2))] [(.int (own_x p1 p2))])) rfl (by rw [hml]; rfl) (argsL := [(.int (own_x p1 p2))]) (rest := []) (lenOf pd_27780 rfl) rfl (by show 2 * 0 + _ ≤ _; exact Nat.le_of_eq rfl) (hb hby at_17) (fun _ _ => ⟨rfl, e0, (by decide : 0 + 0 ≤ _), (by decide : 0 + 0 ≤ _)⟩)
  dsimp only [Pt.U, Pt.locs, Pt.cells, Pt.slots] at X3 l3 y3 z3 st3 hQ3
  subst l3 y3 z3
  obtain ⟨rfl, Nq3, hq3⟩ := hQ3
  have N3 := Fr.app N0 Nq3
  have k4_ : ∀ t, Steps p.tables e below (T3.setTop (mkF m 20 #[.val (.int p1), .val (.int p2), .val (.int (own_x p1 p2))] [(.int (own_tok cl (own_x p1 p2)))])) t → Steps p.tables e below (s₁.setTop (mkF m 0 #[.val (.int p1), .val (.int p2), .unset] [])) t := fun t q => k2_ t (st3 t q)
  have k5_ : ∀ t, Steps p.tables e below (T3.setTop (mkF m 21 #[.val (.int p1), .val (.int p2), .val (.int (own_x p1 p2))] [(.int (own_x p1 p2)), (.int (own_tok cl (own_x p1 p2)))])) t → Steps p.tables e below (s₁.setTop (mkF m 0 #[.val (.int p1), .val (.int p2), .unset] [])) t := by
    intro t q
    refine k4_ _ ?_
    show Steps p.tables e below (T3.setTop (mkF m 20 #[.val (.int p1), .val (.int p2), .val (.int (own_x p1 p2))] [(.int (own_tok cl (own_x p1 p2)))])) _
    refine XS.iloadN X3.here hx rfl (hb hby at_20) rfl ?_
    show Steps p.tables e below (T3.setTop (mkF m 21 #[.val (.int p1), .val (.int p2), .val (.int (own_x p1 p2))] [(.int (own_x p1 p2)), (.int (own_tok cl (own_x p1 p2)))])) _
    exact q
  obtain ⟨_, _, ⟨T6, L6, kk6, n6⟩, -, X6, ⟨Lc6, hQ6, l6, y6, z6⟩, st6⟩ := Jvm.LawKit.callS X3 hx (y := (⟨"com/example/lean_router/leanrouter/http/HttpSyntaxIsTokenCharPinLaw", "tchar", "(I)Z"⟩ : MethodName)) hown (mvT hZ (hw _ (List.mem_of_getElem? (i := 6) rfl))) (mvT hZ (hw _ (List.mem_of_getElem? (i := 7) rfl))) (mvT hZ (hw _ (List.mem_of_getElem? (i := 8) rfl))) (mvT hZ (hw _ (List.mem_of_getElem? (i := 9) rfl))) (by decide) (backOf (W := 1) (rmE l Z a0 hw [] (own_x p1 p2) h0 n0 Z0) hZ (hw _ (List.mem_of_getElem? (i := 9) rfl)) (hw _ (List.mem_of_getElem? (i := 8) rfl)) (by decide) (by decide)) (g := (mkF m 21 #[.val (.int p1), .val (.int p2), .val (.int (own_x p1 p2))] [(.int (own_x p1 p2)), (.int (own_tok cl (own_x p1 p2)))])) rfl (by rw [hml]; rfl) (argsL := [(.int (own_x p1 p2))]) (rest := [(.int (own_tok cl (own_x p1 p2)))]) (lenOf pd_27780 rfl) rfl (by show 2 * 0 + _ ≤ _; exact Nat.le_of_eq rfl) (hb hby at_21) (fun _ _ => ⟨rfl, hq3, (by decide : 0 + 0 + 0 ≤ _), (by decide : 0 + 0 + 0 ≤ _)⟩)
  dsimp only [Pt.U, Pt.locs, Pt.cells, Pt.slots] at X6 l6 y6 z6 st6 hQ6
  subst l6 y6 z6
  obtain ⟨rfl, Nq6, hq6⟩ := hQ6
  have N6 := Fr.app N3 Nq6
  have k7_ : ∀ t, Steps p.tables e below (T6.setTop (mkF m 24 #[.val (.int p1), .val (.int p2), .val (.int (own_x p1 p2))] [(.int (bi (own_T (own_x p1 p2)))), (.int (own_tok cl (own_x p1 p2)))])) t → Steps p.tables e below (s₁.setTop (mkF m 0 #[.val (.int p1), .val (.int p2), .unset] [])) t := fun t q => k5_ t (st6 t q)
  have k8_ : ∀ t, Steps p.tables e below (T6.setTop (mkF m 27 #[.val (.int p1), .val (.int p2), .val (.int (own_x p1 p2))] [])) t → Steps p.tables e below (s₁.setTop (mkF m 0 #[.val (.int p1), .val (.int p2), .unset] [])) t := by
    intro t q
    refine k7_ _ ?_
    show Steps p.tables e below (T6.setTop (mkF m 24 #[.val (.int p1), .val (.int p2), .val (.int (own_x p1 p2))] [(.int (bi (own_T (own_x p1 p2)))), (.int (own_tok cl (own_x p1 p2)))])) _
    refine XS.icmpNo X6.here hx rfl (hb hby at_24) rfl (teq (own_eq htv _)).2 ?_
    show Steps p.tables e below (T6.setTop (mkF m 27 #[.val (.int p1), .val (.int p2), .val (.int (own_x p1 p2))] [])) _
    exact q
  have k9_ : ∀ t, Steps p.tables e below (T6.setTop (mkF m 32 #[.val (.int p1), .val (.int p2), .val (.int (own_x p1 p2))] [(.int (1 : Int32))])) t → Steps p.tables e below (s₁.setTop (mkF m 0 #[.val (.int p1), .val (.int p2), .unset] [])) t := by
    intro t q
    refine k8_ _ ?_
    show Steps p.tables e below (T6.setTop (mkF m 27 #[.val (.int p1), .val (.int p2), .val (.int (own_x p1 p2))] [])) _
    refine XS.iconst X6.here hx rfl (hb hby at_27) ?_
    show Steps p.tables e below (T6.setTop (mkF m 28 #[.val (.int p1), .val (.int p2), .val (.int (own_x p1 p2))] [(.int (1 : Int32))])) _
    refine XS.goto X6.here hx rfl (pc0 := 28) (pc' := 32) rfl (hb hby at_28) (by decide) (by decide) ?_
    show Steps p.tables e below (T6.setTop (mkF m 32 #[.val (.int p1), .val (.int p2), .val (.int (own_x p1 p2))] [(.int (1 : Int32))])) _
    exact q
  obtain ⟨fs, hr, hrun, hended, hW, hsame⟩ := X6.leave (v := some (.int (1 : Int32))) (fun h => by rw [Bd.returns] at h; cases h)
  refine ⟨_, _, pre0 _ (k9_ _ ?_), hrun, hended, _, _, rfl, ?_, ⟨_, rfl⟩, hW, hsame.mono (by decide) (by decide)⟩
  · show Steps p.tables e below (T6.setTop (mkF m 32 #[.val (.int p1), .val (.int p2), .val (.int (own_x p1 p2))] [(.int (1 : Int32))])) _
    exact retN X6 hx (t := .boolean) Bd.returns (by simp) (hb hby at_32) hr
  · show Q0 Z p1 p2 aT cl h0 n0 _ T6.heap _
    rw [hq6]
    exact ⟨rfl, N6⟩
set_option maxRecDepth 65536 in
set_option maxHeartbeats 40000000 in
theorem comes_1 {Post : Tables → Env → Array Value → State → Outcome → State → Prop} (hpost : ∀ tb e args s v u, (limb_1_1.after args s (.returned v) u = true ∧ limb_1_2.after args s (.returned v) u = true ∧ True) → FrameEnd s (.returned v) u (Jvm.fieldLocs frame_1_writes args s ++ Jvm.arrayLocs frame_1_arrays args s ++ Jvm.staticLocs frame_1_statics s) 0 0 → Post tb e args s (.returned v) u) :
    ArmFor flags0 classFile x code maxLocals ret World_1 tables_1 room_1 Calls_1 rest_1 Pre_1 Post := by
  intro l hfl _ _ p e ha hc hk s m args below hf hA hF happ hP
  obtain ⟨hcalls, hrest, hpre⟩ := hP
  obtain ⟨-, -, -, hnamed, -, -, -, hat⟩ := (Spec.applies_iff hf).mp happ
  obtain ⟨hg, hn⟩ := and_e (Cond.before_iff.mp (show (Jvm.Cond.and given_1 narrow_1).before args s = true from hpre))
  obtain ⟨hcnt, hg0⟩ := and_e hg
  obtain ⟨hi0, hg1⟩ := and_e hg0
  have hi1 := hg1
  obtain ⟨w0, w1, rfl⟩ : ∃ w0 w1 : Value, args = #[w0, w1] := by
    have hs : args.size = 2 := by simpa [Cond.value, given_1] using hcnt
    obtain ⟨L⟩ := args
    match L, hs with
    | [w0, w1], _ => exact ⟨w0, w1, rfl⟩
  have hw := fun d (hd : d ∈ tables_1) => atoms_spec (ws := Jvm.Cond.code x code maxLocals ret :: tables_1) hat d (List.mem_cons_of_mem _ hd)
  have hfit : Fit s := fun {y c} hc i hi => by
    obtain ⟨ha, rfl⟩ := Array.getElem?_eq_some_iff.mp hc
    have q := List.all_eq_true.mp ((Array.all_eq_true_iff_forall_mem.mp hF) _ (Array.getElem_mem ha)) i (List.mem_range.mpr hi)
    simpa [Array.getElem?_eq_getElem hi] using q
  obtain ⟨i0, ei0⟩ := is_v hi0
  obtain rfl : w0 = (.int i0) := Option.some.inj ei0
  obtain ⟨i1, ei1⟩ := is_v hi1
  obtain rfl : w1 = (.int i1) := Option.some.inj ei1
  obtain ⟨na0, nr0⟩ := and_e hn
  obtain ⟨aT, evT⟩ := arr_v na0
  obtain ⟨cl, A⟩ := Arr.start evT na0
  have hcl := A.1
  have haT := A.fin (Vm.Alike.refl _)
  have evI := own_sta_idx evT
  obtain ⟨na1, nr1⟩ := and_e nr0
  obtain ⟨lq, lz⟩ := own_len na1 evT haT
  have hsz : cl.slots.size = 128 := by
    have e := own_toInt_ofNat lq
    have e2 : (Int32.ofNat cl.slots.size).toInt = (128 : Int32).toInt := congrArg Int32.toInt lz
    have e3 : (128 : Int32).toInt = 128 := rfl
    omega
  obtain ⟨na2, nr2⟩ := and_e nr1
  obtain ⟨na3, nr3⟩ := and_e nr2
  obtain ⟨na4, nr4⟩ := and_e nr3
  obtain ⟨na5, nr5⟩ := and_e nr4
  obtain ⟨na6, nr6⟩ := and_e nr5
  obtain ⟨na7, nr7⟩ := and_e nr6
  obtain ⟨na8, nr8⟩ := and_e nr7
  obtain ⟨na9, nr9⟩ := and_e nr8
  obtain ⟨na10, nr10⟩ := and_e nr9
  obtain ⟨na11, nr11⟩ := and_e nr10
  obtain ⟨na12, nr12⟩ := and_e nr11
  obtain ⟨na13, nr13⟩ := and_e nr12
  obtain ⟨na14, nr14⟩ := and_e nr13
  obtain ⟨na15, nr15⟩ := and_e nr14
  obtain ⟨na16, nr16⟩ := and_e nr15
  obtain ⟨na17, nr17⟩ := and_e nr16
  obtain ⟨na18, nr18⟩ := and_e nr17
  obtain ⟨na19, nr19⟩ := and_e nr18
  obtain ⟨na20, nr20⟩ := and_e nr19
  obtain ⟨na21, nr21⟩ := and_e nr20
  obtain ⟨na22, nr22⟩ := and_e nr21
  obtain ⟨na23, nr23⟩ := and_e nr22
  obtain ⟨na24, nr24⟩ := and_e nr23
  have na25 := nr24
  have htv : ∀ n, n < 128 → atv cl (Int32.ofNat n) = own_tv n := by
    intro n hn
    have en := own_toInt_ofNat (n := n) (by omega)
    unfold own_tv
    by_cases c2 : n < 33
    · rw [if_pos c2]; exact own_r1 na2 evI hcl haT (by omega) (by rw [Int32.le_iff_toInt_le]; show ¬ (33 : Int) ≤ (Int32.ofNat n).toInt; omega)
    rw [if_neg c2]
    by_cases c3 : n = 33
    · rw [if_pos c3, c3]; exact own_el na3 evT rfl hcl
    rw [if_neg c3]
    by_cases c4 : n = 34
    · rw [if_pos c4, c4]; exact own_el na4 evT rfl hcl
    rw [if_neg c4]
    by_cases c5 : n < 40
    · rw [if_pos c5]; exact own_r2 na5 evI hcl haT (by omega) (by rw [Int32.lt_iff_toInt_lt]; show ¬ (Int32.ofNat n).toInt < (35 : Int); omega) (by rw [Int32.le_iff_toInt_le]; show ¬ (40 : Int) ≤ (Int32.ofNat n).toInt; omega)
    rw [if_neg c5]
    by_cases c6 : n = 40
    · rw [if_pos c6, c6]; exact own_el na6 evT rfl hcl
    rw [if_neg c6]
    by_cases c7 : n = 41
    · rw [if_pos c7, c7]; exact own_el na7 evT rfl hcl
    rw [if_neg c7]
    by_cases c8 : n = 42
    · rw [if_pos c8, c8]; exact own_el na8 evT rfl hcl
    rw [if_neg c8]
    by_cases c9 : n = 43
    · rw [if_pos c9, c9]; exact own_el na9 evT rfl hcl
    rw [if_neg c9]
    by_cases c10 : n = 44
    · rw [if_pos c10, c10]; exact own_el na10 evT rfl hcl
    rw [if_neg c10]
    by_cases c11 : n = 45
    · rw [if_pos c11, c11]; exact own_el na11 evT rfl hcl
    rw [if_neg c11]
    by_cases c12 : n = 46
    · rw [if_pos c12, c12]; exact own_el na12 evT rfl hcl
    rw [if_neg c12]
    by_cases c13 : n = 47
    · rw [if_pos c13, c13]; exact own_el na13 evT rfl hcl
    rw [if_neg c13]
    by_cases c14 : n < 58
    · rw [if_pos c14]; exact own_r2 na14 evI hcl haT (by omega) (by rw [Int32.lt_iff_toInt_lt]; show ¬ (Int32.ofNat n).toInt < (48 : Int); omega) (by rw [Int32.le_iff_toInt_le]; show ¬ (58 : Int) ≤ (Int32.ofNat n).toInt; omega)
    rw [if_neg c14]
    by_cases c15 : n < 65
    · rw [if_pos c15]; exact own_r2 na15 evI hcl haT (by omega) (by rw [Int32.lt_iff_toInt_lt]; show ¬ (Int32.ofNat n).toInt < (58 : Int); omega) (by rw [Int32.le_iff_toInt_le]; show ¬ (65 : Int) ≤ (Int32.ofNat n).toInt; omega)
    rw [if_neg c15]
    by_cases c16 : n < 91
    · rw [if_pos c16]; exact own_r2 na16 evI hcl haT (by omega) (by rw [Int32.lt_iff_toInt_lt]; show ¬ (Int32.ofNat n).toInt < (65 : Int); omega) (by rw [Int32.le_iff_toInt_le]; show ¬ (91 : Int) ≤ (Int32.ofNat n).toInt; omega)
    rw [if_neg c16]
    by_cases c17 : n = 91
    · rw [if_pos c17, c17]; exact own_el na17 evT rfl hcl
    rw [if_neg c17]
    by_cases c18 : n = 92
    · rw [if_pos c18, c18]; exact own_el na18 evT rfl hcl
    rw [if_neg c18]
    by_cases c19 : n = 93
    · rw [if_pos c19, c19]; exact own_el na19 evT rfl hcl
    rw [if_neg c19]
    by_cases c20 : n < 123
    · rw [if_pos c20]; exact own_r2 na20 evI hcl haT (by omega) (by rw [Int32.lt_iff_toInt_lt]; show ¬ (Int32.ofNat n).toInt < (94 : Int); omega) (by rw [Int32.le_iff_toInt_le]; show ¬ (123 : Int) ≤ (Int32.ofNat n).toInt; omega)
    rw [if_neg c20]
    by_cases c21 : n = 123
    · rw [if_pos c21, c21]; exact own_el na21 evT rfl hcl
    rw [if_neg c21]
    by_cases c22 : n = 124
    · rw [if_pos c22, c22]; exact own_el na22 evT rfl hcl
    rw [if_neg c22]
    by_cases c23 : n = 125
    · rw [if_pos c23, c23]; exact own_el na23 evT rfl hcl
    rw [if_neg c23]
    by_cases c24 : n = 126
    · rw [if_pos c24, c24]; exact own_el na24 evT rfl hcl
    rw [if_neg c24]
    by_cases c25 : n = 127
    · rw [if_pos c25, c25]; exact own_el na25 evT rfl hcl
    rw [if_neg c25]
    omega
  have TB : Tab s s.heap aT cl .boolean 128 := Tab.start hfit A (Or.inr (Or.inl rfl)) lq lz (by decide)
  have ST := Sta.start evT (Or.inr ⟨(hw _ (List.mem_of_getElem? (i := 2) rfl)), (hw _ (List.mem_of_getElem? (i := 5) rfl))⟩)
  obtain ⟨n, o, h1, h2, h3, _, L, rfl, ⟨rfl, N⟩, hq⟩ := rm0 l s _ hw tables_1 i0 i1 aT cl s.heap s.heap.size (Nat.le_refl _) ST TB htv p e ha hc hk s m _ below hf ((Spec.applies_iff_loose hf).mp happ).1 ⟨rfl, State.Warmed39.refl s, rfl⟩ trivial
  refine ⟨n, _, h1, h2, h3, hpost _ _ _ _ _ _ ⟨Cond.after_iff.mpr rfl, Cond.after_iff.mpr (eq_i res_at (Term.int_eval (1)) rfl), trivial⟩ ⟨hq.1, hq.2.1, (hq.2.2.sift fun y hy => Or.inr (N y hy)).mono (by decide) (by decide)⟩⟩
theorem main_1_1 : Claimed_1_1 := comes_1 fun _ _ _ _ _ _ h hF => ⟨h.1, hF⟩
theorem main_1_2 : Claimed_1_2 := comes_1 fun _ _ _ _ _ _ h hF => ⟨h.2.1, hF⟩
end Jvm.Pilot.@@N@@
namespace Jvm.Pilot.@@N@@
open Jvm Jvm.ClassFile Sem Op Lib Jvm.Free Jvm.Stand Jvm.Pilot.@@N@@.Jvm.D
/-! MADE BY PROGRAM (witnessworld.py) out of the Statement's table words and the real class files: 11 classes; the members and pool entries that the words name. The judged class is class 1, her method 2. -/
namespace start1
open Jvm.ClassFile
def u (s : String) : CpInfo := .utf8 (stringToUtf16 s)
/-- a pool by its gaps: so many unusable entries, then the entry; so many at the end -/
def gap : Nat → List CpInfo → List CpInfo
  | 0, r => r
  | n + 1, r => .unusable :: gap n r
def poolList (es : List (Nat × CpInfo)) (last : Nat) : List CpInfo := es.foldr (fun e r => gap e.1 (e.2 :: r)) (gap last [])
def pool (es : List (Nat × CpInfo)) (last : Nat) : Array CpInfo := ⟨poolList es last⟩
def fileOf (pool : Array CpInfo) (this : Nat) (attrs : Array Attribute := #[]) (ms : Array MethodInfo := #[]) (fl : Nat := 33) (sup : Nat := 0) (ifs : Array Nat := #[]) (fds : Array FieldInfo := #[]) : ClassFile where
  minorVersion := 0
  majorVersion := 65
  constantPool := pool
  accessFlags := fl
  thisClass := this
  superClass := sup
  interfaces := ifs
  fields := fds
  methods := ms
  attributes := attrs
def plain (name : String) (sup : Option ClassId) : Class where
  name := name
  kind := .ordinary
  loader := none
  accessFlags := 33
  super := sup
  interfaces := #[]
  cf := none
  fields := #[]
  methods := #[]
  instanceTypes := #[]
  staticTypes := #[]
  resolved := #[]
  callSites := []
  init := .initialized
  statics := none
  mirror := none

def pool0 : Array CpInfo := pool [(5, u "<init>"), (0, u "()V"), (1, .class_ 10), (1, u "java/lang/Object")] 113

def k0m0 : Method := { name := "<init>", desc := "()V", sig := { parameters := [], returnType := none }, accessFlags := 1, code := none }
/-- java/lang/Object -/
def k0 : Class := { plain "java/lang/Object" none with
  accessFlags := 33
  interfaces := #[]
  cf := some (fileOf pool0 8 #[] #[{ accessFlags := 1, nameIndex := 5, descriptorIndex := 6, attributes := #[] }] 33 0 #[] #[])
  fields := #[]
  methods := #[k0m0]
  instanceTypes := #[]
  staticTypes := #[]
  resolved := Array.replicate 124 none
  statics := none }

def pool1 : Array CpInfo := pool [(2, .class_ 4), (1, u "java/lang/Object"), (0, u "<init>"), (0, u "()V"), (0, .methodref 8 9), (0, .class_ 10), (0, .nameAndType 11 12), (0, u "com/example/lean_router/leanrouter/http/HttpSyntax"), (0, u "isTokenChar"), (0, u "(I)Z"), (0, .methodref 14 15), (0, .class_ 16), (0, .nameAndType 17 12), (0, u "com/example/lean_router/leanrouter/http/HttpSyntaxIsTokenCharPinLaw"), (0, u "tchar"), (3, u "law"), (0, u "(II)Z")] 2

def k1m0 : Method := { name := "<init>", desc := "()V", sig := { parameters := [], returnType := none }, accessFlags := 2, code := none }
def k1c1 : Code := { maxStack := 2, maxLocals := 5, code := method_2_code, exceptionTable := #[], attributes := #[] }
def k1m1 : Method := { name := "tchar", desc := "(I)Z", sig := { parameters := [.int], returnType := some .boolean }, accessFlags := 10, code := some k1c1 }
def k1c2 : Code := { maxStack := 2, maxLocals := 3, code := code, exceptionTable := #[], attributes := #[] }
def k1m2 : Method := { name := "law", desc := "(II)Z", sig := { parameters := [.int, .int], returnType := some .boolean }, accessFlags := 9, code := some k1c2 }
/-- com/example/lean_router/leanrouter/http/HttpSyntaxIsTokenCharPinLaw -/
def k1 : Class := { plain "com/example/lean_router/leanrouter/http/HttpSyntaxIsTokenCharPinLaw" (some 0) with
  accessFlags := 49
  interfaces := #[]
  cf := some (fileOf pool1 14 #[] #[{ accessFlags := 2, nameIndex := 5, descriptorIndex := 6, attributes := #[] }, { accessFlags := 10, nameIndex := 17, descriptorIndex := 12, attributes := #[] }, { accessFlags := 9, nameIndex := 21, descriptorIndex := 22, attributes := #[] }] 49 2 #[] #[])
  fields := #[]
  methods := #[k1m0, k1m1, k1m2]
  instanceTypes := #[]
  staticTypes := #[]
  resolved := Array.replicate 25 none
  statics := none }

def pool2 : Array CpInfo := pool [(4, .class_ 6), (1, u "java/lang/Object"), (0, u "<init>"), (0, u "()V"), (20, .fieldref 30 31), (0, .class_ 32), (0, .nameAndType 33 34), (0, u "com/example/lean_router/leanrouter/http/HttpSyntax"), (0, u "TOKEN_CHARS"), (0, u "[Z"), (2, u "HOP_BY_HOP_LIST"), (0, u "Ljava/util/List;"), (52, u "(I)Z"), (40, u "isTokenChar"), (37, u "HOP_BY_HOP_FIELDS"), (0, u "Ljava/util/Set;"), (11, u "MAX_CHUNK_SIZE"), (0, u "J"), (1, u "TOKEN_SYMBOLS"), (0, u "Ljava/lang/String;")] 39

def k2m0 : Method := { name := "<init>", desc := "()V", sig := { parameters := [], returnType := none }, accessFlags := 2, code := none }
def k2c1 : Code := { maxStack := 2, maxLocals := 1, code := prog_25_method_3_code, exceptionTable := #[], attributes := #[] }
def k2m1 : Method := { name := "isTokenChar", desc := "(I)Z", sig := { parameters := [.int], returnType := some .boolean }, accessFlags := 9, code := some k2c1 }
/-- com/example/lean_router/leanrouter/http/HttpSyntax -/
def k2 : Class := { plain "com/example/lean_router/leanrouter/http/HttpSyntax" (some 0) with
  accessFlags := 33
  interfaces := #[]
  cf := some (fileOf pool2 30 #[] #[{ accessFlags := 2, nameIndex := 7, descriptorIndex := 8, attributes := #[] }, { accessFlags := 9, nameIndex := 132, descriptorIndex := 91, attributes := #[] }] 33 4 #[] #[{ accessFlags := 25, nameIndex := 170, descriptorIndex := 171, attributes := #[] }, { accessFlags := 24, nameIndex := 37, descriptorIndex := 38, attributes := #[] }, { accessFlags := 25, nameIndex := 183, descriptorIndex := 184, attributes := #[] }, { accessFlags := 26, nameIndex := 186, descriptorIndex := 187, attributes := #[] }, { accessFlags := 26, nameIndex := 33, descriptorIndex := 34, attributes := #[] }])
  fields := #[{ name := "HOP_BY_HOP_FIELDS", type := (.object "java/util/Set"), accessFlags := 25, slot := 0, constantValue := 0 }, { name := "HOP_BY_HOP_LIST", type := (.object "java/util/List"), accessFlags := 24, slot := 1, constantValue := 0 }, { name := "MAX_CHUNK_SIZE", type := .long, accessFlags := 25, slot := 2, constantValue := 0 }, { name := "TOKEN_SYMBOLS", type := (.object "java/lang/String"), accessFlags := 26, slot := 3, constantValue := 0 }, { name := "TOKEN_CHARS", type := (.array .boolean), accessFlags := 26, slot := 4, constantValue := 0 }]
  methods := #[k2m0, k2m1]
  instanceTypes := #[]
  staticTypes := #[(.object "java/util/Set"), (.object "java/util/List"), .long, (.object "java/lang/String"), (.array .boolean)]
  resolved := Array.replicate 227 none
  statics := some 0 }

def pool3 : Array CpInfo := pool [(1, u "java/lang/Cloneable"), (0, .class_ 1), (0, u "java/lang/Object"), (0, .class_ 3)] 3

/-- java/lang/Cloneable -/
def k3 : Class := { plain "java/lang/Cloneable" (some 0) with
  accessFlags := 1537
  interfaces := #[]
  cf := some (fileOf pool3 2 #[] #[] 1537 4 #[] #[])
  fields := #[]
  methods := #[]
  instanceTypes := #[]
  staticTypes := #[]
  resolved := Array.replicate 8 none
  statics := none }

def pool4 : Array CpInfo := pool [(1, u "java/io/Serializable"), (0, .class_ 1), (0, u "java/lang/Object"), (0, .class_ 3)] 3

/-- java/io/Serializable -/
def k4 : Class := { plain "java/io/Serializable" (some 0) with
  accessFlags := 1537
  interfaces := #[]
  cf := some (fileOf pool4 2 #[] #[] 1537 4 #[] #[])
  fields := #[]
  methods := #[]
  instanceTypes := #[]
  staticTypes := #[]
  resolved := Array.replicate 8 none
  statics := none }

/-- the primitive boolean -/
def k5 : Class := { plain "boolean" none with kind := .primitive 'Z', accessFlags := 0x411 }
/-- [Z -/
def k6 : Class := { plain "[Z" (some 0) with kind := .array 5 .boolean, interfaces := #[3, 4], accessFlags := 1041 }

/-- the primitive byte -/
def k7 : Class := { plain "byte" none with kind := .primitive 'B', accessFlags := 0x411 }
/-- [B -/
def k8 : Class := { plain "[B" (some 0) with kind := .array 7 .byte, interfaces := #[3, 4], accessFlags := 1041 }

/-- the primitive int -/
def k9 : Class := { plain "int" none with kind := .primitive 'I', accessFlags := 0x411 }
/-- [I -/
def k10 : Class := { plain "[I" (some 0) with kind := .array 9 .int, interfaces := #[3, 4], accessFlags := 1041 }

def heap : Heap := #[{ cls := 2, slots := #[.null, .null, .long 0, .null, .ref 1], vm := .statics 2 },
  { cls := 6, slots := #[.int 0, .int 0, .int 0, .int 0, .int 0, .int 0, .int 0, .int 0, .int 0, .int 0, .int 0, .int 0, .int 0, .int 0, .int 0, .int 0, .int 0, .int 0, .int 0, .int 0, .int 0, .int 0, .int 0, .int 0, .int 0, .int 0, .int 0, .int 0, .int 0, .int 0, .int 0, .int 0, .int 0, .int 1, .int 0, .int 1, .int 1, .int 1, .int 1, .int 1, .int 0, .int 0, .int 1, .int 1, .int 0, .int 1, .int 1, .int 0, .int 1, .int 1, .int 1, .int 1, .int 1, .int 1, .int 1, .int 1, .int 1, .int 1, .int 0, .int 0, .int 0, .int 0, .int 0, .int 0, .int 0, .int 1, .int 1, .int 1, .int 1, .int 1, .int 1, .int 1, .int 1, .int 1, .int 1, .int 1, .int 1, .int 1, .int 1, .int 1, .int 1, .int 1, .int 1, .int 1, .int 1, .int 1, .int 1, .int 1, .int 1, .int 1, .int 1, .int 0, .int 0, .int 0, .int 1, .int 1, .int 1, .int 1, .int 1, .int 1, .int 1, .int 1, .int 1, .int 1, .int 1, .int 1, .int 1, .int 1, .int 1, .int 1, .int 1, .int 1, .int 1, .int 1, .int 1, .int 1, .int 1, .int 1, .int 1, .int 1, .int 1, .int 1, .int 1, .int 0, .int 1, .int 0, .int 1, .int 0], vm := .none }]
def classes : Array Class := #[k0, k1, k2, k3, k4, k5, k6, k7, k8, k9, k10]
def interned : List (Array UInt16 × Addr) := []
def slotsUsed : Nat := 133
def theMethod : MethodId := ⟨1, 2⟩
def args0 : Array Value := #[.int 5, .int 5]
def aboutOver (below : List Frame) : State where
  vm := { classes := classes, interned := interned.toArray }
  heap := heap
  slotsUsed := slotsUsed
  threads := #[{ frames := .invoking theMethod args0 :: below }]
def below0 : List Frame := [.native { method := ⟨0, 0⟩, args := #[] }]
def about1 : State := aboutOver below0
def p0 : Program := .bare "" "" ""
def e0 : Env := launch0.env 0 0 0
theorem w_frames : about1.frames = Frame.invoking theMethod args0 :: below0 := rfl
set_option maxRecDepth 65536 in
theorem w_args : argsFit about1.vm theMethod args0 = true := by decide +kernel
set_option maxRecDepth 65536 in
theorem w_heap : heapFits about1 = true := by decide +kernel
set_option maxRecDepth 65536 in
theorem w_runnable : about1.curStatus? = some .runnable := by decide +kernel
set_option maxRecDepth 65536 in
theorem w_alone : about1.alone = true := by decide +kernel
set_option maxRecDepth 65536 in
theorem w_named : about1.methodNamed? x = some theMethod := by decide +kernel
set_option maxRecDepth 65536 in
theorem w_hears : about1.hears theMethod below0 = true := by decide +kernel
set_option maxRecDepth 65536 in
theorem w_ripe : about1.ripe theMethod args0 below0 = true := by decide +kernel
theorem w_running : about1.status = .running := rfl
set_option maxRecDepth 65536 in
theorem w_room : about1.hasRoom e0.platform room_1 = true :=
  launch0.hasRoom_least _ room_1 (by decide +kernel) (by decide +kernel) (by decide +kernel) (by decide +kernel) (by decide +kernel) (by decide +kernel)
theorem allAtoms_all (ts : List Jvm.Cond) (a : Array Jvm.Value) (st : Jvm.State) : (allAtoms ts).before a st = ts.all (fun c => c.before a st) := by
  induction ts with
  | nil => rfl
  | cons c t ih =>
    show (Jvm.Cond.and c (allAtoms t)).before a st = _
    rw [Jvm.Cond.before_and, ih, List.all_cons]
def words1 : List Jvm.Cond := Jvm.Cond.code x code maxLocals ret :: tables_1
/-- a 'code' word, met by the world's own term for the bytes: nothing is compared byte by byte -/
theorem code_word {y : MethodName} {bytes : ByteArray} {mx : Nat} {rt : Option FieldType} {a : Array Value} {s : State} {m : MethodId} {meth : Method} {c : Code} (h1 : s.methodNamed? y = some m) (h2 : s.vm.method? m = some meth) (h3 : meth.code = some c) (h4 : c.code = bytes)
    (h5 : (c.maxLocals == mx && c.exceptionTable.isEmpty && decide (c.maxStack ≤ mostOperands) && decide (meth.sig.returnType = rt) && !meth.locks && decide (parseMethodDescriptor y.desc = some meth.sig)) = true) : (Jvm.Cond.code y bytes mx rt).before a s = true := by
  simp only [Bool.and_eq_true, beq_iff_eq, Bool.not_eq_true', decide_eq_true_eq] at h5
  obtain ⟨⟨⟨⟨⟨g1, g2⟩, g3⟩, g4⟩, g5⟩, g6⟩ := h5
  simp [Cond.before, Cond.holds, Cond.value, h1, h2, h3, h4, g1, g2, g3, g4, g5, g6]
def isCode : Jvm.Cond → Bool
  | .code _ _ _ _ => true
  | _ => false
theorem all_split {L : List Jvm.Cond} {P : Jvm.Cond → Bool} (h1 : L.all (fun c => isCode c || P c) = true) (h2 : ∀ c ∈ L.filter isCode, P c = true) : L.all P = true := by
  refine List.all_eq_true.mpr fun c hc => ?_
  have h := List.all_eq_true.mp h1 c hc
  rcases Bool.eq_false_or_eq_true (isCode c) with hi | hi
  · exact h2 c (List.mem_filter.mpr ⟨hc, hi⟩)
  · simpa [hi] using h
set_option maxRecDepth 65536 in
theorem w_c0 : (Jvm.Cond.code x code maxLocals ret).before args0 about1 = true := code_word (m := ⟨1, 2⟩) (meth := k1m2) (c := k1c2) (by decide +kernel) rfl rfl rfl (by decide +kernel)
set_option maxRecDepth 65536 in
theorem w_c1 : (Jvm.Cond.code ({ cls := "com/example/lean_router/leanrouter/http/HttpSyntax", name := "isTokenChar", desc := "(I)Z" } : Jvm.MethodName) prog_25_method_3_code (1 : Nat) (Option.some Jvm.ClassFile.FieldType.boolean)).before args0 about1 = true := code_word (m := ⟨2, 1⟩) (meth := k2m1) (c := k2c1) (by decide +kernel) rfl rfl rfl (by decide +kernel)
set_option maxRecDepth 65536 in
theorem w_c2 : (Jvm.Cond.code ({ cls := "com/example/lean_router/leanrouter/http/HttpSyntaxIsTokenCharPinLaw", name := "tchar", desc := "(I)Z" } : Jvm.MethodName) method_2_code (5 : Nat) (Option.some Jvm.ClassFile.FieldType.boolean)).before args0 about1 = true := code_word (m := ⟨1, 1⟩) (meth := k1m1) (c := k1c1) (by decide +kernel) rfl rfl rfl (by decide +kernel)
def codes1 : List Jvm.Cond := [Jvm.Cond.code x code maxLocals ret, Jvm.Cond.code ({ cls := "com/example/lean_router/leanrouter/http/HttpSyntax", name := "isTokenChar", desc := "(I)Z" } : Jvm.MethodName) prog_25_method_3_code (1 : Nat) (Option.some Jvm.ClassFile.FieldType.boolean), Jvm.Cond.code ({ cls := "com/example/lean_router/leanrouter/http/HttpSyntaxIsTokenCharPinLaw", name := "tchar", desc := "(I)Z" } : Jvm.MethodName) method_2_code (5 : Nat) (Option.some Jvm.ClassFile.FieldType.boolean)]
set_option maxRecDepth 65536 in
theorem codes_eq : words1.filter isCode = codes1 := rfl
theorem w_codes : ∀ c ∈ words1.filter isCode, c.before args0 about1 = true := by
  rw [codes_eq]
  intro c hc
  simp only [codes1, List.mem_cons, List.not_mem_nil, or_false] at hc
  rcases hc with rfl | rfl | rfl
  · exact w_c0
  · exact w_c1
  · exact w_c2
set_option maxRecDepth 65536 in
theorem w_t1 : words1.all (fun c => isCode c || c.before args0 about1) = true := by decide +kernel
theorem w_tables : (allAtoms (Jvm.Cond.code x code maxLocals ret :: tables_1)).before args0 about1 = true := by
  rw [allAtoms_all]
  show words1.all (fun c => c.before args0 about1) = true
  refine all_split ?_ w_codes
  rw [w_t1]
set_option maxRecDepth 65536 in
theorem w_case : (Jvm.Cond.and given_1 narrow_1).before args0 about1 = true := by decide +kernel
theorem w_applies : (headSpec (Jvm.Cond.code x code maxLocals ret :: tables_1) room_1).applies x e0.platform about1 = true :=
  (Spec.applies_iff w_frames).mpr ⟨w_running, w_runnable, w_alone, w_named, w_hears, w_ripe, w_room, w_tables⟩
theorem atStart : AtStart classFile x code maxLocals ret World_1 tables_1 room_1 Calls_1 rest_1 Pre_1 launch0 p0 e0 about1 theMethod args0 below0 :=
  ⟨lists_1, trivial, launch0.admits_env _ _ _, launch0.least_env, fairChoices_fair.cas, fairChoices_fair.clock, w_frames, w_args, w_heap, w_applies, trivial, trivial, w_case⟩
end start1
theorem witness_1 : WitnessClaimed_1 := ⟨start1.p0, start1.e0, start1.about1, start1.theMethod, start1.args0, start1.below0, start1.atStart⟩
end Jvm.Pilot.@@N@@
